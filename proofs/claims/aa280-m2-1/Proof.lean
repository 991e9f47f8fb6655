import JvmDerived
import JvmDerived.Pilot.@@N@@Statement
import JvmDerived.Pilot.@@N@@Code
set_option linter.unusedVariables false
set_option linter.unusedSimpArgs false
namespace Jvm.RoadKit
open Sem ClassFile Op Lib Jvm.Stand Jvm.Free Jvm.LawKit
section New
variable {p : Program} {l : Launch} {e : Env} {R : Room} {s : State} {m : MethodId} {args : Array Value} {below : List Frame} {meth : Method} {c : Code} {T : State} {locs : List Loc} {cells slots : Nat}
theorem retI (X : Stand p l e R s m args below meth c T locs cells slots) (hx : p.tables.exec = Jvm.exec) {pc : Nat} {Ls : Array Slot} {z : Int32} {rest : List Value} (hret : meth.sig.returnType = some .int) (hd : decode c.code pc = .ok (.ireturn, 1)) {fs : List Frame}
    (hl : ∀ (f : JFrame) (acts : List Action), f.method = m → f.locked = none → f.entered = [] → (doReturn e (T.setTop f) acts (some (.int z))).1 = T.setFrames fs) : Steps p.tables e below (T.setTop (mkF m pc Ls (.int z :: rest))) (T.setFrames fs) := by
  have hm' : T.vm.method? m = some meth := X.method'
  have hn : narrow .int (.int z) = .int z := rfl
  show Steps p.tables e below (T.setTop { method := m, pc := pc, locals := Ls, stack := _ :: rest, locked := none }) _
  jvm_step X.here [X.here.top, hx, hd, hm', hret, hn]
  first | (intro acts; rw [hl _ acts rfl rfl rfl]) | rw [hl _ _ rfl rfl rfl]
  exact Steps.refl _
theorem retD (X : Stand p l e R s m args below meth c T locs cells slots) (hx : p.tables.exec = Jvm.exec) {pc : Nat} {Ls : Array Slot} {z : UInt64} {rest : List Value} (hret : meth.sig.returnType = some .double) (hd : decode c.code pc = .ok (.dreturn, 1)) {fs : List Frame}
    (hl : ∀ (f : JFrame) (acts : List Action), f.method = m → f.locked = none → f.entered = [] → (doReturn e (T.setTop f) acts (some (.double z))).1 = T.setFrames fs) : Steps p.tables e below (T.setTop (mkF m pc Ls (.double z :: rest))) (T.setFrames fs) := by
  have hm' : T.vm.method? m = some meth := X.method'
  have hn : narrow .double (.double z) = .double z := rfl
  show Steps p.tables e below (T.setTop { method := m, pc := pc, locals := Ls, stack := _ :: rest, locked := none }) _
  jvm_step X.here [X.here.top, hx, hd, hm', hret, hn]
  first | (intro acts; rw [hl _ acts rfl rfl rfl]) | rw [hl _ _ rfl rfl rfl]
  exact Steps.refl _
end New
end Jvm.RoadKit
namespace Jvm.Pilot.@@N@@
open Jvm Jvm.ClassFile Sem Op Lib Jvm.Free Jvm.Stand Jvm.LawKit Jvm.RoadKit Bundle Jvm.Pilot.@@N@@.Jvm.D
def own_q (a b : Int32) : UInt64 := FP.ddiv (FP.i2d a) (FP.i2d b)
section OwnQ
open Jvm.FP.Core
theorem own_pow_cancel {x y k : Nat} (h : x * 2 ^ k = y * 2 ^ k) : x = y := Nat.eq_of_mul_eq_mul_right (Nat.two_pow_pos k) h
theorem own_ratio {A B c d : Nat} {q r : Int} (hx : c * 2 ^ q.toNat = A * 2 ^ (-q).toNat) (hy : d * 2 ^ r.toNat = B * 2 ^ (-r).toNat) :
    c * B * 2 ^ (q - r - 0).toNat = A * d * 2 ^ (0 - (q - r)).toNat := by
  apply own_pow_cancel (k := q.toNat + (-r).toNat)
  have e : (-q).toNat + r.toNat + (q - r - 0).toNat = (0 - (q - r)).toNat + (q.toNat + (-r).toNat) := by omega
  calc c * B * 2 ^ (q - r - 0).toNat * 2 ^ (q.toNat + (-r).toNat)
      = (c * 2 ^ q.toNat) * (B * 2 ^ (-r).toNat) * 2 ^ (q - r - 0).toNat := by
        rw [Nat.pow_add]; ac_rfl
    _ = (A * 2 ^ (-q).toNat) * (d * 2 ^ r.toNat) * 2 ^ (q - r - 0).toNat := by rw [hx, hy]
    _ = A * d * 2 ^ ((-q).toNat + r.toNat + (q - r - 0).toNat) := by
        rw [Nat.pow_add, Nat.pow_add]; ac_rfl
    _ = A * d * 2 ^ (0 - (q - r)).toNat * 2 ^ (q.toNat + (-r).toNat) := by rw [e, Nat.pow_add]; ac_rfl
theorem own_i2d_shape {a : Int32} (ha : 0 ≤ a.toInt) : ∃ c q, val64 (i2d a) = .fin false c q ∧ c * 2 ^ q.toNat = a.toInt.natAbs * 2 ^ (-q).toNat := by
  have e : i2d a = l2d a.toInt64 := i2d_l2d a
  have hi := c_i2l a
  have hr := rng32 a
  obtain ⟨c, q, h⟩ := l2d_shape a.toInt64
  have hw := l2d_whole (a := a.toInt64) (show Small53 a.toInt64 from (by
    have : B53 a.toInt64 := by unfold B53; omega
    exact Jvm.RoadKit.sm this))
  rw [h] at hw
  have hn := whole_natAbs hw
  rw [hi] at hn h
  refine ⟨c, q, ?_, hn⟩
  rw [e, h, decide_eq_false (by omega)]
theorem own_valq {a b : Int32} (ha : 0 ≤ a.toInt) (hb : 0 < b.toInt) : val64 (own_q a b) = roundRatio b64 false a.toInt.natAbs b.toInt.natAbs 0 := by
  obtain ⟨c, q, h1, h2⟩ := own_i2d_shape ha
  obtain ⟨d, r, h3, h4⟩ := own_i2d_shape (Int.le_of_lt hb)
  have hB : 0 < b.toInt.natAbs := by omega
  have hd : d ≠ 0 := by
    intro z
    rw [z, Nat.zero_mul] at h4
    have := Nat.mul_pos hB (Nat.two_pow_pos (-r).toNat)
    omega
  have e : val64 (own_q a b) = quotient b64 (val64 (i2d a)) (val64 (i2d b)) := val64_ddiv _ _
  rw [e, h1, h3]
  show (if d = 0 then _ else roundRatio b64 (false != false) c d (q - r)) = _
  rw [if_neg hd]
  exact roundRatio_congr (Nat.pos_of_ne_zero hd) hB (own_ratio h2 h4)
theorem own_zq {a b : Int32} (ha : 0 ≤ a.toInt) (hb : 0 < b.toInt) : zval b64 (val64 (own_q a b)) = ((zmag b64 (roundRatio b64 false a.toInt.natAbs b.toInt.natAbs 0) : Nat) : Int) := by
  rw [own_valq ha hb, zval, sgn_roundRatio]; rfl
theorem own_vn {n : Nat} (hn : n < 9007199254740992) : FP.Core.fits b64 (round b64 (.fin false n (-42))) ∧ round b64 (.fin false n (-42)) ≠ .nan ∧ zmag b64 (round b64 (.fin false n (-42))) = n * 2 ^ 1032 := by
  obtain ⟨c', q', h1, h2⟩ := round_exact good_b64 false (c := n) (q := -42) hn (by decide) (by decide)
  refine ⟨round_fits good_b64 _, ?_, ?_⟩
  · rw [h1]; exact Datum.noConfusion
  · rw [h1]
    show inUnits c' q' b64.qmin = _
    rw [h2]; rfl
theorem own_units (A : Nat) : inUnits A 0 b64.qmin = A * 2 ^ 1074 := rfl
theorem own_le {A B n : Nat} (hB : 0 < B) (hn : n < 9007199254740992) (h : A * 4398046511104 ≤ n * B) : zmag b64 (roundRatio b64 false A B 0) ≤ n * 2 ^ 1032 := by
  obtain ⟨h1, h2, h3⟩ := own_vn hn
  have := zmag_roundRatio_le good_b64 (s := false) (A := A) (B := B) (e := 0) (e0 := b64.qmin) hB h1 h2 (Int.le_refl _) (by decide) (by
    rw [h3, own_units, show (b64.qmin - b64.qmin).toNat = 0 by omega, Nat.pow_zero, Nat.mul_one, show (2 : Nat) ^ 1074 = 4398046511104 * 2 ^ 1032 from by rw [show (4398046511104 : Nat) = 2 ^ 42 from by decide, ← Nat.pow_add], ← Nat.mul_assoc, Nat.mul_right_comm n]
    exact Nat.mul_le_mul_right _ h)
  rwa [h3] at this
theorem own_ge {A B n : Nat} (hB : 0 < B) (hn : n < 9007199254740992) (h : n * B ≤ A * 4398046511104) : n * 2 ^ 1032 ≤ zmag b64 (roundRatio b64 false A B 0) := by
  obtain ⟨h1, h2, h3⟩ := own_vn hn
  have := zmag_roundRatio_ge good_b64 (s := false) (A := A) (B := B) (e := 0) (e0 := b64.qmin) hB h1 (Int.le_refl _) (by decide) (by
    rw [h3, own_units, show (b64.qmin - b64.qmin).toNat = 0 by omega, Nat.pow_zero, Nat.mul_one, show (2 : Nat) ^ 1074 = 4398046511104 * 2 ^ 1032 from by rw [show (4398046511104 : Nat) = 2 ^ 42 from by decide, ← Nat.pow_add], ← Nat.mul_assoc, Nat.mul_right_comm n]
    exact Nat.mul_le_mul_right _ h)
  rwa [h3] at this
theorem own_ceil (x : Nat) {b : Nat} (hb : 0 < b) : ∃ n, x ≤ n * b ∧ n * b < x + b := by
  refine ⟨(x + (b - 1)) / b, ?_, ?_⟩
  · have h1 := Nat.div_add_mod (x + (b - 1)) b
    have h2 := Nat.mod_lt (x + (b - 1)) hb
    rw [Nat.mul_comm] at h1
    omega
  · have h1 := Nat.div_mul_le_self (x + (b - 1)) b
    omega
theorem own_key1 {F S K D n M : Nat} (h2 : n * S < F * M + S) (hDS : D * S + D * S ≤ M) (h : F * D < K * S) : (n + 1) * D * S ≤ K * M * S := by
  have a1 : (n + 1) * D * S = n * S * D + D * S := by rw [Nat.add_mul, Nat.one_mul, Nat.add_mul, Nat.mul_right_comm]
  have a2 : n * S * D ≤ (F * M + S) * D := Nat.mul_le_mul_right _ (Nat.le_of_lt h2)
  have a3 : (F * M + S) * D = F * D * M + D * S := by rw [Nat.add_mul, Nat.mul_right_comm, Nat.mul_comm S D]
  have a4 : (F * D + 1) * M ≤ K * S * M := Nat.mul_le_mul_right _ h
  have a5 : K * M * S = K * S * M := Nat.mul_right_comm _ _ _
  have a6 : (F * D + 1) * M = F * D * M + M := by rw [Nat.add_mul, Nat.one_mul]
  rw [a1, a5]
  rw [a3] at a2
  rw [a6] at a4
  omega
theorem own_key2 {F S K D n M : Nat} (h2 : n * D < K * M + D) (hDS : D * S ≤ M) (h : K * S < F * D) : n * S * D ≤ F * M * D := by
  have a1 : n * S * D = n * D * S := Nat.mul_right_comm _ _ _
  have a2 : n * D * S ≤ (K * M + D) * S := Nat.mul_le_mul_right _ (Nat.le_of_lt h2)
  have a3 : (K * M + D) * S = K * S * M + D * S := by rw [Nat.add_mul, Nat.mul_right_comm]
  have a4 : (K * S + 1) * M ≤ F * D * M := Nat.mul_le_mul_right _ h
  have a5 : F * M * D = F * D * M := Nat.mul_right_comm _ _ _
  have a6 : (K * S + 1) * M = K * S * M + M := by rw [Nat.add_mul, Nat.one_mul]
  rw [a1, a5]
  rw [a3] at a2
  rw [a6] at a4
  omega
theorem own_can1 {K D n M : Nat} (hD : 0 < D) (hK : K ≤ D) (h : n * D ≤ K * M) : n ≤ M :=
  Nat.le_of_mul_le_mul_right (Nat.le_trans h (by rw [Nat.mul_comm M D]; exact Nat.mul_le_mul_right _ hK)) hD
theorem own_can2 {K D n M : Nat} (hD : 0 < D) (hK : K ≤ D) (h : n * D < K * M + D) : n ≤ M := by
  apply Nat.le_of_lt_succ
  apply Nat.lt_of_mul_lt_mul_right (a := D)
  have : K * M ≤ D * M := Nat.mul_le_mul_right _ hK
  rw [Nat.succ_mul, Nat.mul_comm M D]
  omega
theorem own_gap {P n A B : Nat} (hp : 0 < P) (b1 : A ≤ n * P) (b2 : (n + 1) * P ≤ B) : A < B := by
  rw [Nat.add_mul, Nat.one_mul] at b2
  omega
theorem own_sep {F S K D : Nat} (hS : 0 < S) (hS' : S < 2147483648) (hD : 0 < D) (hD' : D ≤ 256) (hK : K ≤ D) (h : F * D < K * S) :
    zmag b64 (roundRatio b64 false F S 0) < zmag b64 (roundRatio b64 false K D 0) := by
  obtain ⟨n, h1, h2⟩ := own_ceil (F * 4398046511104) hS
  have hDS : D * S ≤ 256 * 2147483648 := Nat.mul_le_mul hD' (Nat.le_of_lt hS')
  have key : (n + 1) * D ≤ K * 4398046511104 := Nat.le_of_mul_le_mul_right (own_key1 h2 (by omega) h) hS
  have hn := own_can1 hD hK key
  exact own_gap (Nat.two_pow_pos 1032) (own_le hS (n := n) (by omega) h1) (own_ge hD (n := n + 1) (by omega) key)
theorem own_mono {F S K D : Nat} (hS : 0 < S) (hS' : S < 2147483648) (hD : 0 < D) (hD' : D ≤ 256) (hK : K ≤ D) (h : K * S ≤ F * D) :
    zmag b64 (roundRatio b64 false K D 0) ≤ zmag b64 (roundRatio b64 false F S 0) := by
  rcases Nat.eq_or_lt_of_le h with he | hl
  · rw [roundRatio_congr (s := false) (f := b64) (A := K) (B := D) (A' := F) (B' := S) (e := 0) (e' := 0) hD hS (by simpa using he)]
    exact Nat.le_refl _
  · obtain ⟨n, h1, h2⟩ := own_ceil (K * 4398046511104) hD
    have hDS : D * S ≤ 256 * 2147483648 := Nat.mul_le_mul hD' (Nat.le_of_lt hS')
    have key : n * S ≤ F * 4398046511104 := Nat.le_of_mul_le_mul_right (own_key2 h2 (by omega) hl) hD
    have hn := own_can2 hD hK h2
    exact Nat.le_trans (own_le hD (n := n) (by omega) h1) (own_ge hS (n := n) (by omega) key)
theorem own_order2 {x y : UInt64} (hx : val64 x ≠ .nan) (hy : val64 y ≠ .nan) : dcmp x y = some (compare (zval b64 (val64 x)) (zval b64 (val64 y))) :=
  order_zval good_b64 (val64_fits x) (val64_fits y) hx hy
theorem own_ne_nan {a b : Int32} (ha : 0 ≤ a.toInt) (hb : 0 < b.toInt) : val64 (own_q a b) ≠ .nan := by
  rw [own_valq ha hb]; exact roundRatio_ne_nan _ _ _ _ _
end OwnQ
theorem own_cmp_l {x y : Int} : cmpValue (some (compare x y)) .l < (0 : Int32) ↔ x < y := by
  simp only [compare, compareOfLessAndEq]
  by_cases h : x < y
  · rw [if_pos h]; exact ⟨fun _ => h, fun _ => by decide⟩
  · rw [if_neg h]
    by_cases h2 : x = y
    · rw [if_pos h2]; exact ⟨fun q => absurd q (by decide), fun q => absurd q h⟩
    · rw [if_neg h2]; exact ⟨fun q => absurd q (by decide), fun q => absurd q h⟩
theorem own_cmp_g {x y : Int} : (0 : Int32) < cmpValue (some (compare x y)) .g ↔ y < x := by
  simp only [compare, compareOfLessAndEq]
  by_cases h : x < y
  · rw [if_pos h]; exact ⟨fun q => absurd q (by decide), fun q => by omega⟩
  · rw [if_neg h]
    by_cases h2 : x = y
    · rw [if_pos h2]; exact ⟨fun q => absurd q (by decide), fun q => by omega⟩
    · rw [if_neg h2]; exact ⟨fun _ => by omega, fun _ => by decide⟩
theorem own_q_nn (a b : Int32) (ha : 0 ≤ a.toInt) (hb : 0 < b.toInt) : Jvm.Free.Fl.NoNaN64 (own_q a b) := Jvm.Free.Fl.val64_no.mpr (own_ne_nan ha hb)
theorem own_pos {f : Int32} (h : (0 : Int32) < f) : 0 ≤ f.toInt := by
  rw [Int32.lt_iff_toInt_lt] at h
  have e0 : (0 : Int32).toInt = 0 := by decide
  omega
theorem own_d0 : FP.Core.zval FP.Core.b64 (FP.Core.val64 FP.dconst0) = 0 ∧ FP.Core.val64 FP.dconst0 ≠ .nan := by
  have h : FP.Core.val64 FP.dconst0 = .fin false 0 FP.Core.b64.qmin := by decide +kernel
  rw [h]
  exact ⟨by decide, FP.Core.Datum.noConfusion⟩
theorem own_d1 : FP.Core.zval FP.Core.b64 (FP.Core.val64 FP.dconst1) = ((4398046511104 * 2 ^ 1032 : Nat) : Int) ∧ FP.Core.val64 FP.dconst1 ≠ .nan := by
  have h : FP.Core.val64 FP.dconst1 = .fin false (2 ^ 52) (-52) := by decide +kernel
  rw [h]
  refine ⟨?_, FP.Core.Datum.noConfusion⟩
  decide +kernel
theorem own_q_ge0 (k d : Int32) (hk : 0 ≤ k.toInt) (hd : 1 ≤ d.toInt) : ¬ cmpValue (FP.dcmp (own_q k d) FP.dconst0) .l < (0 : Int32) := by
  have e : FP.dcmp (own_q k d) FP.dconst0 = _ := own_order2 (own_ne_nan hk (by omega)) own_d0.2
  rw [e, own_cmp_l, own_d0.1, own_zq hk (by omega)]
  omega
theorem own_q_le1 (k d : Int32) (hk : 0 ≤ k.toInt) (hkd : k.toInt ≤ d.toInt) (hd : 1 ≤ d.toInt) : ¬ (0 : Int32) < cmpValue (FP.dcmp (own_q k d) FP.dconst1) .g := by
  have e : FP.dcmp (own_q k d) FP.dconst1 = _ := own_order2 (own_ne_nan hk (by omega)) own_d1.2
  rw [e, own_cmp_g, own_d1.1, own_zq hk (by omega)]
  have h := own_le (A := k.toInt.natAbs) (B := d.toInt.natAbs) (n := 4398046511104) (by omega) (by decide) (by rw [Nat.mul_comm]; exact Nat.mul_le_mul_left _ (by omega))
  exact Int.not_lt.mpr (Int.ofNat_le.mpr h)
theorem own_fl (f s k d : Int32) (hf : 0 ≤ f.toInt) (hs : 0 < s.toInt) (hk : 0 ≤ k.toInt) (hkd : k.toInt ≤ d.toInt) (hd : 1 ≤ d.toInt) (hd' : d.toInt ≤ 256) :
    cmpValue (FP.dcmp (own_q f s) (own_q k d)) .l < (0 : Int32) ↔ f.toInt * d.toInt < k.toInt * s.toInt := by
  have e : FP.dcmp (own_q f s) (own_q k d) = _ := own_order2 (own_ne_nan hf hs) (own_ne_nan hk (by omega))
  rw [e, own_cmp_l, own_zq hf hs, own_zq hk (by omega)]
  have hsr := rng32 s
  have e1 : f.toInt = (f.toInt.natAbs : Int) := by omega
  have e2 : s.toInt = (s.toInt.natAbs : Int) := by omega
  have e3 : k.toInt = (k.toInt.natAbs : Int) := by omega
  have e4 : d.toInt = (d.toInt.natAbs : Int) := by omega
  have c1 : f.toInt * d.toInt < k.toInt * s.toInt ↔ f.toInt.natAbs * d.toInt.natAbs < k.toInt.natAbs * s.toInt.natAbs := by
    conv => lhs; rw [e1, e2, e3, e4]
    rw [← Int.natCast_mul, ← Int.natCast_mul, Int.ofNat_lt]
  rw [c1]
  constructor
  · intro h
    apply Nat.lt_of_not_le
    intro q
    have := own_mono (F := f.toInt.natAbs) (S := s.toInt.natAbs) (K := k.toInt.natAbs) (D := d.toInt.natAbs) (by omega) (by omega) (by omega) (by omega) (by omega) q
    omega
  · intro h
    exact Int.ofNat_lt.mpr (own_sep (by omega) (by omega) (by omega) (by omega) (by omega) h)
theorem own_mul64 {a b : Int32} (h1 : 0 ≤ a.toInt) (h2 : 0 ≤ b.toInt) : (a.toInt64 * b.toInt64).toInt = a.toInt * b.toInt := by
  have ha := rng32 a
  have hb := rng32 b
  have h := c_lmul a.toInt64 b.toInt64
  rw [c_i2l, c_i2l] at h
  have hr := rng64 (a.toInt64 * b.toInt64)
  have u1 : 0 ≤ a.toInt * b.toInt := Int.mul_nonneg h1 h2
  have u2 : a.toInt * b.toInt ≤ 2147483648 * 2147483648 := Int.mul_le_mul (by omega) (by omega) h2 (by decide)
  generalize a.toInt * b.toInt = t at *
  omega

def own_maxI (x y : Int32) : Int32 := if x < y then y else x
def own_s (x : Int32) : Int32 := own_maxI (1 : Int32) (x &&& (2147483647 : Int32))
def own_d (x : Int32) : Int32 := (1 : Int32) + (x &&& (255 : Int32))
def own_k (y x : Int32) : Int32 := (y &&& (2147483647 : Int32)) - ((y &&& (2147483647 : Int32)) / (own_d x + (1 : Int32))) * (own_d x + (1 : Int32))
def own_mk (f s : Int32) (xf : UInt64) : Int32 := if (0 : Int32) < f then (if cmpValue (FP.dcmp (own_q f s) xf) .l < (0 : Int32) then (0 : Int32) else (1 : Int32)) else (0 : Int32)
theorem own_s_pos (x : Int32) : 0 < (own_s x).toInt := by
  unfold own_s own_maxI
  have e1 : (1 : Int32).toInt = 1 := by decide
  by_cases h : (1 : Int32) < (x &&& (2147483647 : Int32))
  · rw [if_pos h]; rw [Int32.lt_iff_toInt_lt] at h; omega
  · rw [if_neg h]; omega
theorem own_d_rng (x : Int32) : 1 ≤ (own_d x).toInt ∧ (own_d x).toInt ≤ 256 ∧ (own_d x + (1 : Int32)).toInt = (own_d x).toInt + 1 := by
  have h := c_mask x 255 8 (by decide) (by decide)
  have e : ((2 ^ 8 : Nat) : Int) = 256 := by decide
  rw [e] at h
  have e1 : (1 : Int32).toInt = 1 := by decide
  have a1 := c_iadd 1 (x &&& 255)
  have a2 := rng32 (1 + (x &&& 255))
  unfold own_d
  generalize ((1 : Int32) + (x &&& (255 : Int32))) = dd at *
  have a3 := c_iadd dd 1
  have a4 := rng32 (dd + 1)
  omega
theorem own_nz (x : Int32) : own_d x + (1 : Int32) ≠ 0 := by
  intro h
  have h1 := own_d_rng x
  rw [h] at h1
  have e0 : (0 : Int32).toInt = 0 := by decide
  omega
theorem own_k_rng (y x : Int32) : 0 ≤ (own_k y x).toInt ∧ (own_k y x).toInt ≤ (own_d x).toInt := by
  have hd := own_d_rng x
  have h := c_mask y 2147483647 31 (by decide) (by decide)
  have e : ((2 ^ 31 : Nat) : Int) = 2147483648 := by decide
  rw [e] at h
  unfold own_k
  generalize (y &&& (2147483647 : Int32)) = a at *
  generalize own_d x + (1 : Int32) = b at *
  have hne : b ≠ -1 := by
    intro q
    rw [q] at hd
    have e0 : (-1 : Int32).toInt = -1 := by decide
    omega
  have h1 := (c_idiv a b _ rfl hne).1 (by omega)
  have hm : a.toInt % b.toInt = a.toInt - b.toInt * (a.toInt / b.toInt) := Int.emod_def _ _
  have h3 := Int.emod_nonneg a.toInt (b := b.toInt) (by omega)
  have h4 := Int.emod_lt_of_pos a.toInt (b := b.toInt) (by omega)
  have h2 := c_imul (a / b) b
  have hcm : (a / b).toInt * b.toInt = b.toInt * (a.toInt / b.toInt) := by rw [h1, Int.mul_comm]
  rw [hcm] at h2
  have h5 := rng32 (a / b * b)
  have h6 := c_isub a (a / b * b)
  have h7 := rng32 (a - a / b * b)
  have h8 := Int.mul_nonneg (show 0 ≤ b.toInt by omega) (Int.ediv_nonneg (show 0 ≤ a.toInt by omega) (show 0 ≤ b.toInt by omega))
  generalize b.toInt * (a.toInt / b.toInt) = t at *
  omega
theorem own_leafB (f s y x : Int32) (hf : (0 : Int32) < f) (h : lcmpW (f.toInt64 * (own_d x).toInt64) ((own_k y x).toInt64 * (own_s s).toInt64) < (0 : Int32)) : own_mk f (own_s s) (own_q (own_k y x) (own_d x)) = 0 := by
  have hd := own_d_rng x
  have hk := own_k_rng y x
  have hs := own_s_pos s
  have hf' := hf
  rw [Int32.lt_iff_toInt_lt] at hf'
  have e0 : (0 : Int32).toInt = 0 := by decide
  rw [own_mk, if_pos hf, if_pos]
  rw [own_fl f (own_s s) (own_k y x) (own_d x) (by omega) hs hk.1 hk.2 (by omega) (by omega)]
  rw [lw_lt, Int64.lt_iff_toInt_lt, own_mul64, own_mul64] at h
  · exact h
  · omega
  · omega
  · have := rng32 f; omega
  · omega
theorem own_leafC (f s y x : Int32) (hf : (0 : Int32) < f) (h : ¬ lcmpW (f.toInt64 * (own_d x).toInt64) ((own_k y x).toInt64 * (own_s s).toInt64) < (0 : Int32)) : own_mk f (own_s s) (own_q (own_k y x) (own_d x)) = 1 := by
  have hd := own_d_rng x
  have hk := own_k_rng y x
  have hs := own_s_pos s
  have hf' := hf
  rw [Int32.lt_iff_toInt_lt] at hf'
  have e0 : (0 : Int32).toInt = 0 := by decide
  rw [own_mk, if_pos hf, if_neg]
  rw [own_fl f (own_s s) (own_k y x) (own_d x) (by omega) hs hk.1 hk.2 (by omega) (by omega)]
  rw [lw_lt, Int64.lt_iff_toInt_lt, own_mul64, own_mul64] at h
  · exact h
  · omega
  · omega
  · have := rng32 f; omega
  · omega
theorem ef_rm_max (m : MethodId) (x0 : Int32) (x1 : Int32) : entryFrame m #[(.int x0), (.int x1)] 2 = mkF m 0 #[.val (.int x0), .val (.int x1)] [] := by first | (simp [entryFrame, mkF, argsToLocals, Value.category]; done) | rfl
def Q_rm_max (Z : State) (p1 : Int32) (p2 : Int32) (h0 : Heap) (n0 : Nat) (v : Option Value) (h : Heap) (L : List Loc) : Prop := v = some (.int (own_maxI p1 p2)) ∧ Fr n0 L ∧ h = h0
theorem d1_0 : decode jdk_29_method_65_code 0 = .ok (.iload_n 0, 1) := by decide +kernel
theorem d1_1 : decode jdk_29_method_65_code 1 = .ok (.iload_n 1, 1) := by decide +kernel
theorem d1_2 : decode jdk_29_method_65_code 2 = .ok (.if_icmp .lt 7, 3) := by decide +kernel
theorem d1_9 : decode jdk_29_method_65_code 9 = .ok (.iload_n 1, 1) := by decide +kernel
theorem d1_10 : decode jdk_29_method_65_code 10 = .ok (.ireturn, 1) := by decide +kernel
theorem d1_5 : decode jdk_29_method_65_code 5 = .ok (.iload_n 0, 1) := by decide +kernel
theorem d1_6 : decode jdk_29_method_65_code 6 = .ok (.goto 4, 3) := by decide +kernel
set_option maxRecDepth 65536 in
set_option maxHeartbeats 40000000 in
theorem rm_max (l : Launch) (Z : State) (a0 : Array Value) (hw : ∀ d ∈ tables_1, d.before a0 Z = true) (ws : List Jvm.Cond) (p1 : Int32) (p2 : Int32) (h0 : Heap) (n0 : Nat) (Z0 : n0 ≤ h0.size)  :
    MetFree l (⟨"java/lang/Math", "max", "(II)I"⟩ : MethodName) (head1 (Jvm.Cond.code (⟨"java/lang/Math", "max", "(II)I"⟩ : MethodName) jdk_29_method_65_code 2 (some .int) :: ws) ({ frames := 0, cells := 0, slots := 0, locals := 0 } : Room)) (fun a U => a = #[(.int p1), (.int p2)] ∧ Z.Warmed39 U.vm ∧ U.heap = h0) (fun _ _ _ _ _ => True) (fun _ U o U' => ∃ v L, o = .returned v ∧ Q_rm_max Z p1 p2 h0 n0 v U'.heap L ∧ FrameEnd U o U' L ({ frames := 0, cells := 0, slots := 0, locals := 0 } : Room).cells ({ frames := 0, cells := 0, slots := 0, locals := 0 } : Room).slots) := by
  refine MetFree.of_bodySF (Jvm.Free.JP.mathPlain rfl (by decide +kernel)) hisR ?_
  intro p e s m args below meth c s₁ Bd hml0 hP hK
  obtain ⟨rfl, hZ, hh⟩ := hP
  have hx := Bd.exec
  have hby := Bd.bytes
  have hml : c.maxLocals = 2 := hml0
  have hown : s.vm.findClass "java/lang/Math" = some m.cls := findClass_of_methodNamed Bd.named
  have hnm := (name_of_methodNamed Bd.named Bd.method).1
  have X0 : Stand p l e ({ frames := 0, cells := 0, slots := 0, locals := 0 } : Room) s m #[(.int p1), (.int p2)] below meth c s₁ [] 0 0 := Stand.of_body Bd
  have e0 : s₁.heap = h0 := by rw [← hh, Bd.state]; rfl
  have N0 := Fr.nil n0
  have pre0 : ∀ t, Steps p.tables e below (s₁.setTop (mkF m 0 #[.val (.int p1), .val (.int p2)] [])) t → Steps p.tables e below (s₁.setTop (entryFrame m #[(.int p1), (.int p2)] 2)) t := fun t kt => castTop (ef_rm_max m p1 p2) kt
  have pre_1 : ∀ t, Steps p.tables e below (s₁.setTop (mkF m 2 #[.val (.int p1), .val (.int p2)] [(.int p2), (.int p1)])) t → Steps p.tables e below (s₁.setTop (entryFrame m #[(.int p1), (.int p2)] 2)) t := by
    intro t kt
    refine pre0 _ ?_
    show Steps p.tables e below (s₁.setTop (mkF m 0 #[.val (.int p1), .val (.int p2)] [])) _
    refine XS.iloadN X0.here hx rfl (hb hby d1_0) rfl ?_
    show Steps p.tables e below (s₁.setTop (mkF m 1 #[.val (.int p1), .val (.int p2)] [(.int p1)])) _
    refine XS.iloadN X0.here hx rfl (hb hby d1_1) rfl ?_
    exact kt
  by_cases hc2 : p1 < p2
  · obtain ⟨fs, hr, hrun, hended, hW, hsame⟩ := X0.leave (v := some (.int p2)) (fun h => by rw [Bd.returns] at h; cases h) (hlocks := Bd.notSynchronized)
    refine ⟨_, _, pre_1 _ ?_, hrun, hended, _, _, rfl, ?_, ⟨_, rfl⟩, hW, hsame.mono (by decide) (by decide)⟩
    · show Steps p.tables e below (s₁.setTop (mkF m 2 #[.val (.int p1), .val (.int p2)] [(.int p2), (.int p1)])) _
      refine XS.icmpYes X0.here hx rfl (pc0 := 2) (pc' := 9) rfl (hb hby d1_2) rfl (tlt hc2).1 (by decide) (by decide) ?_
      show Steps p.tables e below (s₁.setTop (mkF m 9 #[.val (.int p1), .val (.int p2)] [])) _
      refine XS.iloadN X0.here hx rfl (hb hby d1_9) rfl ?_
      show Steps p.tables e below (s₁.setTop (mkF m 10 #[.val (.int p1), .val (.int p2)] [(.int p2)])) _
      exact retI X0 hx Bd.returns (hb hby d1_10) hr
    · show Q_rm_max Z p1 p2 h0 n0 _ s₁.heap _
      rw [e0]
      exact ⟨by rw [own_maxI, if_pos hc2], N0, rfl⟩
  · obtain ⟨fs, hr, hrun, hended, hW, hsame⟩ := X0.leave (v := some (.int p1)) (fun h => by rw [Bd.returns] at h; cases h) (hlocks := Bd.notSynchronized)
    refine ⟨_, _, pre_1 _ ?_, hrun, hended, _, _, rfl, ?_, ⟨_, rfl⟩, hW, hsame.mono (by decide) (by decide)⟩
    · show Steps p.tables e below (s₁.setTop (mkF m 2 #[.val (.int p1), .val (.int p2)] [(.int p2), (.int p1)])) _
      refine XS.icmpNo X0.here hx rfl (hb hby d1_2) rfl (flt hc2).1 ?_
      show Steps p.tables e below (s₁.setTop (mkF m 5 #[.val (.int p1), .val (.int p2)] [])) _
      refine XS.iloadN X0.here hx rfl (hb hby d1_5) rfl ?_
      show Steps p.tables e below (s₁.setTop (mkF m 6 #[.val (.int p1), .val (.int p2)] [(.int p1)])) _
      refine XS.goto X0.here hx rfl (pc0 := 6) (pc' := 10) rfl (hb hby d1_6) (by decide) (by decide) ?_
      show Steps p.tables e below (s₁.setTop (mkF m 10 #[.val (.int p1), .val (.int p2)] [(.int p1)])) _
      exact retI X0 hx Bd.returns (hb hby d1_10) hr
    · show Q_rm_max Z p1 p2 h0 n0 _ s₁.heap _
      rw [e0]
      exact ⟨by rw [own_maxI, if_neg hc2], N0, rfl⟩
theorem pn_2 : plainName "com/example/emberline/emberline/config/AggregationMakesPinLaw" = true := by first | (simp [plainName, overriddenIn]; done) | decide +kernel
theorem ef_rm_pick (m : MethodId) (x0 : Int32) : entryFrame m #[(.int x0)] 2 = mkF m 0 #[.val (.int x0), .unset] [] := by first | (simp [entryFrame, mkF, argsToLocals, Value.category]; done) | rfl
def Q_rm_pick (Z : State) (p1 : Int32) (c_AVERAGE c_SUM c_MIN c_MAX c_LAST : Addr) (h0 : Heap) (n0 : Nat) (v : Option Value) (h : Heap) (L : List Loc) : Prop := ∃ a : Addr, v = some (.ref a) ∧ Fr n0 L ∧ h = h0
theorem d2_0 : decode method_3_code 0 = .ok (.iload_n 0, 1) := by decide +kernel
theorem d2_1 : decode method_3_code 1 = .ok (.ldc 7, 2) := by decide +kernel
theorem d2_3 : decode method_3_code 3 = .ok (.iand, 1) := by decide +kernel
theorem d2_4 : decode method_3_code 4 = .ok (.iconst 5, 1) := by decide +kernel
theorem d2_5 : decode method_3_code 5 = .ok (.irem, 1) := by decide +kernel
theorem d2_6 : decode method_3_code 6 = .ok (.istore_n 1, 1) := by decide +kernel
theorem d2_7 : decode method_3_code 7 = .ok (.iload_n 1, 1) := by decide +kernel
theorem d2_8 : decode method_3_code 8 = .ok (.ifCond .ne 7, 3) := by decide +kernel
theorem d2_11 : decode method_3_code 11 = .ok (.getstatic 29, 3) := by decide +kernel
theorem d2_14 : decode method_3_code 14 = .ok (.areturn, 1) := by decide +kernel
theorem d2_15 : decode method_3_code 15 = .ok (.iload_n 1, 1) := by decide +kernel
theorem d2_16 : decode method_3_code 16 = .ok (.iconst 1, 1) := by decide +kernel
theorem d2_17 : decode method_3_code 17 = .ok (.if_icmp .ne 7, 3) := by decide +kernel
theorem d2_20 : decode method_3_code 20 = .ok (.getstatic 35, 3) := by decide +kernel
theorem d2_23 : decode method_3_code 23 = .ok (.areturn, 1) := by decide +kernel
theorem d2_24 : decode method_3_code 24 = .ok (.iload_n 1, 1) := by decide +kernel
theorem d2_25 : decode method_3_code 25 = .ok (.iconst 2, 1) := by decide +kernel
theorem d2_26 : decode method_3_code 26 = .ok (.if_icmp .ne 7, 3) := by decide +kernel
theorem d2_29 : decode method_3_code 29 = .ok (.getstatic 38, 3) := by decide +kernel
theorem d2_32 : decode method_3_code 32 = .ok (.areturn, 1) := by decide +kernel
theorem d2_33 : decode method_3_code 33 = .ok (.iload_n 1, 1) := by decide +kernel
theorem d2_34 : decode method_3_code 34 = .ok (.iconst 3, 1) := by decide +kernel
theorem d2_35 : decode method_3_code 35 = .ok (.if_icmp .ne 7, 3) := by decide +kernel
theorem d2_38 : decode method_3_code 38 = .ok (.getstatic 41, 3) := by decide +kernel
theorem d2_41 : decode method_3_code 41 = .ok (.areturn, 1) := by decide +kernel
theorem d2_42 : decode method_3_code 42 = .ok (.getstatic 44, 3) := by decide +kernel
theorem d2_45 : decode method_3_code 45 = .ok (.areturn, 1) := by decide +kernel
set_option maxRecDepth 65536 in
set_option maxHeartbeats 40000000 in
theorem rm_pick (l : Launch) (Z : State) (a0 : Array Value) (hw : ∀ d ∈ tables_1, d.before a0 Z = true) (ws : List Jvm.Cond) (p1 : Int32) (c_AVERAGE c_SUM c_MIN c_MAX c_LAST : Addr) (h0 : Heap) (n0 : Nat) (Z0 : n0 ≤ h0.size) (S_AVERAGE : Sta Z h0 "com/example/emberline/emberline/config/AggregationMethod" "AVERAGE" "Lcom/example/emberline/emberline/config/AggregationMethod;" (.ref c_AVERAGE)) (S_SUM : Sta Z h0 "com/example/emberline/emberline/config/AggregationMethod" "SUM" "Lcom/example/emberline/emberline/config/AggregationMethod;" (.ref c_SUM)) (S_MIN : Sta Z h0 "com/example/emberline/emberline/config/AggregationMethod" "MIN" "Lcom/example/emberline/emberline/config/AggregationMethod;" (.ref c_MIN)) (S_MAX : Sta Z h0 "com/example/emberline/emberline/config/AggregationMethod" "MAX" "Lcom/example/emberline/emberline/config/AggregationMethod;" (.ref c_MAX)) (S_LAST : Sta Z h0 "com/example/emberline/emberline/config/AggregationMethod" "LAST" "Lcom/example/emberline/emberline/config/AggregationMethod;" (.ref c_LAST)) :
    MetFree l (⟨"com/example/emberline/emberline/config/AggregationMakesPinLaw", "pick", "(I)Lcom/example/emberline/emberline/config/AggregationMethod;"⟩ : MethodName) (head1 (Jvm.Cond.code (⟨"com/example/emberline/emberline/config/AggregationMakesPinLaw", "pick", "(I)Lcom/example/emberline/emberline/config/AggregationMethod;"⟩ : MethodName) method_3_code 2 (some (.object "com/example/emberline/emberline/config/AggregationMethod")) :: ws) ({ frames := 0, cells := 0, slots := 0, locals := 0 } : Room)) (fun a U => a = #[(.int p1)] ∧ Z.Warmed39 U.vm ∧ U.heap = h0) (fun _ _ _ _ _ => True) (fun _ U o U' => ∃ v L, o = .returned v ∧ Q_rm_pick Z p1 c_AVERAGE c_SUM c_MIN c_MAX c_LAST h0 n0 v U'.heap L ∧ FrameEnd U o U' L ({ frames := 0, cells := 0, slots := 0, locals := 0 } : Room).cells ({ frames := 0, cells := 0, slots := 0, locals := 0 } : Room).slots) := by
  refine MetFree.of_bodySF (plainFor_of_name pn_2) hisR ?_
  intro p e s m args below meth c s₁ Bd hml0 hP hK
  obtain ⟨rfl, hZ, hh⟩ := hP
  have hx := Bd.exec
  have hby := Bd.bytes
  have hml : c.maxLocals = 2 := hml0
  have hown : s.vm.findClass "com/example/emberline/emberline/config/AggregationMakesPinLaw" = some m.cls := findClass_of_methodNamed Bd.named
  have hnm := (name_of_methodNamed Bd.named Bd.method).1
  have X0 : Stand p l e ({ frames := 0, cells := 0, slots := 0, locals := 0 } : Room) s m #[(.int p1)] below meth c s₁ [] 0 0 := Stand.of_body Bd
  have e0 : s₁.heap = h0 := by rw [← hh, Bd.state]; rfl
  have N0 := Fr.nil n0
  have pre0 : ∀ t, Steps p.tables e below (s₁.setTop (mkF m 0 #[.val (.int p1), .unset] [])) t → Steps p.tables e below (s₁.setTop (entryFrame m #[(.int p1)] 2)) t := fun t kt => castTop (ef_rm_pick m p1) kt
  have pre_1 : ∀ t, Steps p.tables e below (s₁.setTop (mkF m 8 #[.val (.int p1), .val (.int ((p1 &&& (2147483647 : Int32)) - ((p1 &&& (2147483647 : Int32)) / (5 : Int32)) * (5 : Int32)))] [(.int ((p1 &&& (2147483647 : Int32)) - ((p1 &&& (2147483647 : Int32)) / (5 : Int32)) * (5 : Int32)))])) t → Steps p.tables e below (s₁.setTop (entryFrame m #[(.int p1)] 2)) t := by
    intro t kt
    refine pre0 _ ?_
    show Steps p.tables e below (s₁.setTop (mkF m 0 #[.val (.int p1), .unset] [])) _
    refine XS.iloadN X0.here hx rfl (hb hby d2_0) rfl ?_
    show Steps p.tables e below (s₁.setTop (mkF m 1 #[.val (.int p1), .unset] [(.int p1)])) _
    refine X0.ldcInt hx hown (mvT hZ (hw _ (List.mem_of_getElem? (i := 0) rfl))) (g := (mkF m 1 #[.val (.int p1), .unset] [(.int p1)])) rfl (hb hby d2_1) _ ?_
    show Steps p.tables e below (s₁.setTop (mkF m 3 #[.val (.int p1), .unset] [(.int (2147483647 : Int32)), (.int p1)])) _
    refine XS.iand X0.here hx rfl (hb hby d2_3) rfl ?_
    show Steps p.tables e below (s₁.setTop (mkF m 4 #[.val (.int p1), .unset] [(.int (p1 &&& (2147483647 : Int32)))])) _
    refine XS.iconst X0.here hx rfl (hb hby d2_4) ?_
    show Steps p.tables e below (s₁.setTop (mkF m 5 #[.val (.int p1), .unset] [(.int (5 : Int32)), (.int (p1 &&& (2147483647 : Int32)))])) _
    refine XS.irem X0.here hx rfl (hb hby d2_5) rfl (by decide) ?_
    show Steps p.tables e below (s₁.setTop (mkF m 6 #[.val (.int p1), .unset] [(.int ((p1 &&& (2147483647 : Int32)) - ((p1 &&& (2147483647 : Int32)) / (5 : Int32)) * (5 : Int32)))])) _
    refine XS.istoreN X0.here hx rfl (hb hby d2_6) rfl (l' := #[.val (.int p1), .val (.int ((p1 &&& (2147483647 : Int32)) - ((p1 &&& (2147483647 : Int32)) / (5 : Int32)) * (5 : Int32)))]) rfl ?_
    show Steps p.tables e below (s₁.setTop (mkF m 7 #[.val (.int p1), .val (.int ((p1 &&& (2147483647 : Int32)) - ((p1 &&& (2147483647 : Int32)) / (5 : Int32)) * (5 : Int32)))] [])) _
    refine XS.iloadN X0.here hx rfl (hb hby d2_7) rfl ?_
    exact kt
  by_cases hc8 : ((p1 &&& (2147483647 : Int32)) - ((p1 &&& (2147483647 : Int32)) / (5 : Int32)) * (5 : Int32)) = (0 : Int32)
  · obtain ⟨T2, X2, e2, st2⟩ := getS2 X0 hx hZ hown (host := "") (Or.inl (hw _ (List.mem_of_getElem? (i := 9) rfl))) Via.refl e0 S_AVERAGE (g := (mkF m 11 #[.val (.int p1), .val (.int ((p1 &&& (2147483647 : Int32)) - ((p1 &&& (2147483647 : Int32)) / (5 : Int32)) * (5 : Int32)))] [])) rfl (hb hby d2_11)
    obtain ⟨fs, hr, hrun, hended, hW, hsame⟩ := X2.leave (v := some (.ref c_AVERAGE)) (fun h => by rw [Bd.returns] at h; cases h) (hlocks := Bd.notSynchronized)
    refine ⟨_, _, pre_1 _ ?_, hrun, hended, _, _, rfl, ?_, ⟨_, rfl⟩, hW, hsame.mono (by decide) (by decide)⟩
    · show Steps p.tables e below (s₁.setTop (mkF m 8 #[.val (.int p1), .val (.int ((p1 &&& (2147483647 : Int32)) - ((p1 &&& (2147483647 : Int32)) / (5 : Int32)) * (5 : Int32)))] [(.int ((p1 &&& (2147483647 : Int32)) - ((p1 &&& (2147483647 : Int32)) / (5 : Int32)) * (5 : Int32)))])) _
      refine XS.ifNo X0.here hx rfl (hb hby d2_8) rfl ((if0 _ _).trans (teq hc8).2) ?_
      show Steps p.tables e below (s₁.setTop (mkF m 11 #[.val (.int p1), .val (.int ((p1 &&& (2147483647 : Int32)) - ((p1 &&& (2147483647 : Int32)) / (5 : Int32)) * (5 : Int32)))] [])) _
      refine st2 _ ?_
      show Steps p.tables e below (T2.setTop (mkF m 14 #[.val (.int p1), .val (.int ((p1 &&& (2147483647 : Int32)) - ((p1 &&& (2147483647 : Int32)) / (5 : Int32)) * (5 : Int32)))] [(.ref c_AVERAGE)])) _
      exact X2.areturnOut hx rfl Bd.returns rfl (hb hby d2_14) hr
    · show Q_rm_pick Z p1 c_AVERAGE c_SUM c_MIN c_MAX c_LAST h0 n0 _ T2.heap _
      rw [e2]
      exact ⟨_, rfl, N0, rfl⟩
  · have pre_3 : ∀ t, Steps p.tables e below (s₁.setTop (mkF m 17 #[.val (.int p1), .val (.int ((p1 &&& (2147483647 : Int32)) - ((p1 &&& (2147483647 : Int32)) / (5 : Int32)) * (5 : Int32)))] [(.int (1 : Int32)), (.int ((p1 &&& (2147483647 : Int32)) - ((p1 &&& (2147483647 : Int32)) / (5 : Int32)) * (5 : Int32)))])) t → Steps p.tables e below (s₁.setTop (entryFrame m #[(.int p1)] 2)) t := by
      intro t kt
      refine pre_1 _ ?_
      show Steps p.tables e below (s₁.setTop (mkF m 8 #[.val (.int p1), .val (.int ((p1 &&& (2147483647 : Int32)) - ((p1 &&& (2147483647 : Int32)) / (5 : Int32)) * (5 : Int32)))] [(.int ((p1 &&& (2147483647 : Int32)) - ((p1 &&& (2147483647 : Int32)) / (5 : Int32)) * (5 : Int32)))])) _
      refine XS.ifYes X0.here hx rfl (pc0 := 8) (pc' := 15) rfl (hb hby d2_8) rfl ((if0 _ _).trans (feq hc8).2) (by decide) (by decide) ?_
      show Steps p.tables e below (s₁.setTop (mkF m 15 #[.val (.int p1), .val (.int ((p1 &&& (2147483647 : Int32)) - ((p1 &&& (2147483647 : Int32)) / (5 : Int32)) * (5 : Int32)))] [])) _
      refine XS.iloadN X0.here hx rfl (hb hby d2_15) rfl ?_
      show Steps p.tables e below (s₁.setTop (mkF m 16 #[.val (.int p1), .val (.int ((p1 &&& (2147483647 : Int32)) - ((p1 &&& (2147483647 : Int32)) / (5 : Int32)) * (5 : Int32)))] [(.int ((p1 &&& (2147483647 : Int32)) - ((p1 &&& (2147483647 : Int32)) / (5 : Int32)) * (5 : Int32)))])) _
      refine XS.iconst X0.here hx rfl (hb hby d2_16) ?_
      exact kt
    by_cases hc17 : ((p1 &&& (2147483647 : Int32)) - ((p1 &&& (2147483647 : Int32)) / (5 : Int32)) * (5 : Int32)) = (1 : Int32)
    · obtain ⟨T4, X4, e4, st4⟩ := getS2 X0 hx hZ hown (host := "") (Or.inl (hw _ (List.mem_of_getElem? (i := 37) rfl))) Via.refl e0 S_SUM (g := (mkF m 20 #[.val (.int p1), .val (.int ((p1 &&& (2147483647 : Int32)) - ((p1 &&& (2147483647 : Int32)) / (5 : Int32)) * (5 : Int32)))] [])) rfl (hb hby d2_20)
      obtain ⟨fs, hr, hrun, hended, hW, hsame⟩ := X4.leave (v := some (.ref c_SUM)) (fun h => by rw [Bd.returns] at h; cases h) (hlocks := Bd.notSynchronized)
      refine ⟨_, _, pre_3 _ ?_, hrun, hended, _, _, rfl, ?_, ⟨_, rfl⟩, hW, hsame.mono (by decide) (by decide)⟩
      · show Steps p.tables e below (s₁.setTop (mkF m 17 #[.val (.int p1), .val (.int ((p1 &&& (2147483647 : Int32)) - ((p1 &&& (2147483647 : Int32)) / (5 : Int32)) * (5 : Int32)))] [(.int (1 : Int32)), (.int ((p1 &&& (2147483647 : Int32)) - ((p1 &&& (2147483647 : Int32)) / (5 : Int32)) * (5 : Int32)))])) _
        refine XS.icmpNo X0.here hx rfl (hb hby d2_17) rfl (teq hc17).2 ?_
        show Steps p.tables e below (s₁.setTop (mkF m 20 #[.val (.int p1), .val (.int ((p1 &&& (2147483647 : Int32)) - ((p1 &&& (2147483647 : Int32)) / (5 : Int32)) * (5 : Int32)))] [])) _
        refine st4 _ ?_
        show Steps p.tables e below (T4.setTop (mkF m 23 #[.val (.int p1), .val (.int ((p1 &&& (2147483647 : Int32)) - ((p1 &&& (2147483647 : Int32)) / (5 : Int32)) * (5 : Int32)))] [(.ref c_SUM)])) _
        exact X4.areturnOut hx rfl Bd.returns rfl (hb hby d2_23) hr
      · show Q_rm_pick Z p1 c_AVERAGE c_SUM c_MIN c_MAX c_LAST h0 n0 _ T4.heap _
        rw [e4]
        exact ⟨_, rfl, N0, rfl⟩
    · have pre_5 : ∀ t, Steps p.tables e below (s₁.setTop (mkF m 26 #[.val (.int p1), .val (.int ((p1 &&& (2147483647 : Int32)) - ((p1 &&& (2147483647 : Int32)) / (5 : Int32)) * (5 : Int32)))] [(.int (2 : Int32)), (.int ((p1 &&& (2147483647 : Int32)) - ((p1 &&& (2147483647 : Int32)) / (5 : Int32)) * (5 : Int32)))])) t → Steps p.tables e below (s₁.setTop (entryFrame m #[(.int p1)] 2)) t := by
        intro t kt
        refine pre_3 _ ?_
        show Steps p.tables e below (s₁.setTop (mkF m 17 #[.val (.int p1), .val (.int ((p1 &&& (2147483647 : Int32)) - ((p1 &&& (2147483647 : Int32)) / (5 : Int32)) * (5 : Int32)))] [(.int (1 : Int32)), (.int ((p1 &&& (2147483647 : Int32)) - ((p1 &&& (2147483647 : Int32)) / (5 : Int32)) * (5 : Int32)))])) _
        refine XS.icmpYes X0.here hx rfl (pc0 := 17) (pc' := 24) rfl (hb hby d2_17) rfl (feq hc17).2 (by decide) (by decide) ?_
        show Steps p.tables e below (s₁.setTop (mkF m 24 #[.val (.int p1), .val (.int ((p1 &&& (2147483647 : Int32)) - ((p1 &&& (2147483647 : Int32)) / (5 : Int32)) * (5 : Int32)))] [])) _
        refine XS.iloadN X0.here hx rfl (hb hby d2_24) rfl ?_
        show Steps p.tables e below (s₁.setTop (mkF m 25 #[.val (.int p1), .val (.int ((p1 &&& (2147483647 : Int32)) - ((p1 &&& (2147483647 : Int32)) / (5 : Int32)) * (5 : Int32)))] [(.int ((p1 &&& (2147483647 : Int32)) - ((p1 &&& (2147483647 : Int32)) / (5 : Int32)) * (5 : Int32)))])) _
        refine XS.iconst X0.here hx rfl (hb hby d2_25) ?_
        exact kt
      by_cases hc26 : ((p1 &&& (2147483647 : Int32)) - ((p1 &&& (2147483647 : Int32)) / (5 : Int32)) * (5 : Int32)) = (2 : Int32)
      · obtain ⟨T6, X6, e6, st6⟩ := getS2 X0 hx hZ hown (host := "") (Or.inl (hw _ (List.mem_of_getElem? (i := 35) rfl))) Via.refl e0 S_MIN (g := (mkF m 29 #[.val (.int p1), .val (.int ((p1 &&& (2147483647 : Int32)) - ((p1 &&& (2147483647 : Int32)) / (5 : Int32)) * (5 : Int32)))] [])) rfl (hb hby d2_29)
        obtain ⟨fs, hr, hrun, hended, hW, hsame⟩ := X6.leave (v := some (.ref c_MIN)) (fun h => by rw [Bd.returns] at h; cases h) (hlocks := Bd.notSynchronized)
        refine ⟨_, _, pre_5 _ ?_, hrun, hended, _, _, rfl, ?_, ⟨_, rfl⟩, hW, hsame.mono (by decide) (by decide)⟩
        · show Steps p.tables e below (s₁.setTop (mkF m 26 #[.val (.int p1), .val (.int ((p1 &&& (2147483647 : Int32)) - ((p1 &&& (2147483647 : Int32)) / (5 : Int32)) * (5 : Int32)))] [(.int (2 : Int32)), (.int ((p1 &&& (2147483647 : Int32)) - ((p1 &&& (2147483647 : Int32)) / (5 : Int32)) * (5 : Int32)))])) _
          refine XS.icmpNo X0.here hx rfl (hb hby d2_26) rfl (teq hc26).2 ?_
          show Steps p.tables e below (s₁.setTop (mkF m 29 #[.val (.int p1), .val (.int ((p1 &&& (2147483647 : Int32)) - ((p1 &&& (2147483647 : Int32)) / (5 : Int32)) * (5 : Int32)))] [])) _
          refine st6 _ ?_
          show Steps p.tables e below (T6.setTop (mkF m 32 #[.val (.int p1), .val (.int ((p1 &&& (2147483647 : Int32)) - ((p1 &&& (2147483647 : Int32)) / (5 : Int32)) * (5 : Int32)))] [(.ref c_MIN)])) _
          exact X6.areturnOut hx rfl Bd.returns rfl (hb hby d2_32) hr
        · show Q_rm_pick Z p1 c_AVERAGE c_SUM c_MIN c_MAX c_LAST h0 n0 _ T6.heap _
          rw [e6]
          exact ⟨_, rfl, N0, rfl⟩
      · have pre_7 : ∀ t, Steps p.tables e below (s₁.setTop (mkF m 35 #[.val (.int p1), .val (.int ((p1 &&& (2147483647 : Int32)) - ((p1 &&& (2147483647 : Int32)) / (5 : Int32)) * (5 : Int32)))] [(.int (3 : Int32)), (.int ((p1 &&& (2147483647 : Int32)) - ((p1 &&& (2147483647 : Int32)) / (5 : Int32)) * (5 : Int32)))])) t → Steps p.tables e below (s₁.setTop (entryFrame m #[(.int p1)] 2)) t := by
          intro t kt
          refine pre_5 _ ?_
          show Steps p.tables e below (s₁.setTop (mkF m 26 #[.val (.int p1), .val (.int ((p1 &&& (2147483647 : Int32)) - ((p1 &&& (2147483647 : Int32)) / (5 : Int32)) * (5 : Int32)))] [(.int (2 : Int32)), (.int ((p1 &&& (2147483647 : Int32)) - ((p1 &&& (2147483647 : Int32)) / (5 : Int32)) * (5 : Int32)))])) _
          refine XS.icmpYes X0.here hx rfl (pc0 := 26) (pc' := 33) rfl (hb hby d2_26) rfl (feq hc26).2 (by decide) (by decide) ?_
          show Steps p.tables e below (s₁.setTop (mkF m 33 #[.val (.int p1), .val (.int ((p1 &&& (2147483647 : Int32)) - ((p1 &&& (2147483647 : Int32)) / (5 : Int32)) * (5 : Int32)))] [])) _
          refine XS.iloadN X0.here hx rfl (hb hby d2_33) rfl ?_
          show Steps p.tables e below (s₁.setTop (mkF m 34 #[.val (.int p1), .val (.int ((p1 &&& (2147483647 : Int32)) - ((p1 &&& (2147483647 : Int32)) / (5 : Int32)) * (5 : Int32)))] [(.int ((p1 &&& (2147483647 : Int32)) - ((p1 &&& (2147483647 : Int32)) / (5 : Int32)) * (5 : Int32)))])) _
          refine XS.iconst X0.here hx rfl (hb hby d2_34) ?_
          exact kt
        by_cases hc35 : ((p1 &&& (2147483647 : Int32)) - ((p1 &&& (2147483647 : Int32)) / (5 : Int32)) * (5 : Int32)) = (3 : Int32)
        · obtain ⟨T8, X8, e8, st8⟩ := getS2 X0 hx hZ hown (host := "") (Or.inl (hw _ (List.mem_of_getElem? (i := 41) rfl))) Via.refl e0 S_MAX (g := (mkF m 38 #[.val (.int p1), .val (.int ((p1 &&& (2147483647 : Int32)) - ((p1 &&& (2147483647 : Int32)) / (5 : Int32)) * (5 : Int32)))] [])) rfl (hb hby d2_38)
          obtain ⟨fs, hr, hrun, hended, hW, hsame⟩ := X8.leave (v := some (.ref c_MAX)) (fun h => by rw [Bd.returns] at h; cases h) (hlocks := Bd.notSynchronized)
          refine ⟨_, _, pre_7 _ ?_, hrun, hended, _, _, rfl, ?_, ⟨_, rfl⟩, hW, hsame.mono (by decide) (by decide)⟩
          · show Steps p.tables e below (s₁.setTop (mkF m 35 #[.val (.int p1), .val (.int ((p1 &&& (2147483647 : Int32)) - ((p1 &&& (2147483647 : Int32)) / (5 : Int32)) * (5 : Int32)))] [(.int (3 : Int32)), (.int ((p1 &&& (2147483647 : Int32)) - ((p1 &&& (2147483647 : Int32)) / (5 : Int32)) * (5 : Int32)))])) _
            refine XS.icmpNo X0.here hx rfl (hb hby d2_35) rfl (teq hc35).2 ?_
            show Steps p.tables e below (s₁.setTop (mkF m 38 #[.val (.int p1), .val (.int ((p1 &&& (2147483647 : Int32)) - ((p1 &&& (2147483647 : Int32)) / (5 : Int32)) * (5 : Int32)))] [])) _
            refine st8 _ ?_
            show Steps p.tables e below (T8.setTop (mkF m 41 #[.val (.int p1), .val (.int ((p1 &&& (2147483647 : Int32)) - ((p1 &&& (2147483647 : Int32)) / (5 : Int32)) * (5 : Int32)))] [(.ref c_MAX)])) _
            exact X8.areturnOut hx rfl Bd.returns rfl (hb hby d2_41) hr
          · show Q_rm_pick Z p1 c_AVERAGE c_SUM c_MIN c_MAX c_LAST h0 n0 _ T8.heap _
            rw [e8]
            exact ⟨_, rfl, N0, rfl⟩
        · obtain ⟨T9, X9, e9, st9⟩ := getS2 X0 hx hZ hown (host := "") (Or.inl (hw _ (List.mem_of_getElem? (i := 39) rfl))) Via.refl e0 S_LAST (g := (mkF m 42 #[.val (.int p1), .val (.int ((p1 &&& (2147483647 : Int32)) - ((p1 &&& (2147483647 : Int32)) / (5 : Int32)) * (5 : Int32)))] [])) rfl (hb hby d2_42)
          obtain ⟨fs, hr, hrun, hended, hW, hsame⟩ := X9.leave (v := some (.ref c_LAST)) (fun h => by rw [Bd.returns] at h; cases h) (hlocks := Bd.notSynchronized)
          refine ⟨_, _, pre_7 _ ?_, hrun, hended, _, _, rfl, ?_, ⟨_, rfl⟩, hW, hsame.mono (by decide) (by decide)⟩
          · show Steps p.tables e below (s₁.setTop (mkF m 35 #[.val (.int p1), .val (.int ((p1 &&& (2147483647 : Int32)) - ((p1 &&& (2147483647 : Int32)) / (5 : Int32)) * (5 : Int32)))] [(.int (3 : Int32)), (.int ((p1 &&& (2147483647 : Int32)) - ((p1 &&& (2147483647 : Int32)) / (5 : Int32)) * (5 : Int32)))])) _
            refine XS.icmpYes X0.here hx rfl (pc0 := 35) (pc' := 42) rfl (hb hby d2_35) rfl (feq hc35).2 (by decide) (by decide) ?_
            show Steps p.tables e below (s₁.setTop (mkF m 42 #[.val (.int p1), .val (.int ((p1 &&& (2147483647 : Int32)) - ((p1 &&& (2147483647 : Int32)) / (5 : Int32)) * (5 : Int32)))] [])) _
            refine st9 _ ?_
            show Steps p.tables e below (T9.setTop (mkF m 45 #[.val (.int p1), .val (.int ((p1 &&& (2147483647 : Int32)) - ((p1 &&& (2147483647 : Int32)) / (5 : Int32)) * (5 : Int32)))] [(.ref c_LAST)])) _
            exact X9.areturnOut hx rfl Bd.returns rfl (hb hby d2_45) hr
          · show Q_rm_pick Z p1 c_AVERAGE c_SUM c_MIN c_MAX c_LAST h0 n0 _ T9.heap _
            rw [e9]
            exact ⟨_, rfl, N0, rfl⟩
theorem pn_4 : plainName "java/lang/Record" = true := by first | (simp [plainName, overriddenIn]; done) | decide +kernel
theorem ef_rm_rec (m : MethodId) (x0 : Addr) : entryFrame m #[(.ref x0)] 1 = mkF m 0 #[.val (.ref x0)] [] := by first | (simp [entryFrame, mkF, argsToLocals, Value.category]; done) | rfl
def Q_rm_rec (Z : State) (a1 : Addr) (h0 : Heap) (n0 : Nat) (v : Option Value) (h : Heap) (L : List Loc) : Prop := v = none ∧ Fr n0 L ∧ h = h0
theorem d4_0 : decode jdk_30_method_1_code 0 = .ok (.aload_n 0, 1) := by decide +kernel
theorem d4_1 : decode jdk_30_method_1_code 1 = .ok (.invokespecial 1, 3) := by decide +kernel
theorem d4_4 : decode jdk_30_method_1_code 4 = .ok (.return_, 1) := by decide +kernel
set_option maxRecDepth 65536 in
set_option maxHeartbeats 40000000 in
theorem rm_rec (l : Launch) (Z : State) (a0 : Array Value) (hw : ∀ d ∈ tables_1, d.before a0 Z = true) (ws : List Jvm.Cond) (a1 : Addr) (h0 : Heap) (n0 : Nat) (Z0 : n0 ≤ h0.size)  :
    MetFree l (⟨"java/lang/Record", "<init>", "()V"⟩ : MethodName) (head1 (Jvm.Cond.code (⟨"java/lang/Record", "<init>", "()V"⟩ : MethodName) jdk_30_method_1_code 1 none :: ws) ({ frames := 1, cells := 0, slots := 0, locals := 12 } : Room)) (fun a U => a = #[(.ref a1)] ∧ Z.Warmed39 U.vm ∧ U.heap = h0) (fun _ _ _ _ _ => True) (fun _ U o U' => ∃ v L, o = .returned v ∧ Q_rm_rec Z a1 h0 n0 v U'.heap L ∧ FrameEnd U o U' L ({ frames := 1, cells := 0, slots := 0, locals := 12 } : Room).cells ({ frames := 1, cells := 0, slots := 0, locals := 12 } : Room).slots) := by
  refine MetFree.of_bodySF (plainFor_of_name pn_4) hisR ?_
  intro p e s m args below meth c s₁ Bd hml0 hP hK
  obtain ⟨rfl, hZ, hh⟩ := hP
  have hx := Bd.exec
  have hby := Bd.bytes
  have hml : c.maxLocals = 1 := hml0
  have hown : s.vm.findClass "java/lang/Record" = some m.cls := findClass_of_methodNamed Bd.named
  have hnm := (name_of_methodNamed Bd.named Bd.method).1
  have X0 : Stand p l e ({ frames := 1, cells := 0, slots := 0, locals := 12 } : Room) s m #[(.ref a1)] below meth c s₁ [] 0 0 := Stand.of_body Bd
  have e0 : s₁.heap = h0 := by rw [← hh, Bd.state]; rfl
  have N0 := Fr.nil n0
  have pre0 : ∀ t, Steps p.tables e below (s₁.setTop (mkF m 0 #[.val (.ref a1)] [])) t → Steps p.tables e below (s₁.setTop (entryFrame m #[(.ref a1)] 1)) t := fun t kt => castTop (ef_rm_rec m a1) kt
  obtain ⟨T1, X1, e1, st1⟩ := initO X0 hx hZ hown (hw _ (List.mem_of_getElem? (i := 23) rfl)) (hw _ (List.mem_of_getElem? (i := 24) rfl)) (hw _ (List.mem_of_getElem? (i := 25) rfl)) e0 (g := (mkF m 1 #[.val (.ref a1)] [(.ref a1)])) rfl (by rw [hml]; rfl) rfl (hb hby d4_1) (by decide) (W := 0) (by show 2 * 0 + _ ≤ _; exact Nat.le_of_eq rfl) (by decide)
  obtain ⟨fs, hr, hrun, hended, hW, hsame⟩ := X1.leave (v := none) (fun _ => rfl) (hlocks := Bd.notSynchronized)
  refine ⟨_, _, pre0 _ ?_, hrun, hended, _, _, rfl, ?_, ⟨_, rfl⟩, hW, hsame.mono (by decide) (by decide)⟩
  · show Steps p.tables e below (s₁.setTop (mkF m 0 #[.val (.ref a1)] [])) _
    refine XS.aloadN X0.here hx rfl (hb hby d4_0) rfl rfl ?_
    show Steps p.tables e below (s₁.setTop (mkF m 1 #[.val (.ref a1)] [(.ref a1)])) _
    refine st1 _ ?_
    show Steps p.tables e below (T1.setTop (mkF m 4 #[.val (.ref a1)] [])) _
    exact X1.returnOut hx Bd.returns (hb hby d4_4) hr
  · show Q_rm_rec Z a1 h0 n0 _ T1.heap _
    rw [e1]
    exact ⟨rfl, N0, rfl⟩
theorem pn_3 : plainName "com/example/emberline/emberline/config/Aggregation" = true := by first | (simp [plainName, overriddenIn]; done) | decide +kernel
theorem ef_rm_ini (m : MethodId) (x0 : Addr) (x1 : Addr) (x2 : UInt64) : entryFrame m #[(.ref x0), (.ref x1), (.double x2)] 4 = mkF m 0 #[.val (.ref x0), .val (.ref x1), .val (.double x2), .second] [] := by first | (simp [entryFrame, mkF, argsToLocals, Value.category]; done) | rfl
def Q_rm_ini (Z : State) (a1 : Addr) (a2 : Addr) (d3 : UInt64) (h0 : Heap) (n0 : Nat) (v : Option Value) (h : Heap) (L : List Loc) : Prop := v = none ∧ Fr n0 L ∧ Keep h0 h [a1] ∧ Exa Z h a1 "com/example/emberline/emberline/config/Aggregation" ∧ Fld Z h a1 "com/example/emberline/emberline/config/Aggregation" "xFilesFactor" "D" (.double d3)
theorem d3_0 : decode prog_7_method_1_code 0 = .ok (.aload_n 0, 1) := by decide +kernel
theorem pd___V_167 : parseMethodDescriptor "()V" = some ⟨[], none⟩ := by decide +kernel
theorem d3_1 : decode prog_7_method_1_code 1 = .ok (.invokespecial 1, 3) := by decide +kernel
theorem d3_4 : decode prog_7_method_1_code 4 = .ok (.dload_n 2, 1) := by decide +kernel
theorem d3_5 : decode prog_7_method_1_code 5 = .ok (.dconst 0, 1) := by decide +kernel
theorem d3_6 : decode prog_7_method_1_code 6 = .ok (.dcmp .l, 1) := by decide +kernel
theorem d3_7 : decode prog_7_method_1_code 7 = .ok (.ifCond .lt 9, 3) := by decide +kernel
theorem d3_10 : decode prog_7_method_1_code 10 = .ok (.dload_n 2, 1) := by decide +kernel
theorem d3_11 : decode prog_7_method_1_code 11 = .ok (.dconst 1, 1) := by decide +kernel
theorem d3_12 : decode prog_7_method_1_code 12 = .ok (.dcmp .g, 1) := by decide +kernel
theorem d3_13 : decode prog_7_method_1_code 13 = .ok (.ifCond .le 17, 3) := by decide +kernel
theorem d3_30 : decode prog_7_method_1_code 30 = .ok (.aload_n 0, 1) := by decide +kernel
theorem d3_31 : decode prog_7_method_1_code 31 = .ok (.aload_n 1, 1) := by decide +kernel
theorem d3_32 : decode prog_7_method_1_code 32 = .ok (.putfield 16, 3) := by decide +kernel
theorem d3_35 : decode prog_7_method_1_code 35 = .ok (.aload_n 0, 1) := by decide +kernel
theorem d3_36 : decode prog_7_method_1_code 36 = .ok (.dload_n 2, 1) := by decide +kernel
theorem d3_37 : decode prog_7_method_1_code 37 = .ok (.putfield 22, 3) := by decide +kernel
theorem d3_40 : decode prog_7_method_1_code 40 = .ok (.return_, 1) := by decide +kernel
set_option maxRecDepth 65536 in
set_option maxHeartbeats 40000000 in
theorem rm_ini (l : Launch) (Z : State) (a0 : Array Value) (hw : ∀ d ∈ tables_1, d.before a0 Z = true) (ws : List Jvm.Cond) (a1 : Addr) (a2 : Addr) (d3 : UInt64) (h0 : Heap) (n0 : Nat) (Z0 : n0 ≤ h0.size) (F_method_a1 : Fld Z h0 a1 "com/example/emberline/emberline/config/Aggregation" "method" "Lcom/example/emberline/emberline/config/AggregationMethod;" .null) (F_xFilesFactor_a1 : Fld Z h0 a1 "com/example/emberline/emberline/config/Aggregation" "xFilesFactor" "D" (.double (0 : UInt64))) (E_a1 : Exa Z h0 a1 "com/example/emberline/emberline/config/Aggregation") (g_a1 : n0 ≤ a1) (hpa : ¬ cmpValue (FP.dcmp d3 FP.dconst0) .l < (0 : Int32)) (hpb : ¬ (0 : Int32) < cmpValue (FP.dcmp d3 FP.dconst1) .g) :
    MetFree l (⟨"com/example/emberline/emberline/config/Aggregation", "<init>", "(Lcom/example/emberline/emberline/config/AggregationMethod;D)V"⟩ : MethodName) (head1 (Jvm.Cond.code (⟨"com/example/emberline/emberline/config/Aggregation", "<init>", "(Lcom/example/emberline/emberline/config/AggregationMethod;D)V"⟩ : MethodName) prog_7_method_1_code 4 none :: ws) ({ frames := 2, cells := 0, slots := 0, locals := 24 } : Room)) (fun a U => a = #[(.ref a1), (.ref a2), (.double d3)] ∧ Z.Warmed39 U.vm ∧ U.heap = h0) (fun _ _ _ _ _ => True) (fun _ U o U' => ∃ v L, o = .returned v ∧ Q_rm_ini Z a1 a2 d3 h0 n0 v U'.heap L ∧ FrameEnd U o U' L ({ frames := 2, cells := 0, slots := 0, locals := 24 } : Room).cells ({ frames := 2, cells := 0, slots := 0, locals := 24 } : Room).slots) := by
  refine MetFree.of_bodySF (plainFor_of_name pn_3) hisR ?_
  intro p e s m args below meth c s₁ Bd hml0 hP hK
  obtain ⟨rfl, hZ, hh⟩ := hP
  have hx := Bd.exec
  have hby := Bd.bytes
  have hml : c.maxLocals = 4 := hml0
  have hown : s.vm.findClass "com/example/emberline/emberline/config/Aggregation" = some m.cls := findClass_of_methodNamed Bd.named
  have hnm := (name_of_methodNamed Bd.named Bd.method).1
  have X0 : Stand p l e ({ frames := 2, cells := 0, slots := 0, locals := 24 } : Room) s m #[(.ref a1), (.ref a2), (.double d3)] below meth c s₁ [] 0 0 := Stand.of_body Bd
  have e0 : s₁.heap = h0 := by rw [← hh, Bd.state]; rfl
  have N0 := Fr.nil n0
  have pre0 : ∀ t, Steps p.tables e below (s₁.setTop (mkF m 0 #[.val (.ref a1), .val (.ref a2), .val (.double d3), .second] [])) t → Steps p.tables e below (s₁.setTop (entryFrame m #[(.ref a1), (.ref a2), (.double d3)] 4)) t := fun t kt => castTop (ef_rm_ini m a1 a2 d3) kt
  obtain ⟨_, _, ⟨T1, L1, k1, n1⟩, -, X1, ⟨Lc1, hQ1, l1, y1, z1⟩, st1⟩ := X0.specialBack hx (y := (⟨"java/lang/Record", "<init>", "()V"⟩ : MethodName)) rfl hown (mvT hZ (hw _ (List.mem_of_getElem? (i := 18) rfl))) (mvT hZ (hw _ (List.mem_of_getElem? (i := 19) rfl))) (mvT hZ (hw _ (List.mem_of_getElem? (i := 22) rfl))) (by decide) (backOf (W := 0) (rm_rec l Z a0 hw [] a1 h0 n0 Z0 ) hZ (hw _ (List.mem_of_getElem? (i := 22) rfl)) (hw _ (List.mem_of_getElem? (i := 21) rfl)) (by decide) (by decide)) (g := (mkF m 1 #[.val (.ref a1), .val (.ref a2), .val (.double d3), .second] [(.ref a1)])) rfl (by rw [hml]; rfl) (Steps.refl _) (a := a1) (argsL := []) (rest := []) (lenOf pd___V_167 rfl) rfl (by show 2 * 0 + _ ≤ _; exact Nat.le_of_eq rfl) (hb hby d3_1) (fun _ _ => ⟨rfl, e0, (by decide : 0 + 0 ≤ _), (by decide : 0 + 0 ≤ _)⟩)
  dsimp only [Pt.U, Pt.locs, Pt.cells, Pt.slots] at X1 l1 y1 z1 st1 hQ1
  subst l1 y1 z1
  obtain ⟨rfl, N1q, e1⟩ := hQ1
  have N1 := Fr.app N0 N1q
  obtain ⟨T2, h2, X2, e2, W2, st2⟩ := putF X1 hx hZ hown (host := "") (Or.inl (hw _ (List.mem_of_getElem? (i := 26) rfl))) Via.refl e1 F_method_a1 E_a1 (Or.inr ⟨(hw _ (List.mem_of_getElem? (i := 27) rfl)), rfl, hnm⟩) (hw _ (List.mem_of_getElem? (i := 13) rfl)) (ty := (.object "com/example/emberline/emberline/config/AggregationMethod")) (by decide) rfl rfl (g := (mkF m 32 #[.val (.ref a1), .val (.ref a2), .val (.double d3), .second] [(.ref a2), (.ref a1)])) rfl rfl (hb hby d3_32)
  have f1 : Exa Z h2 a1 "com/example/emberline/emberline/config/Aggregation" := E_a1.wr W2
  have f2 : Fld Z h2 a1 "com/example/emberline/emberline/config/Aggregation" "method" "Lcom/example/emberline/emberline/config/AggregationMethod;" (.ref a2) := F_method_a1.same W2
  have f3 : Fld Z h2 a1 "com/example/emberline/emberline/config/Aggregation" "xFilesFactor" "D" (.double (0 : UInt64)) := F_xFilesFactor_a1.other W2 (Or.inr (slot_ne (Or.inr (hw _ (List.mem_of_getElem? (i := 29) rfl))) (Or.inr (hw _ (List.mem_of_getElem? (i := 27) rfl))) (by decide) (t := .double) (t' := (.object "com/example/emberline/emberline/config/AggregationMethod")) (by decide) (by decide)))
  have f4 : n0 ≤ a1 := g_a1
  have f5 : Keep h0 h2 [a1] := (Keep.refl h0 [a1]).wr W2 (Or.inl (by simp))
  have N2 := Fr.snoc X2 N1 f4
  have Z2 : n0 ≤ h2.size := by rw [W2.size]; exact Z0
  obtain ⟨T3, h3, X3, e3, W3, st3⟩ := putF X2 hx hZ hown (host := "") (Or.inl (hw _ (List.mem_of_getElem? (i := 28) rfl))) Via.refl e2 f3 f1 (Or.inr ⟨(hw _ (List.mem_of_getElem? (i := 29) rfl)), rfl, hnm⟩) (hw _ (List.mem_of_getElem? (i := 13) rfl)) (ty := .double) (by decide) rfl rfl (g := (mkF m 37 #[.val (.ref a1), .val (.ref a2), .val (.double d3), .second] [(.double d3), (.ref a1)])) rfl rfl (hb hby d3_37)
  have f6 : Exa Z h3 a1 "com/example/emberline/emberline/config/Aggregation" := f1.wr W3
  have f7 : Fld Z h3 a1 "com/example/emberline/emberline/config/Aggregation" "method" "Lcom/example/emberline/emberline/config/AggregationMethod;" (.ref a2) := f2.other W3 (Or.inr (slot_ne (Or.inr (hw _ (List.mem_of_getElem? (i := 27) rfl))) (Or.inr (hw _ (List.mem_of_getElem? (i := 29) rfl))) (by decide) (t := (.object "com/example/emberline/emberline/config/AggregationMethod")) (t' := .double) (by decide) (by decide)))
  have f8 : Fld Z h3 a1 "com/example/emberline/emberline/config/Aggregation" "xFilesFactor" "D" (.double d3) := f3.same W3
  have f9 : n0 ≤ a1 := f4
  have f10 : Keep h0 h3 [a1] := f5.wr W3 (Or.inl (by simp))
  have N3 := Fr.snoc X3 N2 f9
  have Z3 : n0 ≤ h3.size := by rw [W3.size]; exact Z2
  obtain ⟨fs, hr, hrun, hended, hW, hsame⟩ := X3.leave (v := none) (fun _ => rfl) (hlocks := Bd.notSynchronized)
  refine ⟨_, _, pre0 _ ?_, hrun, hended, _, _, rfl, ?_, ⟨_, rfl⟩, hW, hsame.mono (by decide) (by decide)⟩
  · show Steps p.tables e below (s₁.setTop (mkF m 0 #[.val (.ref a1), .val (.ref a2), .val (.double d3), .second] [])) _
    refine XS.aloadN X0.here hx rfl (hb hby d3_0) rfl rfl ?_
    show Steps p.tables e below (s₁.setTop (mkF m 1 #[.val (.ref a1), .val (.ref a2), .val (.double d3), .second] [(.ref a1)])) _
    refine st1.trans ?_
    show Steps p.tables e below (T1.setTop (mkF m 4 #[.val (.ref a1), .val (.ref a2), .val (.double d3), .second] [])) _
    refine XS.dloadN X1.here hx rfl (hb hby d3_4) rfl ?_
    show Steps p.tables e below (T1.setTop (mkF m 5 #[.val (.ref a1), .val (.ref a2), .val (.double d3), .second] [(.double d3)])) _
    refine XS.dconst0 X1.here hx rfl (hb hby d3_5) rfl ?_
    show Steps p.tables e below (T1.setTop (mkF m 6 #[.val (.ref a1), .val (.ref a2), .val (.double d3), .second] [(.double FP.dconst0), (.double d3)])) _
    refine XS.dcmpS X1.here hx rfl (hb hby d3_6) rfl rfl ?_
    show Steps p.tables e below (T1.setTop (mkF m 7 #[.val (.ref a1), .val (.ref a2), .val (.double d3), .second] [(.int (cmpValue (FP.dcmp d3 FP.dconst0) .l))])) _
    refine XS.ifNo X1.here hx rfl (hb hby d3_7) rfl ((if0 _ _).trans (flt hpa).1) ?_
    show Steps p.tables e below (T1.setTop (mkF m 10 #[.val (.ref a1), .val (.ref a2), .val (.double d3), .second] [])) _
    refine XS.dloadN X1.here hx rfl (hb hby d3_10) rfl ?_
    show Steps p.tables e below (T1.setTop (mkF m 11 #[.val (.ref a1), .val (.ref a2), .val (.double d3), .second] [(.double d3)])) _
    refine XS.dconst1 X1.here hx rfl (hb hby d3_11) rfl ?_
    show Steps p.tables e below (T1.setTop (mkF m 12 #[.val (.ref a1), .val (.ref a2), .val (.double d3), .second] [(.double FP.dconst1), (.double d3)])) _
    refine XS.dcmpS X1.here hx rfl (hb hby d3_12) rfl rfl ?_
    show Steps p.tables e below (T1.setTop (mkF m 13 #[.val (.ref a1), .val (.ref a2), .val (.double d3), .second] [(.int (cmpValue (FP.dcmp d3 FP.dconst1) .g))])) _
    refine XS.ifYes X1.here hx rfl (pc0 := 13) (pc' := 30) rfl (hb hby d3_13) rfl ((if0 _ _).trans (flt hpb).2.2.2) (by decide) (by decide) ?_
    show Steps p.tables e below (T1.setTop (mkF m 30 #[.val (.ref a1), .val (.ref a2), .val (.double d3), .second] [])) _
    refine XS.aloadN X1.here hx rfl (hb hby d3_30) rfl rfl ?_
    show Steps p.tables e below (T1.setTop (mkF m 31 #[.val (.ref a1), .val (.ref a2), .val (.double d3), .second] [(.ref a1)])) _
    refine XS.aloadN X1.here hx rfl (hb hby d3_31) rfl rfl ?_
    show Steps p.tables e below (T1.setTop (mkF m 32 #[.val (.ref a1), .val (.ref a2), .val (.double d3), .second] [(.ref a2), (.ref a1)])) _
    refine st2 _ ?_
    show Steps p.tables e below (T2.setTop (mkF m 35 #[.val (.ref a1), .val (.ref a2), .val (.double d3), .second] [])) _
    refine XS.aloadN X2.here hx rfl (hb hby d3_35) rfl rfl ?_
    show Steps p.tables e below (T2.setTop (mkF m 36 #[.val (.ref a1), .val (.ref a2), .val (.double d3), .second] [(.ref a1)])) _
    refine XS.dloadN X2.here hx rfl (hb hby d3_36) rfl ?_
    show Steps p.tables e below (T2.setTop (mkF m 37 #[.val (.ref a1), .val (.ref a2), .val (.double d3), .second] [(.double d3), (.ref a1)])) _
    refine st3 _ ?_
    show Steps p.tables e below (T3.setTop (mkF m 40 #[.val (.ref a1), .val (.ref a2), .val (.double d3), .second] [])) _
    exact X3.returnOut hx Bd.returns (hb hby d3_40) hr
  · show Q_rm_ini Z a1 a2 d3 h0 n0 _ T3.heap _
    rw [e3]
    exact ⟨rfl, N3, f10, f6, f8⟩
theorem pn_6 : plainName "com/example/emberline/emberline/config/Aggregation" = true := by first | (simp [plainName, overriddenIn]; done) | decide +kernel
theorem ef_rm_mk (m : MethodId) (x0 : Addr) (x1 : Int32) (x2 : Int32) : entryFrame m #[(.ref x0), (.int x1), (.int x2)] 3 = mkF m 0 #[.val (.ref x0), .val (.int x1), .val (.int x2)] [] := by first | (simp [entryFrame, mkF, argsToLocals, Value.category]; done) | rfl
def Q_rm_mk (Z : State) (a1 : Addr) (p2 : Int32) (p3 : Int32) (xf : UInt64) (h0 : Heap) (n0 : Nat) (v : Option Value) (h : Heap) (L : List Loc) : Prop := v = some (.int (own_mk p2 p3 xf)) ∧ Fr n0 L ∧ h = h0
theorem d6_0 : decode prog_7_method_2_code 0 = .ok (.iload_n 1, 1) := by decide +kernel
theorem d6_1 : decode prog_7_method_2_code 1 = .ok (.ifCond .le 20, 3) := by decide +kernel
theorem d6_4 : decode prog_7_method_2_code 4 = .ok (.iload_n 1, 1) := by decide +kernel
theorem d6_5 : decode prog_7_method_2_code 5 = .ok (.i2d, 1) := by decide +kernel
theorem d6_6 : decode prog_7_method_2_code 6 = .ok (.iload_n 2, 1) := by decide +kernel
theorem d6_7 : decode prog_7_method_2_code 7 = .ok (.i2d, 1) := by decide +kernel
theorem d6_8 : decode prog_7_method_2_code 8 = .ok (.ddiv, 1) := by decide +kernel
theorem d6_9 : decode prog_7_method_2_code 9 = .ok (.aload_n 0, 1) := by decide +kernel
theorem d6_10 : decode prog_7_method_2_code 10 = .ok (.getfield 22, 3) := by decide +kernel
theorem d6_13 : decode prog_7_method_2_code 13 = .ok (.dcmp .l, 1) := by decide +kernel
theorem d6_14 : decode prog_7_method_2_code 14 = .ok (.ifCond .lt 7, 3) := by decide +kernel
theorem d6_21 : decode prog_7_method_2_code 21 = .ok (.iconst 0, 1) := by decide +kernel
theorem d6_22 : decode prog_7_method_2_code 22 = .ok (.ireturn, 1) := by decide +kernel
theorem d6_17 : decode prog_7_method_2_code 17 = .ok (.iconst 1, 1) := by decide +kernel
theorem d6_18 : decode prog_7_method_2_code 18 = .ok (.goto 4, 3) := by decide +kernel
set_option maxRecDepth 65536 in
set_option maxHeartbeats 40000000 in
theorem rm_mk (l : Launch) (Z : State) (a0 : Array Value) (hw : ∀ d ∈ tables_1, d.before a0 Z = true) (ws : List Jvm.Cond) (a1 : Addr) (p2 : Int32) (p3 : Int32) (xf : UInt64) (h0 : Heap) (n0 : Nat) (Z0 : n0 ≤ h0.size) (F_x_a1 : Fld Z h0 a1 "com/example/emberline/emberline/config/Aggregation" "xFilesFactor" "D" (.double xf)) (hs : 0 < p3.toInt) :
    MetFree l (⟨"com/example/emberline/emberline/config/Aggregation", "makes", "(II)Z"⟩ : MethodName) (head1 (Jvm.Cond.code (⟨"com/example/emberline/emberline/config/Aggregation", "makes", "(II)Z"⟩ : MethodName) prog_7_method_2_code 3 (some .boolean) :: ws) ({ frames := 0, cells := 0, slots := 0, locals := 0 } : Room)) (fun a U => a = #[(.ref a1), (.int p2), (.int p3)] ∧ Z.Warmed39 U.vm ∧ U.heap = h0) (fun _ _ _ _ _ => True) (fun _ U o U' => ∃ v L, o = .returned v ∧ Q_rm_mk Z a1 p2 p3 xf h0 n0 v U'.heap L ∧ FrameEnd U o U' L ({ frames := 0, cells := 0, slots := 0, locals := 0 } : Room).cells ({ frames := 0, cells := 0, slots := 0, locals := 0 } : Room).slots) := by
  refine MetFree.of_bodySF (plainFor_of_name pn_6) hisR ?_
  intro p e s m args below meth c s₁ Bd hml0 hP hK
  obtain ⟨rfl, hZ, hh⟩ := hP
  have hx := Bd.exec
  have hby := Bd.bytes
  have hml : c.maxLocals = 3 := hml0
  have hown : s.vm.findClass "com/example/emberline/emberline/config/Aggregation" = some m.cls := findClass_of_methodNamed Bd.named
  have hnm := (name_of_methodNamed Bd.named Bd.method).1
  have X0 : Stand p l e ({ frames := 0, cells := 0, slots := 0, locals := 0 } : Room) s m #[(.ref a1), (.int p2), (.int p3)] below meth c s₁ [] 0 0 := Stand.of_body Bd
  have e0 : s₁.heap = h0 := by rw [← hh, Bd.state]; rfl
  have N0 := Fr.nil n0
  have pre0 : ∀ t, Steps p.tables e below (s₁.setTop (mkF m 0 #[.val (.ref a1), .val (.int p2), .val (.int p3)] [])) t → Steps p.tables e below (s₁.setTop (entryFrame m #[(.ref a1), (.int p2), (.int p3)] 3)) t := fun t kt => castTop (ef_rm_mk m a1 p2 p3) kt
  have pre_1 : ∀ t, Steps p.tables e below (s₁.setTop (mkF m 1 #[.val (.ref a1), .val (.int p2), .val (.int p3)] [(.int p2)])) t → Steps p.tables e below (s₁.setTop (entryFrame m #[(.ref a1), (.int p2), (.int p3)] 3)) t := by
    intro t kt
    refine pre0 _ ?_
    show Steps p.tables e below (s₁.setTop (mkF m 0 #[.val (.ref a1), .val (.int p2), .val (.int p3)] [])) _
    refine XS.iloadN X0.here hx rfl (hb hby d6_0) rfl ?_
    exact kt
  by_cases hc1 : (0 : Int32) < p2
  · obtain ⟨T2, X2, e2, st2⟩ := getF X0 hx hZ hown (host := "") (Or.inl (hw _ (List.mem_of_getElem? (i := 28) rfl))) Via.refl e0 F_x_a1 (g := (mkF m 10 #[.val (.ref a1), .val (.int p2), .val (.int p3)] [(.ref a1), (.double (own_q p2 p3))])) rfl rfl (hb hby d6_10)
    have pre_3 : ∀ t, Steps p.tables e below (T2.setTop (mkF m 14 #[.val (.ref a1), .val (.int p2), .val (.int p3)] [(.int (cmpValue (FP.dcmp (own_q p2 p3) xf) .l))])) t → Steps p.tables e below (s₁.setTop (entryFrame m #[(.ref a1), (.int p2), (.int p3)] 3)) t := by
      intro t kt
      refine pre_1 _ ?_
      show Steps p.tables e below (s₁.setTop (mkF m 1 #[.val (.ref a1), .val (.int p2), .val (.int p3)] [(.int p2)])) _
      refine XS.ifNo X0.here hx rfl (hb hby d6_1) rfl ((if0 _ _).trans (tlt hc1).2.2.2) ?_
      show Steps p.tables e below (s₁.setTop (mkF m 4 #[.val (.ref a1), .val (.int p2), .val (.int p3)] [])) _
      refine XS.iloadN X0.here hx rfl (hb hby d6_4) rfl ?_
      show Steps p.tables e below (s₁.setTop (mkF m 5 #[.val (.ref a1), .val (.int p2), .val (.int p3)] [(.int p2)])) _
      refine XS.i2dS X0.here hx rfl (hb hby d6_5) rfl rfl ?_
      show Steps p.tables e below (s₁.setTop (mkF m 6 #[.val (.ref a1), .val (.int p2), .val (.int p3)] [(.double (FP.i2d p2))])) _
      refine XS.iloadN X0.here hx rfl (hb hby d6_6) rfl ?_
      show Steps p.tables e below (s₁.setTop (mkF m 7 #[.val (.ref a1), .val (.int p2), .val (.int p3)] [(.int p3), (.double (FP.i2d p2))])) _
      refine XS.i2dS X0.here hx rfl (hb hby d6_7) rfl rfl ?_
      show Steps p.tables e below (s₁.setTop (mkF m 8 #[.val (.ref a1), .val (.int p2), .val (.int p3)] [(.double (FP.i2d p3)), (.double (FP.i2d p2))])) _
      refine XS.ddivS X0.here hx rfl (hb hby d6_8) rfl (own_q_nn p2 p3 (own_pos hc1) hs) rfl ?_
      show Steps p.tables e below (s₁.setTop (mkF m 9 #[.val (.ref a1), .val (.int p2), .val (.int p3)] [(.double (own_q p2 p3))])) _
      refine XS.aloadN X0.here hx rfl (hb hby d6_9) rfl rfl ?_
      show Steps p.tables e below (s₁.setTop (mkF m 10 #[.val (.ref a1), .val (.int p2), .val (.int p3)] [(.ref a1), (.double (own_q p2 p3))])) _
      refine st2 _ ?_
      show Steps p.tables e below (T2.setTop (mkF m 13 #[.val (.ref a1), .val (.int p2), .val (.int p3)] [(.double xf), (.double (own_q p2 p3))])) _
      refine XS.dcmpS X2.here hx rfl (hb hby d6_13) rfl rfl ?_
      exact kt
    by_cases hc14 : (cmpValue (FP.dcmp (own_q p2 p3) xf) .l) < (0 : Int32)
    · obtain ⟨fs, hr, hrun, hended, hW, hsame⟩ := X2.leave (v := some (.int (0 : Int32))) (fun h => by rw [Bd.returns] at h; cases h) (hlocks := Bd.notSynchronized)
      refine ⟨_, _, pre_3 _ ?_, hrun, hended, _, _, rfl, ?_, ⟨_, rfl⟩, hW, hsame.mono (by decide) (by decide)⟩
      · show Steps p.tables e below (T2.setTop (mkF m 14 #[.val (.ref a1), .val (.int p2), .val (.int p3)] [(.int (cmpValue (FP.dcmp (own_q p2 p3) xf) .l))])) _
        refine XS.ifYes X2.here hx rfl (pc0 := 14) (pc' := 21) rfl (hb hby d6_14) rfl ((if0 _ _).trans (tlt hc14).1) (by decide) (by decide) ?_
        show Steps p.tables e below (T2.setTop (mkF m 21 #[.val (.ref a1), .val (.int p2), .val (.int p3)] [])) _
        refine XS.iconst X2.here hx rfl (hb hby d6_21) ?_
        show Steps p.tables e below (T2.setTop (mkF m 22 #[.val (.ref a1), .val (.int p2), .val (.int p3)] [(.int (0 : Int32))])) _
        exact retN X2 hx (t := .boolean) Bd.returns (by simp) (hb hby d6_22) hr
      · show Q_rm_mk Z a1 p2 p3 xf h0 n0 _ T2.heap _
        rw [e2]
        exact ⟨by rw [own_mk, if_pos hc1, if_pos hc14], N0, rfl⟩
    · obtain ⟨fs, hr, hrun, hended, hW, hsame⟩ := X2.leave (v := some (.int (1 : Int32))) (fun h => by rw [Bd.returns] at h; cases h) (hlocks := Bd.notSynchronized)
      refine ⟨_, _, pre_3 _ ?_, hrun, hended, _, _, rfl, ?_, ⟨_, rfl⟩, hW, hsame.mono (by decide) (by decide)⟩
      · show Steps p.tables e below (T2.setTop (mkF m 14 #[.val (.ref a1), .val (.int p2), .val (.int p3)] [(.int (cmpValue (FP.dcmp (own_q p2 p3) xf) .l))])) _
        refine XS.ifNo X2.here hx rfl (hb hby d6_14) rfl ((if0 _ _).trans (flt hc14).1) ?_
        show Steps p.tables e below (T2.setTop (mkF m 17 #[.val (.ref a1), .val (.int p2), .val (.int p3)] [])) _
        refine XS.iconst X2.here hx rfl (hb hby d6_17) ?_
        show Steps p.tables e below (T2.setTop (mkF m 18 #[.val (.ref a1), .val (.int p2), .val (.int p3)] [(.int (1 : Int32))])) _
        refine XS.goto X2.here hx rfl (pc0 := 18) (pc' := 22) rfl (hb hby d6_18) (by decide) (by decide) ?_
        show Steps p.tables e below (T2.setTop (mkF m 22 #[.val (.ref a1), .val (.int p2), .val (.int p3)] [(.int (1 : Int32))])) _
        exact retN X2 hx (t := .boolean) Bd.returns (by simp) (hb hby d6_22) hr
      · show Q_rm_mk Z a1 p2 p3 xf h0 n0 _ T2.heap _
        rw [e2]
        exact ⟨by rw [own_mk, if_pos hc1, if_neg hc14], N0, rfl⟩
  · obtain ⟨fs, hr, hrun, hended, hW, hsame⟩ := X0.leave (v := some (.int (0 : Int32))) (fun h => by rw [Bd.returns] at h; cases h) (hlocks := Bd.notSynchronized)
    refine ⟨_, _, pre_1 _ ?_, hrun, hended, _, _, rfl, ?_, ⟨_, rfl⟩, hW, hsame.mono (by decide) (by decide)⟩
    · show Steps p.tables e below (s₁.setTop (mkF m 1 #[.val (.ref a1), .val (.int p2), .val (.int p3)] [(.int p2)])) _
      refine XS.ifYes X0.here hx rfl (pc0 := 1) (pc' := 21) rfl (hb hby d6_1) rfl ((if0 _ _).trans (flt hc1).2.2.2) (by decide) (by decide) ?_
      show Steps p.tables e below (s₁.setTop (mkF m 21 #[.val (.ref a1), .val (.int p2), .val (.int p3)] [])) _
      refine XS.iconst X0.here hx rfl (hb hby d6_21) ?_
      show Steps p.tables e below (s₁.setTop (mkF m 22 #[.val (.ref a1), .val (.int p2), .val (.int p3)] [(.int (0 : Int32))])) _
      exact retN X0 hx (t := .boolean) Bd.returns (by simp) (hb hby d6_22) hr
    · show Q_rm_mk Z a1 p2 p3 xf h0 n0 _ s₁.heap _
      rw [e0]
      exact ⟨by rw [own_mk, if_neg hc1], N0, rfl⟩
theorem pn_0 : plainName "com/example/emberline/emberline/config/AggregationMakesPinLaw" = true := by first | (simp [plainName, overriddenIn]; done) | decide +kernel
theorem ef_rm0 (m : MethodId) (x0 : Int32) (x1 : Int32) (x2 : Int32) (x3 : Int32) (x4 : Int32) : entryFrame m #[(.int x0), (.int x1), (.int x2), (.int x3), (.int x4)] maxLocals = mkF m 0 #[.val (.int x0), .val (.int x1), .val (.int x2), .val (.int x3), .val (.int x4), .unset, .unset, .unset, .unset, .unset, .unset] [] := by first | (simp [entryFrame, mkF, argsToLocals, Value.category, maxLocals]; done) | rfl
def Q_rm0 (Z : State) (p1 : Int32) (p2 : Int32) (p3 : Int32) (p4 : Int32) (p5 : Int32) (c_AVERAGE c_SUM c_MIN c_MAX c_LAST : Addr) (h0 : Heap) (n0 : Nat) (v : Option Value) (h : Heap) (L : List Loc) : Prop := v = some (.int 1) ∧ Fr n0 L
theorem pd__II_I_300 : parseMethodDescriptor "(II)I" = some ⟨[.int, .int], some .int⟩ := by decide +kernel
theorem pd__I_Lcom_example_emberline_emberline_config_AggregationMethod_5852 : parseMethodDescriptor "(I)Lcom/example/emberline/emberline/config/AggregationMethod;" = some ⟨[.int], some (.object "com/example/emberline/emberline/config/AggregationMethod")⟩ := by decide +kernel
theorem pd__Lcom_example_emberline_emberline_config_AggregationMethod_D_5933 : parseMethodDescriptor "(Lcom/example/emberline/emberline/config/AggregationMethod;D)V" = some ⟨[(.object "com/example/emberline/emberline/config/AggregationMethod"), .double], none⟩ := by decide +kernel
theorem pd__II_Z_317 : parseMethodDescriptor "(II)Z" = some ⟨[.int, .int], some .boolean⟩ := by decide +kernel
set_option maxRecDepth 65536 in
set_option maxHeartbeats 40000000 in
theorem rm0 (l : Launch) (Z : State) (a0 : Array Value) (hw : ∀ d ∈ tables_1, d.before a0 Z = true) (ws : List Jvm.Cond) (p1 : Int32) (p2 : Int32) (p3 : Int32) (p4 : Int32) (p5 : Int32) (c_AVERAGE c_SUM c_MIN c_MAX c_LAST : Addr) (h0 : Heap) (n0 : Nat) (Z0 : n0 ≤ h0.size) (S_AVERAGE : Sta Z h0 "com/example/emberline/emberline/config/AggregationMethod" "AVERAGE" "Lcom/example/emberline/emberline/config/AggregationMethod;" (.ref c_AVERAGE)) (S_SUM : Sta Z h0 "com/example/emberline/emberline/config/AggregationMethod" "SUM" "Lcom/example/emberline/emberline/config/AggregationMethod;" (.ref c_SUM)) (S_MIN : Sta Z h0 "com/example/emberline/emberline/config/AggregationMethod" "MIN" "Lcom/example/emberline/emberline/config/AggregationMethod;" (.ref c_MIN)) (S_MAX : Sta Z h0 "com/example/emberline/emberline/config/AggregationMethod" "MAX" "Lcom/example/emberline/emberline/config/AggregationMethod;" (.ref c_MAX)) (S_LAST : Sta Z h0 "com/example/emberline/emberline/config/AggregationMethod" "LAST" "Lcom/example/emberline/emberline/config/AggregationMethod;" (.ref c_LAST)) :
    MetFree l x (head1 (Jvm.Cond.code x code maxLocals ret :: ws) room_1) (fun a U => a = #[(.int p1), (.int p2), (.int p3), (.int p4), (.int p5)] ∧ Z.Warmed39 U.vm ∧ U.heap = h0) (fun _ _ _ _ _ => True) (fun _ U o U' => ∃ v L, o = .returned v ∧ Q_rm0 Z p1 p2 p3 p4 p5 c_AVERAGE c_SUM c_MIN c_MAX c_LAST h0 n0 v U'.heap L ∧ FrameEnd U o U' L room_1.cells room_1.slots) := by
  refine MetFree.of_bodySF (plainFor_of_name pn_0) hisR ?_
  intro p e s m args below meth c s₁ Bd hml0 hP hK
  obtain ⟨rfl, hZ, hh⟩ := hP
  have hx := Bd.exec
  have hby := Bd.bytes
  have hml : c.maxLocals = 11 := hml0
  have hown : s.vm.findClass "com/example/emberline/emberline/config/AggregationMakesPinLaw" = some m.cls := findClass_of_methodNamed Bd.named
  have hnm := (name_of_methodNamed Bd.named Bd.method).1
  have X0 : Stand p l e room_1 s m #[(.int p1), (.int p2), (.int p3), (.int p4), (.int p5)] below meth c s₁ [] 0 0 := Stand.of_body Bd
  have e0 : s₁.heap = h0 := by rw [← hh, Bd.state]; rfl
  have N0 := Fr.nil n0
  have pre0 : ∀ t, Steps p.tables e below (s₁.setTop (mkF m 0 #[.val (.int p1), .val (.int p2), .val (.int p3), .val (.int p4), .val (.int p5), .unset, .unset, .unset, .unset, .unset, .unset] [])) t → Steps p.tables e below (s₁.setTop (entryFrame m #[(.int p1), (.int p2), (.int p3), (.int p4), (.int p5)] maxLocals)) t := fun t kt => castTop (ef_rm0 m p1 p2 p3 p4 p5) kt
  obtain ⟨_, _, ⟨T1, L1, k1, n1⟩, -, X1, ⟨Lc1, hQ1, l1, y1, z1⟩, st1⟩ := Jvm.LawKit.callS X0 hx (y := (⟨"java/lang/Math", "max", "(II)I"⟩ : MethodName)) hown (mvT hZ (hw _ (List.mem_of_getElem? (i := 1) rfl))) (mvT hZ (hw _ (List.mem_of_getElem? (i := 2) rfl))) (mvT hZ (hw _ (List.mem_of_getElem? (i := 3) rfl))) (mvT hZ (hw _ (List.mem_of_getElem? (i := 4) rfl))) (by decide) (backOf (W := 0) (rm_max l Z a0 hw [] (1 : Int32) (p2 &&& (2147483647 : Int32)) h0 n0 Z0 ) hZ (hw _ (List.mem_of_getElem? (i := 4) rfl)) (hw _ (List.mem_of_getElem? (i := 3) rfl)) (by decide) (by decide)) (g := (mkF m 5 #[.val (.int p1), .val (.int p2), .val (.int p3), .val (.int p4), .val (.int p5), .unset, .unset, .unset, .unset, .unset, .unset] [(.int (p2 &&& (2147483647 : Int32))), (.int (1 : Int32))])) rfl (by rw [hml]; rfl) (argsL := [(.int (1 : Int32)), (.int (p2 &&& (2147483647 : Int32)))]) (rest := []) (lenOf pd__II_I_300 rfl) rfl (by show 2 * 0 + _ ≤ _; exact Nat.le_of_eq rfl) (hb hby at_5) (fun _ _ => ⟨rfl, e0, (by decide : 0 + 0 ≤ _), (by decide : 0 + 0 ≤ _)⟩)
  dsimp only [Pt.U, Pt.locs, Pt.cells, Pt.slots] at X1 l1 y1 z1 st1 hQ1
  subst l1 y1 z1
  obtain ⟨rfl, N1q, e1⟩ := hQ1
  have N1 := Fr.app N0 N1q
  obtain ⟨_, _, ⟨T2, L2, k2, n2⟩, -, X2, ⟨Lc2, hQ2, l2, y2, z2⟩, st2⟩ := Jvm.LawKit.callS X1 hx (y := (⟨"com/example/emberline/emberline/config/AggregationMakesPinLaw", "pick", "(I)Lcom/example/emberline/emberline/config/AggregationMethod;"⟩ : MethodName)) hown (mvT hZ (hw _ (List.mem_of_getElem? (i := 5) rfl))) (mvT hZ (hw _ (List.mem_of_getElem? (i := 6) rfl))) (mvT hZ (hw _ (List.mem_of_getElem? (i := 7) rfl))) (mvT hZ (hw _ (List.mem_of_getElem? (i := 8) rfl))) (by decide) (backOf (W := 0) (rm_pick l Z a0 hw [] p5 c_AVERAGE c_SUM c_MIN c_MAX c_LAST h0 n0 Z0 S_AVERAGE S_SUM S_MIN S_MAX S_LAST) hZ (hw _ (List.mem_of_getElem? (i := 8) rfl)) (hw _ (List.mem_of_getElem? (i := 7) rfl)) (by decide) (by decide)) (g := (mkF m 32 #[.val (.int p1), .val (.int p2), .val (.int p3), .val (.int p4), .val (.int p5), .val (.int (own_s p2)), .val (.int (own_d p4)), .val (.int (own_k p3 p4)), .unset, .unset, .unset] [(.int p5)])) rfl (by rw [hml]; rfl) (argsL := [(.int p5)]) (rest := []) (lenOf pd__I_Lcom_example_emberline_emberline_config_AggregationMethod_5852 rfl) rfl (by show 2 * 0 + _ ≤ _; exact Nat.le_of_eq rfl) (hb hby at_32) (fun _ _ => ⟨rfl, e1, (by decide : 0 + 0 ≤ _), (by decide : 0 + 0 ≤ _)⟩)
  dsimp only [Pt.U, Pt.locs, Pt.cells, Pt.slots] at X2 l2 y2 z2 st2 hQ2
  subst l2 y2 z2
  obtain ⟨am, rfl, N2q, e2⟩ := hQ2
  have N2 := Fr.app N1 N2q
  obtain ⟨T3, h3, X3, e3, E3, A3, D3, -, st3⟩ := newO X2 hx hZ hown (hw _ (List.mem_of_getElem? (i := 12) rfl)) (hw _ (List.mem_of_getElem? (i := 13) rfl)) (hw _ (List.mem_of_getElem? (i := 14) rfl)) e2 (g := (mkF m 37 #[.val (.int p1), .val (.int p2), .val (.int p3), .val (.int p4), .val (.int p5), .val (.int (own_s p2)), .val (.int (own_d p4)), .val (.int (own_k p3 p4)), .val (.ref am), .unset, .unset] [])) rfl (hb hby at_37) (by decide) (by decide)
  obtain ⟨b3, g3⟩ : ∃ z, z = h0.size := ⟨_, rfl⟩
  rw [← g3] at A3 D3 st3
  have f1 : Sta Z h3 "com/example/emberline/emberline/config/AggregationMethod" "AVERAGE" "Lcom/example/emberline/emberline/config/AggregationMethod;" (.ref c_AVERAGE) := S_AVERAGE.ext E3
  have f2 : Sta Z h3 "com/example/emberline/emberline/config/AggregationMethod" "SUM" "Lcom/example/emberline/emberline/config/AggregationMethod;" (.ref c_SUM) := S_SUM.ext E3
  have f3 : Sta Z h3 "com/example/emberline/emberline/config/AggregationMethod" "MIN" "Lcom/example/emberline/emberline/config/AggregationMethod;" (.ref c_MIN) := S_MIN.ext E3
  have f4 : Sta Z h3 "com/example/emberline/emberline/config/AggregationMethod" "MAX" "Lcom/example/emberline/emberline/config/AggregationMethod;" (.ref c_MAX) := S_MAX.ext E3
  have f5 : Sta Z h3 "com/example/emberline/emberline/config/AggregationMethod" "LAST" "Lcom/example/emberline/emberline/config/AggregationMethod;" (.ref c_LAST) := S_LAST.ext E3
  have g_b3 : n0 ≤ b3 := Nat.le_trans Z0 (Nat.le_of_eq g3.symm)
  have Z3 : n0 ≤ h3.size := Nat.le_trans Z0 E3.1
  have F_method_b3 : Fld Z h3 b3 "com/example/emberline/emberline/config/Aggregation" "method" "Lcom/example/emberline/emberline/config/AggregationMethod;" .null := D3 (Or.inr (hw _ (List.mem_of_getElem? (i := 27) rfl))) (ty := (.object "com/example/emberline/emberline/config/AggregationMethod")) (by decide)
  have F_xFilesFactor_b3 : Fld Z h3 b3 "com/example/emberline/emberline/config/Aggregation" "xFilesFactor" "D" (.double (0 : UInt64)) := D3 (Or.inr (hw _ (List.mem_of_getElem? (i := 29) rfl))) (ty := .double) (by decide)
  obtain ⟨_, _, ⟨T4, L4, k4, n4⟩, -, X4, ⟨Lc4, hQ4, l4, y4, z4⟩, st4⟩ := X3.specialBack hx (y := (⟨"com/example/emberline/emberline/config/Aggregation", "<init>", "(Lcom/example/emberline/emberline/config/AggregationMethod;D)V"⟩ : MethodName)) rfl hown (mvT hZ (hw _ (List.mem_of_getElem? (i := 15) rfl))) (mvT hZ (hw _ (List.mem_of_getElem? (i := 16) rfl))) (mvT hZ (hw _ (List.mem_of_getElem? (i := 17) rfl))) (by decide) (backOf (W := 1) (rm_ini l Z a0 hw [] b3 am (own_q (own_k p3 p4) (own_d p4)) h3 n0 Z3 F_method_b3 F_xFilesFactor_b3 A3 g_b3 (own_q_ge0 _ _ (own_k_rng p3 p4).1 (own_d_rng p4).1) (own_q_le1 _ _ (own_k_rng p3 p4).1 (own_k_rng p3 p4).2 (own_d_rng p4).1)) hZ (hw _ (List.mem_of_getElem? (i := 17) rfl)) (hw _ (List.mem_of_getElem? (i := 14) rfl)) (by decide) (by decide)) (g := (mkF m 50 #[.val (.int p1), .val (.int p2), .val (.int p3), .val (.int p4), .val (.int p5), .val (.int (own_s p2)), .val (.int (own_d p4)), .val (.int (own_k p3 p4)), .val (.ref am), .unset, .unset] [(.double (own_q (own_k p3 p4) (own_d p4))), (.ref am), (.ref b3), (.ref b3)])) rfl (by rw [hml]; rfl) (Steps.refl _) (a := b3) (argsL := [(.ref am), (.double (own_q (own_k p3 p4) (own_d p4)))]) (rest := [(.ref b3)]) (lenOf pd__Lcom_example_emberline_emberline_config_AggregationMethod_D_5933 rfl) rfl (by show 2 * 0 + _ ≤ _; exact Nat.le_of_eq rfl) (hb hby at_50) (fun _ _ => ⟨rfl, e3, (by decide : 1 + 0 ≤ _), (by decide : 2 + 0 ≤ _)⟩)
  dsimp only [Pt.U, Pt.locs, Pt.cells, Pt.slots] at X4 l4 y4 z4 st4 hQ4
  subst l4 y4 z4
  obtain ⟨rfl, N4q, K4, fk4_0, fk4_1⟩ := hQ4
  have f6 : n0 ≤ b3 := g_b3
  have Z4 : n0 ≤ T4.heap.size := Nat.le_trans Z3 K4.1
  have N4 := Fr.app N2 N4q
  have pre_5 : ∀ t, Steps p.tables e below (T4.setTop (mkF m 56 #[.val (.int p1), .val (.int p2), .val (.int p3), .val (.int p4), .val (.int p5), .val (.int (own_s p2)), .val (.int (own_d p4)), .val (.int (own_k p3 p4)), .val (.ref am), .val (.ref b3), .unset] [(.int p1)])) t → Steps p.tables e below (s₁.setTop (entryFrame m #[(.int p1), (.int p2), (.int p3), (.int p4), (.int p5)] maxLocals)) t := by
    intro t kt
    refine pre0 _ ?_
    show Steps p.tables e below (s₁.setTop (mkF m 0 #[.val (.int p1), .val (.int p2), .val (.int p3), .val (.int p4), .val (.int p5), .unset, .unset, .unset, .unset, .unset, .unset] [])) _
    refine XS.iconst X0.here hx rfl (hb hby at_0) ?_
    show Steps p.tables e below (s₁.setTop (mkF m 1 #[.val (.int p1), .val (.int p2), .val (.int p3), .val (.int p4), .val (.int p5), .unset, .unset, .unset, .unset, .unset, .unset] [(.int (1 : Int32))])) _
    refine XS.iloadN X0.here hx rfl (hb hby at_1) rfl ?_
    show Steps p.tables e below (s₁.setTop (mkF m 2 #[.val (.int p1), .val (.int p2), .val (.int p3), .val (.int p4), .val (.int p5), .unset, .unset, .unset, .unset, .unset, .unset] [(.int p2), (.int (1 : Int32))])) _
    refine X0.ldcInt hx hown (mvT hZ (hw _ (List.mem_of_getElem? (i := 0) rfl))) (g := (mkF m 2 #[.val (.int p1), .val (.int p2), .val (.int p3), .val (.int p4), .val (.int p5), .unset, .unset, .unset, .unset, .unset, .unset] [(.int p2), (.int (1 : Int32))])) rfl (hb hby at_2) _ ?_
    show Steps p.tables e below (s₁.setTop (mkF m 4 #[.val (.int p1), .val (.int p2), .val (.int p3), .val (.int p4), .val (.int p5), .unset, .unset, .unset, .unset, .unset, .unset] [(.int (2147483647 : Int32)), (.int p2), (.int (1 : Int32))])) _
    refine XS.iand X0.here hx rfl (hb hby at_4) rfl ?_
    show Steps p.tables e below (s₁.setTop (mkF m 5 #[.val (.int p1), .val (.int p2), .val (.int p3), .val (.int p4), .val (.int p5), .unset, .unset, .unset, .unset, .unset, .unset] [(.int (p2 &&& (2147483647 : Int32))), (.int (1 : Int32))])) _
    refine st1 _ ?_
    show Steps p.tables e below (T1.setTop (mkF m 8 #[.val (.int p1), .val (.int p2), .val (.int p3), .val (.int p4), .val (.int p5), .unset, .unset, .unset, .unset, .unset, .unset] [(.int (own_maxI (1 : Int32) (p2 &&& (2147483647 : Int32))))])) _
    refine XS.istore X1.here hx rfl (hb hby at_8) rfl (l' := #[.val (.int p1), .val (.int p2), .val (.int p3), .val (.int p4), .val (.int p5), .val (.int (own_maxI (1 : Int32) (p2 &&& (2147483647 : Int32)))), .unset, .unset, .unset, .unset, .unset]) rfl ?_
    show Steps p.tables e below (T1.setTop (mkF m 10 #[.val (.int p1), .val (.int p2), .val (.int p3), .val (.int p4), .val (.int p5), .val (.int (own_s p2)), .unset, .unset, .unset, .unset, .unset] [])) _
    refine XS.iconst X1.here hx rfl (hb hby at_10) ?_
    show Steps p.tables e below (T1.setTop (mkF m 11 #[.val (.int p1), .val (.int p2), .val (.int p3), .val (.int p4), .val (.int p5), .val (.int (own_s p2)), .unset, .unset, .unset, .unset, .unset] [(.int (1 : Int32))])) _
    refine XS.iloadN X1.here hx rfl (hb hby at_11) rfl ?_
    show Steps p.tables e below (T1.setTop (mkF m 12 #[.val (.int p1), .val (.int p2), .val (.int p3), .val (.int p4), .val (.int p5), .val (.int (own_s p2)), .unset, .unset, .unset, .unset, .unset] [(.int p4), (.int (1 : Int32))])) _
    refine XS.sipush X1.here hx rfl (hb hby at_12) ?_
    show Steps p.tables e below (T1.setTop (mkF m 15 #[.val (.int p1), .val (.int p2), .val (.int p3), .val (.int p4), .val (.int p5), .val (.int (own_s p2)), .unset, .unset, .unset, .unset, .unset] [(.int (255 : Int32)), (.int p4), (.int (1 : Int32))])) _
    refine XS.iand X1.here hx rfl (hb hby at_15) rfl ?_
    show Steps p.tables e below (T1.setTop (mkF m 16 #[.val (.int p1), .val (.int p2), .val (.int p3), .val (.int p4), .val (.int p5), .val (.int (own_s p2)), .unset, .unset, .unset, .unset, .unset] [(.int (p4 &&& (255 : Int32))), (.int (1 : Int32))])) _
    refine XS.iadd X1.here hx rfl (hb hby at_16) rfl ?_
    show Steps p.tables e below (T1.setTop (mkF m 17 #[.val (.int p1), .val (.int p2), .val (.int p3), .val (.int p4), .val (.int p5), .val (.int (own_s p2)), .unset, .unset, .unset, .unset, .unset] [(.int ((1 : Int32) + (p4 &&& (255 : Int32))))])) _
    refine XS.istore X1.here hx rfl (hb hby at_17) rfl (l' := #[.val (.int p1), .val (.int p2), .val (.int p3), .val (.int p4), .val (.int p5), .val (.int (own_s p2)), .val (.int ((1 : Int32) + (p4 &&& (255 : Int32)))), .unset, .unset, .unset, .unset]) rfl ?_
    show Steps p.tables e below (T1.setTop (mkF m 19 #[.val (.int p1), .val (.int p2), .val (.int p3), .val (.int p4), .val (.int p5), .val (.int (own_s p2)), .val (.int (own_d p4)), .unset, .unset, .unset, .unset] [])) _
    refine XS.iloadN X1.here hx rfl (hb hby at_19) rfl ?_
    show Steps p.tables e below (T1.setTop (mkF m 20 #[.val (.int p1), .val (.int p2), .val (.int p3), .val (.int p4), .val (.int p5), .val (.int (own_s p2)), .val (.int (own_d p4)), .unset, .unset, .unset, .unset] [(.int p3)])) _
    refine X1.ldcInt hx hown (mvT hZ (hw _ (List.mem_of_getElem? (i := 0) rfl))) (g := (mkF m 20 #[.val (.int p1), .val (.int p2), .val (.int p3), .val (.int p4), .val (.int p5), .val (.int (own_s p2)), .val (.int (own_d p4)), .unset, .unset, .unset, .unset] [(.int p3)])) rfl (hb hby at_20) _ ?_
    show Steps p.tables e below (T1.setTop (mkF m 22 #[.val (.int p1), .val (.int p2), .val (.int p3), .val (.int p4), .val (.int p5), .val (.int (own_s p2)), .val (.int (own_d p4)), .unset, .unset, .unset, .unset] [(.int (2147483647 : Int32)), (.int p3)])) _
    refine XS.iand X1.here hx rfl (hb hby at_22) rfl ?_
    show Steps p.tables e below (T1.setTop (mkF m 23 #[.val (.int p1), .val (.int p2), .val (.int p3), .val (.int p4), .val (.int p5), .val (.int (own_s p2)), .val (.int (own_d p4)), .unset, .unset, .unset, .unset] [(.int (p3 &&& (2147483647 : Int32)))])) _
    refine XS.iload X1.here hx rfl (hb hby at_23) rfl ?_
    show Steps p.tables e below (T1.setTop (mkF m 25 #[.val (.int p1), .val (.int p2), .val (.int p3), .val (.int p4), .val (.int p5), .val (.int (own_s p2)), .val (.int (own_d p4)), .unset, .unset, .unset, .unset] [(.int (own_d p4)), (.int (p3 &&& (2147483647 : Int32)))])) _
    refine XS.iconst X1.here hx rfl (hb hby at_25) ?_
    show Steps p.tables e below (T1.setTop (mkF m 26 #[.val (.int p1), .val (.int p2), .val (.int p3), .val (.int p4), .val (.int p5), .val (.int (own_s p2)), .val (.int (own_d p4)), .unset, .unset, .unset, .unset] [(.int (1 : Int32)), (.int (own_d p4)), (.int (p3 &&& (2147483647 : Int32)))])) _
    refine XS.iadd X1.here hx rfl (hb hby at_26) rfl ?_
    show Steps p.tables e below (T1.setTop (mkF m 27 #[.val (.int p1), .val (.int p2), .val (.int p3), .val (.int p4), .val (.int p5), .val (.int (own_s p2)), .val (.int (own_d p4)), .unset, .unset, .unset, .unset] [(.int ((own_d p4) + (1 : Int32))), (.int (p3 &&& (2147483647 : Int32)))])) _
    refine XS.irem X1.here hx rfl (hb hby at_27) rfl (own_nz p4) ?_
    show Steps p.tables e below (T1.setTop (mkF m 28 #[.val (.int p1), .val (.int p2), .val (.int p3), .val (.int p4), .val (.int p5), .val (.int (own_s p2)), .val (.int (own_d p4)), .unset, .unset, .unset, .unset] [(.int ((p3 &&& (2147483647 : Int32)) - ((p3 &&& (2147483647 : Int32)) / ((own_d p4) + (1 : Int32))) * ((own_d p4) + (1 : Int32))))])) _
    refine XS.istore X1.here hx rfl (hb hby at_28) rfl (l' := #[.val (.int p1), .val (.int p2), .val (.int p3), .val (.int p4), .val (.int p5), .val (.int (own_s p2)), .val (.int (own_d p4)), .val (.int ((p3 &&& (2147483647 : Int32)) - ((p3 &&& (2147483647 : Int32)) / ((own_d p4) + (1 : Int32))) * ((own_d p4) + (1 : Int32)))), .unset, .unset, .unset]) rfl ?_
    show Steps p.tables e below (T1.setTop (mkF m 30 #[.val (.int p1), .val (.int p2), .val (.int p3), .val (.int p4), .val (.int p5), .val (.int (own_s p2)), .val (.int (own_d p4)), .val (.int (own_k p3 p4)), .unset, .unset, .unset] [])) _
    refine XS.iload X1.here hx rfl (hb hby at_30) rfl ?_
    show Steps p.tables e below (T1.setTop (mkF m 32 #[.val (.int p1), .val (.int p2), .val (.int p3), .val (.int p4), .val (.int p5), .val (.int (own_s p2)), .val (.int (own_d p4)), .val (.int (own_k p3 p4)), .unset, .unset, .unset] [(.int p5)])) _
    refine st2 _ ?_
    show Steps p.tables e below (T2.setTop (mkF m 35 #[.val (.int p1), .val (.int p2), .val (.int p3), .val (.int p4), .val (.int p5), .val (.int (own_s p2)), .val (.int (own_d p4)), .val (.int (own_k p3 p4)), .unset, .unset, .unset] [(.ref am)])) _
    refine XS.astore X2.here hx rfl (hb hby at_35) rfl rfl (l' := #[.val (.int p1), .val (.int p2), .val (.int p3), .val (.int p4), .val (.int p5), .val (.int (own_s p2)), .val (.int (own_d p4)), .val (.int (own_k p3 p4)), .val (.ref am), .unset, .unset]) rfl ?_
    show Steps p.tables e below (T2.setTop (mkF m 37 #[.val (.int p1), .val (.int p2), .val (.int p3), .val (.int p4), .val (.int p5), .val (.int (own_s p2)), .val (.int (own_d p4)), .val (.int (own_k p3 p4)), .val (.ref am), .unset, .unset] [])) _
    refine st3 _ ?_
    show Steps p.tables e below (T3.setTop (mkF m 40 #[.val (.int p1), .val (.int p2), .val (.int p3), .val (.int p4), .val (.int p5), .val (.int (own_s p2)), .val (.int (own_d p4)), .val (.int (own_k p3 p4)), .val (.ref am), .unset, .unset] [(.ref b3)])) _
    refine XS.dup X3.here hx rfl (hb hby at_40) rfl rfl ?_
    show Steps p.tables e below (T3.setTop (mkF m 41 #[.val (.int p1), .val (.int p2), .val (.int p3), .val (.int p4), .val (.int p5), .val (.int (own_s p2)), .val (.int (own_d p4)), .val (.int (own_k p3 p4)), .val (.ref am), .unset, .unset] [(.ref b3), (.ref b3)])) _
    refine XS.aload X3.here hx rfl (hb hby at_41) rfl rfl ?_
    show Steps p.tables e below (T3.setTop (mkF m 43 #[.val (.int p1), .val (.int p2), .val (.int p3), .val (.int p4), .val (.int p5), .val (.int (own_s p2)), .val (.int (own_d p4)), .val (.int (own_k p3 p4)), .val (.ref am), .unset, .unset] [(.ref am), (.ref b3), (.ref b3)])) _
    refine XS.iload X3.here hx rfl (hb hby at_43) rfl ?_
    show Steps p.tables e below (T3.setTop (mkF m 45 #[.val (.int p1), .val (.int p2), .val (.int p3), .val (.int p4), .val (.int p5), .val (.int (own_s p2)), .val (.int (own_d p4)), .val (.int (own_k p3 p4)), .val (.ref am), .unset, .unset] [(.int (own_k p3 p4)), (.ref am), (.ref b3), (.ref b3)])) _
    refine XS.i2dS X3.here hx rfl (hb hby at_45) rfl rfl ?_
    show Steps p.tables e below (T3.setTop (mkF m 46 #[.val (.int p1), .val (.int p2), .val (.int p3), .val (.int p4), .val (.int p5), .val (.int (own_s p2)), .val (.int (own_d p4)), .val (.int (own_k p3 p4)), .val (.ref am), .unset, .unset] [(.double (FP.i2d (own_k p3 p4))), (.ref am), (.ref b3), (.ref b3)])) _
    refine XS.iload X3.here hx rfl (hb hby at_46) rfl ?_
    show Steps p.tables e below (T3.setTop (mkF m 48 #[.val (.int p1), .val (.int p2), .val (.int p3), .val (.int p4), .val (.int p5), .val (.int (own_s p2)), .val (.int (own_d p4)), .val (.int (own_k p3 p4)), .val (.ref am), .unset, .unset] [(.int (own_d p4)), (.double (FP.i2d (own_k p3 p4))), (.ref am), (.ref b3), (.ref b3)])) _
    refine XS.i2dS X3.here hx rfl (hb hby at_48) rfl rfl ?_
    show Steps p.tables e below (T3.setTop (mkF m 49 #[.val (.int p1), .val (.int p2), .val (.int p3), .val (.int p4), .val (.int p5), .val (.int (own_s p2)), .val (.int (own_d p4)), .val (.int (own_k p3 p4)), .val (.ref am), .unset, .unset] [(.double (FP.i2d (own_d p4))), (.double (FP.i2d (own_k p3 p4))), (.ref am), (.ref b3), (.ref b3)])) _
    refine XS.ddivS X3.here hx rfl (hb hby at_49) rfl (own_q_nn _ _ (own_k_rng p3 p4).1 (by have := own_d_rng p4; omega)) rfl ?_
    show Steps p.tables e below (T3.setTop (mkF m 50 #[.val (.int p1), .val (.int p2), .val (.int p3), .val (.int p4), .val (.int p5), .val (.int (own_s p2)), .val (.int (own_d p4)), .val (.int (own_k p3 p4)), .val (.ref am), .unset, .unset] [(.double (own_q (own_k p3 p4) (own_d p4))), (.ref am), (.ref b3), (.ref b3)])) _
    refine st4.trans ?_
    show Steps p.tables e below (T4.setTop (mkF m 53 #[.val (.int p1), .val (.int p2), .val (.int p3), .val (.int p4), .val (.int p5), .val (.int (own_s p2)), .val (.int (own_d p4)), .val (.int (own_k p3 p4)), .val (.ref am), .unset, .unset] [(.ref b3)])) _
    refine XS.astore X4.here hx rfl (hb hby at_53) rfl rfl (l' := #[.val (.int p1), .val (.int p2), .val (.int p3), .val (.int p4), .val (.int p5), .val (.int (own_s p2)), .val (.int (own_d p4)), .val (.int (own_k p3 p4)), .val (.ref am), .val (.ref b3), .unset]) rfl ?_
    show Steps p.tables e below (T4.setTop (mkF m 55 #[.val (.int p1), .val (.int p2), .val (.int p3), .val (.int p4), .val (.int p5), .val (.int (own_s p2)), .val (.int (own_d p4)), .val (.int (own_k p3 p4)), .val (.ref am), .val (.ref b3), .unset] [])) _
    refine XS.iloadN X4.here hx rfl (hb hby at_55) rfl ?_
    exact kt
  by_cases hc56 : (0 : Int32) < p1
  · have pre_6 : ∀ t, Steps p.tables e below (T4.setTop (mkF m 73 #[.val (.int p1), .val (.int p2), .val (.int p3), .val (.int p4), .val (.int p5), .val (.int (own_s p2)), .val (.int (own_d p4)), .val (.int (own_k p3 p4)), .val (.ref am), .val (.ref b3), .unset] [(.int (lcmpW ((p1.toInt64) * ((own_d p4).toInt64)) (((own_k p3 p4).toInt64) * ((own_s p2).toInt64))))])) t → Steps p.tables e below (s₁.setTop (entryFrame m #[(.int p1), (.int p2), (.int p3), (.int p4), (.int p5)] maxLocals)) t := by
      intro t kt
      refine pre_5 _ ?_
      show Steps p.tables e below (T4.setTop (mkF m 56 #[.val (.int p1), .val (.int p2), .val (.int p3), .val (.int p4), .val (.int p5), .val (.int (own_s p2)), .val (.int (own_d p4)), .val (.int (own_k p3 p4)), .val (.ref am), .val (.ref b3), .unset] [(.int p1)])) _
      refine XS.ifNo X4.here hx rfl (hb hby at_56) rfl ((if0 _ _).trans (tlt hc56).2.2.2) ?_
      show Steps p.tables e below (T4.setTop (mkF m 59 #[.val (.int p1), .val (.int p2), .val (.int p3), .val (.int p4), .val (.int p5), .val (.int (own_s p2)), .val (.int (own_d p4)), .val (.int (own_k p3 p4)), .val (.ref am), .val (.ref b3), .unset] [])) _
      refine XS.iloadN X4.here hx rfl (hb hby at_59) rfl ?_
      show Steps p.tables e below (T4.setTop (mkF m 60 #[.val (.int p1), .val (.int p2), .val (.int p3), .val (.int p4), .val (.int p5), .val (.int (own_s p2)), .val (.int (own_d p4)), .val (.int (own_k p3 p4)), .val (.ref am), .val (.ref b3), .unset] [(.int p1)])) _
      refine XS.i2l X4.here hx rfl (hb hby at_60) rfl ?_
      show Steps p.tables e below (T4.setTop (mkF m 61 #[.val (.int p1), .val (.int p2), .val (.int p3), .val (.int p4), .val (.int p5), .val (.int (own_s p2)), .val (.int (own_d p4)), .val (.int (own_k p3 p4)), .val (.ref am), .val (.ref b3), .unset] [(.long (p1.toInt64))])) _
      refine XS.iload X4.here hx rfl (hb hby at_61) rfl ?_
      show Steps p.tables e below (T4.setTop (mkF m 63 #[.val (.int p1), .val (.int p2), .val (.int p3), .val (.int p4), .val (.int p5), .val (.int (own_s p2)), .val (.int (own_d p4)), .val (.int (own_k p3 p4)), .val (.ref am), .val (.ref b3), .unset] [(.int (own_d p4)), (.long (p1.toInt64))])) _
      refine XS.i2l X4.here hx rfl (hb hby at_63) rfl ?_
      show Steps p.tables e below (T4.setTop (mkF m 64 #[.val (.int p1), .val (.int p2), .val (.int p3), .val (.int p4), .val (.int p5), .val (.int (own_s p2)), .val (.int (own_d p4)), .val (.int (own_k p3 p4)), .val (.ref am), .val (.ref b3), .unset] [(.long ((own_d p4).toInt64)), (.long (p1.toInt64))])) _
      refine XS.lmul X4.here hx rfl (hb hby at_64) rfl ?_
      show Steps p.tables e below (T4.setTop (mkF m 65 #[.val (.int p1), .val (.int p2), .val (.int p3), .val (.int p4), .val (.int p5), .val (.int (own_s p2)), .val (.int (own_d p4)), .val (.int (own_k p3 p4)), .val (.ref am), .val (.ref b3), .unset] [(.long ((p1.toInt64) * ((own_d p4).toInt64)))])) _
      refine XS.iload X4.here hx rfl (hb hby at_65) rfl ?_
      show Steps p.tables e below (T4.setTop (mkF m 67 #[.val (.int p1), .val (.int p2), .val (.int p3), .val (.int p4), .val (.int p5), .val (.int (own_s p2)), .val (.int (own_d p4)), .val (.int (own_k p3 p4)), .val (.ref am), .val (.ref b3), .unset] [(.int (own_k p3 p4)), (.long ((p1.toInt64) * ((own_d p4).toInt64)))])) _
      refine XS.i2l X4.here hx rfl (hb hby at_67) rfl ?_
      show Steps p.tables e below (T4.setTop (mkF m 68 #[.val (.int p1), .val (.int p2), .val (.int p3), .val (.int p4), .val (.int p5), .val (.int (own_s p2)), .val (.int (own_d p4)), .val (.int (own_k p3 p4)), .val (.ref am), .val (.ref b3), .unset] [(.long ((own_k p3 p4).toInt64)), (.long ((p1.toInt64) * ((own_d p4).toInt64)))])) _
      refine XS.iload X4.here hx rfl (hb hby at_68) rfl ?_
      show Steps p.tables e below (T4.setTop (mkF m 70 #[.val (.int p1), .val (.int p2), .val (.int p3), .val (.int p4), .val (.int p5), .val (.int (own_s p2)), .val (.int (own_d p4)), .val (.int (own_k p3 p4)), .val (.ref am), .val (.ref b3), .unset] [(.int (own_s p2)), (.long ((own_k p3 p4).toInt64)), (.long ((p1.toInt64) * ((own_d p4).toInt64)))])) _
      refine XS.i2l X4.here hx rfl (hb hby at_70) rfl ?_
      show Steps p.tables e below (T4.setTop (mkF m 71 #[.val (.int p1), .val (.int p2), .val (.int p3), .val (.int p4), .val (.int p5), .val (.int (own_s p2)), .val (.int (own_d p4)), .val (.int (own_k p3 p4)), .val (.ref am), .val (.ref b3), .unset] [(.long ((own_s p2).toInt64)), (.long ((own_k p3 p4).toInt64)), (.long ((p1.toInt64) * ((own_d p4).toInt64)))])) _
      refine XS.lmul X4.here hx rfl (hb hby at_71) rfl ?_
      show Steps p.tables e below (T4.setTop (mkF m 72 #[.val (.int p1), .val (.int p2), .val (.int p3), .val (.int p4), .val (.int p5), .val (.int (own_s p2)), .val (.int (own_d p4)), .val (.int (own_k p3 p4)), .val (.ref am), .val (.ref b3), .unset] [(.long (((own_k p3 p4).toInt64) * ((own_s p2).toInt64))), (.long ((p1.toInt64) * ((own_d p4).toInt64)))])) _
      refine XS.lcmp X4.here hx rfl (hb hby at_72) rfl ?_
      exact kt
    by_cases hc73 : (lcmpW ((p1.toInt64) * ((own_d p4).toInt64)) (((own_k p3 p4).toInt64) * ((own_s p2).toInt64))) < (0 : Int32)
    · obtain ⟨cq7, kq7, q7a, q7b, q7c⟩ := isOf hZ rfl fk4_0
      obtain ⟨_, _, ⟨T7, L7, k7, n7⟩, -, X7, ⟨Lc7, hQ7, l7, y7, z7⟩, st7⟩ := X4.virtualBack hx (y := (⟨"com/example/emberline/emberline/config/Aggregation", "makes", "(II)Z"⟩ : MethodName)) (z := (⟨"com/example/emberline/emberline/config/Aggregation", "makes", "(II)Z"⟩ : MethodName)) hown (mvT hZ (hw _ (List.mem_of_getElem? (i := 30) rfl))) (mvT hZ (hw _ (List.mem_of_getElem? (i := 31) rfl))) (notFace_of_selects (args := #[]) (mvT hZ (hw _ (List.mem_of_getElem? (i := 33) rfl)))) (mvT hZ (hw _ (List.mem_of_getElem? (i := 33) rfl))) (mvT hZ (hw _ (List.mem_of_getElem? (i := 32) rfl))) (by decide) (backOf (W := 0) (rm_mk l Z a0 hw [] b3 p1 (own_s p2) (own_q (own_k p3 p4) (own_d p4)) T4.heap n0 Z4 fk4_1 (own_s_pos p2)) hZ (hw _ (List.mem_of_getElem? (i := 34) rfl)) (hw _ (List.mem_of_getElem? (i := 14) rfl)) (by decide) (by decide)) q7a q7c (g := (mkF m 88 #[.val (.int p1), .val (.int p2), .val (.int p3), .val (.int p4), .val (.int p5), .val (.int (own_s p2)), .val (.int (own_d p4)), .val (.int (own_k p3 p4)), .val (.ref am), .val (.ref b3), .val (.int (0 : Int32))] [(.int (own_s p2)), (.int p1), (.ref b3)])) rfl (by rw [hml]; rfl) (Steps.refl _) (argsL := [(.int p1), (.int (own_s p2))]) (rest := []) (lenOf pd__II_Z_317 rfl) rfl (by show 2 * 0 + _ ≤ _; exact Nat.le_of_eq rfl) (hb hby at_88) (fun _ _ => ⟨rfl, rfl, (by decide : 1 + 0 ≤ _), (by decide : 2 + 0 ≤ _)⟩)
      dsimp only [Pt.U, Pt.locs, Pt.cells, Pt.slots] at X7 l7 y7 z7 st7 hQ7
      subst l7 y7 z7
      obtain ⟨rfl, N7q, e7⟩ := hQ7
      have N7 := Fr.app N4 N7q
      obtain ⟨fs, hr, hrun, hended, hW, hsame⟩ := X7.leave (v := some (.int (1 : Int32))) (fun h => by rw [Bd.returns] at h; cases h) (hlocks := Bd.notSynchronized)
      refine ⟨_, _, pre_6 _ ?_, hrun, hended, _, _, rfl, ?_, ⟨_, rfl⟩, hW, hsame.mono (by decide) (by decide)⟩
      · show Steps p.tables e below (T4.setTop (mkF m 73 #[.val (.int p1), .val (.int p2), .val (.int p3), .val (.int p4), .val (.int p5), .val (.int (own_s p2)), .val (.int (own_d p4)), .val (.int (own_k p3 p4)), .val (.ref am), .val (.ref b3), .unset] [(.int (lcmpW ((p1.toInt64) * ((own_d p4).toInt64)) (((own_k p3 p4).toInt64) * ((own_s p2).toInt64))))])) _
        refine XS.ifYes X4.here hx rfl (pc0 := 73) (pc' := 80) rfl (hb hby at_73) rfl ((if0 _ _).trans (tlt hc73).1) (by decide) (by decide) ?_
        show Steps p.tables e below (T4.setTop (mkF m 80 #[.val (.int p1), .val (.int p2), .val (.int p3), .val (.int p4), .val (.int p5), .val (.int (own_s p2)), .val (.int (own_d p4)), .val (.int (own_k p3 p4)), .val (.ref am), .val (.ref b3), .unset] [])) _
        refine XS.iconst X4.here hx rfl (hb hby at_80) ?_
        show Steps p.tables e below (T4.setTop (mkF m 81 #[.val (.int p1), .val (.int p2), .val (.int p3), .val (.int p4), .val (.int p5), .val (.int (own_s p2)), .val (.int (own_d p4)), .val (.int (own_k p3 p4)), .val (.ref am), .val (.ref b3), .unset] [(.int (0 : Int32))])) _
        refine XS.istore X4.here hx rfl (hb hby at_81) rfl (l' := #[.val (.int p1), .val (.int p2), .val (.int p3), .val (.int p4), .val (.int p5), .val (.int (own_s p2)), .val (.int (own_d p4)), .val (.int (own_k p3 p4)), .val (.ref am), .val (.ref b3), .val (.int (0 : Int32))]) rfl ?_
        show Steps p.tables e below (T4.setTop (mkF m 83 #[.val (.int p1), .val (.int p2), .val (.int p3), .val (.int p4), .val (.int p5), .val (.int (own_s p2)), .val (.int (own_d p4)), .val (.int (own_k p3 p4)), .val (.ref am), .val (.ref b3), .val (.int (0 : Int32))] [])) _
        refine XS.aload X4.here hx rfl (hb hby at_83) rfl rfl ?_
        show Steps p.tables e below (T4.setTop (mkF m 85 #[.val (.int p1), .val (.int p2), .val (.int p3), .val (.int p4), .val (.int p5), .val (.int (own_s p2)), .val (.int (own_d p4)), .val (.int (own_k p3 p4)), .val (.ref am), .val (.ref b3), .val (.int (0 : Int32))] [(.ref b3)])) _
        refine XS.iloadN X4.here hx rfl (hb hby at_85) rfl ?_
        show Steps p.tables e below (T4.setTop (mkF m 86 #[.val (.int p1), .val (.int p2), .val (.int p3), .val (.int p4), .val (.int p5), .val (.int (own_s p2)), .val (.int (own_d p4)), .val (.int (own_k p3 p4)), .val (.ref am), .val (.ref b3), .val (.int (0 : Int32))] [(.int p1), (.ref b3)])) _
        refine XS.iload X4.here hx rfl (hb hby at_86) rfl ?_
        show Steps p.tables e below (T4.setTop (mkF m 88 #[.val (.int p1), .val (.int p2), .val (.int p3), .val (.int p4), .val (.int p5), .val (.int (own_s p2)), .val (.int (own_d p4)), .val (.int (own_k p3 p4)), .val (.ref am), .val (.ref b3), .val (.int (0 : Int32))] [(.int (own_s p2)), (.int p1), (.ref b3)])) _
        refine st7.trans ?_
        show Steps p.tables e below (T7.setTop (mkF m 91 #[.val (.int p1), .val (.int p2), .val (.int p3), .val (.int p4), .val (.int p5), .val (.int (own_s p2)), .val (.int (own_d p4)), .val (.int (own_k p3 p4)), .val (.ref am), .val (.ref b3), .val (.int (0 : Int32))] [(.int (own_mk p1 (own_s p2) (own_q (own_k p3 p4) (own_d p4))))])) _
        refine XS.iload X7.here hx rfl (hb hby at_91) rfl ?_
        show Steps p.tables e below (T7.setTop (mkF m 93 #[.val (.int p1), .val (.int p2), .val (.int p3), .val (.int p4), .val (.int p5), .val (.int (own_s p2)), .val (.int (own_d p4)), .val (.int (own_k p3 p4)), .val (.ref am), .val (.ref b3), .val (.int (0 : Int32))] [(.int (0 : Int32)), (.int (own_mk p1 (own_s p2) (own_q (own_k p3 p4) (own_d p4))))])) _
        refine XS.icmpNo X7.here hx rfl (hb hby at_93) rfl (teq (own_leafB p1 p2 p3 p4 hc56 hc73)).2 ?_
        show Steps p.tables e below (T7.setTop (mkF m 96 #[.val (.int p1), .val (.int p2), .val (.int p3), .val (.int p4), .val (.int p5), .val (.int (own_s p2)), .val (.int (own_d p4)), .val (.int (own_k p3 p4)), .val (.ref am), .val (.ref b3), .val (.int (0 : Int32))] [])) _
        refine XS.iconst X7.here hx rfl (hb hby at_96) ?_
        show Steps p.tables e below (T7.setTop (mkF m 97 #[.val (.int p1), .val (.int p2), .val (.int p3), .val (.int p4), .val (.int p5), .val (.int (own_s p2)), .val (.int (own_d p4)), .val (.int (own_k p3 p4)), .val (.ref am), .val (.ref b3), .val (.int (0 : Int32))] [(.int (1 : Int32))])) _
        refine XS.goto X7.here hx rfl (pc0 := 97) (pc' := 101) rfl (hb hby at_97) (by decide) (by decide) ?_
        show Steps p.tables e below (T7.setTop (mkF m 101 #[.val (.int p1), .val (.int p2), .val (.int p3), .val (.int p4), .val (.int p5), .val (.int (own_s p2)), .val (.int (own_d p4)), .val (.int (own_k p3 p4)), .val (.ref am), .val (.ref b3), .val (.int (0 : Int32))] [(.int (1 : Int32))])) _
        exact retN X7 hx (t := .boolean) Bd.returns (by simp) (hb hby at_101) hr
      · show Q_rm0 Z p1 p2 p3 p4 p5 c_AVERAGE c_SUM c_MIN c_MAX c_LAST h0 n0 _ T7.heap _
        rw [e7]
        exact ⟨rfl, N7⟩
    · obtain ⟨cq8, kq8, q8a, q8b, q8c⟩ := isOf hZ rfl fk4_0
      obtain ⟨_, _, ⟨T8, L8, k8, n8⟩, -, X8, ⟨Lc8, hQ8, l8, y8, z8⟩, st8⟩ := X4.virtualBack hx (y := (⟨"com/example/emberline/emberline/config/Aggregation", "makes", "(II)Z"⟩ : MethodName)) (z := (⟨"com/example/emberline/emberline/config/Aggregation", "makes", "(II)Z"⟩ : MethodName)) hown (mvT hZ (hw _ (List.mem_of_getElem? (i := 30) rfl))) (mvT hZ (hw _ (List.mem_of_getElem? (i := 31) rfl))) (notFace_of_selects (args := #[]) (mvT hZ (hw _ (List.mem_of_getElem? (i := 33) rfl)))) (mvT hZ (hw _ (List.mem_of_getElem? (i := 33) rfl))) (mvT hZ (hw _ (List.mem_of_getElem? (i := 32) rfl))) (by decide) (backOf (W := 0) (rm_mk l Z a0 hw [] b3 p1 (own_s p2) (own_q (own_k p3 p4) (own_d p4)) T4.heap n0 Z4 fk4_1 (own_s_pos p2)) hZ (hw _ (List.mem_of_getElem? (i := 34) rfl)) (hw _ (List.mem_of_getElem? (i := 14) rfl)) (by decide) (by decide)) q8a q8c (g := (mkF m 88 #[.val (.int p1), .val (.int p2), .val (.int p3), .val (.int p4), .val (.int p5), .val (.int (own_s p2)), .val (.int (own_d p4)), .val (.int (own_k p3 p4)), .val (.ref am), .val (.ref b3), .val (.int (1 : Int32))] [(.int (own_s p2)), (.int p1), (.ref b3)])) rfl (by rw [hml]; rfl) (Steps.refl _) (argsL := [(.int p1), (.int (own_s p2))]) (rest := []) (lenOf pd__II_Z_317 rfl) rfl (by show 2 * 0 + _ ≤ _; exact Nat.le_of_eq rfl) (hb hby at_88) (fun _ _ => ⟨rfl, rfl, (by decide : 1 + 0 ≤ _), (by decide : 2 + 0 ≤ _)⟩)
      dsimp only [Pt.U, Pt.locs, Pt.cells, Pt.slots] at X8 l8 y8 z8 st8 hQ8
      subst l8 y8 z8
      obtain ⟨rfl, N8q, e8⟩ := hQ8
      have N8 := Fr.app N4 N8q
      obtain ⟨fs, hr, hrun, hended, hW, hsame⟩ := X8.leave (v := some (.int (1 : Int32))) (fun h => by rw [Bd.returns] at h; cases h) (hlocks := Bd.notSynchronized)
      refine ⟨_, _, pre_6 _ ?_, hrun, hended, _, _, rfl, ?_, ⟨_, rfl⟩, hW, hsame.mono (by decide) (by decide)⟩
      · show Steps p.tables e below (T4.setTop (mkF m 73 #[.val (.int p1), .val (.int p2), .val (.int p3), .val (.int p4), .val (.int p5), .val (.int (own_s p2)), .val (.int (own_d p4)), .val (.int (own_k p3 p4)), .val (.ref am), .val (.ref b3), .unset] [(.int (lcmpW ((p1.toInt64) * ((own_d p4).toInt64)) (((own_k p3 p4).toInt64) * ((own_s p2).toInt64))))])) _
        refine XS.ifNo X4.here hx rfl (hb hby at_73) rfl ((if0 _ _).trans (flt hc73).1) ?_
        show Steps p.tables e below (T4.setTop (mkF m 76 #[.val (.int p1), .val (.int p2), .val (.int p3), .val (.int p4), .val (.int p5), .val (.int (own_s p2)), .val (.int (own_d p4)), .val (.int (own_k p3 p4)), .val (.ref am), .val (.ref b3), .unset] [])) _
        refine XS.iconst X4.here hx rfl (hb hby at_76) ?_
        show Steps p.tables e below (T4.setTop (mkF m 77 #[.val (.int p1), .val (.int p2), .val (.int p3), .val (.int p4), .val (.int p5), .val (.int (own_s p2)), .val (.int (own_d p4)), .val (.int (own_k p3 p4)), .val (.ref am), .val (.ref b3), .unset] [(.int (1 : Int32))])) _
        refine XS.goto X4.here hx rfl (pc0 := 77) (pc' := 81) rfl (hb hby at_77) (by decide) (by decide) ?_
        show Steps p.tables e below (T4.setTop (mkF m 81 #[.val (.int p1), .val (.int p2), .val (.int p3), .val (.int p4), .val (.int p5), .val (.int (own_s p2)), .val (.int (own_d p4)), .val (.int (own_k p3 p4)), .val (.ref am), .val (.ref b3), .unset] [(.int (1 : Int32))])) _
        refine XS.istore X4.here hx rfl (hb hby at_81) rfl (l' := #[.val (.int p1), .val (.int p2), .val (.int p3), .val (.int p4), .val (.int p5), .val (.int (own_s p2)), .val (.int (own_d p4)), .val (.int (own_k p3 p4)), .val (.ref am), .val (.ref b3), .val (.int (1 : Int32))]) rfl ?_
        show Steps p.tables e below (T4.setTop (mkF m 83 #[.val (.int p1), .val (.int p2), .val (.int p3), .val (.int p4), .val (.int p5), .val (.int (own_s p2)), .val (.int (own_d p4)), .val (.int (own_k p3 p4)), .val (.ref am), .val (.ref b3), .val (.int (1 : Int32))] [])) _
        refine XS.aload X4.here hx rfl (hb hby at_83) rfl rfl ?_
        show Steps p.tables e below (T4.setTop (mkF m 85 #[.val (.int p1), .val (.int p2), .val (.int p3), .val (.int p4), .val (.int p5), .val (.int (own_s p2)), .val (.int (own_d p4)), .val (.int (own_k p3 p4)), .val (.ref am), .val (.ref b3), .val (.int (1 : Int32))] [(.ref b3)])) _
        refine XS.iloadN X4.here hx rfl (hb hby at_85) rfl ?_
        show Steps p.tables e below (T4.setTop (mkF m 86 #[.val (.int p1), .val (.int p2), .val (.int p3), .val (.int p4), .val (.int p5), .val (.int (own_s p2)), .val (.int (own_d p4)), .val (.int (own_k p3 p4)), .val (.ref am), .val (.ref b3), .val (.int (1 : Int32))] [(.int p1), (.ref b3)])) _
        refine XS.iload X4.here hx rfl (hb hby at_86) rfl ?_
        show Steps p.tables e below (T4.setTop (mkF m 88 #[.val (.int p1), .val (.int p2), .val (.int p3), .val (.int p4), .val (.int p5), .val (.int (own_s p2)), .val (.int (own_d p4)), .val (.int (own_k p3 p4)), .val (.ref am), .val (.ref b3), .val (.int (1 : Int32))] [(.int (own_s p2)), (.int p1), (.ref b3)])) _
        refine st8.trans ?_
        show Steps p.tables e below (T8.setTop (mkF m 91 #[.val (.int p1), .val (.int p2), .val (.int p3), .val (.int p4), .val (.int p5), .val (.int (own_s p2)), .val (.int (own_d p4)), .val (.int (own_k p3 p4)), .val (.ref am), .val (.ref b3), .val (.int (1 : Int32))] [(.int (own_mk p1 (own_s p2) (own_q (own_k p3 p4) (own_d p4))))])) _
        refine XS.iload X8.here hx rfl (hb hby at_91) rfl ?_
        show Steps p.tables e below (T8.setTop (mkF m 93 #[.val (.int p1), .val (.int p2), .val (.int p3), .val (.int p4), .val (.int p5), .val (.int (own_s p2)), .val (.int (own_d p4)), .val (.int (own_k p3 p4)), .val (.ref am), .val (.ref b3), .val (.int (1 : Int32))] [(.int (1 : Int32)), (.int (own_mk p1 (own_s p2) (own_q (own_k p3 p4) (own_d p4))))])) _
        refine XS.icmpNo X8.here hx rfl (hb hby at_93) rfl (teq (own_leafC p1 p2 p3 p4 hc56 hc73)).2 ?_
        show Steps p.tables e below (T8.setTop (mkF m 96 #[.val (.int p1), .val (.int p2), .val (.int p3), .val (.int p4), .val (.int p5), .val (.int (own_s p2)), .val (.int (own_d p4)), .val (.int (own_k p3 p4)), .val (.ref am), .val (.ref b3), .val (.int (1 : Int32))] [])) _
        refine XS.iconst X8.here hx rfl (hb hby at_96) ?_
        show Steps p.tables e below (T8.setTop (mkF m 97 #[.val (.int p1), .val (.int p2), .val (.int p3), .val (.int p4), .val (.int p5), .val (.int (own_s p2)), .val (.int (own_d p4)), .val (.int (own_k p3 p4)), .val (.ref am), .val (.ref b3), .val (.int (1 : Int32))] [(.int (1 : Int32))])) _
        refine XS.goto X8.here hx rfl (pc0 := 97) (pc' := 101) rfl (hb hby at_97) (by decide) (by decide) ?_
        show Steps p.tables e below (T8.setTop (mkF m 101 #[.val (.int p1), .val (.int p2), .val (.int p3), .val (.int p4), .val (.int p5), .val (.int (own_s p2)), .val (.int (own_d p4)), .val (.int (own_k p3 p4)), .val (.ref am), .val (.ref b3), .val (.int (1 : Int32))] [(.int (1 : Int32))])) _
        exact retN X8 hx (t := .boolean) Bd.returns (by simp) (hb hby at_101) hr
      · show Q_rm0 Z p1 p2 p3 p4 p5 c_AVERAGE c_SUM c_MIN c_MAX c_LAST h0 n0 _ T8.heap _
        rw [e8]
        exact ⟨rfl, N8⟩
  · obtain ⟨cq9, kq9, q9a, q9b, q9c⟩ := isOf hZ rfl fk4_0
    obtain ⟨_, _, ⟨T9, L9, k9, n9⟩, -, X9, ⟨Lc9, hQ9, l9, y9, z9⟩, st9⟩ := X4.virtualBack hx (y := (⟨"com/example/emberline/emberline/config/Aggregation", "makes", "(II)Z"⟩ : MethodName)) (z := (⟨"com/example/emberline/emberline/config/Aggregation", "makes", "(II)Z"⟩ : MethodName)) hown (mvT hZ (hw _ (List.mem_of_getElem? (i := 30) rfl))) (mvT hZ (hw _ (List.mem_of_getElem? (i := 31) rfl))) (notFace_of_selects (args := #[]) (mvT hZ (hw _ (List.mem_of_getElem? (i := 33) rfl)))) (mvT hZ (hw _ (List.mem_of_getElem? (i := 33) rfl))) (mvT hZ (hw _ (List.mem_of_getElem? (i := 32) rfl))) (by decide) (backOf (W := 0) (rm_mk l Z a0 hw [] b3 p1 (own_s p2) (own_q (own_k p3 p4) (own_d p4)) T4.heap n0 Z4 fk4_1 (own_s_pos p2)) hZ (hw _ (List.mem_of_getElem? (i := 34) rfl)) (hw _ (List.mem_of_getElem? (i := 14) rfl)) (by decide) (by decide)) q9a q9c (g := (mkF m 88 #[.val (.int p1), .val (.int p2), .val (.int p3), .val (.int p4), .val (.int p5), .val (.int (own_s p2)), .val (.int (own_d p4)), .val (.int (own_k p3 p4)), .val (.ref am), .val (.ref b3), .val (.int (0 : Int32))] [(.int (own_s p2)), (.int p1), (.ref b3)])) rfl (by rw [hml]; rfl) (Steps.refl _) (argsL := [(.int p1), (.int (own_s p2))]) (rest := []) (lenOf pd__II_Z_317 rfl) rfl (by show 2 * 0 + _ ≤ _; exact Nat.le_of_eq rfl) (hb hby at_88) (fun _ _ => ⟨rfl, rfl, (by decide : 1 + 0 ≤ _), (by decide : 2 + 0 ≤ _)⟩)
    dsimp only [Pt.U, Pt.locs, Pt.cells, Pt.slots] at X9 l9 y9 z9 st9 hQ9
    subst l9 y9 z9
    obtain ⟨rfl, N9q, e9⟩ := hQ9
    have N9 := Fr.app N4 N9q
    obtain ⟨fs, hr, hrun, hended, hW, hsame⟩ := X9.leave (v := some (.int (1 : Int32))) (fun h => by rw [Bd.returns] at h; cases h) (hlocks := Bd.notSynchronized)
    refine ⟨_, _, pre_5 _ ?_, hrun, hended, _, _, rfl, ?_, ⟨_, rfl⟩, hW, hsame.mono (by decide) (by decide)⟩
    · show Steps p.tables e below (T4.setTop (mkF m 56 #[.val (.int p1), .val (.int p2), .val (.int p3), .val (.int p4), .val (.int p5), .val (.int (own_s p2)), .val (.int (own_d p4)), .val (.int (own_k p3 p4)), .val (.ref am), .val (.ref b3), .unset] [(.int p1)])) _
      refine XS.ifYes X4.here hx rfl (pc0 := 56) (pc' := 80) rfl (hb hby at_56) rfl ((if0 _ _).trans (flt hc56).2.2.2) (by decide) (by decide) ?_
      show Steps p.tables e below (T4.setTop (mkF m 80 #[.val (.int p1), .val (.int p2), .val (.int p3), .val (.int p4), .val (.int p5), .val (.int (own_s p2)), .val (.int (own_d p4)), .val (.int (own_k p3 p4)), .val (.ref am), .val (.ref b3), .unset] [])) _
      refine XS.iconst X4.here hx rfl (hb hby at_80) ?_
      show Steps p.tables e below (T4.setTop (mkF m 81 #[.val (.int p1), .val (.int p2), .val (.int p3), .val (.int p4), .val (.int p5), .val (.int (own_s p2)), .val (.int (own_d p4)), .val (.int (own_k p3 p4)), .val (.ref am), .val (.ref b3), .unset] [(.int (0 : Int32))])) _
      refine XS.istore X4.here hx rfl (hb hby at_81) rfl (l' := #[.val (.int p1), .val (.int p2), .val (.int p3), .val (.int p4), .val (.int p5), .val (.int (own_s p2)), .val (.int (own_d p4)), .val (.int (own_k p3 p4)), .val (.ref am), .val (.ref b3), .val (.int (0 : Int32))]) rfl ?_
      show Steps p.tables e below (T4.setTop (mkF m 83 #[.val (.int p1), .val (.int p2), .val (.int p3), .val (.int p4), .val (.int p5), .val (.int (own_s p2)), .val (.int (own_d p4)), .val (.int (own_k p3 p4)), .val (.ref am), .val (.ref b3), .val (.int (0 : Int32))] [])) _
      refine XS.aload X4.here hx rfl (hb hby at_83) rfl rfl ?_
      show Steps p.tables e below (T4.setTop (mkF m 85 #[.val (.int p1), .val (.int p2), .val (.int p3), .val (.int p4), .val (.int p5), .val (.int (own_s p2)), .val (.int (own_d p4)), .val (.int (own_k p3 p4)), .val (.ref am), .val (.ref b3), .val (.int (0 : Int32))] [(.ref b3)])) _
      refine XS.iloadN X4.here hx rfl (hb hby at_85) rfl ?_
      show Steps p.tables e below (T4.setTop (mkF m 86 #[.val (.int p1), .val (.int p2), .val (.int p3), .val (.int p4), .val (.int p5), .val (.int (own_s p2)), .val (.int (own_d p4)), .val (.int (own_k p3 p4)), .val (.ref am), .val (.ref b3), .val (.int (0 : Int32))] [(.int p1), (.ref b3)])) _
      refine XS.iload X4.here hx rfl (hb hby at_86) rfl ?_
      show Steps p.tables e below (T4.setTop (mkF m 88 #[.val (.int p1), .val (.int p2), .val (.int p3), .val (.int p4), .val (.int p5), .val (.int (own_s p2)), .val (.int (own_d p4)), .val (.int (own_k p3 p4)), .val (.ref am), .val (.ref b3), .val (.int (0 : Int32))] [(.int (own_s p2)), (.int p1), (.ref b3)])) _
      refine st9.trans ?_
      show Steps p.tables e below (T9.setTop (mkF m 91 #[.val (.int p1), .val (.int p2), .val (.int p3), .val (.int p4), .val (.int p5), .val (.int (own_s p2)), .val (.int (own_d p4)), .val (.int (own_k p3 p4)), .val (.ref am), .val (.ref b3), .val (.int (0 : Int32))] [(.int (own_mk p1 (own_s p2) (own_q (own_k p3 p4) (own_d p4))))])) _
      refine XS.iload X9.here hx rfl (hb hby at_91) rfl ?_
      show Steps p.tables e below (T9.setTop (mkF m 93 #[.val (.int p1), .val (.int p2), .val (.int p3), .val (.int p4), .val (.int p5), .val (.int (own_s p2)), .val (.int (own_d p4)), .val (.int (own_k p3 p4)), .val (.ref am), .val (.ref b3), .val (.int (0 : Int32))] [(.int (0 : Int32)), (.int (own_mk p1 (own_s p2) (own_q (own_k p3 p4) (own_d p4))))])) _
      refine XS.icmpNo X9.here hx rfl (hb hby at_93) rfl (teq (by rw [own_mk, if_neg hc56])).2 ?_
      show Steps p.tables e below (T9.setTop (mkF m 96 #[.val (.int p1), .val (.int p2), .val (.int p3), .val (.int p4), .val (.int p5), .val (.int (own_s p2)), .val (.int (own_d p4)), .val (.int (own_k p3 p4)), .val (.ref am), .val (.ref b3), .val (.int (0 : Int32))] [])) _
      refine XS.iconst X9.here hx rfl (hb hby at_96) ?_
      show Steps p.tables e below (T9.setTop (mkF m 97 #[.val (.int p1), .val (.int p2), .val (.int p3), .val (.int p4), .val (.int p5), .val (.int (own_s p2)), .val (.int (own_d p4)), .val (.int (own_k p3 p4)), .val (.ref am), .val (.ref b3), .val (.int (0 : Int32))] [(.int (1 : Int32))])) _
      refine XS.goto X9.here hx rfl (pc0 := 97) (pc' := 101) rfl (hb hby at_97) (by decide) (by decide) ?_
      show Steps p.tables e below (T9.setTop (mkF m 101 #[.val (.int p1), .val (.int p2), .val (.int p3), .val (.int p4), .val (.int p5), .val (.int (own_s p2)), .val (.int (own_d p4)), .val (.int (own_k p3 p4)), .val (.ref am), .val (.ref b3), .val (.int (0 : Int32))] [(.int (1 : Int32))])) _
      exact retN X9 hx (t := .boolean) Bd.returns (by simp) (hb hby at_101) hr
    · show Q_rm0 Z p1 p2 p3 p4 p5 c_AVERAGE c_SUM c_MIN c_MAX c_LAST h0 n0 _ T9.heap _
      rw [e9]
      exact ⟨rfl, N9⟩
set_option maxRecDepth 65536 in
set_option maxHeartbeats 40000000 in
theorem comes_1 {Post : Tables → Env → Array Value → State → Outcome → State → Prop} (hpost : ∀ tb e args s v u, (limb_1_1.after args s (.returned v) u = true ∧ limb_1_2.after args s (.returned v) u = true ∧ True) → FrameEnd s (.returned v) u (Jvm.fieldLocs frame_1_writes args s ++ Jvm.arrayLocs frame_1_arrays args s ++ Jvm.staticLocs frame_1_statics s) 16 128 → Post tb e args s (.returned v) u) :
    ArmFor flags0 classFile x code maxLocals ret World_1 tables_1 room_1 Calls_1 rest_1 Pre_1 Post := by
  intro l hfl _ _ p e ha hc hk s m args below hf hA hF happ hP
  obtain ⟨hcalls, hrest, hpre⟩ := hP
  obtain ⟨-, -, -, hnamed, -, -, -, hat⟩ := (Spec.applies_iff hf).mp happ
  obtain ⟨hg, hn⟩ := and_e (Cond.before_iff.mp (show (Jvm.Cond.and given_1 narrow_1).before args s = true from hpre))
  obtain ⟨hcount, hga0⟩ := and_e hg
  obtain ⟨hi0, hga1⟩ := and_e hga0
  obtain ⟨hi1, hga2⟩ := and_e hga1
  obtain ⟨hi2, hga3⟩ := and_e hga2
  obtain ⟨hi3, hga4⟩ := and_e hga3
  have hi4 := hga4
  obtain ⟨w0, w1, w2, w3, w4, rfl⟩ : ∃ w0 w1 w2 w3 w4 : Value, args = #[w0, w1, w2, w3, w4] := by
    have hs : args.size = 5 := by simpa [Cond.value, given_1] using hcount
    obtain ⟨L⟩ := args
    match L, hs with
    | [w0, w1, w2, w3, w4], _ => exact ⟨w0, w1, w2, w3, w4, rfl⟩
  have hw := fun d (hd : d ∈ tables_1) => atoms_spec (ws := Jvm.Cond.code x code maxLocals ret :: tables_1) hat d (List.mem_cons_of_mem _ hd)
  obtain ⟨i0, ei0⟩ := is_v hi0
  obtain rfl : w0 = (.int i0) := Option.some.inj ei0
  obtain ⟨i1, ei1⟩ := is_v hi1
  obtain rfl : w1 = (.int i1) := Option.some.inj ei1
  obtain ⟨i2, ei2⟩ := is_v hi2
  obtain rfl : w2 = (.int i2) := Option.some.inj ei2
  obtain ⟨i3, ei3⟩ := is_v hi3
  obtain rfl : w3 = (.int i3) := Option.some.inj ei3
  obtain ⟨i4, ei4⟩ := is_v hi4
  obtain rfl : w4 = (.int i4) := Option.some.inj ei4
  obtain ⟨hx_AVERAGE, hn_0⟩ := and_e hn
  obtain ⟨hx_MIN, hn_1⟩ := and_e hn_0
  obtain ⟨hx_SUM, hn_2⟩ := and_e hn_1
  obtain ⟨hx_LAST, hn_3⟩ := and_e hn_2
  have hx_MAX := hn_3
  obtain ⟨c_AVERAGE, ev_AVERAGE⟩ := exa_v hx_AVERAGE
  have st_AVERAGE := Sta.start ev_AVERAGE (Or.inr ⟨hw _ (List.mem_of_getElem? (i := 10) rfl), hw _ (List.mem_of_getElem? (i := 11) rfl)⟩)
  obtain ⟨c_SUM, ev_SUM⟩ := exa_v hx_SUM
  have st_SUM := Sta.start ev_SUM (Or.inr ⟨hw _ (List.mem_of_getElem? (i := 10) rfl), hw _ (List.mem_of_getElem? (i := 38) rfl)⟩)
  obtain ⟨c_MIN, ev_MIN⟩ := exa_v hx_MIN
  have st_MIN := Sta.start ev_MIN (Or.inr ⟨hw _ (List.mem_of_getElem? (i := 10) rfl), hw _ (List.mem_of_getElem? (i := 36) rfl)⟩)
  obtain ⟨c_MAX, ev_MAX⟩ := exa_v hx_MAX
  have st_MAX := Sta.start ev_MAX (Or.inr ⟨hw _ (List.mem_of_getElem? (i := 10) rfl), hw _ (List.mem_of_getElem? (i := 42) rfl)⟩)
  obtain ⟨c_LAST, ev_LAST⟩ := exa_v hx_LAST
  have st_LAST := Sta.start ev_LAST (Or.inr ⟨hw _ (List.mem_of_getElem? (i := 10) rfl), hw _ (List.mem_of_getElem? (i := 40) rfl)⟩)
  obtain ⟨n, o, h1, h2, h3, _, L, rfl, ⟨rfl, N⟩, hq⟩ := rm0 l s _ hw tables_1 i0 i1 i2 i3 i4 c_AVERAGE c_SUM c_MIN c_MAX c_LAST s.heap s.heap.size (Nat.le_refl _) st_AVERAGE st_SUM st_MIN st_MAX st_LAST p e ha hc hk s m _ below hf ((Spec.applies_iff_loose hf).mp happ).1 ⟨rfl, State.Warmed39.refl s, rfl⟩ trivial
  refine ⟨n, _, h1, h2, h3, hpost _ _ _ _ _ _ ⟨Cond.after_iff.mpr rfl, Cond.after_iff.mpr (eq_i res_at (Term.int_eval (1)) rfl), trivial⟩ ⟨hq.1, hq.2.1, (hq.2.2.sift fun y hy => Or.inr (N y hy)).mono (by decide) (by decide)⟩⟩
theorem main_1_1 : Claimed_1_1 := comes_1 fun _ _ _ _ _ _ h hF => ⟨h.1, hF⟩
theorem main_1_2 : Claimed_1_2 := comes_1 fun _ _ _ _ _ _ h hF => ⟨h.2.1, hF⟩
end Jvm.Pilot.@@N@@
namespace Jvm.Pilot.@@N@@
open Jvm Jvm.ClassFile Sem Op Lib Jvm.Free Jvm.Stand Jvm.Pilot.@@N@@.Jvm.D
/-! MADE BY PROGRAM (witnessworld.py) out of the Statement's table words and the real class files: 15 classes; the members and pool entries that the words name. The judged class is class 1, her method 1. -/
namespace start1
open Jvm.ClassFile
def u (s : String) : CpInfo := .utf8 (stringToUtf16 s)
/-- a pool by its gaps: so many unusable entries, then the entry; so many at the end -/
def gap : Nat → List CpInfo → List CpInfo
  | 0, r => r
  | n + 1, r => .unusable :: gap n r
def poolList (es : List (Nat × CpInfo)) (last : Nat) : List CpInfo := es.foldr (fun e r => gap e.1 (e.2 :: r)) (gap last [])
def pool (es : List (Nat × CpInfo)) (last : Nat) : Array CpInfo := ⟨poolList es last⟩
def fileOf (pool : Array CpInfo) (this : Nat) (attrs : Array Attribute := #[]) (ms : Array MethodInfo := #[]) (fl : Nat := 33) (sup : Nat := 0) (ifs : Array Nat := #[]) (fds : Array FieldInfo := #[]) : ClassFile where
  minorVersion := 0
  majorVersion := 65
  constantPool := pool
  accessFlags := fl
  thisClass := this
  superClass := sup
  interfaces := ifs
  fields := fds
  methods := ms
  attributes := attrs
def plain (name : String) (sup : Option ClassId) : Class where
  name := name
  kind := .ordinary
  loader := none
  accessFlags := 33
  super := sup
  interfaces := #[]
  cf := none
  fields := #[]
  methods := #[]
  instanceTypes := #[]
  staticTypes := #[]
  resolved := #[]
  callSites := []
  init := .initialized
  statics := none
  mirror := none

def pool0 : Array CpInfo := pool [(5, u "<init>"), (0, u "()V"), (1, .class_ 10), (1, u "java/lang/Object")] 113

def k0c0 : Code := { maxStack := 0, maxLocals := 1, code := object_method_1_code, exceptionTable := #[], attributes := #[] }
def k0m0 : Method := { name := "<init>", desc := "()V", sig := { parameters := [], returnType := none }, accessFlags := 1, code := some k0c0 }
/-- java/lang/Object -/
def k0 : Class := { plain "java/lang/Object" none with
  accessFlags := 33
  interfaces := #[]
  cf := some (fileOf pool0 8 #[] #[{ accessFlags := 1, nameIndex := 5, descriptorIndex := 6, attributes := #[] }] 33 0 #[] #[])
  fields := #[]
  methods := #[k0m0]
  instanceTypes := #[]
  staticTypes := #[]
  resolved := Array.replicate 124 none
  statics := none }

def pool1 : Array CpInfo := pool [(2, .class_ 4), (1, u "java/lang/Object"), (0, u "<init>"), (0, u "()V"), (0, .integer 2147483647), (0, .methodref 9 10), (0, .class_ 11), (0, .nameAndType 12 13), (0, u "java/lang/Math"), (0, u "max"), (0, u "(II)I"), (0, .methodref 15 16), (0, .class_ 17), (0, .nameAndType 18 19), (0, u "com/example/emberline/emberline/config/AggregationMakesPinLaw"), (0, u "pick"), (0, u "(I)Lcom/example/emberline/emberline/config/AggregationMethod;"), (0, .class_ 21), (0, u "com/example/emberline/emberline/config/Aggregation"), (0, .methodref 20 23), (0, .nameAndType 5 24), (0, u "(Lcom/example/emberline/emberline/config/AggregationMethod;D)V"), (0, .methodref 20 26), (0, .nameAndType 27 28), (0, u "makes"), (0, u "(II)Z"), (0, .fieldref 30 31), (0, .class_ 32), (0, .nameAndType 33 34), (0, u "com/example/emberline/emberline/config/AggregationMethod"), (0, u "AVERAGE"), (0, u "Lcom/example/emberline/emberline/config/AggregationMethod;"), (0, .fieldref 30 36), (0, .nameAndType 37 34), (0, u "SUM"), (0, .fieldref 30 39), (0, .nameAndType 40 34), (0, u "MIN"), (0, .fieldref 30 42), (0, .nameAndType 43 34), (0, u "MAX"), (0, .fieldref 30 45), (0, .nameAndType 46 34), (0, u "LAST"), (2, u "law"), (0, u "(IIIII)Z")] 3

def k1m0 : Method := { name := "<init>", desc := "()V", sig := { parameters := [], returnType := none }, accessFlags := 1, code := none }
def k1c1 : Code := { maxStack := 7, maxLocals := 11, code := code, exceptionTable := #[], attributes := #[] }
def k1m1 : Method := { name := "law", desc := "(IIIII)Z", sig := { parameters := [.int, .int, .int, .int, .int], returnType := some .boolean }, accessFlags := 9, code := some k1c1 }
def k1c2 : Code := { maxStack := 2, maxLocals := 2, code := method_3_code, exceptionTable := #[], attributes := #[] }
def k1m2 : Method := { name := "pick", desc := "(I)Lcom/example/emberline/emberline/config/AggregationMethod;", sig := { parameters := [.int], returnType := some (.object "com/example/emberline/emberline/config/AggregationMethod") }, accessFlags := 10, code := some k1c2 }
/-- com/example/emberline/emberline/config/AggregationMakesPinLaw -/
def k1 : Class := { plain "com/example/emberline/emberline/config/AggregationMakesPinLaw" (some 0) with
  accessFlags := 49
  interfaces := #[]
  cf := some (fileOf pool1 15 #[] #[{ accessFlags := 1, nameIndex := 5, descriptorIndex := 6, attributes := #[] }, { accessFlags := 9, nameIndex := 49, descriptorIndex := 50, attributes := #[] }, { accessFlags := 10, nameIndex := 18, descriptorIndex := 19, attributes := #[] }] 49 2 #[] #[])
  fields := #[]
  methods := #[k1m0, k1m1, k1m2]
  instanceTypes := #[]
  staticTypes := #[]
  resolved := Array.replicate 54 none
  statics := none }

def pool2 : Array CpInfo := pool [(1, .class_ 2), (0, u "java/lang/Math"), (1, .class_ 6), (1, u "java/lang/Object"), (0, u "<init>"), (0, u "()V"), (89, .class_ 100), (1, u "java/lang/Math$RandomNumberGeneratorHolder"), (71, u "negativeZeroFloatBits"), (0, u "J"), (2, u "negativeZeroDoubleBits"), (21, u "max"), (46, u "$assertionsDisabled"), (0, u "Z"), (88, u "(II)I"), (2, u "twoToTheDoubleScaleDown"), (0, u "D"), (4, u "twoToTheDoubleScaleUp"), (9, u "E"), (3, u "PI"), (2, u "TAU"), (2, u "DEGREES_TO_RADIANS"), (0, u "RADIANS_TO_DEGREES")] 94

def k2m0 : Method := { name := "<init>", desc := "()V", sig := { parameters := [], returnType := none }, accessFlags := 2, code := none }
def k2c1 : Code := { maxStack := 2, maxLocals := 2, code := jdk_29_method_65_code, exceptionTable := #[], attributes := #[] }
def k2m1 : Method := { name := "max", desc := "(II)I", sig := { parameters := [.int, .int], returnType := some .int }, accessFlags := 9, code := some k2c1 }
/-- java/lang/Math -/
def k2 : Class := { plain "java/lang/Math" (some 0) with
  accessFlags := 49
  interfaces := #[]
  cf := some (fileOf pool2 1 #[.nestMembers #[98]] #[{ accessFlags := 2, nameIndex := 7, descriptorIndex := 8, attributes := #[] }, { accessFlags := 9, nameIndex := 198, descriptorIndex := 335, attributes := #[] }] 49 4 #[] #[{ accessFlags := 25, nameIndex := 354, descriptorIndex := 339, attributes := #[] }, { accessFlags := 25, nameIndex := 358, descriptorIndex := 339, attributes := #[] }, { accessFlags := 25, nameIndex := 361, descriptorIndex := 339, attributes := #[] }, { accessFlags := 26, nameIndex := 364, descriptorIndex := 339, attributes := #[] }, { accessFlags := 26, nameIndex := 365, descriptorIndex := 339, attributes := #[] }, { accessFlags := 26, nameIndex := 172, descriptorIndex := 173, attributes := #[] }, { accessFlags := 26, nameIndex := 176, descriptorIndex := 173, attributes := #[] }, { accessFlags := 8, nameIndex := 344, descriptorIndex := 339, attributes := #[] }, { accessFlags := 8, nameIndex := 338, descriptorIndex := 339, attributes := #[] }, { accessFlags := 4120, nameIndex := 245, descriptorIndex := 246, attributes := #[] }])
  fields := #[{ name := "E", type := .double, accessFlags := 25, slot := 0, constantValue := 0 }, { name := "PI", type := .double, accessFlags := 25, slot := 1, constantValue := 0 }, { name := "TAU", type := .double, accessFlags := 25, slot := 2, constantValue := 0 }, { name := "DEGREES_TO_RADIANS", type := .double, accessFlags := 26, slot := 3, constantValue := 0 }, { name := "RADIANS_TO_DEGREES", type := .double, accessFlags := 26, slot := 4, constantValue := 0 }, { name := "negativeZeroFloatBits", type := .long, accessFlags := 26, slot := 5, constantValue := 0 }, { name := "negativeZeroDoubleBits", type := .long, accessFlags := 26, slot := 6, constantValue := 0 }, { name := "twoToTheDoubleScaleUp", type := .double, accessFlags := 8, slot := 7, constantValue := 0 }, { name := "twoToTheDoubleScaleDown", type := .double, accessFlags := 8, slot := 8, constantValue := 0 }, { name := "$assertionsDisabled", type := .boolean, accessFlags := 4120, slot := 9, constantValue := 0 }]
  methods := #[k2m0, k2m1]
  instanceTypes := #[]
  staticTypes := #[.double, .double, .double, .double, .double, .long, .long, .double, .double, .boolean]
  resolved := Array.replicate 460 none
  statics := none }

def pool3 : Array CpInfo := pool [(1, .class_ 2), (0, u "java/lang/constant/Constable"), (0, .class_ 4), (0, u "java/lang/Object")] 6

/-- java/lang/constant/Constable -/
def k3 : Class := { plain "java/lang/constant/Constable" (some 0) with
  accessFlags := 1537
  interfaces := #[]
  cf := some (fileOf pool3 1 #[] #[] 1537 3 #[] #[])
  fields := #[]
  methods := #[]
  instanceTypes := #[]
  staticTypes := #[]
  resolved := Array.replicate 11 none
  statics := none }

def pool4 : Array CpInfo := pool [(1, .class_ 2), (0, u "java/lang/Comparable"), (0, .class_ 4), (0, u "java/lang/Object")] 7

/-- java/lang/Comparable -/
def k4 : Class := { plain "java/lang/Comparable" (some 0) with
  accessFlags := 1537
  interfaces := #[]
  cf := some (fileOf pool4 1 #[] #[] 1537 3 #[] #[])
  fields := #[]
  methods := #[]
  instanceTypes := #[]
  staticTypes := #[]
  resolved := Array.replicate 12 none
  statics := none }

def pool5 : Array CpInfo := pool [(1, .class_ 2), (0, u "java/io/Serializable"), (0, .class_ 4), (0, u "java/lang/Object")] 2

/-- java/io/Serializable -/
def k5 : Class := { plain "java/io/Serializable" (some 0) with
  accessFlags := 1537
  interfaces := #[]
  cf := some (fileOf pool5 1 #[] #[] 1537 3 #[] #[])
  fields := #[]
  methods := #[]
  instanceTypes := #[]
  staticTypes := #[]
  resolved := Array.replicate 7 none
  statics := none }

def pool6 : Array CpInfo := pool [(2, .class_ 4), (1, u "java/lang/Enum"), (0, u "name"), (0, u "Ljava/lang/String;"), (2, u "ordinal"), (0, u "I"), (1, .class_ 14), (1, u "java/lang/Object"), (4, u "hash"), (86, .class_ 108), (1, u "java/lang/Enum$EnumDesc"), (2, .class_ 112), (0, u "java/lang/constant/Constable"), (0, .class_ 114), (0, u "java/lang/Comparable"), (0, .class_ 116), (0, u "java/io/Serializable")] 87

/-- java/lang/Enum -/
def k6 : Class := { plain "java/lang/Enum" (some 0) with
  accessFlags := 1057
  interfaces := #[3, 4, 5]
  cf := some (fileOf pool6 2 #[.nestMembers #[106]] #[] 1057 12 #[111, 113, 115] #[{ accessFlags := 18, nameIndex := 5, descriptorIndex := 6, attributes := #[] }, { accessFlags := 18, nameIndex := 9, descriptorIndex := 10, attributes := #[] }, { accessFlags := 2, nameIndex := 19, descriptorIndex := 10, attributes := #[] }])
  fields := #[{ name := "name", type := (.object "java/lang/String"), accessFlags := 18, slot := 0, constantValue := 0 }, { name := "ordinal", type := .int, accessFlags := 18, slot := 1, constantValue := 0 }, { name := "hash", type := .int, accessFlags := 2, slot := 2, constantValue := 0 }]
  methods := #[]
  instanceTypes := #[(.object "java/lang/String"), .int, .int]
  staticTypes := #[]
  resolved := Array.replicate 204 none
  statics := none }

def pool7 : Array CpInfo := pool [(1, .class_ 2), (0, u "com/example/emberline/emberline/config/AggregationMethod"), (2, u "AVERAGE"), (0, u "Lcom/example/emberline/emberline/config/AggregationMethod;"), (2, u "SUM"), (2, u "MIN"), (2, u "MAX"), (2, u "LAST"), (2, u "$VALUES"), (0, u "[Lcom/example/emberline/emberline/config/AggregationMethod;"), (6, .class_ 31), (1, u "java/lang/Enum")] 66

/-- com/example/emberline/emberline/config/AggregationMethod -/
def k7 : Class := { plain "com/example/emberline/emberline/config/AggregationMethod" (some 6) with
  accessFlags := 16433
  interfaces := #[]
  cf := some (fileOf pool7 1 #[] #[] 16433 29 #[] #[{ accessFlags := 16409, nameIndex := 5, descriptorIndex := 6, attributes := #[] }, { accessFlags := 16409, nameIndex := 9, descriptorIndex := 6, attributes := #[] }, { accessFlags := 16409, nameIndex := 12, descriptorIndex := 6, attributes := #[] }, { accessFlags := 16409, nameIndex := 15, descriptorIndex := 6, attributes := #[] }, { accessFlags := 16409, nameIndex := 18, descriptorIndex := 6, attributes := #[] }, { accessFlags := 4122, nameIndex := 21, descriptorIndex := 22, attributes := #[] }])
  fields := #[{ name := "AVERAGE", type := (.object "com/example/emberline/emberline/config/AggregationMethod"), accessFlags := 16409, slot := 0, constantValue := 0 }, { name := "SUM", type := (.object "com/example/emberline/emberline/config/AggregationMethod"), accessFlags := 16409, slot := 1, constantValue := 0 }, { name := "MIN", type := (.object "com/example/emberline/emberline/config/AggregationMethod"), accessFlags := 16409, slot := 2, constantValue := 0 }, { name := "MAX", type := (.object "com/example/emberline/emberline/config/AggregationMethod"), accessFlags := 16409, slot := 3, constantValue := 0 }, { name := "LAST", type := (.object "com/example/emberline/emberline/config/AggregationMethod"), accessFlags := 16409, slot := 4, constantValue := 0 }, { name := "$VALUES", type := (.array (.object "com/example/emberline/emberline/config/AggregationMethod")), accessFlags := 4122, slot := 5, constantValue := 0 }]
  methods := #[]
  instanceTypes := #[(.object "java/lang/String"), .int, .int]
  staticTypes := #[(.object "com/example/emberline/emberline/config/AggregationMethod"), (.object "com/example/emberline/emberline/config/AggregationMethod"), (.object "com/example/emberline/emberline/config/AggregationMethod"), (.object "com/example/emberline/emberline/config/AggregationMethod"), (.object "com/example/emberline/emberline/config/AggregationMethod"), (.array (.object "com/example/emberline/emberline/config/AggregationMethod"))]
  resolved := Array.replicate 98 none
  statics := some 0 }

def pool8 : Array CpInfo := pool [(1, .methodref 2 3), (0, .class_ 4), (0, .nameAndType 5 6), (0, u "java/lang/Object"), (0, u "<init>"), (0, u "()V"), (0, .class_ 8), (0, u "java/lang/Record")] 13

def k8c0 : Code := { maxStack := 1, maxLocals := 1, code := jdk_30_method_1_code, exceptionTable := #[], attributes := #[] }
def k8m0 : Method := { name := "<init>", desc := "()V", sig := { parameters := [], returnType := none }, accessFlags := 4, code := some k8c0 }
/-- java/lang/Record -/
def k8 : Class := { plain "java/lang/Record" (some 0) with
  accessFlags := 1057
  interfaces := #[]
  cf := some (fileOf pool8 7 #[] #[{ accessFlags := 4, nameIndex := 5, descriptorIndex := 6, attributes := #[] }] 1057 2 #[] #[])
  fields := #[]
  methods := #[k8m0]
  instanceTypes := #[]
  staticTypes := #[]
  resolved := Array.replicate 22 none
  statics := none }

def pool9 : Array CpInfo := pool [(1, .methodref 2 3), (0, .class_ 4), (0, .nameAndType 5 6), (0, u "java/lang/Record"), (0, u "<init>"), (0, u "()V"), (9, .fieldref 17 18), (0, .class_ 19), (0, .nameAndType 20 21), (0, u "com/example/emberline/emberline/config/Aggregation"), (0, u "method"), (0, u "Lcom/example/emberline/emberline/config/AggregationMethod;"), (0, .fieldref 17 23), (0, .nameAndType 24 25), (0, u "xFilesFactor"), (0, u "D"), (21, u "(Lcom/example/emberline/emberline/config/AggregationMethod;D)V"), (2, u "DEFAULT"), (0, u "Lcom/example/emberline/emberline/config/Aggregation;"), (4, u "makes"), (0, u "(II)Z")] 35

def k9c0 : Code := { maxStack := 4, maxLocals := 4, code := prog_7_method_1_code, exceptionTable := #[], attributes := #[] }
def k9m0 : Method := { name := "<init>", desc := "(Lcom/example/emberline/emberline/config/AggregationMethod;D)V", sig := { parameters := [(.object "com/example/emberline/emberline/config/AggregationMethod"), .double], returnType := none }, accessFlags := 1, code := some k9c0 }
def k9c1 : Code := { maxStack := 4, maxLocals := 3, code := prog_7_method_2_code, exceptionTable := #[], attributes := #[] }
def k9m1 : Method := { name := "makes", desc := "(II)Z", sig := { parameters := [.int, .int], returnType := some .boolean }, accessFlags := 1, code := some k9c1 }
/-- com/example/emberline/emberline/config/Aggregation -/
def k9 : Class := { plain "com/example/emberline/emberline/config/Aggregation" (some 8) with
  accessFlags := 49
  interfaces := #[]
  cf := some (fileOf pool9 17 #[] #[{ accessFlags := 1, nameIndex := 5, descriptorIndex := 47, attributes := #[] }, { accessFlags := 1, nameIndex := 56, descriptorIndex := 57, attributes := #[] }] 49 2 #[] #[{ accessFlags := 18, nameIndex := 20, descriptorIndex := 21, attributes := #[] }, { accessFlags := 18, nameIndex := 24, descriptorIndex := 25, attributes := #[] }, { accessFlags := 25, nameIndex := 50, descriptorIndex := 51, attributes := #[] }])
  fields := #[{ name := "method", type := (.object "com/example/emberline/emberline/config/AggregationMethod"), accessFlags := 18, slot := 0, constantValue := 0 }, { name := "xFilesFactor", type := .double, accessFlags := 18, slot := 1, constantValue := 0 }, { name := "DEFAULT", type := (.object "com/example/emberline/emberline/config/Aggregation"), accessFlags := 25, slot := 0, constantValue := 0 }]
  methods := #[k9m0, k9m1]
  instanceTypes := #[(.object "com/example/emberline/emberline/config/AggregationMethod"), .double]
  staticTypes := #[(.object "com/example/emberline/emberline/config/Aggregation")]
  resolved := Array.replicate 93 none
  statics := none }

def pool10 : Array CpInfo := pool [(1, u "java/lang/Cloneable"), (0, .class_ 1), (0, u "java/lang/Object"), (0, .class_ 3)] 3

/-- java/lang/Cloneable -/
def k10 : Class := { plain "java/lang/Cloneable" (some 0) with
  accessFlags := 1537
  interfaces := #[]
  cf := some (fileOf pool10 2 #[] #[] 1537 4 #[] #[])
  fields := #[]
  methods := #[]
  instanceTypes := #[]
  staticTypes := #[]
  resolved := Array.replicate 8 none
  statics := none }

/-- the primitive byte -/
def k11 : Class := { plain "byte" none with kind := .primitive 'B', accessFlags := 0x411 }
/-- [B -/
def k12 : Class := { plain "[B" (some 0) with kind := .array 11 .byte, interfaces := #[10, 5], accessFlags := 1041 }

/-- the primitive int -/
def k13 : Class := { plain "int" none with kind := .primitive 'I', accessFlags := 0x411 }
/-- [I -/
def k14 : Class := { plain "[I" (some 0) with kind := .array 13 .int, interfaces := #[10, 5], accessFlags := 1041 }

def heap : Heap := #[{ cls := 7, slots := #[.ref 1, .ref 2, .ref 3, .ref 4, .ref 5, .null], vm := .statics 7 },
  { cls := 7, slots := #[.null, .int 0, .int 0], vm := .none },
  { cls := 7, slots := #[.null, .int 1, .int 0], vm := .none },
  { cls := 7, slots := #[.null, .int 2, .int 0], vm := .none },
  { cls := 7, slots := #[.null, .int 3, .int 0], vm := .none },
  { cls := 7, slots := #[.null, .int 4, .int 0], vm := .none }]
def classes : Array Class := #[k0, k1, k2, k3, k4, k5, k6, k7, k8, k9, k10, k11, k12, k13, k14]
def interned : List (Array UInt16 × Addr) := []
def slotsUsed : Nat := 21
def theMethod : MethodId := ⟨1, 1⟩
def args0 : Array Value := #[.int 5, .int 7, .int 3, .int 1, .int 2]
def aboutOver (below : List Frame) : State where
  vm := { classes := classes, interned := interned.toArray }
  heap := heap
  slotsUsed := slotsUsed
  threads := #[{ frames := .invoking theMethod args0 :: below }]
def below0 : List Frame := [.native { method := ⟨0, 0⟩, args := #[] }]
def about1 : State := aboutOver below0
def p0 : Program := .bare "" "" ""
def e0 : Env := launch0.env 0 0 0
theorem w_frames : about1.frames = Frame.invoking theMethod args0 :: below0 := rfl
set_option maxRecDepth 65536 in
theorem w_args : argsFit about1.vm theMethod args0 = true := by decide +kernel
set_option maxRecDepth 65536 in
theorem w_heap : heapFits about1 = true := by decide +kernel
set_option maxRecDepth 65536 in
theorem w_runnable : about1.curStatus? = some .runnable := by decide +kernel
set_option maxRecDepth 65536 in
theorem w_alone : about1.alone = true := by decide +kernel
set_option maxRecDepth 65536 in
theorem w_named : about1.methodNamed? x = some theMethod := by decide +kernel
set_option maxRecDepth 65536 in
theorem w_hears : about1.hears theMethod below0 = true := by decide +kernel
set_option maxRecDepth 65536 in
theorem w_ripe : about1.ripe theMethod args0 below0 = true := by decide +kernel
theorem w_running : about1.status = .running := rfl
set_option maxRecDepth 65536 in
theorem w_room : about1.hasRoom e0.platform room_1 = true :=
  launch0.hasRoom_least _ room_1 (by decide +kernel) (by decide +kernel) (by decide +kernel) (by decide +kernel) (by decide +kernel) (by decide +kernel)
theorem allAtoms_all (ts : List Jvm.Cond) (a : Array Jvm.Value) (st : Jvm.State) : (allAtoms ts).before a st = ts.all (fun c => c.before a st) := by
  induction ts with
  | nil => rfl
  | cons c t ih =>
    show (Jvm.Cond.and c (allAtoms t)).before a st = _
    rw [Jvm.Cond.before_and, ih, List.all_cons]
def words1 : List Jvm.Cond := Jvm.Cond.code x code maxLocals ret :: tables_1
/-- a 'code' word, met by the world's own term for the bytes: nothing is compared byte by byte -/
theorem code_word {y : MethodName} {bytes : ByteArray} {mx : Nat} {rt : Option FieldType} {a : Array Value} {s : State} {m : MethodId} {meth : Method} {c : Code} (h1 : s.methodNamed? y = some m) (h2 : s.vm.method? m = some meth) (h3 : meth.code = some c) (h4 : c.code = bytes)
    (h5 : (c.maxLocals == mx && c.exceptionTable.isEmpty && decide (c.maxStack ≤ mostOperands) && decide (meth.sig.returnType = rt) && !meth.locks && decide (parseMethodDescriptor y.desc = some meth.sig)) = true) : (Jvm.Cond.code y bytes mx rt).before a s = true := by
  simp only [Bool.and_eq_true, beq_iff_eq, Bool.not_eq_true', decide_eq_true_eq] at h5
  obtain ⟨⟨⟨⟨⟨g1, g2⟩, g3⟩, g4⟩, g5⟩, g6⟩ := h5
  simp [Cond.before, Cond.holds, Cond.value, h1, h2, h3, h4, g1, g2, g3, g4, g5, g6]
def isCode : Jvm.Cond → Bool
  | .code _ _ _ _ => true
  | _ => false
theorem all_split {L : List Jvm.Cond} {P : Jvm.Cond → Bool} (h1 : L.all (fun c => isCode c || P c) = true) (h2 : ∀ c ∈ L.filter isCode, P c = true) : L.all P = true := by
  refine List.all_eq_true.mpr fun c hc => ?_
  have h := List.all_eq_true.mp h1 c hc
  rcases Bool.eq_false_or_eq_true (isCode c) with hi | hi
  · exact h2 c (List.mem_filter.mpr ⟨hc, hi⟩)
  · simpa [hi] using h
set_option maxRecDepth 65536 in
theorem w_c0 : (Jvm.Cond.code x code maxLocals ret).before args0 about1 = true := code_word (m := ⟨1, 1⟩) (meth := k1m1) (c := k1c1) (by decide +kernel) rfl rfl rfl (by decide +kernel)
set_option maxRecDepth 65536 in
theorem w_c1 : (Jvm.Cond.code ({ cls := "java/lang/Math", name := "max", desc := "(II)I" } : Jvm.MethodName) jdk_29_method_65_code (2 : Nat) (Option.some Jvm.ClassFile.FieldType.int)).before args0 about1 = true := code_word (m := ⟨2, 1⟩) (meth := k2m1) (c := k2c1) (by decide +kernel) rfl rfl rfl (by decide +kernel)
set_option maxRecDepth 65536 in
theorem w_c2 : (Jvm.Cond.code ({ cls := "com/example/emberline/emberline/config/AggregationMakesPinLaw", name := "pick", desc := "(I)Lcom/example/emberline/emberline/config/AggregationMethod;" } : Jvm.MethodName) method_3_code (2 : Nat) (Option.some (Jvm.ClassFile.FieldType.object "com/example/emberline/emberline/config/AggregationMethod"))).before args0 about1 = true := code_word (m := ⟨1, 2⟩) (meth := k1m2) (c := k1c2) (by decide +kernel) rfl rfl rfl (by decide +kernel)
set_option maxRecDepth 65536 in
theorem w_c3 : (Jvm.Cond.code ({ cls := "com/example/emberline/emberline/config/Aggregation", name := "<init>", desc := "(Lcom/example/emberline/emberline/config/AggregationMethod;D)V" } : Jvm.MethodName) prog_7_method_1_code (4 : Nat) (Option.none : Option Jvm.ClassFile.FieldType)).before args0 about1 = true := code_word (m := ⟨9, 0⟩) (meth := k9m0) (c := k9c0) (by decide +kernel) rfl rfl rfl (by decide +kernel)
set_option maxRecDepth 65536 in
theorem w_c4 : (Jvm.Cond.code ({ cls := "java/lang/Record", name := "<init>", desc := "()V" } : Jvm.MethodName) jdk_30_method_1_code (1 : Nat) (Option.none : Option Jvm.ClassFile.FieldType)).before args0 about1 = true := code_word (m := ⟨8, 0⟩) (meth := k8m0) (c := k8c0) (by decide +kernel) rfl rfl rfl (by decide +kernel)
set_option maxRecDepth 65536 in
theorem w_c5 : (Jvm.Cond.code ({ cls := "java/lang/Object", name := "<init>", desc := "()V" } : Jvm.MethodName) object_method_1_code (1 : Nat) (Option.none : Option Jvm.ClassFile.FieldType)).before args0 about1 = true := code_word (m := ⟨0, 0⟩) (meth := k0m0) (c := k0c0) (by decide +kernel) rfl rfl rfl (by decide +kernel)
set_option maxRecDepth 65536 in
theorem w_c6 : (Jvm.Cond.code ({ cls := "com/example/emberline/emberline/config/Aggregation", name := "makes", desc := "(II)Z" } : Jvm.MethodName) prog_7_method_2_code (3 : Nat) (Option.some Jvm.ClassFile.FieldType.boolean)).before args0 about1 = true := code_word (m := ⟨9, 1⟩) (meth := k9m1) (c := k9c1) (by decide +kernel) rfl rfl rfl (by decide +kernel)
def codes1 : List Jvm.Cond := [Jvm.Cond.code x code maxLocals ret, Jvm.Cond.code ({ cls := "java/lang/Math", name := "max", desc := "(II)I" } : Jvm.MethodName) jdk_29_method_65_code (2 : Nat) (Option.some Jvm.ClassFile.FieldType.int), Jvm.Cond.code ({ cls := "com/example/emberline/emberline/config/AggregationMakesPinLaw", name := "pick", desc := "(I)Lcom/example/emberline/emberline/config/AggregationMethod;" } : Jvm.MethodName) method_3_code (2 : Nat) (Option.some (Jvm.ClassFile.FieldType.object "com/example/emberline/emberline/config/AggregationMethod")), Jvm.Cond.code ({ cls := "com/example/emberline/emberline/config/Aggregation", name := "<init>", desc := "(Lcom/example/emberline/emberline/config/AggregationMethod;D)V" } : Jvm.MethodName) prog_7_method_1_code (4 : Nat) (Option.none : Option Jvm.ClassFile.FieldType), Jvm.Cond.code ({ cls := "java/lang/Record", name := "<init>", desc := "()V" } : Jvm.MethodName) jdk_30_method_1_code (1 : Nat) (Option.none : Option Jvm.ClassFile.FieldType), Jvm.Cond.code ({ cls := "java/lang/Object", name := "<init>", desc := "()V" } : Jvm.MethodName) object_method_1_code (1 : Nat) (Option.none : Option Jvm.ClassFile.FieldType), Jvm.Cond.code ({ cls := "com/example/emberline/emberline/config/Aggregation", name := "makes", desc := "(II)Z" } : Jvm.MethodName) prog_7_method_2_code (3 : Nat) (Option.some Jvm.ClassFile.FieldType.boolean)]
set_option maxRecDepth 65536 in
theorem codes_eq : words1.filter isCode = codes1 := rfl
theorem w_codes : ∀ c ∈ words1.filter isCode, c.before args0 about1 = true := by
  rw [codes_eq]
  intro c hc
  simp only [codes1, List.mem_cons, List.not_mem_nil, or_false] at hc
  rcases hc with rfl | rfl | rfl | rfl | rfl | rfl | rfl
  · exact w_c0
  · exact w_c1
  · exact w_c2
  · exact w_c3
  · exact w_c4
  · exact w_c5
  · exact w_c6
set_option maxRecDepth 65536 in
theorem w_t1 : (words1.take 24).all (fun c => isCode c || c.before args0 about1) = true := by decide +kernel
set_option maxRecDepth 65536 in
theorem w_t2 : (words1.drop 24).all (fun c => isCode c || c.before args0 about1) = true := by decide +kernel
theorem w_tables : (allAtoms (Jvm.Cond.code x code maxLocals ret :: tables_1)).before args0 about1 = true := by
  rw [allAtoms_all]
  show words1.all (fun c => c.before args0 about1) = true
  refine all_split ?_ w_codes
  rw [← List.take_append_drop 24 words1, List.all_append, w_t1, w_t2]
  rfl
set_option maxRecDepth 65536 in
theorem w_case : (Jvm.Cond.and given_1 narrow_1).before args0 about1 = true := by decide +kernel
theorem w_applies : (headSpec (Jvm.Cond.code x code maxLocals ret :: tables_1) room_1).applies x e0.platform about1 = true :=
  (Spec.applies_iff w_frames).mpr ⟨w_running, w_runnable, w_alone, w_named, w_hears, w_ripe, w_room, w_tables⟩
theorem atStart : AtStart classFile x code maxLocals ret World_1 tables_1 room_1 Calls_1 rest_1 Pre_1 launch0 p0 e0 about1 theMethod args0 below0 :=
  ⟨lists_1, trivial, launch0.admits_env _ _ _, launch0.least_env, fairChoices_fair.cas, fairChoices_fair.clock, w_frames, w_args, w_heap, w_applies, trivial, trivial, w_case⟩
end start1
theorem witness_1 : WitnessClaimed_1 := ⟨start1.p0, start1.e0, start1.about1, start1.theMethod, start1.args0, start1.below0, start1.atStart⟩
end Jvm.Pilot.@@N@@
