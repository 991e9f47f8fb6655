import JvmDerived
import JvmDerived.Pilot.@@N@@Statement
import JvmDerived.Pilot.@@N@@Code
set_option linter.unusedVariables false
set_option linter.unusedSimpArgs false
namespace Jvm.RoadKit
open Sem ClassFile Op Lib Jvm.Stand Jvm.Free Jvm.LawKit
section New
variable {p : Program} {l : Launch} {e : Env} {R : Room} {s : State} {m : MethodId} {args : Array Value} {below : List Frame} {meth : Method} {c : Code} {T : State} {locs : List Loc} {cells slots : Nat}
theorem retI (X : Stand p l e R s m args below meth c T locs cells slots) (hx : p.tables.exec = Jvm.exec) {pc : Nat} {Ls : Array Slot} {z : Int32} {rest : List Value} (hret : meth.sig.returnType = some .int) (hd : decode c.code pc = .ok (.ireturn, 1)) {fs : List Frame}
    (hl : ∀ (f : JFrame) (acts : List Action), f.method = m → f.locked = none → f.entered = [] → (doReturn e (T.setTop f) acts (some (.int z))).1 = T.setFrames fs) : Steps p.tables e below (T.setTop (mkF m pc Ls (.int z :: rest))) (T.setFrames fs) := by
  have hm' : T.vm.method? m = some meth := X.method'
  have hn : narrow .int (.int z) = .int z := rfl
  show Steps p.tables e below (T.setTop { method := m, pc := pc, locals := Ls, stack := _ :: rest, locked := none }) _
  jvm_step X.here [X.here.top, hx, hd, hm', hret, hn]
  first | (intro acts; rw [hl _ acts rfl rfl rfl]) | rw [hl _ _ rfl rfl rfl]
  exact Steps.refl _
theorem retD (X : Stand p l e R s m args below meth c T locs cells slots) (hx : p.tables.exec = Jvm.exec) {pc : Nat} {Ls : Array Slot} {z : UInt64} {rest : List Value} (hret : meth.sig.returnType = some .double) (hd : decode c.code pc = .ok (.dreturn, 1)) {fs : List Frame}
    (hl : ∀ (f : JFrame) (acts : List Action), f.method = m → f.locked = none → f.entered = [] → (doReturn e (T.setTop f) acts (some (.double z))).1 = T.setFrames fs) : Steps p.tables e below (T.setTop (mkF m pc Ls (.double z :: rest))) (T.setFrames fs) := by
  have hm' : T.vm.method? m = some meth := X.method'
  have hn : narrow .double (.double z) = .double z := rfl
  show Steps p.tables e below (T.setTop { method := m, pc := pc, locals := Ls, stack := _ :: rest, locked := none }) _
  jvm_step X.here [X.here.top, hx, hd, hm', hret, hn]
  first | (intro acts; rw [hl _ acts rfl rfl rfl]) | rw [hl _ _ rfl rfl rfl]
  exact Steps.refl _
end New
end Jvm.RoadKit
namespace Jvm.Pilot.@@N@@
open Jvm Jvm.ClassFile Sem Op Lib Jvm.Free Jvm.Stand Jvm.LawKit Jvm.RoadKit Bundle Jvm.Pilot.@@N@@.Jvm.D
section OwnFl
open Jvm.FP.Core
theorem own_order {i : Int} {x : Datum} (hx : Whole i x) : order x (.fin false 4835703278458517 (-82)) = some (if 0 < i then .gt else .lt) := by
  cases x with
  | nan => exact hx.elim
  | inf => exact hx.elim
  | fin s c q =>
    have h1 := whole_units hx (e := min q (-82)) (by omega)
    obtain ⟨k, hk⟩ : ∃ k : Nat, min q (-82) = -82 - (k : Int) := ⟨(-82 - min q (-82)).toNat, by omega⟩
    have e1 : (-82 - (k : Int)).toNat = 0 := by omega
    have e2 : (-(-82 - (k : Int))).toNat = k + 82 := by omega
    have e3 : ((-82 : Int) - (-82 - (k : Int))).toNat = k := by omega
    rw [hk, e1, e2] at h1
    have h2 : signed s (inUnits c q (-82 - (k : Int))) = i * ((2 ^ (k + 82) : Nat) : Int) := by simpa using h1
    have h3 : signed false (inUnits 4835703278458517 (-82) (-82 - (k : Int))) = 4835703278458517 * ((2 ^ k : Nat) : Int) := by
      show ((4835703278458517 * 2 ^ ((-82 : Int) - (-82 - (k : Int))).toNat : Nat) : Int) = _
      rw [e3, Int.natCast_mul]; rfl
    simp only [order]
    rw [hk, h2, h3, Nat.pow_add]
    have hp : (0 : Int) < ((2 ^ k : Nat) : Int) := by have := Nat.two_pow_pos k; omega
    have e4 : i * ((2 ^ k * 2 ^ 82 : Nat) : Int) = (i * 4835703278458516698824704) * ((2 ^ k : Nat) : Int) := by
      rw [Int.natCast_mul, show ((2 ^ 82 : Nat) : Int) = 4835703278458516698824704 from by decide, Int.mul_assoc, Int.mul_comm ((2 ^ k : Nat) : Int)]
    rw [e4, compare_mul_pos _ _ _ hp]
    congr 1
    by_cases h : 0 < i
    · rw [if_pos h]
      simp only [compare, compareOfLessAndEq]
      rw [if_neg (by omega), if_neg (by omega)]
    · rw [if_neg h]
      simp only [compare, compareOfLessAndEq]
      rw [if_pos (by omega)]
theorem own_tie : val64 4472406533629990549 = .fin false 4835703278458517 (-82) := by decide +kernel
theorem own_dcmp {d : Int64} (hd : B53 d) : dcmp (l2d d) 4472406533629990549 = some (if 0 < d.toInt then .gt else .lt) := by
  have h := own_order (l2d_whole (sm hd))
  rw [← own_tie] at h
  exact h
end OwnFl
theorem own_b53 (x : Int32) : B53 x.toInt64 := by
  have h := c_i2l x
  have h1 := rng32 x
  unfold B53
  omega
theorem own_diff (x y : Int32) : (x.toInt64 - y.toInt64).toInt = x.toInt - y.toInt := by
  rw [sub64 (own_b53 x) (own_b53 y), c_i2l, c_i2l]
theorem own_b53d (x y : Int32) : B53 (x.toInt64 - y.toInt64) := by
  have h := own_diff x y
  have h1 := rng32 x
  have h2 := rng32 y
  unfold B53
  omega
theorem own_sub (x y : Int32) : FP.dsub (FP.i2d x) (FP.i2d y) = FP.l2d (x.toInt64 - y.toInt64) := by
  rw [i2d_w, i2d_w]
  exact dsub_w (own_b53 x) (own_b53 y)
def own_cv (x y : Int32) : Int32 := cmpValue (FP.dcmp (FP.l2d (x.toInt64 - y.toInt64)) (4472406533629990549 : UInt64)) .l
def own_ex (x y : Int32) : Int32 := if own_cv x y < (0 : Int32) then (0 : Int32) else (1 : Int32)
theorem own_p (x y : Int32) : own_ex x y = (if y < x then (1 : Int32) else (0 : Int32)) := by
  have e : own_cv x y = cmpValue (some (if 0 < (x.toInt64 - y.toInt64).toInt then Ordering.gt else Ordering.lt)) .l := congrArg (fun o => cmpValue o .l) (own_dcmp (own_b53d x y))
  unfold own_ex
  rw [e, own_diff]
  by_cases h : y < x
  · have h' := Int32.lt_iff_toInt_lt.mp h
    have e2 : (if 0 < x.toInt - y.toInt then Ordering.gt else Ordering.lt) = Ordering.gt := if_pos (by omega)
    rw [e2, if_pos h]
    decide
  · have h' : ¬ y.toInt < x.toInt := fun q => h (Int32.lt_iff_toInt_lt.mpr q)
    have e2 : (if 0 < x.toInt - y.toInt then Ordering.gt else Ordering.lt) = Ordering.lt := if_neg (by omega)
    rw [e2, if_neg h]
    decide
theorem pn_1 : plainName "com/example/coarsen/coarsen/engine/Information" = true := by first | (simp [plainName, overriddenIn]; done) | decide +kernel
theorem ef_rm1 (m : MethodId) (x0 : UInt64) (x1 : UInt64) : entryFrame m #[(.double x0), (.double x1)] 4 = mkF m 0 #[.val (.double x0), .second, .val (.double x1), .second] [] := by first | (simp [entryFrame, mkF, argsToLocals, Value.category]; done) | rfl
def Q_rm1 (Z : State) (x y : Int32) (h0 : Heap) (n0 : Nat) (v : Option Value) (h : Heap) (L : List Loc) : Prop := v = some (.int (own_ex x y)) ∧ Fr n0 L ∧ h = h0
theorem d1_0 : decode prog_8_method_4_code 0 = .ok (.dload_n 0, 1) := by decide +kernel
theorem d1_1 : decode prog_8_method_4_code 1 = .ok (.dload_n 2, 1) := by decide +kernel
theorem d1_2 : decode prog_8_method_4_code 2 = .ok (.dsub, 1) := by decide +kernel
theorem d1_3 : decode prog_8_method_4_code 3 = .ok (.ldc2_w 23, 3) := by decide +kernel
theorem d1_6 : decode prog_8_method_4_code 6 = .ok (.dcmp .l, 1) := by decide +kernel
theorem d1_7 : decode prog_8_method_4_code 7 = .ok (.ifCond .lt 7, 3) := by decide +kernel
theorem d1_14 : decode prog_8_method_4_code 14 = .ok (.iconst 0, 1) := by decide +kernel
theorem d1_15 : decode prog_8_method_4_code 15 = .ok (.ireturn, 1) := by decide +kernel
theorem d1_10 : decode prog_8_method_4_code 10 = .ok (.iconst 1, 1) := by decide +kernel
theorem d1_11 : decode prog_8_method_4_code 11 = .ok (.goto 4, 3) := by decide +kernel
set_option maxRecDepth 65536 in
set_option maxHeartbeats 40000000 in
theorem rm1 (l : Launch) (Z : State) (a0 : Array Value) (hw : ∀ d ∈ tables_1, d.before a0 Z = true) (ws : List Jvm.Cond) (x y : Int32) (h0 : Heap) (n0 : Nat) (Z0 : n0 ≤ h0.size)  :
    MetFree l (⟨"com/example/coarsen/coarsen/engine/Information", "exceeds", "(DD)Z"⟩ : MethodName) (head1 (Jvm.Cond.code (⟨"com/example/coarsen/coarsen/engine/Information", "exceeds", "(DD)Z"⟩ : MethodName) prog_8_method_4_code 4 (some .boolean) :: ws) ({ frames := 0, cells := 0, slots := 0, locals := 0 } : Room)) (fun a U => a = #[(.double (FP.i2d x)), (.double (FP.i2d y))] ∧ Z.Warmed39 U.vm ∧ U.heap = h0) (fun _ _ _ _ _ => True) (fun _ U o U' => ∃ v L, o = .returned v ∧ Q_rm1 Z x y h0 n0 v U'.heap L ∧ FrameEnd U o U' L ({ frames := 0, cells := 0, slots := 0, locals := 0 } : Room).cells ({ frames := 0, cells := 0, slots := 0, locals := 0 } : Room).slots) := by
  refine MetFree.of_bodySF (plainFor_of_name pn_1) hisR ?_
  intro p e s m args below meth c s₁ Bd hml0 hP hK
  obtain ⟨rfl, hZ, hh⟩ := hP
  have hx := Bd.exec
  have hby := Bd.bytes
  have hml : c.maxLocals = 4 := hml0
  have hown : s.vm.findClass "com/example/coarsen/coarsen/engine/Information" = some m.cls := findClass_of_methodNamed Bd.named
  have hnm := (name_of_methodNamed Bd.named Bd.method).1
  have X0 : Stand p l e ({ frames := 0, cells := 0, slots := 0, locals := 0 } : Room) s m #[(.double (FP.i2d x)), (.double (FP.i2d y))] below meth c s₁ [] 0 0 := Stand.of_body Bd
  have e0 : s₁.heap = h0 := by rw [← hh, Bd.state]; rfl
  have N0 := Fr.nil n0
  have pre0 : ∀ t, Steps p.tables e below (s₁.setTop (mkF m 0 #[.val (.double (FP.i2d x)), .second, .val (.double (FP.i2d y)), .second] [])) t → Steps p.tables e below (s₁.setTop (entryFrame m #[(.double (FP.i2d x)), (.double (FP.i2d y))] 4)) t := fun t k => castTop (ef_rm1 m (FP.i2d x) (FP.i2d y)) k
  have pre_1 : ∀ t, Steps p.tables e below (s₁.setTop (mkF m 7 #[.val (.double (FP.i2d x)), .second, .val (.double (FP.i2d y)), .second] [(.int (own_cv x y))])) t → Steps p.tables e below (s₁.setTop (entryFrame m #[(.double (FP.i2d x)), (.double (FP.i2d y))] 4)) t := by
    intro t kt
    refine pre0 _ ?_
    show Steps p.tables e below (s₁.setTop (mkF m 0 #[.val (.double (FP.i2d x)), .second, .val (.double (FP.i2d y)), .second] [])) _
    refine XS.dloadN X0.here hx rfl (hb hby d1_0) rfl ?_
    show Steps p.tables e below (s₁.setTop (mkF m 1 #[.val (.double (FP.i2d x)), .second, .val (.double (FP.i2d y)), .second] [(.double (FP.i2d x))])) _
    refine XS.dloadN X0.here hx rfl (hb hby d1_1) rfl ?_
    show Steps p.tables e below (s₁.setTop (mkF m 2 #[.val (.double (FP.i2d x)), .second, .val (.double (FP.i2d y)), .second] [(.double (FP.i2d y)), (.double (FP.i2d x))])) _
    refine XS.dsubS X0.here hx rfl (hb hby d1_2) rfl (nn_w (own_sub x y)) (own_sub x y) ?_
    show Steps p.tables e below (s₁.setTop (mkF m 3 #[.val (.double (FP.i2d x)), .second, .val (.double (FP.i2d y)), .second] [(.double (FP.l2d (x.toInt64 - y.toInt64)))])) _
    refine X0.ldc2DoubleC hx hown (mvT hZ (hw _ (List.mem_of_getElem? (i := 4) rfl))) (g := (mkF m 3 #[.val (.double (FP.i2d x)), .second, .val (.double (FP.i2d y)), .second] [(.double (FP.l2d (x.toInt64 - y.toInt64)))])) rfl (hb hby d1_3) _ ?_
    show Steps p.tables e below (s₁.setTop (mkF m 6 #[.val (.double (FP.i2d x)), .second, .val (.double (FP.i2d y)), .second] [(.double (4472406533629990549 : UInt64)), (.double (FP.l2d (x.toInt64 - y.toInt64)))])) _
    refine XS.dcmpS X0.here hx rfl (hb hby d1_6) rfl rfl ?_
    exact kt
  by_cases hc7 : (own_cv x y) < (0 : Int32)
  · obtain ⟨fs, hr, hrun, hended, hW, hsame⟩ := X0.leave (v := some (.int (0 : Int32))) (fun h => by rw [Bd.returns] at h; cases h)
    refine ⟨_, _, pre_1 _ ?_, hrun, hended, _, _, rfl, ?_, ⟨_, rfl⟩, hW, hsame.mono (by decide) (by decide)⟩
    · show Steps p.tables e below (s₁.setTop (mkF m 7 #[.val (.double (FP.i2d x)), .second, .val (.double (FP.i2d y)), .second] [(.int (own_cv x y))])) _
      refine XS.ifYes X0.here hx rfl (pc0 := 7) (pc' := 14) rfl (hb hby d1_7) rfl ((if0 _ _).trans (tlt hc7).1) (by decide) (by decide) ?_
      show Steps p.tables e below (s₁.setTop (mkF m 14 #[.val (.double (FP.i2d x)), .second, .val (.double (FP.i2d y)), .second] [])) _
      refine XS.iconst X0.here hx rfl (hb hby d1_14) ?_
      show Steps p.tables e below (s₁.setTop (mkF m 15 #[.val (.double (FP.i2d x)), .second, .val (.double (FP.i2d y)), .second] [(.int (0 : Int32))])) _
      exact retN X0 hx (t := .boolean) Bd.returns (by simp) (hb hby d1_15) hr
    · show Q_rm1 Z x y h0 n0 _ s₁.heap _
      rw [e0]
      exact ⟨by rw [own_ex, if_pos hc7], N0, rfl⟩
  · obtain ⟨fs, hr, hrun, hended, hW, hsame⟩ := X0.leave (v := some (.int (1 : Int32))) (fun h => by rw [Bd.returns] at h; cases h)
    refine ⟨_, _, pre_1 _ ?_, hrun, hended, _, _, rfl, ?_, ⟨_, rfl⟩, hW, hsame.mono (by decide) (by decide)⟩
    · show Steps p.tables e below (s₁.setTop (mkF m 7 #[.val (.double (FP.i2d x)), .second, .val (.double (FP.i2d y)), .second] [(.int (own_cv x y))])) _
      refine XS.ifNo X0.here hx rfl (hb hby d1_7) rfl ((if0 _ _).trans (flt hc7).1) ?_
      show Steps p.tables e below (s₁.setTop (mkF m 10 #[.val (.double (FP.i2d x)), .second, .val (.double (FP.i2d y)), .second] [])) _
      refine XS.iconst X0.here hx rfl (hb hby d1_10) ?_
      show Steps p.tables e below (s₁.setTop (mkF m 11 #[.val (.double (FP.i2d x)), .second, .val (.double (FP.i2d y)), .second] [(.int (1 : Int32))])) _
      refine XS.goto X0.here hx rfl (pc0 := 11) (pc' := 15) rfl (hb hby d1_11) (by decide) (by decide) ?_
      show Steps p.tables e below (s₁.setTop (mkF m 15 #[.val (.double (FP.i2d x)), .second, .val (.double (FP.i2d y)), .second] [(.int (1 : Int32))])) _
      exact retN X0 hx (t := .boolean) Bd.returns (by simp) (hb hby d1_15) hr
    · show Q_rm1 Z x y h0 n0 _ s₁.heap _
      rw [e0]
      exact ⟨by rw [own_ex, if_neg hc7], N0, rfl⟩
theorem pn_0 : plainName "com/example/coarsen/coarsen/engine/InformationExceedsPinLaw" = true := by first | (simp [plainName, overriddenIn]; done) | decide +kernel
theorem ef_rm0 (m : MethodId) (x0 : Int32) (x1 : Int32) (x2 : Int32) : entryFrame m #[(.int x0), (.int x1), (.int x2)] maxLocals = mkF m 0 #[.val (.int x0), .val (.int x1), .val (.int x2), .unset, .unset, .unset, .unset, .unset, .unset, .unset, .unset] [] := by first | (simp [entryFrame, mkF, argsToLocals, Value.category, maxLocals]; done) | rfl
def Q_rm0 (Z : State) (p1 : Int32) (p2 : Int32) (p3 : Int32) (h0 : Heap) (n0 : Nat) (v : Option Value) (h : Heap) (L : List Loc) : Prop := v = some (.int 1) ∧ Fr n0 L
theorem pd__DD_Z_307 : parseMethodDescriptor "(DD)Z" = some ⟨[.double, .double], some .boolean⟩ := by decide +kernel
set_option maxRecDepth 65536 in
set_option maxHeartbeats 40000000 in
theorem rm0 (l : Launch) (Z : State) (a0 : Array Value) (hw : ∀ d ∈ tables_1, d.before a0 Z = true) (ws : List Jvm.Cond) (p1 : Int32) (p2 : Int32) (p3 : Int32) (h0 : Heap) (n0 : Nat) (Z0 : n0 ≤ h0.size)  :
    MetFree l x (head1 (Jvm.Cond.code x code maxLocals ret :: ws) room_1) (fun a U => a = #[(.int p1), (.int p2), (.int p3)] ∧ Z.Warmed39 U.vm ∧ U.heap = h0) (fun _ _ _ _ _ => True) (fun _ U o U' => ∃ v L, o = .returned v ∧ Q_rm0 Z p1 p2 p3 h0 n0 v U'.heap L ∧ FrameEnd U o U' L room_1.cells room_1.slots) := by
  refine MetFree.of_bodySF (plainFor_of_name pn_0) hisR ?_
  intro p e s m args below meth c s₁ Bd hml0 hP hK
  obtain ⟨rfl, hZ, hh⟩ := hP
  have hx := Bd.exec
  have hby := Bd.bytes
  have hml : c.maxLocals = 11 := hml0
  have hown : s.vm.findClass "com/example/coarsen/coarsen/engine/InformationExceedsPinLaw" = some m.cls := findClass_of_methodNamed Bd.named
  have hnm := (name_of_methodNamed Bd.named Bd.method).1
  have X0 : Stand p l e room_1 s m #[(.int p1), (.int p2), (.int p3)] below meth c s₁ [] 0 0 := Stand.of_body Bd
  have e0 : s₁.heap = h0 := by rw [← hh, Bd.state]; rfl
  have N0 := Fr.nil n0
  have pre0 : ∀ t, Steps p.tables e below (s₁.setTop (mkF m 0 #[.val (.int p1), .val (.int p2), .val (.int p3), .unset, .unset, .unset, .unset, .unset, .unset, .unset, .unset] [])) t → Steps p.tables e below (s₁.setTop (entryFrame m #[(.int p1), (.int p2), (.int p3)] maxLocals)) t := fun t k => castTop (ef_rm0 m p1 p2 p3) k
  have pre_1 : ∀ t, Steps p.tables e below (s₁.setTop (mkF m 5 #[.val (.int p1), .val (.int p2), .val (.int p3), .val (.int (p3 &&& (3 : Int32))), .unset, .unset, .unset, .unset, .unset, .unset, .unset] [(.int (p3 &&& (3 : Int32)))])) t → Steps p.tables e below (s₁.setTop (entryFrame m #[(.int p1), (.int p2), (.int p3)] maxLocals)) t := by
    intro t kt
    refine pre0 _ ?_
    show Steps p.tables e below (s₁.setTop (mkF m 0 #[.val (.int p1), .val (.int p2), .val (.int p3), .unset, .unset, .unset, .unset, .unset, .unset, .unset, .unset] [])) _
    refine XS.iloadN X0.here hx rfl (hb hby at_0) rfl ?_
    show Steps p.tables e below (s₁.setTop (mkF m 1 #[.val (.int p1), .val (.int p2), .val (.int p3), .unset, .unset, .unset, .unset, .unset, .unset, .unset, .unset] [(.int p3)])) _
    refine XS.iconst X0.here hx rfl (hb hby at_1) ?_
    show Steps p.tables e below (s₁.setTop (mkF m 2 #[.val (.int p1), .val (.int p2), .val (.int p3), .unset, .unset, .unset, .unset, .unset, .unset, .unset, .unset] [(.int (3 : Int32)), (.int p3)])) _
    refine XS.iand X0.here hx rfl (hb hby at_2) rfl ?_
    show Steps p.tables e below (s₁.setTop (mkF m 3 #[.val (.int p1), .val (.int p2), .val (.int p3), .unset, .unset, .unset, .unset, .unset, .unset, .unset, .unset] [(.int (p3 &&& (3 : Int32)))])) _
    refine XS.istoreN X0.here hx rfl (hb hby at_3) rfl (l' := #[.val (.int p1), .val (.int p2), .val (.int p3), .val (.int (p3 &&& (3 : Int32))), .unset, .unset, .unset, .unset, .unset, .unset, .unset]) rfl ?_
    show Steps p.tables e below (s₁.setTop (mkF m 4 #[.val (.int p1), .val (.int p2), .val (.int p3), .val (.int (p3 &&& (3 : Int32))), .unset, .unset, .unset, .unset, .unset, .unset, .unset] [])) _
    refine XS.iloadN X0.here hx rfl (hb hby at_4) rfl ?_
    exact kt
  by_cases hc5 : (p3 &&& (3 : Int32)) = (0 : Int32)
  · obtain ⟨_, _, ⟨T2, L2, k2, n2⟩, -, X2, ⟨Lc2, hQ2, l2, y2, z2⟩, st2⟩ := Jvm.LawKit.callS X0 hx (y := (⟨"com/example/coarsen/coarsen/engine/Information", "exceeds", "(DD)Z"⟩ : MethodName)) hown (mvT hZ (hw _ (List.mem_of_getElem? (i := 0) rfl))) (mvT hZ (hw _ (List.mem_of_getElem? (i := 1) rfl))) (mvT hZ (hw _ (List.mem_of_getElem? (i := 2) rfl))) (mvT hZ (hw _ (List.mem_of_getElem? (i := 3) rfl))) (by decide) (backOf (W := 0) (rm1 l Z a0 hw [] p1 p2 h0 n0 Z0 ) hZ (hw _ (List.mem_of_getElem? (i := 3) rfl)) (hw _ (List.mem_of_getElem? (i := 2) rfl)) (by decide) (by decide)) (g := (mkF m 56 #[.val (.int p1), .val (.int p2), .val (.int p3), .val (.int (p3 &&& (3 : Int32))), .val (.int p2), .val (.double (FP.i2d p1)), .second, .val (.double (FP.i2d p2)), .second, .unset, .unset] [(.double (FP.i2d p2)), (.double (FP.i2d p1))])) rfl (by rw [hml]; rfl) (argsL := [(.double (FP.i2d p1)), (.double (FP.i2d p2))]) (rest := []) (lenOf pd__DD_Z_307 rfl) rfl (by show 2 * 0 + _ ≤ _; exact Nat.le_of_eq rfl) (hb hby at_56) (fun _ _ => ⟨rfl, e0, (by decide : 0 + 0 ≤ _), (by decide : 0 + 0 ≤ _)⟩)
    dsimp only [Pt.U, Pt.locs, Pt.cells, Pt.slots] at X2 l2 y2 z2 st2 hQ2
    subst l2 y2 z2
    obtain ⟨rfl, N2q, e2⟩ := hQ2
    have N2 := Fr.app N0 N2q
    obtain ⟨_, _, ⟨T3, L3, k3, n3⟩, -, X3, ⟨Lc3, hQ3, l3, y3, z3⟩, st3⟩ := Jvm.LawKit.callS X2 hx (y := (⟨"com/example/coarsen/coarsen/engine/Information", "exceeds", "(DD)Z"⟩ : MethodName)) hown (mvT hZ (hw _ (List.mem_of_getElem? (i := 0) rfl))) (mvT hZ (hw _ (List.mem_of_getElem? (i := 1) rfl))) (mvT hZ (hw _ (List.mem_of_getElem? (i := 2) rfl))) (mvT hZ (hw _ (List.mem_of_getElem? (i := 3) rfl))) (by decide) (backOf (W := 0) (rm1 l Z a0 hw [] p2 p1 h0 n0 Z0 ) hZ (hw _ (List.mem_of_getElem? (i := 3) rfl)) (hw _ (List.mem_of_getElem? (i := 2) rfl)) (by decide) (by decide)) (g := (mkF m 65 #[.val (.int p1), .val (.int p2), .val (.int p3), .val (.int (p3 &&& (3 : Int32))), .val (.int p2), .val (.double (FP.i2d p1)), .second, .val (.double (FP.i2d p2)), .second, .val (.int (own_ex p1 p2)), .unset] [(.double (FP.i2d p1)), (.double (FP.i2d p2))])) rfl (by rw [hml]; rfl) (argsL := [(.double (FP.i2d p2)), (.double (FP.i2d p1))]) (rest := []) (lenOf pd__DD_Z_307 rfl) rfl (by show 2 * 0 + _ ≤ _; exact Nat.le_of_eq rfl) (hb hby at_65) (fun _ _ => ⟨rfl, e2, (by decide : 0 + 0 ≤ _), (by decide : 0 + 0 ≤ _)⟩)
    dsimp only [Pt.U, Pt.locs, Pt.cells, Pt.slots] at X3 l3 y3 z3 st3 hQ3
    subst l3 y3 z3
    obtain ⟨rfl, N3q, e3⟩ := hQ3
    have N3 := Fr.app N2 N3q
    have pre_4 : ∀ t, Steps p.tables e below (T3.setTop (mkF m 83 #[.val (.int p1), .val (.int p2), .val (.int p3), .val (.int (p3 &&& (3 : Int32))), .val (.int p2), .val (.double (FP.i2d p1)), .second, .val (.double (FP.i2d p2)), .second, .val (.int (own_ex p1 p2)), .val (.int (own_ex p2 p1))] [(.int (if p2 < p1 then (1 : Int32) else (0 : Int32))), (.int (own_ex p1 p2))])) t → Steps p.tables e below (s₁.setTop (entryFrame m #[(.int p1), (.int p2), (.int p3)] maxLocals)) t := by
      intro t kt
      refine pre_1 _ ?_
      show Steps p.tables e below (s₁.setTop (mkF m 5 #[.val (.int p1), .val (.int p2), .val (.int p3), .val (.int (p3 &&& (3 : Int32))), .unset, .unset, .unset, .unset, .unset, .unset, .unset] [(.int (p3 &&& (3 : Int32)))])) _
      refine XS.ifNo X0.here hx rfl (hb hby at_5) rfl ((if0 _ _).trans (teq hc5).2) ?_
      show Steps p.tables e below (s₁.setTop (mkF m 8 #[.val (.int p1), .val (.int p2), .val (.int p3), .val (.int (p3 &&& (3 : Int32))), .unset, .unset, .unset, .unset, .unset, .unset, .unset] [])) _
      refine XS.iloadN X0.here hx rfl (hb hby at_8) rfl ?_
      show Steps p.tables e below (s₁.setTop (mkF m 9 #[.val (.int p1), .val (.int p2), .val (.int p3), .val (.int (p3 &&& (3 : Int32))), .unset, .unset, .unset, .unset, .unset, .unset, .unset] [(.int p2)])) _
      refine XS.istore X0.here hx rfl (hb hby at_9) rfl (l' := #[.val (.int p1), .val (.int p2), .val (.int p3), .val (.int (p3 &&& (3 : Int32))), .val (.int p2), .unset, .unset, .unset, .unset, .unset, .unset]) rfl ?_
      show Steps p.tables e below (s₁.setTop (mkF m 11 #[.val (.int p1), .val (.int p2), .val (.int p3), .val (.int (p3 &&& (3 : Int32))), .val (.int p2), .unset, .unset, .unset, .unset, .unset, .unset] [])) _
      refine XS.goto X0.here hx rfl (pc0 := 11) (pc' := 43) rfl (hb hby at_11) (by decide) (by decide) ?_
      show Steps p.tables e below (s₁.setTop (mkF m 43 #[.val (.int p1), .val (.int p2), .val (.int p3), .val (.int (p3 &&& (3 : Int32))), .val (.int p2), .unset, .unset, .unset, .unset, .unset, .unset] [])) _
      refine XS.iloadN X0.here hx rfl (hb hby at_43) rfl ?_
      show Steps p.tables e below (s₁.setTop (mkF m 44 #[.val (.int p1), .val (.int p2), .val (.int p3), .val (.int (p3 &&& (3 : Int32))), .val (.int p2), .unset, .unset, .unset, .unset, .unset, .unset] [(.int p1)])) _
      refine XS.i2dS X0.here hx rfl (hb hby at_44) rfl rfl ?_
      show Steps p.tables e below (s₁.setTop (mkF m 45 #[.val (.int p1), .val (.int p2), .val (.int p3), .val (.int (p3 &&& (3 : Int32))), .val (.int p2), .unset, .unset, .unset, .unset, .unset, .unset] [(.double (FP.i2d p1))])) _
      refine XS.dstore X0.here hx rfl (hb hby at_45) rfl (l' := #[.val (.int p1), .val (.int p2), .val (.int p3), .val (.int (p3 &&& (3 : Int32))), .val (.int p2), .val (.double (FP.i2d p1)), .second, .unset, .unset, .unset, .unset]) rfl ?_
      show Steps p.tables e below (s₁.setTop (mkF m 47 #[.val (.int p1), .val (.int p2), .val (.int p3), .val (.int (p3 &&& (3 : Int32))), .val (.int p2), .val (.double (FP.i2d p1)), .second, .unset, .unset, .unset, .unset] [])) _
      refine XS.iload X0.here hx rfl (hb hby at_47) rfl ?_
      show Steps p.tables e below (s₁.setTop (mkF m 49 #[.val (.int p1), .val (.int p2), .val (.int p3), .val (.int (p3 &&& (3 : Int32))), .val (.int p2), .val (.double (FP.i2d p1)), .second, .unset, .unset, .unset, .unset] [(.int p2)])) _
      refine XS.i2dS X0.here hx rfl (hb hby at_49) rfl rfl ?_
      show Steps p.tables e below (s₁.setTop (mkF m 50 #[.val (.int p1), .val (.int p2), .val (.int p3), .val (.int (p3 &&& (3 : Int32))), .val (.int p2), .val (.double (FP.i2d p1)), .second, .unset, .unset, .unset, .unset] [(.double (FP.i2d p2))])) _
      refine XS.dstore X0.here hx rfl (hb hby at_50) rfl (l' := #[.val (.int p1), .val (.int p2), .val (.int p3), .val (.int (p3 &&& (3 : Int32))), .val (.int p2), .val (.double (FP.i2d p1)), .second, .val (.double (FP.i2d p2)), .second, .unset, .unset]) rfl ?_
      show Steps p.tables e below (s₁.setTop (mkF m 52 #[.val (.int p1), .val (.int p2), .val (.int p3), .val (.int (p3 &&& (3 : Int32))), .val (.int p2), .val (.double (FP.i2d p1)), .second, .val (.double (FP.i2d p2)), .second, .unset, .unset] [])) _
      refine XS.dload X0.here hx rfl (hb hby at_52) rfl ?_
      show Steps p.tables e below (s₁.setTop (mkF m 54 #[.val (.int p1), .val (.int p2), .val (.int p3), .val (.int (p3 &&& (3 : Int32))), .val (.int p2), .val (.double (FP.i2d p1)), .second, .val (.double (FP.i2d p2)), .second, .unset, .unset] [(.double (FP.i2d p1))])) _
      refine XS.dload X0.here hx rfl (hb hby at_54) rfl ?_
      show Steps p.tables e below (s₁.setTop (mkF m 56 #[.val (.int p1), .val (.int p2), .val (.int p3), .val (.int (p3 &&& (3 : Int32))), .val (.int p2), .val (.double (FP.i2d p1)), .second, .val (.double (FP.i2d p2)), .second, .unset, .unset] [(.double (FP.i2d p2)), (.double (FP.i2d p1))])) _
      refine st2 _ ?_
      show Steps p.tables e below (T2.setTop (mkF m 59 #[.val (.int p1), .val (.int p2), .val (.int p3), .val (.int (p3 &&& (3 : Int32))), .val (.int p2), .val (.double (FP.i2d p1)), .second, .val (.double (FP.i2d p2)), .second, .unset, .unset] [(.int (own_ex p1 p2))])) _
      refine XS.istore X2.here hx rfl (hb hby at_59) rfl (l' := #[.val (.int p1), .val (.int p2), .val (.int p3), .val (.int (p3 &&& (3 : Int32))), .val (.int p2), .val (.double (FP.i2d p1)), .second, .val (.double (FP.i2d p2)), .second, .val (.int (own_ex p1 p2)), .unset]) rfl ?_
      show Steps p.tables e below (T2.setTop (mkF m 61 #[.val (.int p1), .val (.int p2), .val (.int p3), .val (.int (p3 &&& (3 : Int32))), .val (.int p2), .val (.double (FP.i2d p1)), .second, .val (.double (FP.i2d p2)), .second, .val (.int (own_ex p1 p2)), .unset] [])) _
      refine XS.dload X2.here hx rfl (hb hby at_61) rfl ?_
      show Steps p.tables e below (T2.setTop (mkF m 63 #[.val (.int p1), .val (.int p2), .val (.int p3), .val (.int (p3 &&& (3 : Int32))), .val (.int p2), .val (.double (FP.i2d p1)), .second, .val (.double (FP.i2d p2)), .second, .val (.int (own_ex p1 p2)), .unset] [(.double (FP.i2d p2))])) _
      refine XS.dload X2.here hx rfl (hb hby at_63) rfl ?_
      show Steps p.tables e below (T2.setTop (mkF m 65 #[.val (.int p1), .val (.int p2), .val (.int p3), .val (.int (p3 &&& (3 : Int32))), .val (.int p2), .val (.double (FP.i2d p1)), .second, .val (.double (FP.i2d p2)), .second, .val (.int (own_ex p1 p2)), .unset] [(.double (FP.i2d p1)), (.double (FP.i2d p2))])) _
      refine st3 _ ?_
      show Steps p.tables e below (T3.setTop (mkF m 68 #[.val (.int p1), .val (.int p2), .val (.int p3), .val (.int (p3 &&& (3 : Int32))), .val (.int p2), .val (.double (FP.i2d p1)), .second, .val (.double (FP.i2d p2)), .second, .val (.int (own_ex p1 p2)), .unset] [(.int (own_ex p2 p1))])) _
      refine XS.istore X3.here hx rfl (hb hby at_68) rfl (l' := #[.val (.int p1), .val (.int p2), .val (.int p3), .val (.int (p3 &&& (3 : Int32))), .val (.int p2), .val (.double (FP.i2d p1)), .second, .val (.double (FP.i2d p2)), .second, .val (.int (own_ex p1 p2)), .val (.int (own_ex p2 p1))]) rfl ?_
      show Steps p.tables e below (T3.setTop (mkF m 70 #[.val (.int p1), .val (.int p2), .val (.int p3), .val (.int (p3 &&& (3 : Int32))), .val (.int p2), .val (.double (FP.i2d p1)), .second, .val (.double (FP.i2d p2)), .second, .val (.int (own_ex p1 p2)), .val (.int (own_ex p2 p1))] [])) _
      refine XS.iload X3.here hx rfl (hb hby at_70) rfl ?_
      show Steps p.tables e below (T3.setTop (mkF m 72 #[.val (.int p1), .val (.int p2), .val (.int p3), .val (.int (p3 &&& (3 : Int32))), .val (.int p2), .val (.double (FP.i2d p1)), .second, .val (.double (FP.i2d p2)), .second, .val (.int (own_ex p1 p2)), .val (.int (own_ex p2 p1))] [(.int (own_ex p1 p2))])) _
      refine XS.iloadN X3.here hx rfl (hb hby at_72) rfl ?_
      show Steps p.tables e below (T3.setTop (mkF m 73 #[.val (.int p1), .val (.int p2), .val (.int p3), .val (.int (p3 &&& (3 : Int32))), .val (.int p2), .val (.double (FP.i2d p1)), .second, .val (.double (FP.i2d p2)), .second, .val (.int (own_ex p1 p2)), .val (.int (own_ex p2 p1))] [(.int p1), (.int (own_ex p1 p2))])) _
      refine XS.iload X3.here hx rfl (hb hby at_73) rfl ?_
      show Steps p.tables e below (T3.setTop (mkF m 75 #[.val (.int p1), .val (.int p2), .val (.int p3), .val (.int (p3 &&& (3 : Int32))), .val (.int p2), .val (.double (FP.i2d p1)), .second, .val (.double (FP.i2d p2)), .second, .val (.int (own_ex p1 p2)), .val (.int (own_ex p2 p1))] [(.int p2), (.int p1), (.int (own_ex p1 p2))])) _
      by_cases hc75 : p2 < p1
      · rw [if_pos hc75] at kt
        refine XS.icmpNo X3.here hx rfl (hb hby at_75) rfl (tlt hc75).2.2.2 ?_
        show Steps p.tables e below (T3.setTop (mkF m 78 #[.val (.int p1), .val (.int p2), .val (.int p3), .val (.int (p3 &&& (3 : Int32))), .val (.int p2), .val (.double (FP.i2d p1)), .second, .val (.double (FP.i2d p2)), .second, .val (.int (own_ex p1 p2)), .val (.int (own_ex p2 p1))] [(.int (own_ex p1 p2))])) _
        refine XS.iconst X3.here hx rfl (hb hby at_78) ?_
        show Steps p.tables e below (T3.setTop (mkF m 79 #[.val (.int p1), .val (.int p2), .val (.int p3), .val (.int (p3 &&& (3 : Int32))), .val (.int p2), .val (.double (FP.i2d p1)), .second, .val (.double (FP.i2d p2)), .second, .val (.int (own_ex p1 p2)), .val (.int (own_ex p2 p1))] [(.int (1 : Int32)), (.int (own_ex p1 p2))])) _
        refine XS.goto X3.here hx rfl (pc0 := 79) (pc' := 83) rfl (hb hby at_79) (by decide) (by decide) ?_
        exact kt
      · rw [if_neg hc75] at kt
        refine XS.icmpYes X3.here hx rfl (pc0 := 75) (pc' := 82) rfl (hb hby at_75) rfl (flt hc75).2.2.2 (by decide) (by decide) ?_
        show Steps p.tables e below (T3.setTop (mkF m 82 #[.val (.int p1), .val (.int p2), .val (.int p3), .val (.int (p3 &&& (3 : Int32))), .val (.int p2), .val (.double (FP.i2d p1)), .second, .val (.double (FP.i2d p2)), .second, .val (.int (own_ex p1 p2)), .val (.int (own_ex p2 p1))] [(.int (own_ex p1 p2))])) _
        refine XS.iconst X3.here hx rfl (hb hby at_82) ?_
        exact kt
    have pre_5 : ∀ t, Steps p.tables e below (T3.setTop (mkF m 99 #[.val (.int p1), .val (.int p2), .val (.int p3), .val (.int (p3 &&& (3 : Int32))), .val (.int p2), .val (.double (FP.i2d p1)), .second, .val (.double (FP.i2d p2)), .second, .val (.int (own_ex p1 p2)), .val (.int (own_ex p2 p1))] [(.int (if p1 < p2 then (1 : Int32) else (0 : Int32))), (.int (own_ex p2 p1))])) t → Steps p.tables e below (s₁.setTop (entryFrame m #[(.int p1), (.int p2), (.int p3)] maxLocals)) t := by
      intro t kt
      refine pre_4 _ ?_
      show Steps p.tables e below (T3.setTop (mkF m 83 #[.val (.int p1), .val (.int p2), .val (.int p3), .val (.int (p3 &&& (3 : Int32))), .val (.int p2), .val (.double (FP.i2d p1)), .second, .val (.double (FP.i2d p2)), .second, .val (.int (own_ex p1 p2)), .val (.int (own_ex p2 p1))] [(.int (if p2 < p1 then (1 : Int32) else (0 : Int32))), (.int (own_ex p1 p2))])) _
      refine XS.icmpNo X3.here hx rfl (hb hby at_83) rfl (teq (own_p _ _)).2 ?_
      show Steps p.tables e below (T3.setTop (mkF m 86 #[.val (.int p1), .val (.int p2), .val (.int p3), .val (.int (p3 &&& (3 : Int32))), .val (.int p2), .val (.double (FP.i2d p1)), .second, .val (.double (FP.i2d p2)), .second, .val (.int (own_ex p1 p2)), .val (.int (own_ex p2 p1))] [])) _
      refine XS.iload X3.here hx rfl (hb hby at_86) rfl ?_
      show Steps p.tables e below (T3.setTop (mkF m 88 #[.val (.int p1), .val (.int p2), .val (.int p3), .val (.int (p3 &&& (3 : Int32))), .val (.int p2), .val (.double (FP.i2d p1)), .second, .val (.double (FP.i2d p2)), .second, .val (.int (own_ex p1 p2)), .val (.int (own_ex p2 p1))] [(.int (own_ex p2 p1))])) _
      refine XS.iload X3.here hx rfl (hb hby at_88) rfl ?_
      show Steps p.tables e below (T3.setTop (mkF m 90 #[.val (.int p1), .val (.int p2), .val (.int p3), .val (.int (p3 &&& (3 : Int32))), .val (.int p2), .val (.double (FP.i2d p1)), .second, .val (.double (FP.i2d p2)), .second, .val (.int (own_ex p1 p2)), .val (.int (own_ex p2 p1))] [(.int p2), (.int (own_ex p2 p1))])) _
      refine XS.iloadN X3.here hx rfl (hb hby at_90) rfl ?_
      show Steps p.tables e below (T3.setTop (mkF m 91 #[.val (.int p1), .val (.int p2), .val (.int p3), .val (.int (p3 &&& (3 : Int32))), .val (.int p2), .val (.double (FP.i2d p1)), .second, .val (.double (FP.i2d p2)), .second, .val (.int (own_ex p1 p2)), .val (.int (own_ex p2 p1))] [(.int p1), (.int p2), (.int (own_ex p2 p1))])) _
      by_cases hc91 : p1 < p2
      · rw [if_pos hc91] at kt
        refine XS.icmpNo X3.here hx rfl (hb hby at_91) rfl (tlt hc91).2.2.2 ?_
        show Steps p.tables e below (T3.setTop (mkF m 94 #[.val (.int p1), .val (.int p2), .val (.int p3), .val (.int (p3 &&& (3 : Int32))), .val (.int p2), .val (.double (FP.i2d p1)), .second, .val (.double (FP.i2d p2)), .second, .val (.int (own_ex p1 p2)), .val (.int (own_ex p2 p1))] [(.int (own_ex p2 p1))])) _
        refine XS.iconst X3.here hx rfl (hb hby at_94) ?_
        show Steps p.tables e below (T3.setTop (mkF m 95 #[.val (.int p1), .val (.int p2), .val (.int p3), .val (.int (p3 &&& (3 : Int32))), .val (.int p2), .val (.double (FP.i2d p1)), .second, .val (.double (FP.i2d p2)), .second, .val (.int (own_ex p1 p2)), .val (.int (own_ex p2 p1))] [(.int (1 : Int32)), (.int (own_ex p2 p1))])) _
        refine XS.goto X3.here hx rfl (pc0 := 95) (pc' := 99) rfl (hb hby at_95) (by decide) (by decide) ?_
        exact kt
      · rw [if_neg hc91] at kt
        refine XS.icmpYes X3.here hx rfl (pc0 := 91) (pc' := 98) rfl (hb hby at_91) rfl (flt hc91).2.2.2 (by decide) (by decide) ?_
        show Steps p.tables e below (T3.setTop (mkF m 98 #[.val (.int p1), .val (.int p2), .val (.int p3), .val (.int (p3 &&& (3 : Int32))), .val (.int p2), .val (.double (FP.i2d p1)), .second, .val (.double (FP.i2d p2)), .second, .val (.int (own_ex p1 p2)), .val (.int (own_ex p2 p1))] [(.int (own_ex p2 p1))])) _
        refine XS.iconst X3.here hx rfl (hb hby at_98) ?_
        exact kt
    obtain ⟨fs, hr, hrun, hended, hW, hsame⟩ := X3.leave (v := some (.int (1 : Int32))) (fun h => by rw [Bd.returns] at h; cases h)
    refine ⟨_, _, pre_5 _ ?_, hrun, hended, _, _, rfl, ?_, ⟨_, rfl⟩, hW, hsame.mono (by decide) (by decide)⟩
    · show Steps p.tables e below (T3.setTop (mkF m 99 #[.val (.int p1), .val (.int p2), .val (.int p3), .val (.int (p3 &&& (3 : Int32))), .val (.int p2), .val (.double (FP.i2d p1)), .second, .val (.double (FP.i2d p2)), .second, .val (.int (own_ex p1 p2)), .val (.int (own_ex p2 p1))] [(.int (if p1 < p2 then (1 : Int32) else (0 : Int32))), (.int (own_ex p2 p1))])) _
      refine XS.icmpNo X3.here hx rfl (hb hby at_99) rfl (teq (own_p _ _)).2 ?_
      show Steps p.tables e below (T3.setTop (mkF m 102 #[.val (.int p1), .val (.int p2), .val (.int p3), .val (.int (p3 &&& (3 : Int32))), .val (.int p2), .val (.double (FP.i2d p1)), .second, .val (.double (FP.i2d p2)), .second, .val (.int (own_ex p1 p2)), .val (.int (own_ex p2 p1))] [])) _
      refine XS.iconst X3.here hx rfl (hb hby at_102) ?_
      show Steps p.tables e below (T3.setTop (mkF m 103 #[.val (.int p1), .val (.int p2), .val (.int p3), .val (.int (p3 &&& (3 : Int32))), .val (.int p2), .val (.double (FP.i2d p1)), .second, .val (.double (FP.i2d p2)), .second, .val (.int (own_ex p1 p2)), .val (.int (own_ex p2 p1))] [(.int (1 : Int32))])) _
      refine XS.goto X3.here hx rfl (pc0 := 103) (pc' := 107) rfl (hb hby at_103) (by decide) (by decide) ?_
      show Steps p.tables e below (T3.setTop (mkF m 107 #[.val (.int p1), .val (.int p2), .val (.int p3), .val (.int (p3 &&& (3 : Int32))), .val (.int p2), .val (.double (FP.i2d p1)), .second, .val (.double (FP.i2d p2)), .second, .val (.int (own_ex p1 p2)), .val (.int (own_ex p2 p1))] [(.int (1 : Int32))])) _
      exact retN X3 hx (t := .boolean) Bd.returns (by simp) (hb hby at_107) hr
    · show Q_rm0 Z p1 p2 p3 h0 n0 _ T3.heap _
      rw [e3]
      exact ⟨rfl, N3⟩
  · have pre_6 : ∀ t, Steps p.tables e below (s₁.setTop (mkF m 16 #[.val (.int p1), .val (.int p2), .val (.int p3), .val (.int (p3 &&& (3 : Int32))), .unset, .unset, .unset, .unset, .unset, .unset, .unset] [(.int (1 : Int32)), (.int (p3 &&& (3 : Int32)))])) t → Steps p.tables e below (s₁.setTop (entryFrame m #[(.int p1), (.int p2), (.int p3)] maxLocals)) t := by
      intro t kt
      refine pre_1 _ ?_
      show Steps p.tables e below (s₁.setTop (mkF m 5 #[.val (.int p1), .val (.int p2), .val (.int p3), .val (.int (p3 &&& (3 : Int32))), .unset, .unset, .unset, .unset, .unset, .unset, .unset] [(.int (p3 &&& (3 : Int32)))])) _
      refine XS.ifYes X0.here hx rfl (pc0 := 5) (pc' := 14) rfl (hb hby at_5) rfl ((if0 _ _).trans (feq hc5).2) (by decide) (by decide) ?_
      show Steps p.tables e below (s₁.setTop (mkF m 14 #[.val (.int p1), .val (.int p2), .val (.int p3), .val (.int (p3 &&& (3 : Int32))), .unset, .unset, .unset, .unset, .unset, .unset, .unset] [])) _
      refine XS.iloadN X0.here hx rfl (hb hby at_14) rfl ?_
      show Steps p.tables e below (s₁.setTop (mkF m 15 #[.val (.int p1), .val (.int p2), .val (.int p3), .val (.int (p3 &&& (3 : Int32))), .unset, .unset, .unset, .unset, .unset, .unset, .unset] [(.int (p3 &&& (3 : Int32)))])) _
      refine XS.iconst X0.here hx rfl (hb hby at_15) ?_
      exact kt
    by_cases hc16 : (p3 &&& (3 : Int32)) = (1 : Int32)
    · obtain ⟨_, _, ⟨T7, L7, k7, n7⟩, -, X7, ⟨Lc7, hQ7, l7, y7, z7⟩, st7⟩ := Jvm.LawKit.callS X0 hx (y := (⟨"com/example/coarsen/coarsen/engine/Information", "exceeds", "(DD)Z"⟩ : MethodName)) hown (mvT hZ (hw _ (List.mem_of_getElem? (i := 0) rfl))) (mvT hZ (hw _ (List.mem_of_getElem? (i := 1) rfl))) (mvT hZ (hw _ (List.mem_of_getElem? (i := 2) rfl))) (mvT hZ (hw _ (List.mem_of_getElem? (i := 3) rfl))) (by decide) (backOf (W := 0) (rm1 l Z a0 hw [] p1 p1 h0 n0 Z0 ) hZ (hw _ (List.mem_of_getElem? (i := 3) rfl)) (hw _ (List.mem_of_getElem? (i := 2) rfl)) (by decide) (by decide)) (g := (mkF m 56 #[.val (.int p1), .val (.int p2), .val (.int p3), .val (.int (p3 &&& (3 : Int32))), .val (.int p1), .val (.double (FP.i2d p1)), .second, .val (.double (FP.i2d p1)), .second, .unset, .unset] [(.double (FP.i2d p1)), (.double (FP.i2d p1))])) rfl (by rw [hml]; rfl) (argsL := [(.double (FP.i2d p1)), (.double (FP.i2d p1))]) (rest := []) (lenOf pd__DD_Z_307 rfl) rfl (by show 2 * 0 + _ ≤ _; exact Nat.le_of_eq rfl) (hb hby at_56) (fun _ _ => ⟨rfl, e0, (by decide : 0 + 0 ≤ _), (by decide : 0 + 0 ≤ _)⟩)
      dsimp only [Pt.U, Pt.locs, Pt.cells, Pt.slots] at X7 l7 y7 z7 st7 hQ7
      subst l7 y7 z7
      obtain ⟨rfl, N7q, e7⟩ := hQ7
      have N7 := Fr.app N0 N7q
      obtain ⟨_, _, ⟨T8, L8, k8, n8⟩, -, X8, ⟨Lc8, hQ8, l8, y8, z8⟩, st8⟩ := Jvm.LawKit.callS X7 hx (y := (⟨"com/example/coarsen/coarsen/engine/Information", "exceeds", "(DD)Z"⟩ : MethodName)) hown (mvT hZ (hw _ (List.mem_of_getElem? (i := 0) rfl))) (mvT hZ (hw _ (List.mem_of_getElem? (i := 1) rfl))) (mvT hZ (hw _ (List.mem_of_getElem? (i := 2) rfl))) (mvT hZ (hw _ (List.mem_of_getElem? (i := 3) rfl))) (by decide) (backOf (W := 0) (rm1 l Z a0 hw [] p1 p1 h0 n0 Z0 ) hZ (hw _ (List.mem_of_getElem? (i := 3) rfl)) (hw _ (List.mem_of_getElem? (i := 2) rfl)) (by decide) (by decide)) (g := (mkF m 65 #[.val (.int p1), .val (.int p2), .val (.int p3), .val (.int (p3 &&& (3 : Int32))), .val (.int p1), .val (.double (FP.i2d p1)), .second, .val (.double (FP.i2d p1)), .second, .val (.int (own_ex p1 p1)), .unset] [(.double (FP.i2d p1)), (.double (FP.i2d p1))])) rfl (by rw [hml]; rfl) (argsL := [(.double (FP.i2d p1)), (.double (FP.i2d p1))]) (rest := []) (lenOf pd__DD_Z_307 rfl) rfl (by show 2 * 0 + _ ≤ _; exact Nat.le_of_eq rfl) (hb hby at_65) (fun _ _ => ⟨rfl, e7, (by decide : 0 + 0 ≤ _), (by decide : 0 + 0 ≤ _)⟩)
      dsimp only [Pt.U, Pt.locs, Pt.cells, Pt.slots] at X8 l8 y8 z8 st8 hQ8
      subst l8 y8 z8
      obtain ⟨rfl, N8q, e8⟩ := hQ8
      have N8 := Fr.app N7 N8q
      have pre_9 : ∀ t, Steps p.tables e below (T8.setTop (mkF m 83 #[.val (.int p1), .val (.int p2), .val (.int p3), .val (.int (p3 &&& (3 : Int32))), .val (.int p1), .val (.double (FP.i2d p1)), .second, .val (.double (FP.i2d p1)), .second, .val (.int (own_ex p1 p1)), .val (.int (own_ex p1 p1))] [(.int (if p1 < p1 then (1 : Int32) else (0 : Int32))), (.int (own_ex p1 p1))])) t → Steps p.tables e below (s₁.setTop (entryFrame m #[(.int p1), (.int p2), (.int p3)] maxLocals)) t := by
        intro t kt
        refine pre_6 _ ?_
        show Steps p.tables e below (s₁.setTop (mkF m 16 #[.val (.int p1), .val (.int p2), .val (.int p3), .val (.int (p3 &&& (3 : Int32))), .unset, .unset, .unset, .unset, .unset, .unset, .unset] [(.int (1 : Int32)), (.int (p3 &&& (3 : Int32)))])) _
        refine XS.icmpNo X0.here hx rfl (hb hby at_16) rfl (teq hc16).2 ?_
        show Steps p.tables e below (s₁.setTop (mkF m 19 #[.val (.int p1), .val (.int p2), .val (.int p3), .val (.int (p3 &&& (3 : Int32))), .unset, .unset, .unset, .unset, .unset, .unset, .unset] [])) _
        refine XS.iloadN X0.here hx rfl (hb hby at_19) rfl ?_
        show Steps p.tables e below (s₁.setTop (mkF m 20 #[.val (.int p1), .val (.int p2), .val (.int p3), .val (.int (p3 &&& (3 : Int32))), .unset, .unset, .unset, .unset, .unset, .unset, .unset] [(.int p1)])) _
        refine XS.istore X0.here hx rfl (hb hby at_20) rfl (l' := #[.val (.int p1), .val (.int p2), .val (.int p3), .val (.int (p3 &&& (3 : Int32))), .val (.int p1), .unset, .unset, .unset, .unset, .unset, .unset]) rfl ?_
        show Steps p.tables e below (s₁.setTop (mkF m 22 #[.val (.int p1), .val (.int p2), .val (.int p3), .val (.int (p3 &&& (3 : Int32))), .val (.int p1), .unset, .unset, .unset, .unset, .unset, .unset] [])) _
        refine XS.goto X0.here hx rfl (pc0 := 22) (pc' := 43) rfl (hb hby at_22) (by decide) (by decide) ?_
        show Steps p.tables e below (s₁.setTop (mkF m 43 #[.val (.int p1), .val (.int p2), .val (.int p3), .val (.int (p3 &&& (3 : Int32))), .val (.int p1), .unset, .unset, .unset, .unset, .unset, .unset] [])) _
        refine XS.iloadN X0.here hx rfl (hb hby at_43) rfl ?_
        show Steps p.tables e below (s₁.setTop (mkF m 44 #[.val (.int p1), .val (.int p2), .val (.int p3), .val (.int (p3 &&& (3 : Int32))), .val (.int p1), .unset, .unset, .unset, .unset, .unset, .unset] [(.int p1)])) _
        refine XS.i2dS X0.here hx rfl (hb hby at_44) rfl rfl ?_
        show Steps p.tables e below (s₁.setTop (mkF m 45 #[.val (.int p1), .val (.int p2), .val (.int p3), .val (.int (p3 &&& (3 : Int32))), .val (.int p1), .unset, .unset, .unset, .unset, .unset, .unset] [(.double (FP.i2d p1))])) _
        refine XS.dstore X0.here hx rfl (hb hby at_45) rfl (l' := #[.val (.int p1), .val (.int p2), .val (.int p3), .val (.int (p3 &&& (3 : Int32))), .val (.int p1), .val (.double (FP.i2d p1)), .second, .unset, .unset, .unset, .unset]) rfl ?_
        show Steps p.tables e below (s₁.setTop (mkF m 47 #[.val (.int p1), .val (.int p2), .val (.int p3), .val (.int (p3 &&& (3 : Int32))), .val (.int p1), .val (.double (FP.i2d p1)), .second, .unset, .unset, .unset, .unset] [])) _
        refine XS.iload X0.here hx rfl (hb hby at_47) rfl ?_
        show Steps p.tables e below (s₁.setTop (mkF m 49 #[.val (.int p1), .val (.int p2), .val (.int p3), .val (.int (p3 &&& (3 : Int32))), .val (.int p1), .val (.double (FP.i2d p1)), .second, .unset, .unset, .unset, .unset] [(.int p1)])) _
        refine XS.i2dS X0.here hx rfl (hb hby at_49) rfl rfl ?_
        show Steps p.tables e below (s₁.setTop (mkF m 50 #[.val (.int p1), .val (.int p2), .val (.int p3), .val (.int (p3 &&& (3 : Int32))), .val (.int p1), .val (.double (FP.i2d p1)), .second, .unset, .unset, .unset, .unset] [(.double (FP.i2d p1))])) _
        refine XS.dstore X0.here hx rfl (hb hby at_50) rfl (l' := #[.val (.int p1), .val (.int p2), .val (.int p3), .val (.int (p3 &&& (3 : Int32))), .val (.int p1), .val (.double (FP.i2d p1)), .second, .val (.double (FP.i2d p1)), .second, .unset, .unset]) rfl ?_
        show Steps p.tables e below (s₁.setTop (mkF m 52 #[.val (.int p1), .val (.int p2), .val (.int p3), .val (.int (p3 &&& (3 : Int32))), .val (.int p1), .val (.double (FP.i2d p1)), .second, .val (.double (FP.i2d p1)), .second, .unset, .unset] [])) _
        refine XS.dload X0.here hx rfl (hb hby at_52) rfl ?_
        show Steps p.tables e below (s₁.setTop (mkF m 54 #[.val (.int p1), .val (.int p2), .val (.int p3), .val (.int (p3 &&& (3 : Int32))), .val (.int p1), .val (.double (FP.i2d p1)), .second, .val (.double (FP.i2d p1)), .second, .unset, .unset] [(.double (FP.i2d p1))])) _
        refine XS.dload X0.here hx rfl (hb hby at_54) rfl ?_
        show Steps p.tables e below (s₁.setTop (mkF m 56 #[.val (.int p1), .val (.int p2), .val (.int p3), .val (.int (p3 &&& (3 : Int32))), .val (.int p1), .val (.double (FP.i2d p1)), .second, .val (.double (FP.i2d p1)), .second, .unset, .unset] [(.double (FP.i2d p1)), (.double (FP.i2d p1))])) _
        refine st7 _ ?_
        show Steps p.tables e below (T7.setTop (mkF m 59 #[.val (.int p1), .val (.int p2), .val (.int p3), .val (.int (p3 &&& (3 : Int32))), .val (.int p1), .val (.double (FP.i2d p1)), .second, .val (.double (FP.i2d p1)), .second, .unset, .unset] [(.int (own_ex p1 p1))])) _
        refine XS.istore X7.here hx rfl (hb hby at_59) rfl (l' := #[.val (.int p1), .val (.int p2), .val (.int p3), .val (.int (p3 &&& (3 : Int32))), .val (.int p1), .val (.double (FP.i2d p1)), .second, .val (.double (FP.i2d p1)), .second, .val (.int (own_ex p1 p1)), .unset]) rfl ?_
        show Steps p.tables e below (T7.setTop (mkF m 61 #[.val (.int p1), .val (.int p2), .val (.int p3), .val (.int (p3 &&& (3 : Int32))), .val (.int p1), .val (.double (FP.i2d p1)), .second, .val (.double (FP.i2d p1)), .second, .val (.int (own_ex p1 p1)), .unset] [])) _
        refine XS.dload X7.here hx rfl (hb hby at_61) rfl ?_
        show Steps p.tables e below (T7.setTop (mkF m 63 #[.val (.int p1), .val (.int p2), .val (.int p3), .val (.int (p3 &&& (3 : Int32))), .val (.int p1), .val (.double (FP.i2d p1)), .second, .val (.double (FP.i2d p1)), .second, .val (.int (own_ex p1 p1)), .unset] [(.double (FP.i2d p1))])) _
        refine XS.dload X7.here hx rfl (hb hby at_63) rfl ?_
        show Steps p.tables e below (T7.setTop (mkF m 65 #[.val (.int p1), .val (.int p2), .val (.int p3), .val (.int (p3 &&& (3 : Int32))), .val (.int p1), .val (.double (FP.i2d p1)), .second, .val (.double (FP.i2d p1)), .second, .val (.int (own_ex p1 p1)), .unset] [(.double (FP.i2d p1)), (.double (FP.i2d p1))])) _
        refine st8 _ ?_
        show Steps p.tables e below (T8.setTop (mkF m 68 #[.val (.int p1), .val (.int p2), .val (.int p3), .val (.int (p3 &&& (3 : Int32))), .val (.int p1), .val (.double (FP.i2d p1)), .second, .val (.double (FP.i2d p1)), .second, .val (.int (own_ex p1 p1)), .unset] [(.int (own_ex p1 p1))])) _
        refine XS.istore X8.here hx rfl (hb hby at_68) rfl (l' := #[.val (.int p1), .val (.int p2), .val (.int p3), .val (.int (p3 &&& (3 : Int32))), .val (.int p1), .val (.double (FP.i2d p1)), .second, .val (.double (FP.i2d p1)), .second, .val (.int (own_ex p1 p1)), .val (.int (own_ex p1 p1))]) rfl ?_
        show Steps p.tables e below (T8.setTop (mkF m 70 #[.val (.int p1), .val (.int p2), .val (.int p3), .val (.int (p3 &&& (3 : Int32))), .val (.int p1), .val (.double (FP.i2d p1)), .second, .val (.double (FP.i2d p1)), .second, .val (.int (own_ex p1 p1)), .val (.int (own_ex p1 p1))] [])) _
        refine XS.iload X8.here hx rfl (hb hby at_70) rfl ?_
        show Steps p.tables e below (T8.setTop (mkF m 72 #[.val (.int p1), .val (.int p2), .val (.int p3), .val (.int (p3 &&& (3 : Int32))), .val (.int p1), .val (.double (FP.i2d p1)), .second, .val (.double (FP.i2d p1)), .second, .val (.int (own_ex p1 p1)), .val (.int (own_ex p1 p1))] [(.int (own_ex p1 p1))])) _
        refine XS.iloadN X8.here hx rfl (hb hby at_72) rfl ?_
        show Steps p.tables e below (T8.setTop (mkF m 73 #[.val (.int p1), .val (.int p2), .val (.int p3), .val (.int (p3 &&& (3 : Int32))), .val (.int p1), .val (.double (FP.i2d p1)), .second, .val (.double (FP.i2d p1)), .second, .val (.int (own_ex p1 p1)), .val (.int (own_ex p1 p1))] [(.int p1), (.int (own_ex p1 p1))])) _
        refine XS.iload X8.here hx rfl (hb hby at_73) rfl ?_
        show Steps p.tables e below (T8.setTop (mkF m 75 #[.val (.int p1), .val (.int p2), .val (.int p3), .val (.int (p3 &&& (3 : Int32))), .val (.int p1), .val (.double (FP.i2d p1)), .second, .val (.double (FP.i2d p1)), .second, .val (.int (own_ex p1 p1)), .val (.int (own_ex p1 p1))] [(.int p1), (.int p1), (.int (own_ex p1 p1))])) _
        by_cases hc75 : p1 < p1
        · rw [if_pos hc75] at kt
          refine XS.icmpNo X8.here hx rfl (hb hby at_75) rfl (tlt hc75).2.2.2 ?_
          show Steps p.tables e below (T8.setTop (mkF m 78 #[.val (.int p1), .val (.int p2), .val (.int p3), .val (.int (p3 &&& (3 : Int32))), .val (.int p1), .val (.double (FP.i2d p1)), .second, .val (.double (FP.i2d p1)), .second, .val (.int (own_ex p1 p1)), .val (.int (own_ex p1 p1))] [(.int (own_ex p1 p1))])) _
          refine XS.iconst X8.here hx rfl (hb hby at_78) ?_
          show Steps p.tables e below (T8.setTop (mkF m 79 #[.val (.int p1), .val (.int p2), .val (.int p3), .val (.int (p3 &&& (3 : Int32))), .val (.int p1), .val (.double (FP.i2d p1)), .second, .val (.double (FP.i2d p1)), .second, .val (.int (own_ex p1 p1)), .val (.int (own_ex p1 p1))] [(.int (1 : Int32)), (.int (own_ex p1 p1))])) _
          refine XS.goto X8.here hx rfl (pc0 := 79) (pc' := 83) rfl (hb hby at_79) (by decide) (by decide) ?_
          exact kt
        · rw [if_neg hc75] at kt
          refine XS.icmpYes X8.here hx rfl (pc0 := 75) (pc' := 82) rfl (hb hby at_75) rfl (flt hc75).2.2.2 (by decide) (by decide) ?_
          show Steps p.tables e below (T8.setTop (mkF m 82 #[.val (.int p1), .val (.int p2), .val (.int p3), .val (.int (p3 &&& (3 : Int32))), .val (.int p1), .val (.double (FP.i2d p1)), .second, .val (.double (FP.i2d p1)), .second, .val (.int (own_ex p1 p1)), .val (.int (own_ex p1 p1))] [(.int (own_ex p1 p1))])) _
          refine XS.iconst X8.here hx rfl (hb hby at_82) ?_
          exact kt
      have pre_10 : ∀ t, Steps p.tables e below (T8.setTop (mkF m 99 #[.val (.int p1), .val (.int p2), .val (.int p3), .val (.int (p3 &&& (3 : Int32))), .val (.int p1), .val (.double (FP.i2d p1)), .second, .val (.double (FP.i2d p1)), .second, .val (.int (own_ex p1 p1)), .val (.int (own_ex p1 p1))] [(.int (if p1 < p1 then (1 : Int32) else (0 : Int32))), (.int (own_ex p1 p1))])) t → Steps p.tables e below (s₁.setTop (entryFrame m #[(.int p1), (.int p2), (.int p3)] maxLocals)) t := by
        intro t kt
        refine pre_9 _ ?_
        show Steps p.tables e below (T8.setTop (mkF m 83 #[.val (.int p1), .val (.int p2), .val (.int p3), .val (.int (p3 &&& (3 : Int32))), .val (.int p1), .val (.double (FP.i2d p1)), .second, .val (.double (FP.i2d p1)), .second, .val (.int (own_ex p1 p1)), .val (.int (own_ex p1 p1))] [(.int (if p1 < p1 then (1 : Int32) else (0 : Int32))), (.int (own_ex p1 p1))])) _
        refine XS.icmpNo X8.here hx rfl (hb hby at_83) rfl (teq (own_p _ _)).2 ?_
        show Steps p.tables e below (T8.setTop (mkF m 86 #[.val (.int p1), .val (.int p2), .val (.int p3), .val (.int (p3 &&& (3 : Int32))), .val (.int p1), .val (.double (FP.i2d p1)), .second, .val (.double (FP.i2d p1)), .second, .val (.int (own_ex p1 p1)), .val (.int (own_ex p1 p1))] [])) _
        refine XS.iload X8.here hx rfl (hb hby at_86) rfl ?_
        show Steps p.tables e below (T8.setTop (mkF m 88 #[.val (.int p1), .val (.int p2), .val (.int p3), .val (.int (p3 &&& (3 : Int32))), .val (.int p1), .val (.double (FP.i2d p1)), .second, .val (.double (FP.i2d p1)), .second, .val (.int (own_ex p1 p1)), .val (.int (own_ex p1 p1))] [(.int (own_ex p1 p1))])) _
        refine XS.iload X8.here hx rfl (hb hby at_88) rfl ?_
        show Steps p.tables e below (T8.setTop (mkF m 90 #[.val (.int p1), .val (.int p2), .val (.int p3), .val (.int (p3 &&& (3 : Int32))), .val (.int p1), .val (.double (FP.i2d p1)), .second, .val (.double (FP.i2d p1)), .second, .val (.int (own_ex p1 p1)), .val (.int (own_ex p1 p1))] [(.int p1), (.int (own_ex p1 p1))])) _
        refine XS.iloadN X8.here hx rfl (hb hby at_90) rfl ?_
        show Steps p.tables e below (T8.setTop (mkF m 91 #[.val (.int p1), .val (.int p2), .val (.int p3), .val (.int (p3 &&& (3 : Int32))), .val (.int p1), .val (.double (FP.i2d p1)), .second, .val (.double (FP.i2d p1)), .second, .val (.int (own_ex p1 p1)), .val (.int (own_ex p1 p1))] [(.int p1), (.int p1), (.int (own_ex p1 p1))])) _
        by_cases hc91 : p1 < p1
        · rw [if_pos hc91] at kt
          refine XS.icmpNo X8.here hx rfl (hb hby at_91) rfl (tlt hc91).2.2.2 ?_
          show Steps p.tables e below (T8.setTop (mkF m 94 #[.val (.int p1), .val (.int p2), .val (.int p3), .val (.int (p3 &&& (3 : Int32))), .val (.int p1), .val (.double (FP.i2d p1)), .second, .val (.double (FP.i2d p1)), .second, .val (.int (own_ex p1 p1)), .val (.int (own_ex p1 p1))] [(.int (own_ex p1 p1))])) _
          refine XS.iconst X8.here hx rfl (hb hby at_94) ?_
          show Steps p.tables e below (T8.setTop (mkF m 95 #[.val (.int p1), .val (.int p2), .val (.int p3), .val (.int (p3 &&& (3 : Int32))), .val (.int p1), .val (.double (FP.i2d p1)), .second, .val (.double (FP.i2d p1)), .second, .val (.int (own_ex p1 p1)), .val (.int (own_ex p1 p1))] [(.int (1 : Int32)), (.int (own_ex p1 p1))])) _
          refine XS.goto X8.here hx rfl (pc0 := 95) (pc' := 99) rfl (hb hby at_95) (by decide) (by decide) ?_
          exact kt
        · rw [if_neg hc91] at kt
          refine XS.icmpYes X8.here hx rfl (pc0 := 91) (pc' := 98) rfl (hb hby at_91) rfl (flt hc91).2.2.2 (by decide) (by decide) ?_
          show Steps p.tables e below (T8.setTop (mkF m 98 #[.val (.int p1), .val (.int p2), .val (.int p3), .val (.int (p3 &&& (3 : Int32))), .val (.int p1), .val (.double (FP.i2d p1)), .second, .val (.double (FP.i2d p1)), .second, .val (.int (own_ex p1 p1)), .val (.int (own_ex p1 p1))] [(.int (own_ex p1 p1))])) _
          refine XS.iconst X8.here hx rfl (hb hby at_98) ?_
          exact kt
      obtain ⟨fs, hr, hrun, hended, hW, hsame⟩ := X8.leave (v := some (.int (1 : Int32))) (fun h => by rw [Bd.returns] at h; cases h)
      refine ⟨_, _, pre_10 _ ?_, hrun, hended, _, _, rfl, ?_, ⟨_, rfl⟩, hW, hsame.mono (by decide) (by decide)⟩
      · show Steps p.tables e below (T8.setTop (mkF m 99 #[.val (.int p1), .val (.int p2), .val (.int p3), .val (.int (p3 &&& (3 : Int32))), .val (.int p1), .val (.double (FP.i2d p1)), .second, .val (.double (FP.i2d p1)), .second, .val (.int (own_ex p1 p1)), .val (.int (own_ex p1 p1))] [(.int (if p1 < p1 then (1 : Int32) else (0 : Int32))), (.int (own_ex p1 p1))])) _
        refine XS.icmpNo X8.here hx rfl (hb hby at_99) rfl (teq (own_p _ _)).2 ?_
        show Steps p.tables e below (T8.setTop (mkF m 102 #[.val (.int p1), .val (.int p2), .val (.int p3), .val (.int (p3 &&& (3 : Int32))), .val (.int p1), .val (.double (FP.i2d p1)), .second, .val (.double (FP.i2d p1)), .second, .val (.int (own_ex p1 p1)), .val (.int (own_ex p1 p1))] [])) _
        refine XS.iconst X8.here hx rfl (hb hby at_102) ?_
        show Steps p.tables e below (T8.setTop (mkF m 103 #[.val (.int p1), .val (.int p2), .val (.int p3), .val (.int (p3 &&& (3 : Int32))), .val (.int p1), .val (.double (FP.i2d p1)), .second, .val (.double (FP.i2d p1)), .second, .val (.int (own_ex p1 p1)), .val (.int (own_ex p1 p1))] [(.int (1 : Int32))])) _
        refine XS.goto X8.here hx rfl (pc0 := 103) (pc' := 107) rfl (hb hby at_103) (by decide) (by decide) ?_
        show Steps p.tables e below (T8.setTop (mkF m 107 #[.val (.int p1), .val (.int p2), .val (.int p3), .val (.int (p3 &&& (3 : Int32))), .val (.int p1), .val (.double (FP.i2d p1)), .second, .val (.double (FP.i2d p1)), .second, .val (.int (own_ex p1 p1)), .val (.int (own_ex p1 p1))] [(.int (1 : Int32))])) _
        exact retN X8 hx (t := .boolean) Bd.returns (by simp) (hb hby at_107) hr
      · show Q_rm0 Z p1 p2 p3 h0 n0 _ T8.heap _
        rw [e8]
        exact ⟨rfl, N8⟩
    · have pre_11 : ∀ t, Steps p.tables e below (s₁.setTop (mkF m 27 #[.val (.int p1), .val (.int p2), .val (.int p3), .val (.int (p3 &&& (3 : Int32))), .unset, .unset, .unset, .unset, .unset, .unset, .unset] [(.int (2 : Int32)), (.int (p3 &&& (3 : Int32)))])) t → Steps p.tables e below (s₁.setTop (entryFrame m #[(.int p1), (.int p2), (.int p3)] maxLocals)) t := by
        intro t kt
        refine pre_6 _ ?_
        show Steps p.tables e below (s₁.setTop (mkF m 16 #[.val (.int p1), .val (.int p2), .val (.int p3), .val (.int (p3 &&& (3 : Int32))), .unset, .unset, .unset, .unset, .unset, .unset, .unset] [(.int (1 : Int32)), (.int (p3 &&& (3 : Int32)))])) _
        refine XS.icmpYes X0.here hx rfl (pc0 := 16) (pc' := 25) rfl (hb hby at_16) rfl (feq hc16).2 (by decide) (by decide) ?_
        show Steps p.tables e below (s₁.setTop (mkF m 25 #[.val (.int p1), .val (.int p2), .val (.int p3), .val (.int (p3 &&& (3 : Int32))), .unset, .unset, .unset, .unset, .unset, .unset, .unset] [])) _
        refine XS.iloadN X0.here hx rfl (hb hby at_25) rfl ?_
        show Steps p.tables e below (s₁.setTop (mkF m 26 #[.val (.int p1), .val (.int p2), .val (.int p3), .val (.int (p3 &&& (3 : Int32))), .unset, .unset, .unset, .unset, .unset, .unset, .unset] [(.int (p3 &&& (3 : Int32)))])) _
        refine XS.iconst X0.here hx rfl (hb hby at_26) ?_
        exact kt
      by_cases hc27 : (p3 &&& (3 : Int32)) = (2 : Int32)
      · obtain ⟨_, _, ⟨T12, L12, k12, n12⟩, -, X12, ⟨Lc12, hQ12, l12, y12, z12⟩, st12⟩ := Jvm.LawKit.callS X0 hx (y := (⟨"com/example/coarsen/coarsen/engine/Information", "exceeds", "(DD)Z"⟩ : MethodName)) hown (mvT hZ (hw _ (List.mem_of_getElem? (i := 0) rfl))) (mvT hZ (hw _ (List.mem_of_getElem? (i := 1) rfl))) (mvT hZ (hw _ (List.mem_of_getElem? (i := 2) rfl))) (mvT hZ (hw _ (List.mem_of_getElem? (i := 3) rfl))) (by decide) (backOf (W := 0) (rm1 l Z a0 hw [] p1 (p1 + (1 : Int32)) h0 n0 Z0 ) hZ (hw _ (List.mem_of_getElem? (i := 3) rfl)) (hw _ (List.mem_of_getElem? (i := 2) rfl)) (by decide) (by decide)) (g := (mkF m 56 #[.val (.int p1), .val (.int p2), .val (.int p3), .val (.int (p3 &&& (3 : Int32))), .val (.int (p1 + (1 : Int32))), .val (.double (FP.i2d p1)), .second, .val (.double (FP.i2d (p1 + (1 : Int32)))), .second, .unset, .unset] [(.double (FP.i2d (p1 + (1 : Int32)))), (.double (FP.i2d p1))])) rfl (by rw [hml]; rfl) (argsL := [(.double (FP.i2d p1)), (.double (FP.i2d (p1 + (1 : Int32))))]) (rest := []) (lenOf pd__DD_Z_307 rfl) rfl (by show 2 * 0 + _ ≤ _; exact Nat.le_of_eq rfl) (hb hby at_56) (fun _ _ => ⟨rfl, e0, (by decide : 0 + 0 ≤ _), (by decide : 0 + 0 ≤ _)⟩)
        dsimp only [Pt.U, Pt.locs, Pt.cells, Pt.slots] at X12 l12 y12 z12 st12 hQ12
        subst l12 y12 z12
        obtain ⟨rfl, N12q, e12⟩ := hQ12
        have N12 := Fr.app N0 N12q
        obtain ⟨_, _, ⟨T13, L13, k13, n13⟩, -, X13, ⟨Lc13, hQ13, l13, y13, z13⟩, st13⟩ := Jvm.LawKit.callS X12 hx (y := (⟨"com/example/coarsen/coarsen/engine/Information", "exceeds", "(DD)Z"⟩ : MethodName)) hown (mvT hZ (hw _ (List.mem_of_getElem? (i := 0) rfl))) (mvT hZ (hw _ (List.mem_of_getElem? (i := 1) rfl))) (mvT hZ (hw _ (List.mem_of_getElem? (i := 2) rfl))) (mvT hZ (hw _ (List.mem_of_getElem? (i := 3) rfl))) (by decide) (backOf (W := 0) (rm1 l Z a0 hw [] (p1 + (1 : Int32)) p1 h0 n0 Z0 ) hZ (hw _ (List.mem_of_getElem? (i := 3) rfl)) (hw _ (List.mem_of_getElem? (i := 2) rfl)) (by decide) (by decide)) (g := (mkF m 65 #[.val (.int p1), .val (.int p2), .val (.int p3), .val (.int (p3 &&& (3 : Int32))), .val (.int (p1 + (1 : Int32))), .val (.double (FP.i2d p1)), .second, .val (.double (FP.i2d (p1 + (1 : Int32)))), .second, .val (.int (own_ex p1 (p1 + (1 : Int32)))), .unset] [(.double (FP.i2d p1)), (.double (FP.i2d (p1 + (1 : Int32))))])) rfl (by rw [hml]; rfl) (argsL := [(.double (FP.i2d (p1 + (1 : Int32)))), (.double (FP.i2d p1))]) (rest := []) (lenOf pd__DD_Z_307 rfl) rfl (by show 2 * 0 + _ ≤ _; exact Nat.le_of_eq rfl) (hb hby at_65) (fun _ _ => ⟨rfl, e12, (by decide : 0 + 0 ≤ _), (by decide : 0 + 0 ≤ _)⟩)
        dsimp only [Pt.U, Pt.locs, Pt.cells, Pt.slots] at X13 l13 y13 z13 st13 hQ13
        subst l13 y13 z13
        obtain ⟨rfl, N13q, e13⟩ := hQ13
        have N13 := Fr.app N12 N13q
        have pre_14 : ∀ t, Steps p.tables e below (T13.setTop (mkF m 83 #[.val (.int p1), .val (.int p2), .val (.int p3), .val (.int (p3 &&& (3 : Int32))), .val (.int (p1 + (1 : Int32))), .val (.double (FP.i2d p1)), .second, .val (.double (FP.i2d (p1 + (1 : Int32)))), .second, .val (.int (own_ex p1 (p1 + (1 : Int32)))), .val (.int (own_ex (p1 + (1 : Int32)) p1))] [(.int (if (p1 + (1 : Int32)) < p1 then (1 : Int32) else (0 : Int32))), (.int (own_ex p1 (p1 + (1 : Int32))))])) t → Steps p.tables e below (s₁.setTop (entryFrame m #[(.int p1), (.int p2), (.int p3)] maxLocals)) t := by
          intro t kt
          refine pre_11 _ ?_
          show Steps p.tables e below (s₁.setTop (mkF m 27 #[.val (.int p1), .val (.int p2), .val (.int p3), .val (.int (p3 &&& (3 : Int32))), .unset, .unset, .unset, .unset, .unset, .unset, .unset] [(.int (2 : Int32)), (.int (p3 &&& (3 : Int32)))])) _
          refine XS.icmpNo X0.here hx rfl (hb hby at_27) rfl (teq hc27).2 ?_
          show Steps p.tables e below (s₁.setTop (mkF m 30 #[.val (.int p1), .val (.int p2), .val (.int p3), .val (.int (p3 &&& (3 : Int32))), .unset, .unset, .unset, .unset, .unset, .unset, .unset] [])) _
          refine XS.iloadN X0.here hx rfl (hb hby at_30) rfl ?_
          show Steps p.tables e below (s₁.setTop (mkF m 31 #[.val (.int p1), .val (.int p2), .val (.int p3), .val (.int (p3 &&& (3 : Int32))), .unset, .unset, .unset, .unset, .unset, .unset, .unset] [(.int p1)])) _
          refine XS.iconst X0.here hx rfl (hb hby at_31) ?_
          show Steps p.tables e below (s₁.setTop (mkF m 32 #[.val (.int p1), .val (.int p2), .val (.int p3), .val (.int (p3 &&& (3 : Int32))), .unset, .unset, .unset, .unset, .unset, .unset, .unset] [(.int (1 : Int32)), (.int p1)])) _
          refine XS.iadd X0.here hx rfl (hb hby at_32) rfl ?_
          show Steps p.tables e below (s₁.setTop (mkF m 33 #[.val (.int p1), .val (.int p2), .val (.int p3), .val (.int (p3 &&& (3 : Int32))), .unset, .unset, .unset, .unset, .unset, .unset, .unset] [(.int (p1 + (1 : Int32)))])) _
          refine XS.istore X0.here hx rfl (hb hby at_33) rfl (l' := #[.val (.int p1), .val (.int p2), .val (.int p3), .val (.int (p3 &&& (3 : Int32))), .val (.int (p1 + (1 : Int32))), .unset, .unset, .unset, .unset, .unset, .unset]) rfl ?_
          show Steps p.tables e below (s₁.setTop (mkF m 35 #[.val (.int p1), .val (.int p2), .val (.int p3), .val (.int (p3 &&& (3 : Int32))), .val (.int (p1 + (1 : Int32))), .unset, .unset, .unset, .unset, .unset, .unset] [])) _
          refine XS.goto X0.here hx rfl (pc0 := 35) (pc' := 43) rfl (hb hby at_35) (by decide) (by decide) ?_
          show Steps p.tables e below (s₁.setTop (mkF m 43 #[.val (.int p1), .val (.int p2), .val (.int p3), .val (.int (p3 &&& (3 : Int32))), .val (.int (p1 + (1 : Int32))), .unset, .unset, .unset, .unset, .unset, .unset] [])) _
          refine XS.iloadN X0.here hx rfl (hb hby at_43) rfl ?_
          show Steps p.tables e below (s₁.setTop (mkF m 44 #[.val (.int p1), .val (.int p2), .val (.int p3), .val (.int (p3 &&& (3 : Int32))), .val (.int (p1 + (1 : Int32))), .unset, .unset, .unset, .unset, .unset, .unset] [(.int p1)])) _
          refine XS.i2dS X0.here hx rfl (hb hby at_44) rfl rfl ?_
          show Steps p.tables e below (s₁.setTop (mkF m 45 #[.val (.int p1), .val (.int p2), .val (.int p3), .val (.int (p3 &&& (3 : Int32))), .val (.int (p1 + (1 : Int32))), .unset, .unset, .unset, .unset, .unset, .unset] [(.double (FP.i2d p1))])) _
          refine XS.dstore X0.here hx rfl (hb hby at_45) rfl (l' := #[.val (.int p1), .val (.int p2), .val (.int p3), .val (.int (p3 &&& (3 : Int32))), .val (.int (p1 + (1 : Int32))), .val (.double (FP.i2d p1)), .second, .unset, .unset, .unset, .unset]) rfl ?_
          show Steps p.tables e below (s₁.setTop (mkF m 47 #[.val (.int p1), .val (.int p2), .val (.int p3), .val (.int (p3 &&& (3 : Int32))), .val (.int (p1 + (1 : Int32))), .val (.double (FP.i2d p1)), .second, .unset, .unset, .unset, .unset] [])) _
          refine XS.iload X0.here hx rfl (hb hby at_47) rfl ?_
          show Steps p.tables e below (s₁.setTop (mkF m 49 #[.val (.int p1), .val (.int p2), .val (.int p3), .val (.int (p3 &&& (3 : Int32))), .val (.int (p1 + (1 : Int32))), .val (.double (FP.i2d p1)), .second, .unset, .unset, .unset, .unset] [(.int (p1 + (1 : Int32)))])) _
          refine XS.i2dS X0.here hx rfl (hb hby at_49) rfl rfl ?_
          show Steps p.tables e below (s₁.setTop (mkF m 50 #[.val (.int p1), .val (.int p2), .val (.int p3), .val (.int (p3 &&& (3 : Int32))), .val (.int (p1 + (1 : Int32))), .val (.double (FP.i2d p1)), .second, .unset, .unset, .unset, .unset] [(.double (FP.i2d (p1 + (1 : Int32))))])) _
          refine XS.dstore X0.here hx rfl (hb hby at_50) rfl (l' := #[.val (.int p1), .val (.int p2), .val (.int p3), .val (.int (p3 &&& (3 : Int32))), .val (.int (p1 + (1 : Int32))), .val (.double (FP.i2d p1)), .second, .val (.double (FP.i2d (p1 + (1 : Int32)))), .second, .unset, .unset]) rfl ?_
          show Steps p.tables e below (s₁.setTop (mkF m 52 #[.val (.int p1), .val (.int p2), .val (.int p3), .val (.int (p3 &&& (3 : Int32))), .val (.int (p1 + (1 : Int32))), .val (.double (FP.i2d p1)), .second, .val (.double (FP.i2d (p1 + (1 : Int32)))), .second, .unset, .unset] [])) _
          refine XS.dload X0.here hx rfl (hb hby at_52) rfl ?_
          show Steps p.tables e below (s₁.setTop (mkF m 54 #[.val (.int p1), .val (.int p2), .val (.int p3), .val (.int (p3 &&& (3 : Int32))), .val (.int (p1 + (1 : Int32))), .val (.double (FP.i2d p1)), .second, .val (.double (FP.i2d (p1 + (1 : Int32)))), .second, .unset, .unset] [(.double (FP.i2d p1))])) _
          refine XS.dload X0.here hx rfl (hb hby at_54) rfl ?_
          show Steps p.tables e below (s₁.setTop (mkF m 56 #[.val (.int p1), .val (.int p2), .val (.int p3), .val (.int (p3 &&& (3 : Int32))), .val (.int (p1 + (1 : Int32))), .val (.double (FP.i2d p1)), .second, .val (.double (FP.i2d (p1 + (1 : Int32)))), .second, .unset, .unset] [(.double (FP.i2d (p1 + (1 : Int32)))), (.double (FP.i2d p1))])) _
          refine st12 _ ?_
          show Steps p.tables e below (T12.setTop (mkF m 59 #[.val (.int p1), .val (.int p2), .val (.int p3), .val (.int (p3 &&& (3 : Int32))), .val (.int (p1 + (1 : Int32))), .val (.double (FP.i2d p1)), .second, .val (.double (FP.i2d (p1 + (1 : Int32)))), .second, .unset, .unset] [(.int (own_ex p1 (p1 + (1 : Int32))))])) _
          refine XS.istore X12.here hx rfl (hb hby at_59) rfl (l' := #[.val (.int p1), .val (.int p2), .val (.int p3), .val (.int (p3 &&& (3 : Int32))), .val (.int (p1 + (1 : Int32))), .val (.double (FP.i2d p1)), .second, .val (.double (FP.i2d (p1 + (1 : Int32)))), .second, .val (.int (own_ex p1 (p1 + (1 : Int32)))), .unset]) rfl ?_
          show Steps p.tables e below (T12.setTop (mkF m 61 #[.val (.int p1), .val (.int p2), .val (.int p3), .val (.int (p3 &&& (3 : Int32))), .val (.int (p1 + (1 : Int32))), .val (.double (FP.i2d p1)), .second, .val (.double (FP.i2d (p1 + (1 : Int32)))), .second, .val (.int (own_ex p1 (p1 + (1 : Int32)))), .unset] [])) _
          refine XS.dload X12.here hx rfl (hb hby at_61) rfl ?_
          show Steps p.tables e below (T12.setTop (mkF m 63 #[.val (.int p1), .val (.int p2), .val (.int p3), .val (.int (p3 &&& (3 : Int32))), .val (.int (p1 + (1 : Int32))), .val (.double (FP.i2d p1)), .second, .val (.double (FP.i2d (p1 + (1 : Int32)))), .second, .val (.int (own_ex p1 (p1 + (1 : Int32)))), .unset] [(.double (FP.i2d (p1 + (1 : Int32))))])) _
          refine XS.dload X12.here hx rfl (hb hby at_63) rfl ?_
          show Steps p.tables e below (T12.setTop (mkF m 65 #[.val (.int p1), .val (.int p2), .val (.int p3), .val (.int (p3 &&& (3 : Int32))), .val (.int (p1 + (1 : Int32))), .val (.double (FP.i2d p1)), .second, .val (.double (FP.i2d (p1 + (1 : Int32)))), .second, .val (.int (own_ex p1 (p1 + (1 : Int32)))), .unset] [(.double (FP.i2d p1)), (.double (FP.i2d (p1 + (1 : Int32))))])) _
          refine st13 _ ?_
          show Steps p.tables e below (T13.setTop (mkF m 68 #[.val (.int p1), .val (.int p2), .val (.int p3), .val (.int (p3 &&& (3 : Int32))), .val (.int (p1 + (1 : Int32))), .val (.double (FP.i2d p1)), .second, .val (.double (FP.i2d (p1 + (1 : Int32)))), .second, .val (.int (own_ex p1 (p1 + (1 : Int32)))), .unset] [(.int (own_ex (p1 + (1 : Int32)) p1))])) _
          refine XS.istore X13.here hx rfl (hb hby at_68) rfl (l' := #[.val (.int p1), .val (.int p2), .val (.int p3), .val (.int (p3 &&& (3 : Int32))), .val (.int (p1 + (1 : Int32))), .val (.double (FP.i2d p1)), .second, .val (.double (FP.i2d (p1 + (1 : Int32)))), .second, .val (.int (own_ex p1 (p1 + (1 : Int32)))), .val (.int (own_ex (p1 + (1 : Int32)) p1))]) rfl ?_
          show Steps p.tables e below (T13.setTop (mkF m 70 #[.val (.int p1), .val (.int p2), .val (.int p3), .val (.int (p3 &&& (3 : Int32))), .val (.int (p1 + (1 : Int32))), .val (.double (FP.i2d p1)), .second, .val (.double (FP.i2d (p1 + (1 : Int32)))), .second, .val (.int (own_ex p1 (p1 + (1 : Int32)))), .val (.int (own_ex (p1 + (1 : Int32)) p1))] [])) _
          refine XS.iload X13.here hx rfl (hb hby at_70) rfl ?_
          show Steps p.tables e below (T13.setTop (mkF m 72 #[.val (.int p1), .val (.int p2), .val (.int p3), .val (.int (p3 &&& (3 : Int32))), .val (.int (p1 + (1 : Int32))), .val (.double (FP.i2d p1)), .second, .val (.double (FP.i2d (p1 + (1 : Int32)))), .second, .val (.int (own_ex p1 (p1 + (1 : Int32)))), .val (.int (own_ex (p1 + (1 : Int32)) p1))] [(.int (own_ex p1 (p1 + (1 : Int32))))])) _
          refine XS.iloadN X13.here hx rfl (hb hby at_72) rfl ?_
          show Steps p.tables e below (T13.setTop (mkF m 73 #[.val (.int p1), .val (.int p2), .val (.int p3), .val (.int (p3 &&& (3 : Int32))), .val (.int (p1 + (1 : Int32))), .val (.double (FP.i2d p1)), .second, .val (.double (FP.i2d (p1 + (1 : Int32)))), .second, .val (.int (own_ex p1 (p1 + (1 : Int32)))), .val (.int (own_ex (p1 + (1 : Int32)) p1))] [(.int p1), (.int (own_ex p1 (p1 + (1 : Int32))))])) _
          refine XS.iload X13.here hx rfl (hb hby at_73) rfl ?_
          show Steps p.tables e below (T13.setTop (mkF m 75 #[.val (.int p1), .val (.int p2), .val (.int p3), .val (.int (p3 &&& (3 : Int32))), .val (.int (p1 + (1 : Int32))), .val (.double (FP.i2d p1)), .second, .val (.double (FP.i2d (p1 + (1 : Int32)))), .second, .val (.int (own_ex p1 (p1 + (1 : Int32)))), .val (.int (own_ex (p1 + (1 : Int32)) p1))] [(.int (p1 + (1 : Int32))), (.int p1), (.int (own_ex p1 (p1 + (1 : Int32))))])) _
          by_cases hc75 : (p1 + (1 : Int32)) < p1
          · rw [if_pos hc75] at kt
            refine XS.icmpNo X13.here hx rfl (hb hby at_75) rfl (tlt hc75).2.2.2 ?_
            show Steps p.tables e below (T13.setTop (mkF m 78 #[.val (.int p1), .val (.int p2), .val (.int p3), .val (.int (p3 &&& (3 : Int32))), .val (.int (p1 + (1 : Int32))), .val (.double (FP.i2d p1)), .second, .val (.double (FP.i2d (p1 + (1 : Int32)))), .second, .val (.int (own_ex p1 (p1 + (1 : Int32)))), .val (.int (own_ex (p1 + (1 : Int32)) p1))] [(.int (own_ex p1 (p1 + (1 : Int32))))])) _
            refine XS.iconst X13.here hx rfl (hb hby at_78) ?_
            show Steps p.tables e below (T13.setTop (mkF m 79 #[.val (.int p1), .val (.int p2), .val (.int p3), .val (.int (p3 &&& (3 : Int32))), .val (.int (p1 + (1 : Int32))), .val (.double (FP.i2d p1)), .second, .val (.double (FP.i2d (p1 + (1 : Int32)))), .second, .val (.int (own_ex p1 (p1 + (1 : Int32)))), .val (.int (own_ex (p1 + (1 : Int32)) p1))] [(.int (1 : Int32)), (.int (own_ex p1 (p1 + (1 : Int32))))])) _
            refine XS.goto X13.here hx rfl (pc0 := 79) (pc' := 83) rfl (hb hby at_79) (by decide) (by decide) ?_
            exact kt
          · rw [if_neg hc75] at kt
            refine XS.icmpYes X13.here hx rfl (pc0 := 75) (pc' := 82) rfl (hb hby at_75) rfl (flt hc75).2.2.2 (by decide) (by decide) ?_
            show Steps p.tables e below (T13.setTop (mkF m 82 #[.val (.int p1), .val (.int p2), .val (.int p3), .val (.int (p3 &&& (3 : Int32))), .val (.int (p1 + (1 : Int32))), .val (.double (FP.i2d p1)), .second, .val (.double (FP.i2d (p1 + (1 : Int32)))), .second, .val (.int (own_ex p1 (p1 + (1 : Int32)))), .val (.int (own_ex (p1 + (1 : Int32)) p1))] [(.int (own_ex p1 (p1 + (1 : Int32))))])) _
            refine XS.iconst X13.here hx rfl (hb hby at_82) ?_
            exact kt
        have pre_15 : ∀ t, Steps p.tables e below (T13.setTop (mkF m 99 #[.val (.int p1), .val (.int p2), .val (.int p3), .val (.int (p3 &&& (3 : Int32))), .val (.int (p1 + (1 : Int32))), .val (.double (FP.i2d p1)), .second, .val (.double (FP.i2d (p1 + (1 : Int32)))), .second, .val (.int (own_ex p1 (p1 + (1 : Int32)))), .val (.int (own_ex (p1 + (1 : Int32)) p1))] [(.int (if p1 < (p1 + (1 : Int32)) then (1 : Int32) else (0 : Int32))), (.int (own_ex (p1 + (1 : Int32)) p1))])) t → Steps p.tables e below (s₁.setTop (entryFrame m #[(.int p1), (.int p2), (.int p3)] maxLocals)) t := by
          intro t kt
          refine pre_14 _ ?_
          show Steps p.tables e below (T13.setTop (mkF m 83 #[.val (.int p1), .val (.int p2), .val (.int p3), .val (.int (p3 &&& (3 : Int32))), .val (.int (p1 + (1 : Int32))), .val (.double (FP.i2d p1)), .second, .val (.double (FP.i2d (p1 + (1 : Int32)))), .second, .val (.int (own_ex p1 (p1 + (1 : Int32)))), .val (.int (own_ex (p1 + (1 : Int32)) p1))] [(.int (if (p1 + (1 : Int32)) < p1 then (1 : Int32) else (0 : Int32))), (.int (own_ex p1 (p1 + (1 : Int32))))])) _
          refine XS.icmpNo X13.here hx rfl (hb hby at_83) rfl (teq (own_p _ _)).2 ?_
          show Steps p.tables e below (T13.setTop (mkF m 86 #[.val (.int p1), .val (.int p2), .val (.int p3), .val (.int (p3 &&& (3 : Int32))), .val (.int (p1 + (1 : Int32))), .val (.double (FP.i2d p1)), .second, .val (.double (FP.i2d (p1 + (1 : Int32)))), .second, .val (.int (own_ex p1 (p1 + (1 : Int32)))), .val (.int (own_ex (p1 + (1 : Int32)) p1))] [])) _
          refine XS.iload X13.here hx rfl (hb hby at_86) rfl ?_
          show Steps p.tables e below (T13.setTop (mkF m 88 #[.val (.int p1), .val (.int p2), .val (.int p3), .val (.int (p3 &&& (3 : Int32))), .val (.int (p1 + (1 : Int32))), .val (.double (FP.i2d p1)), .second, .val (.double (FP.i2d (p1 + (1 : Int32)))), .second, .val (.int (own_ex p1 (p1 + (1 : Int32)))), .val (.int (own_ex (p1 + (1 : Int32)) p1))] [(.int (own_ex (p1 + (1 : Int32)) p1))])) _
          refine XS.iload X13.here hx rfl (hb hby at_88) rfl ?_
          show Steps p.tables e below (T13.setTop (mkF m 90 #[.val (.int p1), .val (.int p2), .val (.int p3), .val (.int (p3 &&& (3 : Int32))), .val (.int (p1 + (1 : Int32))), .val (.double (FP.i2d p1)), .second, .val (.double (FP.i2d (p1 + (1 : Int32)))), .second, .val (.int (own_ex p1 (p1 + (1 : Int32)))), .val (.int (own_ex (p1 + (1 : Int32)) p1))] [(.int (p1 + (1 : Int32))), (.int (own_ex (p1 + (1 : Int32)) p1))])) _
          refine XS.iloadN X13.here hx rfl (hb hby at_90) rfl ?_
          show Steps p.tables e below (T13.setTop (mkF m 91 #[.val (.int p1), .val (.int p2), .val (.int p3), .val (.int (p3 &&& (3 : Int32))), .val (.int (p1 + (1 : Int32))), .val (.double (FP.i2d p1)), .second, .val (.double (FP.i2d (p1 + (1 : Int32)))), .second, .val (.int (own_ex p1 (p1 + (1 : Int32)))), .val (.int (own_ex (p1 + (1 : Int32)) p1))] [(.int p1), (.int (p1 + (1 : Int32))), (.int (own_ex (p1 + (1 : Int32)) p1))])) _
          by_cases hc91 : p1 < (p1 + (1 : Int32))
          · rw [if_pos hc91] at kt
            refine XS.icmpNo X13.here hx rfl (hb hby at_91) rfl (tlt hc91).2.2.2 ?_
            show Steps p.tables e below (T13.setTop (mkF m 94 #[.val (.int p1), .val (.int p2), .val (.int p3), .val (.int (p3 &&& (3 : Int32))), .val (.int (p1 + (1 : Int32))), .val (.double (FP.i2d p1)), .second, .val (.double (FP.i2d (p1 + (1 : Int32)))), .second, .val (.int (own_ex p1 (p1 + (1 : Int32)))), .val (.int (own_ex (p1 + (1 : Int32)) p1))] [(.int (own_ex (p1 + (1 : Int32)) p1))])) _
            refine XS.iconst X13.here hx rfl (hb hby at_94) ?_
            show Steps p.tables e below (T13.setTop (mkF m 95 #[.val (.int p1), .val (.int p2), .val (.int p3), .val (.int (p3 &&& (3 : Int32))), .val (.int (p1 + (1 : Int32))), .val (.double (FP.i2d p1)), .second, .val (.double (FP.i2d (p1 + (1 : Int32)))), .second, .val (.int (own_ex p1 (p1 + (1 : Int32)))), .val (.int (own_ex (p1 + (1 : Int32)) p1))] [(.int (1 : Int32)), (.int (own_ex (p1 + (1 : Int32)) p1))])) _
            refine XS.goto X13.here hx rfl (pc0 := 95) (pc' := 99) rfl (hb hby at_95) (by decide) (by decide) ?_
            exact kt
          · rw [if_neg hc91] at kt
            refine XS.icmpYes X13.here hx rfl (pc0 := 91) (pc' := 98) rfl (hb hby at_91) rfl (flt hc91).2.2.2 (by decide) (by decide) ?_
            show Steps p.tables e below (T13.setTop (mkF m 98 #[.val (.int p1), .val (.int p2), .val (.int p3), .val (.int (p3 &&& (3 : Int32))), .val (.int (p1 + (1 : Int32))), .val (.double (FP.i2d p1)), .second, .val (.double (FP.i2d (p1 + (1 : Int32)))), .second, .val (.int (own_ex p1 (p1 + (1 : Int32)))), .val (.int (own_ex (p1 + (1 : Int32)) p1))] [(.int (own_ex (p1 + (1 : Int32)) p1))])) _
            refine XS.iconst X13.here hx rfl (hb hby at_98) ?_
            exact kt
        obtain ⟨fs, hr, hrun, hended, hW, hsame⟩ := X13.leave (v := some (.int (1 : Int32))) (fun h => by rw [Bd.returns] at h; cases h)
        refine ⟨_, _, pre_15 _ ?_, hrun, hended, _, _, rfl, ?_, ⟨_, rfl⟩, hW, hsame.mono (by decide) (by decide)⟩
        · show Steps p.tables e below (T13.setTop (mkF m 99 #[.val (.int p1), .val (.int p2), .val (.int p3), .val (.int (p3 &&& (3 : Int32))), .val (.int (p1 + (1 : Int32))), .val (.double (FP.i2d p1)), .second, .val (.double (FP.i2d (p1 + (1 : Int32)))), .second, .val (.int (own_ex p1 (p1 + (1 : Int32)))), .val (.int (own_ex (p1 + (1 : Int32)) p1))] [(.int (if p1 < (p1 + (1 : Int32)) then (1 : Int32) else (0 : Int32))), (.int (own_ex (p1 + (1 : Int32)) p1))])) _
          refine XS.icmpNo X13.here hx rfl (hb hby at_99) rfl (teq (own_p _ _)).2 ?_
          show Steps p.tables e below (T13.setTop (mkF m 102 #[.val (.int p1), .val (.int p2), .val (.int p3), .val (.int (p3 &&& (3 : Int32))), .val (.int (p1 + (1 : Int32))), .val (.double (FP.i2d p1)), .second, .val (.double (FP.i2d (p1 + (1 : Int32)))), .second, .val (.int (own_ex p1 (p1 + (1 : Int32)))), .val (.int (own_ex (p1 + (1 : Int32)) p1))] [])) _
          refine XS.iconst X13.here hx rfl (hb hby at_102) ?_
          show Steps p.tables e below (T13.setTop (mkF m 103 #[.val (.int p1), .val (.int p2), .val (.int p3), .val (.int (p3 &&& (3 : Int32))), .val (.int (p1 + (1 : Int32))), .val (.double (FP.i2d p1)), .second, .val (.double (FP.i2d (p1 + (1 : Int32)))), .second, .val (.int (own_ex p1 (p1 + (1 : Int32)))), .val (.int (own_ex (p1 + (1 : Int32)) p1))] [(.int (1 : Int32))])) _
          refine XS.goto X13.here hx rfl (pc0 := 103) (pc' := 107) rfl (hb hby at_103) (by decide) (by decide) ?_
          show Steps p.tables e below (T13.setTop (mkF m 107 #[.val (.int p1), .val (.int p2), .val (.int p3), .val (.int (p3 &&& (3 : Int32))), .val (.int (p1 + (1 : Int32))), .val (.double (FP.i2d p1)), .second, .val (.double (FP.i2d (p1 + (1 : Int32)))), .second, .val (.int (own_ex p1 (p1 + (1 : Int32)))), .val (.int (own_ex (p1 + (1 : Int32)) p1))] [(.int (1 : Int32))])) _
          exact retN X13 hx (t := .boolean) Bd.returns (by simp) (hb hby at_107) hr
        · show Q_rm0 Z p1 p2 p3 h0 n0 _ T13.heap _
          rw [e13]
          exact ⟨rfl, N13⟩
      · obtain ⟨_, _, ⟨T16, L16, k16, n16⟩, -, X16, ⟨Lc16, hQ16, l16, y16, z16⟩, st16⟩ := Jvm.LawKit.callS X0 hx (y := (⟨"com/example/coarsen/coarsen/engine/Information", "exceeds", "(DD)Z"⟩ : MethodName)) hown (mvT hZ (hw _ (List.mem_of_getElem? (i := 0) rfl))) (mvT hZ (hw _ (List.mem_of_getElem? (i := 1) rfl))) (mvT hZ (hw _ (List.mem_of_getElem? (i := 2) rfl))) (mvT hZ (hw _ (List.mem_of_getElem? (i := 3) rfl))) (by decide) (backOf (W := 0) (rm1 l Z a0 hw [] p1 (p1 - (1 : Int32)) h0 n0 Z0 ) hZ (hw _ (List.mem_of_getElem? (i := 3) rfl)) (hw _ (List.mem_of_getElem? (i := 2) rfl)) (by decide) (by decide)) (g := (mkF m 56 #[.val (.int p1), .val (.int p2), .val (.int p3), .val (.int (p3 &&& (3 : Int32))), .val (.int (p1 - (1 : Int32))), .val (.double (FP.i2d p1)), .second, .val (.double (FP.i2d (p1 - (1 : Int32)))), .second, .unset, .unset] [(.double (FP.i2d (p1 - (1 : Int32)))), (.double (FP.i2d p1))])) rfl (by rw [hml]; rfl) (argsL := [(.double (FP.i2d p1)), (.double (FP.i2d (p1 - (1 : Int32))))]) (rest := []) (lenOf pd__DD_Z_307 rfl) rfl (by show 2 * 0 + _ ≤ _; exact Nat.le_of_eq rfl) (hb hby at_56) (fun _ _ => ⟨rfl, e0, (by decide : 0 + 0 ≤ _), (by decide : 0 + 0 ≤ _)⟩)
        dsimp only [Pt.U, Pt.locs, Pt.cells, Pt.slots] at X16 l16 y16 z16 st16 hQ16
        subst l16 y16 z16
        obtain ⟨rfl, N16q, e16⟩ := hQ16
        have N16 := Fr.app N0 N16q
        obtain ⟨_, _, ⟨T17, L17, k17, n17⟩, -, X17, ⟨Lc17, hQ17, l17, y17, z17⟩, st17⟩ := Jvm.LawKit.callS X16 hx (y := (⟨"com/example/coarsen/coarsen/engine/Information", "exceeds", "(DD)Z"⟩ : MethodName)) hown (mvT hZ (hw _ (List.mem_of_getElem? (i := 0) rfl))) (mvT hZ (hw _ (List.mem_of_getElem? (i := 1) rfl))) (mvT hZ (hw _ (List.mem_of_getElem? (i := 2) rfl))) (mvT hZ (hw _ (List.mem_of_getElem? (i := 3) rfl))) (by decide) (backOf (W := 0) (rm1 l Z a0 hw [] (p1 - (1 : Int32)) p1 h0 n0 Z0 ) hZ (hw _ (List.mem_of_getElem? (i := 3) rfl)) (hw _ (List.mem_of_getElem? (i := 2) rfl)) (by decide) (by decide)) (g := (mkF m 65 #[.val (.int p1), .val (.int p2), .val (.int p3), .val (.int (p3 &&& (3 : Int32))), .val (.int (p1 - (1 : Int32))), .val (.double (FP.i2d p1)), .second, .val (.double (FP.i2d (p1 - (1 : Int32)))), .second, .val (.int (own_ex p1 (p1 - (1 : Int32)))), .unset] [(.double (FP.i2d p1)), (.double (FP.i2d (p1 - (1 : Int32))))])) rfl (by rw [hml]; rfl) (argsL := [(.double (FP.i2d (p1 - (1 : Int32)))), (.double (FP.i2d p1))]) (rest := []) (lenOf pd__DD_Z_307 rfl) rfl (by show 2 * 0 + _ ≤ _; exact Nat.le_of_eq rfl) (hb hby at_65) (fun _ _ => ⟨rfl, e16, (by decide : 0 + 0 ≤ _), (by decide : 0 + 0 ≤ _)⟩)
        dsimp only [Pt.U, Pt.locs, Pt.cells, Pt.slots] at X17 l17 y17 z17 st17 hQ17
        subst l17 y17 z17
        obtain ⟨rfl, N17q, e17⟩ := hQ17
        have N17 := Fr.app N16 N17q
        have pre_18 : ∀ t, Steps p.tables e below (T17.setTop (mkF m 83 #[.val (.int p1), .val (.int p2), .val (.int p3), .val (.int (p3 &&& (3 : Int32))), .val (.int (p1 - (1 : Int32))), .val (.double (FP.i2d p1)), .second, .val (.double (FP.i2d (p1 - (1 : Int32)))), .second, .val (.int (own_ex p1 (p1 - (1 : Int32)))), .val (.int (own_ex (p1 - (1 : Int32)) p1))] [(.int (if (p1 - (1 : Int32)) < p1 then (1 : Int32) else (0 : Int32))), (.int (own_ex p1 (p1 - (1 : Int32))))])) t → Steps p.tables e below (s₁.setTop (entryFrame m #[(.int p1), (.int p2), (.int p3)] maxLocals)) t := by
          intro t kt
          refine pre_11 _ ?_
          show Steps p.tables e below (s₁.setTop (mkF m 27 #[.val (.int p1), .val (.int p2), .val (.int p3), .val (.int (p3 &&& (3 : Int32))), .unset, .unset, .unset, .unset, .unset, .unset, .unset] [(.int (2 : Int32)), (.int (p3 &&& (3 : Int32)))])) _
          refine XS.icmpYes X0.here hx rfl (pc0 := 27) (pc' := 38) rfl (hb hby at_27) rfl (feq hc27).2 (by decide) (by decide) ?_
          show Steps p.tables e below (s₁.setTop (mkF m 38 #[.val (.int p1), .val (.int p2), .val (.int p3), .val (.int (p3 &&& (3 : Int32))), .unset, .unset, .unset, .unset, .unset, .unset, .unset] [])) _
          refine XS.iloadN X0.here hx rfl (hb hby at_38) rfl ?_
          show Steps p.tables e below (s₁.setTop (mkF m 39 #[.val (.int p1), .val (.int p2), .val (.int p3), .val (.int (p3 &&& (3 : Int32))), .unset, .unset, .unset, .unset, .unset, .unset, .unset] [(.int p1)])) _
          refine XS.iconst X0.here hx rfl (hb hby at_39) ?_
          show Steps p.tables e below (s₁.setTop (mkF m 40 #[.val (.int p1), .val (.int p2), .val (.int p3), .val (.int (p3 &&& (3 : Int32))), .unset, .unset, .unset, .unset, .unset, .unset, .unset] [(.int (1 : Int32)), (.int p1)])) _
          refine XS.isub X0.here hx rfl (hb hby at_40) rfl ?_
          show Steps p.tables e below (s₁.setTop (mkF m 41 #[.val (.int p1), .val (.int p2), .val (.int p3), .val (.int (p3 &&& (3 : Int32))), .unset, .unset, .unset, .unset, .unset, .unset, .unset] [(.int (p1 - (1 : Int32)))])) _
          refine XS.istore X0.here hx rfl (hb hby at_41) rfl (l' := #[.val (.int p1), .val (.int p2), .val (.int p3), .val (.int (p3 &&& (3 : Int32))), .val (.int (p1 - (1 : Int32))), .unset, .unset, .unset, .unset, .unset, .unset]) rfl ?_
          show Steps p.tables e below (s₁.setTop (mkF m 43 #[.val (.int p1), .val (.int p2), .val (.int p3), .val (.int (p3 &&& (3 : Int32))), .val (.int (p1 - (1 : Int32))), .unset, .unset, .unset, .unset, .unset, .unset] [])) _
          refine XS.iloadN X0.here hx rfl (hb hby at_43) rfl ?_
          show Steps p.tables e below (s₁.setTop (mkF m 44 #[.val (.int p1), .val (.int p2), .val (.int p3), .val (.int (p3 &&& (3 : Int32))), .val (.int (p1 - (1 : Int32))), .unset, .unset, .unset, .unset, .unset, .unset] [(.int p1)])) _
          refine XS.i2dS X0.here hx rfl (hb hby at_44) rfl rfl ?_
          show Steps p.tables e below (s₁.setTop (mkF m 45 #[.val (.int p1), .val (.int p2), .val (.int p3), .val (.int (p3 &&& (3 : Int32))), .val (.int (p1 - (1 : Int32))), .unset, .unset, .unset, .unset, .unset, .unset] [(.double (FP.i2d p1))])) _
          refine XS.dstore X0.here hx rfl (hb hby at_45) rfl (l' := #[.val (.int p1), .val (.int p2), .val (.int p3), .val (.int (p3 &&& (3 : Int32))), .val (.int (p1 - (1 : Int32))), .val (.double (FP.i2d p1)), .second, .unset, .unset, .unset, .unset]) rfl ?_
          show Steps p.tables e below (s₁.setTop (mkF m 47 #[.val (.int p1), .val (.int p2), .val (.int p3), .val (.int (p3 &&& (3 : Int32))), .val (.int (p1 - (1 : Int32))), .val (.double (FP.i2d p1)), .second, .unset, .unset, .unset, .unset] [])) _
          refine XS.iload X0.here hx rfl (hb hby at_47) rfl ?_
          show Steps p.tables e below (s₁.setTop (mkF m 49 #[.val (.int p1), .val (.int p2), .val (.int p3), .val (.int (p3 &&& (3 : Int32))), .val (.int (p1 - (1 : Int32))), .val (.double (FP.i2d p1)), .second, .unset, .unset, .unset, .unset] [(.int (p1 - (1 : Int32)))])) _
          refine XS.i2dS X0.here hx rfl (hb hby at_49) rfl rfl ?_
          show Steps p.tables e below (s₁.setTop (mkF m 50 #[.val (.int p1), .val (.int p2), .val (.int p3), .val (.int (p3 &&& (3 : Int32))), .val (.int (p1 - (1 : Int32))), .val (.double (FP.i2d p1)), .second, .unset, .unset, .unset, .unset] [(.double (FP.i2d (p1 - (1 : Int32))))])) _
          refine XS.dstore X0.here hx rfl (hb hby at_50) rfl (l' := #[.val (.int p1), .val (.int p2), .val (.int p3), .val (.int (p3 &&& (3 : Int32))), .val (.int (p1 - (1 : Int32))), .val (.double (FP.i2d p1)), .second, .val (.double (FP.i2d (p1 - (1 : Int32)))), .second, .unset, .unset]) rfl ?_
          show Steps p.tables e below (s₁.setTop (mkF m 52 #[.val (.int p1), .val (.int p2), .val (.int p3), .val (.int (p3 &&& (3 : Int32))), .val (.int (p1 - (1 : Int32))), .val (.double (FP.i2d p1)), .second, .val (.double (FP.i2d (p1 - (1 : Int32)))), .second, .unset, .unset] [])) _
          refine XS.dload X0.here hx rfl (hb hby at_52) rfl ?_
          show Steps p.tables e below (s₁.setTop (mkF m 54 #[.val (.int p1), .val (.int p2), .val (.int p3), .val (.int (p3 &&& (3 : Int32))), .val (.int (p1 - (1 : Int32))), .val (.double (FP.i2d p1)), .second, .val (.double (FP.i2d (p1 - (1 : Int32)))), .second, .unset, .unset] [(.double (FP.i2d p1))])) _
          refine XS.dload X0.here hx rfl (hb hby at_54) rfl ?_
          show Steps p.tables e below (s₁.setTop (mkF m 56 #[.val (.int p1), .val (.int p2), .val (.int p3), .val (.int (p3 &&& (3 : Int32))), .val (.int (p1 - (1 : Int32))), .val (.double (FP.i2d p1)), .second, .val (.double (FP.i2d (p1 - (1 : Int32)))), .second, .unset, .unset] [(.double (FP.i2d (p1 - (1 : Int32)))), (.double (FP.i2d p1))])) _
          refine st16 _ ?_
          show Steps p.tables e below (T16.setTop (mkF m 59 #[.val (.int p1), .val (.int p2), .val (.int p3), .val (.int (p3 &&& (3 : Int32))), .val (.int (p1 - (1 : Int32))), .val (.double (FP.i2d p1)), .second, .val (.double (FP.i2d (p1 - (1 : Int32)))), .second, .unset, .unset] [(.int (own_ex p1 (p1 - (1 : Int32))))])) _
          refine XS.istore X16.here hx rfl (hb hby at_59) rfl (l' := #[.val (.int p1), .val (.int p2), .val (.int p3), .val (.int (p3 &&& (3 : Int32))), .val (.int (p1 - (1 : Int32))), .val (.double (FP.i2d p1)), .second, .val (.double (FP.i2d (p1 - (1 : Int32)))), .second, .val (.int (own_ex p1 (p1 - (1 : Int32)))), .unset]) rfl ?_
          show Steps p.tables e below (T16.setTop (mkF m 61 #[.val (.int p1), .val (.int p2), .val (.int p3), .val (.int (p3 &&& (3 : Int32))), .val (.int (p1 - (1 : Int32))), .val (.double (FP.i2d p1)), .second, .val (.double (FP.i2d (p1 - (1 : Int32)))), .second, .val (.int (own_ex p1 (p1 - (1 : Int32)))), .unset] [])) _
          refine XS.dload X16.here hx rfl (hb hby at_61) rfl ?_
          show Steps p.tables e below (T16.setTop (mkF m 63 #[.val (.int p1), .val (.int p2), .val (.int p3), .val (.int (p3 &&& (3 : Int32))), .val (.int (p1 - (1 : Int32))), .val (.double (FP.i2d p1)), .second, .val (.double (FP.i2d (p1 - (1 : Int32)))), .second, .val (.int (own_ex p1 (p1 - (1 : Int32)))), .unset] [(.double (FP.i2d (p1 - (1 : Int32))))])) _
          refine XS.dload X16.here hx rfl (hb hby at_63) rfl ?_
          show Steps p.tables e below (T16.setTop (mkF m 65 #[.val (.int p1), .val (.int p2), .val (.int p3), .val (.int (p3 &&& (3 : Int32))), .val (.int (p1 - (1 : Int32))), .val (.double (FP.i2d p1)), .second, .val (.double (FP.i2d (p1 - (1 : Int32)))), .second, .val (.int (own_ex p1 (p1 - (1 : Int32)))), .unset] [(.double (FP.i2d p1)), (.double (FP.i2d (p1 - (1 : Int32))))])) _
          refine st17 _ ?_
          show Steps p.tables e below (T17.setTop (mkF m 68 #[.val (.int p1), .val (.int p2), .val (.int p3), .val (.int (p3 &&& (3 : Int32))), .val (.int (p1 - (1 : Int32))), .val (.double (FP.i2d p1)), .second, .val (.double (FP.i2d (p1 - (1 : Int32)))), .second, .val (.int (own_ex p1 (p1 - (1 : Int32)))), .unset] [(.int (own_ex (p1 - (1 : Int32)) p1))])) _
          refine XS.istore X17.here hx rfl (hb hby at_68) rfl (l' := #[.val (.int p1), .val (.int p2), .val (.int p3), .val (.int (p3 &&& (3 : Int32))), .val (.int (p1 - (1 : Int32))), .val (.double (FP.i2d p1)), .second, .val (.double (FP.i2d (p1 - (1 : Int32)))), .second, .val (.int (own_ex p1 (p1 - (1 : Int32)))), .val (.int (own_ex (p1 - (1 : Int32)) p1))]) rfl ?_
          show Steps p.tables e below (T17.setTop (mkF m 70 #[.val (.int p1), .val (.int p2), .val (.int p3), .val (.int (p3 &&& (3 : Int32))), .val (.int (p1 - (1 : Int32))), .val (.double (FP.i2d p1)), .second, .val (.double (FP.i2d (p1 - (1 : Int32)))), .second, .val (.int (own_ex p1 (p1 - (1 : Int32)))), .val (.int (own_ex (p1 - (1 : Int32)) p1))] [])) _
          refine XS.iload X17.here hx rfl (hb hby at_70) rfl ?_
          show Steps p.tables e below (T17.setTop (mkF m 72 #[.val (.int p1), .val (.int p2), .val (.int p3), .val (.int (p3 &&& (3 : Int32))), .val (.int (p1 - (1 : Int32))), .val (.double (FP.i2d p1)), .second, .val (.double (FP.i2d (p1 - (1 : Int32)))), .second, .val (.int (own_ex p1 (p1 - (1 : Int32)))), .val (.int (own_ex (p1 - (1 : Int32)) p1))] [(.int (own_ex p1 (p1 - (1 : Int32))))])) _
          refine XS.iloadN X17.here hx rfl (hb hby at_72) rfl ?_
          show Steps p.tables e below (T17.setTop (mkF m 73 #[.val (.int p1), .val (.int p2), .val (.int p3), .val (.int (p3 &&& (3 : Int32))), .val (.int (p1 - (1 : Int32))), .val (.double (FP.i2d p1)), .second, .val (.double (FP.i2d (p1 - (1 : Int32)))), .second, .val (.int (own_ex p1 (p1 - (1 : Int32)))), .val (.int (own_ex (p1 - (1 : Int32)) p1))] [(.int p1), (.int (own_ex p1 (p1 - (1 : Int32))))])) _
          refine XS.iload X17.here hx rfl (hb hby at_73) rfl ?_
          show Steps p.tables e below (T17.setTop (mkF m 75 #[.val (.int p1), .val (.int p2), .val (.int p3), .val (.int (p3 &&& (3 : Int32))), .val (.int (p1 - (1 : Int32))), .val (.double (FP.i2d p1)), .second, .val (.double (FP.i2d (p1 - (1 : Int32)))), .second, .val (.int (own_ex p1 (p1 - (1 : Int32)))), .val (.int (own_ex (p1 - (1 : Int32)) p1))] [(.int (p1 - (1 : Int32))), (.int p1), (.int (own_ex p1 (p1 - (1 : Int32))))])) _
          by_cases hc75 : (p1 - (1 : Int32)) < p1
          · rw [if_pos hc75] at kt
            refine XS.icmpNo X17.here hx rfl (hb hby at_75) rfl (tlt hc75).2.2.2 ?_
            show Steps p.tables e below (T17.setTop (mkF m 78 #[.val (.int p1), .val (.int p2), .val (.int p3), .val (.int (p3 &&& (3 : Int32))), .val (.int (p1 - (1 : Int32))), .val (.double (FP.i2d p1)), .second, .val (.double (FP.i2d (p1 - (1 : Int32)))), .second, .val (.int (own_ex p1 (p1 - (1 : Int32)))), .val (.int (own_ex (p1 - (1 : Int32)) p1))] [(.int (own_ex p1 (p1 - (1 : Int32))))])) _
            refine XS.iconst X17.here hx rfl (hb hby at_78) ?_
            show Steps p.tables e below (T17.setTop (mkF m 79 #[.val (.int p1), .val (.int p2), .val (.int p3), .val (.int (p3 &&& (3 : Int32))), .val (.int (p1 - (1 : Int32))), .val (.double (FP.i2d p1)), .second, .val (.double (FP.i2d (p1 - (1 : Int32)))), .second, .val (.int (own_ex p1 (p1 - (1 : Int32)))), .val (.int (own_ex (p1 - (1 : Int32)) p1))] [(.int (1 : Int32)), (.int (own_ex p1 (p1 - (1 : Int32))))])) _
            refine XS.goto X17.here hx rfl (pc0 := 79) (pc' := 83) rfl (hb hby at_79) (by decide) (by decide) ?_
            exact kt
          · rw [if_neg hc75] at kt
            refine XS.icmpYes X17.here hx rfl (pc0 := 75) (pc' := 82) rfl (hb hby at_75) rfl (flt hc75).2.2.2 (by decide) (by decide) ?_
            show Steps p.tables e below (T17.setTop (mkF m 82 #[.val (.int p1), .val (.int p2), .val (.int p3), .val (.int (p3 &&& (3 : Int32))), .val (.int (p1 - (1 : Int32))), .val (.double (FP.i2d p1)), .second, .val (.double (FP.i2d (p1 - (1 : Int32)))), .second, .val (.int (own_ex p1 (p1 - (1 : Int32)))), .val (.int (own_ex (p1 - (1 : Int32)) p1))] [(.int (own_ex p1 (p1 - (1 : Int32))))])) _
            refine XS.iconst X17.here hx rfl (hb hby at_82) ?_
            exact kt
        have pre_19 : ∀ t, Steps p.tables e below (T17.setTop (mkF m 99 #[.val (.int p1), .val (.int p2), .val (.int p3), .val (.int (p3 &&& (3 : Int32))), .val (.int (p1 - (1 : Int32))), .val (.double (FP.i2d p1)), .second, .val (.double (FP.i2d (p1 - (1 : Int32)))), .second, .val (.int (own_ex p1 (p1 - (1 : Int32)))), .val (.int (own_ex (p1 - (1 : Int32)) p1))] [(.int (if p1 < (p1 - (1 : Int32)) then (1 : Int32) else (0 : Int32))), (.int (own_ex (p1 - (1 : Int32)) p1))])) t → Steps p.tables e below (s₁.setTop (entryFrame m #[(.int p1), (.int p2), (.int p3)] maxLocals)) t := by
          intro t kt
          refine pre_18 _ ?_
          show Steps p.tables e below (T17.setTop (mkF m 83 #[.val (.int p1), .val (.int p2), .val (.int p3), .val (.int (p3 &&& (3 : Int32))), .val (.int (p1 - (1 : Int32))), .val (.double (FP.i2d p1)), .second, .val (.double (FP.i2d (p1 - (1 : Int32)))), .second, .val (.int (own_ex p1 (p1 - (1 : Int32)))), .val (.int (own_ex (p1 - (1 : Int32)) p1))] [(.int (if (p1 - (1 : Int32)) < p1 then (1 : Int32) else (0 : Int32))), (.int (own_ex p1 (p1 - (1 : Int32))))])) _
          refine XS.icmpNo X17.here hx rfl (hb hby at_83) rfl (teq (own_p _ _)).2 ?_
          show Steps p.tables e below (T17.setTop (mkF m 86 #[.val (.int p1), .val (.int p2), .val (.int p3), .val (.int (p3 &&& (3 : Int32))), .val (.int (p1 - (1 : Int32))), .val (.double (FP.i2d p1)), .second, .val (.double (FP.i2d (p1 - (1 : Int32)))), .second, .val (.int (own_ex p1 (p1 - (1 : Int32)))), .val (.int (own_ex (p1 - (1 : Int32)) p1))] [])) _
          refine XS.iload X17.here hx rfl (hb hby at_86) rfl ?_
          show Steps p.tables e below (T17.setTop (mkF m 88 #[.val (.int p1), .val (.int p2), .val (.int p3), .val (.int (p3 &&& (3 : Int32))), .val (.int (p1 - (1 : Int32))), .val (.double (FP.i2d p1)), .second, .val (.double (FP.i2d (p1 - (1 : Int32)))), .second, .val (.int (own_ex p1 (p1 - (1 : Int32)))), .val (.int (own_ex (p1 - (1 : Int32)) p1))] [(.int (own_ex (p1 - (1 : Int32)) p1))])) _
          refine XS.iload X17.here hx rfl (hb hby at_88) rfl ?_
          show Steps p.tables e below (T17.setTop (mkF m 90 #[.val (.int p1), .val (.int p2), .val (.int p3), .val (.int (p3 &&& (3 : Int32))), .val (.int (p1 - (1 : Int32))), .val (.double (FP.i2d p1)), .second, .val (.double (FP.i2d (p1 - (1 : Int32)))), .second, .val (.int (own_ex p1 (p1 - (1 : Int32)))), .val (.int (own_ex (p1 - (1 : Int32)) p1))] [(.int (p1 - (1 : Int32))), (.int (own_ex (p1 - (1 : Int32)) p1))])) _
          refine XS.iloadN X17.here hx rfl (hb hby at_90) rfl ?_
          show Steps p.tables e below (T17.setTop (mkF m 91 #[.val (.int p1), .val (.int p2), .val (.int p3), .val (.int (p3 &&& (3 : Int32))), .val (.int (p1 - (1 : Int32))), .val (.double (FP.i2d p1)), .second, .val (.double (FP.i2d (p1 - (1 : Int32)))), .second, .val (.int (own_ex p1 (p1 - (1 : Int32)))), .val (.int (own_ex (p1 - (1 : Int32)) p1))] [(.int p1), (.int (p1 - (1 : Int32))), (.int (own_ex (p1 - (1 : Int32)) p1))])) _
          by_cases hc91 : p1 < (p1 - (1 : Int32))
          · rw [if_pos hc91] at kt
            refine XS.icmpNo X17.here hx rfl (hb hby at_91) rfl (tlt hc91).2.2.2 ?_
            show Steps p.tables e below (T17.setTop (mkF m 94 #[.val (.int p1), .val (.int p2), .val (.int p3), .val (.int (p3 &&& (3 : Int32))), .val (.int (p1 - (1 : Int32))), .val (.double (FP.i2d p1)), .second, .val (.double (FP.i2d (p1 - (1 : Int32)))), .second, .val (.int (own_ex p1 (p1 - (1 : Int32)))), .val (.int (own_ex (p1 - (1 : Int32)) p1))] [(.int (own_ex (p1 - (1 : Int32)) p1))])) _
            refine XS.iconst X17.here hx rfl (hb hby at_94) ?_
            show Steps p.tables e below (T17.setTop (mkF m 95 #[.val (.int p1), .val (.int p2), .val (.int p3), .val (.int (p3 &&& (3 : Int32))), .val (.int (p1 - (1 : Int32))), .val (.double (FP.i2d p1)), .second, .val (.double (FP.i2d (p1 - (1 : Int32)))), .second, .val (.int (own_ex p1 (p1 - (1 : Int32)))), .val (.int (own_ex (p1 - (1 : Int32)) p1))] [(.int (1 : Int32)), (.int (own_ex (p1 - (1 : Int32)) p1))])) _
            refine XS.goto X17.here hx rfl (pc0 := 95) (pc' := 99) rfl (hb hby at_95) (by decide) (by decide) ?_
            exact kt
          · rw [if_neg hc91] at kt
            refine XS.icmpYes X17.here hx rfl (pc0 := 91) (pc' := 98) rfl (hb hby at_91) rfl (flt hc91).2.2.2 (by decide) (by decide) ?_
            show Steps p.tables e below (T17.setTop (mkF m 98 #[.val (.int p1), .val (.int p2), .val (.int p3), .val (.int (p3 &&& (3 : Int32))), .val (.int (p1 - (1 : Int32))), .val (.double (FP.i2d p1)), .second, .val (.double (FP.i2d (p1 - (1 : Int32)))), .second, .val (.int (own_ex p1 (p1 - (1 : Int32)))), .val (.int (own_ex (p1 - (1 : Int32)) p1))] [(.int (own_ex (p1 - (1 : Int32)) p1))])) _
            refine XS.iconst X17.here hx rfl (hb hby at_98) ?_
            exact kt
        obtain ⟨fs, hr, hrun, hended, hW, hsame⟩ := X17.leave (v := some (.int (1 : Int32))) (fun h => by rw [Bd.returns] at h; cases h)
        refine ⟨_, _, pre_19 _ ?_, hrun, hended, _, _, rfl, ?_, ⟨_, rfl⟩, hW, hsame.mono (by decide) (by decide)⟩
        · show Steps p.tables e below (T17.setTop (mkF m 99 #[.val (.int p1), .val (.int p2), .val (.int p3), .val (.int (p3 &&& (3 : Int32))), .val (.int (p1 - (1 : Int32))), .val (.double (FP.i2d p1)), .second, .val (.double (FP.i2d (p1 - (1 : Int32)))), .second, .val (.int (own_ex p1 (p1 - (1 : Int32)))), .val (.int (own_ex (p1 - (1 : Int32)) p1))] [(.int (if p1 < (p1 - (1 : Int32)) then (1 : Int32) else (0 : Int32))), (.int (own_ex (p1 - (1 : Int32)) p1))])) _
          refine XS.icmpNo X17.here hx rfl (hb hby at_99) rfl (teq (own_p _ _)).2 ?_
          show Steps p.tables e below (T17.setTop (mkF m 102 #[.val (.int p1), .val (.int p2), .val (.int p3), .val (.int (p3 &&& (3 : Int32))), .val (.int (p1 - (1 : Int32))), .val (.double (FP.i2d p1)), .second, .val (.double (FP.i2d (p1 - (1 : Int32)))), .second, .val (.int (own_ex p1 (p1 - (1 : Int32)))), .val (.int (own_ex (p1 - (1 : Int32)) p1))] [])) _
          refine XS.iconst X17.here hx rfl (hb hby at_102) ?_
          show Steps p.tables e below (T17.setTop (mkF m 103 #[.val (.int p1), .val (.int p2), .val (.int p3), .val (.int (p3 &&& (3 : Int32))), .val (.int (p1 - (1 : Int32))), .val (.double (FP.i2d p1)), .second, .val (.double (FP.i2d (p1 - (1 : Int32)))), .second, .val (.int (own_ex p1 (p1 - (1 : Int32)))), .val (.int (own_ex (p1 - (1 : Int32)) p1))] [(.int (1 : Int32))])) _
          refine XS.goto X17.here hx rfl (pc0 := 103) (pc' := 107) rfl (hb hby at_103) (by decide) (by decide) ?_
          show Steps p.tables e below (T17.setTop (mkF m 107 #[.val (.int p1), .val (.int p2), .val (.int p3), .val (.int (p3 &&& (3 : Int32))), .val (.int (p1 - (1 : Int32))), .val (.double (FP.i2d p1)), .second, .val (.double (FP.i2d (p1 - (1 : Int32)))), .second, .val (.int (own_ex p1 (p1 - (1 : Int32)))), .val (.int (own_ex (p1 - (1 : Int32)) p1))] [(.int (1 : Int32))])) _
          exact retN X17 hx (t := .boolean) Bd.returns (by simp) (hb hby at_107) hr
        · show Q_rm0 Z p1 p2 p3 h0 n0 _ T17.heap _
          rw [e17]
          exact ⟨rfl, N17⟩
set_option maxRecDepth 65536 in
set_option maxHeartbeats 40000000 in
theorem comes_1 {Post : Tables → Env → Array Value → State → Outcome → State → Prop} (hpost : ∀ tb e args s v u, (limb_1_1.after args s (.returned v) u = true ∧ limb_1_2.after args s (.returned v) u = true ∧ True) → FrameEnd s (.returned v) u (Jvm.fieldLocs frame_1_writes args s ++ Jvm.arrayLocs frame_1_arrays args s ++ Jvm.staticLocs frame_1_statics s) 0 0 → Post tb e args s (.returned v) u) :
    ArmFor flags0 classFile x code maxLocals ret World_1 tables_1 room_1 Calls_1 rest_1 Pre_1 Post := by
  intro l hfl _ _ p e ha hc hk s m args below hf hA hF happ hP
  obtain ⟨hcalls, hrest, hpre⟩ := hP
  obtain ⟨-, -, -, hnamed, -, -, -, hat⟩ := (Spec.applies_iff hf).mp happ
  obtain ⟨hg, hn⟩ := and_e (Cond.before_iff.mp (show (Jvm.Cond.and given_1 narrow_1).before args s = true from hpre))
  obtain ⟨hcount, hga0⟩ := and_e hg
  obtain ⟨hi0, hga1⟩ := and_e hga0
  obtain ⟨hi1, hga2⟩ := and_e hga1
  have hi2 := hga2
  obtain ⟨w0, w1, w2, rfl⟩ : ∃ w0 w1 w2 : Value, args = #[w0, w1, w2] := by
    have hs : args.size = 3 := by simpa [Cond.value, given_1] using hcount
    obtain ⟨L⟩ := args
    match L, hs with
    | [w0, w1, w2], _ => exact ⟨w0, w1, w2, rfl⟩
  have hw := fun d (hd : d ∈ tables_1) => atoms_spec (ws := Jvm.Cond.code x code maxLocals ret :: tables_1) hat d (List.mem_cons_of_mem _ hd)
  obtain ⟨i0, ei0⟩ := is_v hi0
  obtain rfl : w0 = (.int i0) := Option.some.inj ei0
  obtain ⟨i1, ei1⟩ := is_v hi1
  obtain rfl : w1 = (.int i1) := Option.some.inj ei1
  obtain ⟨i2, ei2⟩ := is_v hi2
  obtain rfl : w2 = (.int i2) := Option.some.inj ei2
  obtain ⟨n, o, h1, h2, h3, _, L, rfl, ⟨rfl, N⟩, hq⟩ := rm0 l s _ hw tables_1 i0 i1 i2  s.heap s.heap.size (Nat.le_refl _)  p e ha hc hk s m _ below hf ((Spec.applies_iff_loose hf).mp happ).1 ⟨rfl, State.Warmed39.refl s, rfl⟩ trivial
  refine ⟨n, _, h1, h2, h3, hpost _ _ _ _ _ _ ⟨Cond.after_iff.mpr rfl, Cond.after_iff.mpr (eq_i res_at (Term.int_eval (1)) rfl), trivial⟩ ⟨hq.1, hq.2.1, (hq.2.2.sift fun y hy => Or.inr (N y hy)).mono (by decide) (by decide)⟩⟩
theorem main_1_1 : Claimed_1_1 := comes_1 fun _ _ _ _ _ _ h hF => ⟨h.1, hF⟩
theorem main_1_2 : Claimed_1_2 := comes_1 fun _ _ _ _ _ _ h hF => ⟨h.2.1, hF⟩
end Jvm.Pilot.@@N@@
namespace Jvm.Pilot.@@N@@
open Jvm Jvm.ClassFile Sem Op Lib Jvm.Free Jvm.Stand Jvm.Pilot.@@N@@.Jvm.D
/-! MADE BY PROGRAM (witnessworld.py) out of the Statement's table words and the real class files: 9 classes; the members and pool entries that the words name. The judged class is class 1, her method 1. -/
namespace start1
open Jvm.ClassFile
def u (s : String) : CpInfo := .utf8 (stringToUtf16 s)
/-- a pool by its gaps: so many unusable entries, then the entry; so many at the end -/
def gap : Nat → List CpInfo → List CpInfo
  | 0, r => r
  | n + 1, r => .unusable :: gap n r
def poolList (es : List (Nat × CpInfo)) (last : Nat) : List CpInfo := es.foldr (fun e r => gap e.1 (e.2 :: r)) (gap last [])
def pool (es : List (Nat × CpInfo)) (last : Nat) : Array CpInfo := ⟨poolList es last⟩
def fileOf (pool : Array CpInfo) (this : Nat) (attrs : Array Attribute := #[]) (ms : Array MethodInfo := #[]) (fl : Nat := 33) (sup : Nat := 0) (ifs : Array Nat := #[]) (fds : Array FieldInfo := #[]) : ClassFile where
  minorVersion := 0
  majorVersion := 65
  constantPool := pool
  accessFlags := fl
  thisClass := this
  superClass := sup
  interfaces := ifs
  fields := fds
  methods := ms
  attributes := attrs
def plain (name : String) (sup : Option ClassId) : Class where
  name := name
  kind := .ordinary
  loader := none
  accessFlags := 33
  super := sup
  interfaces := #[]
  cf := none
  fields := #[]
  methods := #[]
  instanceTypes := #[]
  staticTypes := #[]
  resolved := #[]
  callSites := []
  init := .initialized
  statics := none
  mirror := none

def pool0 : Array CpInfo := pool [(5, u "<init>"), (0, u "()V"), (1, .class_ 10), (1, u "java/lang/Object")] 113

def k0m0 : Method := { name := "<init>", desc := "()V", sig := { parameters := [], returnType := none }, accessFlags := 1, code := none }
/-- java/lang/Object -/
def k0 : Class := { plain "java/lang/Object" none with
  accessFlags := 33
  interfaces := #[]
  cf := some (fileOf pool0 8 #[] #[{ accessFlags := 1, nameIndex := 5, descriptorIndex := 6, attributes := #[] }] 33 0 #[] #[])
  fields := #[]
  methods := #[k0m0]
  instanceTypes := #[]
  staticTypes := #[]
  resolved := Array.replicate 124 none
  statics := none }

def pool1 : Array CpInfo := pool [(2, .class_ 4), (1, u "java/lang/Object"), (0, u "<init>"), (0, u "()V"), (0, .methodref 8 9), (0, .class_ 10), (0, .nameAndType 11 12), (0, u "com/example/coarsen/coarsen/engine/Information"), (0, u "exceeds"), (0, u "(DD)Z"), (0, .class_ 14), (0, u "com/example/coarsen/coarsen/engine/InformationExceedsPinLaw"), (2, u "law"), (0, u "(III)Z")] 3

def k1m0 : Method := { name := "<init>", desc := "()V", sig := { parameters := [], returnType := none }, accessFlags := 2, code := none }
def k1c1 : Code := { maxStack := 4, maxLocals := 11, code := code, exceptionTable := #[], attributes := #[] }
def k1m1 : Method := { name := "law", desc := "(III)Z", sig := { parameters := [.int, .int, .int], returnType := some .boolean }, accessFlags := 9, code := some k1c1 }
/-- com/example/coarsen/coarsen/engine/InformationExceedsPinLaw -/
def k1 : Class := { plain "com/example/coarsen/coarsen/engine/InformationExceedsPinLaw" (some 0) with
  accessFlags := 49
  interfaces := #[]
  cf := some (fileOf pool1 13 #[] #[{ accessFlags := 2, nameIndex := 5, descriptorIndex := 6, attributes := #[] }, { accessFlags := 9, nameIndex := 17, descriptorIndex := 18, attributes := #[] }] 49 2 #[] #[])
  fields := #[]
  methods := #[k1m0, k1m1]
  instanceTypes := #[]
  staticTypes := #[]
  resolved := Array.replicate 22 none
  statics := none }

def pool2 : Array CpInfo := pool [(2, .class_ 4), (1, u "java/lang/Object"), (0, u "<init>"), (0, u "()V"), (7, .class_ 16), (1, u "com/example/coarsen/coarsen/engine/Information"), (0, u "LN_2"), (0, u "D"), (4, .double 4472406533629990549), (3, u "TIE"), (10, u "exceeds"), (0, u "(DD)Z")] 3

def k2m0 : Method := { name := "<init>", desc := "()V", sig := { parameters := [], returnType := none }, accessFlags := 2, code := none }
def k2c1 : Code := { maxStack := 4, maxLocals := 4, code := prog_8_method_4_code, exceptionTable := #[], attributes := #[] }
def k2m1 : Method := { name := "exceeds", desc := "(DD)Z", sig := { parameters := [.double, .double], returnType := some .boolean }, accessFlags := 8, code := some k2c1 }
/-- com/example/coarsen/coarsen/engine/Information -/
def k2 : Class := { plain "com/example/coarsen/coarsen/engine/Information" (some 0) with
  accessFlags := 48
  interfaces := #[]
  cf := some (fileOf pool2 14 #[] #[{ accessFlags := 2, nameIndex := 5, descriptorIndex := 6, attributes := #[] }, { accessFlags := 8, nameIndex := 38, descriptorIndex := 39, attributes := #[] }] 48 2 #[] #[{ accessFlags := 26, nameIndex := 27, descriptorIndex := 18, attributes := #[] }, { accessFlags := 26, nameIndex := 17, descriptorIndex := 18, attributes := #[] }])
  fields := #[{ name := "TIE", type := .double, accessFlags := 26, slot := 0, constantValue := 0 }, { name := "LN_2", type := .double, accessFlags := 26, slot := 1, constantValue := 0 }]
  methods := #[k2m0, k2m1]
  instanceTypes := #[]
  staticTypes := #[.double, .double]
  resolved := Array.replicate 43 none
  statics := none }

def pool3 : Array CpInfo := pool [(1, u "java/lang/Cloneable"), (0, .class_ 1), (0, u "java/lang/Object"), (0, .class_ 3)] 3

/-- java/lang/Cloneable -/
def k3 : Class := { plain "java/lang/Cloneable" (some 0) with
  accessFlags := 1537
  interfaces := #[]
  cf := some (fileOf pool3 2 #[] #[] 1537 4 #[] #[])
  fields := #[]
  methods := #[]
  instanceTypes := #[]
  staticTypes := #[]
  resolved := Array.replicate 8 none
  statics := none }

def pool4 : Array CpInfo := pool [(1, u "java/io/Serializable"), (0, .class_ 1), (0, u "java/lang/Object"), (0, .class_ 3)] 3

/-- java/io/Serializable -/
def k4 : Class := { plain "java/io/Serializable" (some 0) with
  accessFlags := 1537
  interfaces := #[]
  cf := some (fileOf pool4 2 #[] #[] 1537 4 #[] #[])
  fields := #[]
  methods := #[]
  instanceTypes := #[]
  staticTypes := #[]
  resolved := Array.replicate 8 none
  statics := none }

/-- the primitive byte -/
def k5 : Class := { plain "byte" none with kind := .primitive 'B', accessFlags := 0x411 }
/-- [B -/
def k6 : Class := { plain "[B" (some 0) with kind := .array 5 .byte, interfaces := #[3, 4], accessFlags := 1041 }

/-- the primitive int -/
def k7 : Class := { plain "int" none with kind := .primitive 'I', accessFlags := 0x411 }
/-- [I -/
def k8 : Class := { plain "[I" (some 0) with kind := .array 7 .int, interfaces := #[3, 4], accessFlags := 1041 }

def heap : Heap := #[]
def classes : Array Class := #[k0, k1, k2, k3, k4, k5, k6, k7, k8]
def interned : List (Array UInt16 × Addr) := []
def slotsUsed : Nat := 0
def theMethod : MethodId := ⟨1, 1⟩
def args0 : Array Value := #[.int 7, .int 3, .int 4]
def aboutOver (below : List Frame) : State where
  vm := { classes := classes, interned := interned.toArray }
  heap := heap
  slotsUsed := slotsUsed
  threads := #[{ frames := .invoking theMethod args0 :: below }]
def below0 : List Frame := [.native { method := ⟨0, 0⟩, args := #[] }]
def about1 : State := aboutOver below0
def p0 : Program := .bare "" "" ""
def e0 : Env := launch0.env 0 0 0
theorem w_frames : about1.frames = Frame.invoking theMethod args0 :: below0 := rfl
set_option maxRecDepth 65536 in
theorem w_args : argsFit about1.vm theMethod args0 = true := by decide +kernel
set_option maxRecDepth 65536 in
theorem w_heap : heapFits about1 = true := by decide +kernel
set_option maxRecDepth 65536 in
theorem w_runnable : about1.curStatus? = some .runnable := by decide +kernel
set_option maxRecDepth 65536 in
theorem w_alone : about1.alone = true := by decide +kernel
set_option maxRecDepth 65536 in
theorem w_named : about1.methodNamed? x = some theMethod := by decide +kernel
set_option maxRecDepth 65536 in
theorem w_hears : about1.hears theMethod below0 = true := by decide +kernel
set_option maxRecDepth 65536 in
theorem w_ripe : about1.ripe theMethod args0 below0 = true := by decide +kernel
theorem w_running : about1.status = .running := rfl
set_option maxRecDepth 65536 in
theorem w_room : about1.hasRoom e0.platform room_1 = true :=
  launch0.hasRoom_least _ room_1 (by decide +kernel) (by decide +kernel) (by decide +kernel) (by decide +kernel) (by decide +kernel) (by decide +kernel)
theorem allAtoms_all (ts : List Jvm.Cond) (a : Array Jvm.Value) (st : Jvm.State) : (allAtoms ts).before a st = ts.all (fun c => c.before a st) := by
  induction ts with
  | nil => rfl
  | cons c t ih =>
    show (Jvm.Cond.and c (allAtoms t)).before a st = _
    rw [Jvm.Cond.before_and, ih, List.all_cons]
def words1 : List Jvm.Cond := Jvm.Cond.code x code maxLocals ret :: tables_1
/-- a 'code' word, met by the world's own term for the bytes: nothing is compared byte by byte -/
theorem code_word {y : MethodName} {bytes : ByteArray} {mx : Nat} {rt : Option FieldType} {a : Array Value} {s : State} {m : MethodId} {meth : Method} {c : Code} (h1 : s.methodNamed? y = some m) (h2 : s.vm.method? m = some meth) (h3 : meth.code = some c) (h4 : c.code = bytes)
    (h5 : (c.maxLocals == mx && c.exceptionTable.isEmpty && decide (c.maxStack ≤ mostOperands) && decide (meth.sig.returnType = rt) && !meth.locks && decide (parseMethodDescriptor y.desc = some meth.sig)) = true) : (Jvm.Cond.code y bytes mx rt).before a s = true := by
  simp only [Bool.and_eq_true, beq_iff_eq, Bool.not_eq_true', decide_eq_true_eq] at h5
  obtain ⟨⟨⟨⟨⟨g1, g2⟩, g3⟩, g4⟩, g5⟩, g6⟩ := h5
  simp [Cond.before, Cond.holds, Cond.value, h1, h2, h3, h4, g1, g2, g3, g4, g5, g6]
def isCode : Jvm.Cond → Bool
  | .code _ _ _ _ => true
  | _ => false
theorem all_split {L : List Jvm.Cond} {P : Jvm.Cond → Bool} (h1 : L.all (fun c => isCode c || P c) = true) (h2 : ∀ c ∈ L.filter isCode, P c = true) : L.all P = true := by
  refine List.all_eq_true.mpr fun c hc => ?_
  have h := List.all_eq_true.mp h1 c hc
  rcases Bool.eq_false_or_eq_true (isCode c) with hi | hi
  · exact h2 c (List.mem_filter.mpr ⟨hc, hi⟩)
  · simpa [hi] using h
set_option maxRecDepth 65536 in
theorem w_c0 : (Jvm.Cond.code x code maxLocals ret).before args0 about1 = true := code_word (m := ⟨1, 1⟩) (meth := k1m1) (c := k1c1) (by decide +kernel) rfl rfl rfl (by decide +kernel)
set_option maxRecDepth 65536 in
theorem w_c1 : (Jvm.Cond.code ({ cls := "com/example/coarsen/coarsen/engine/Information", name := "exceeds", desc := "(DD)Z" } : Jvm.MethodName) prog_8_method_4_code (4 : Nat) (Option.some Jvm.ClassFile.FieldType.boolean)).before args0 about1 = true := code_word (m := ⟨2, 1⟩) (meth := k2m1) (c := k2c1) (by decide +kernel) rfl rfl rfl (by decide +kernel)
def codes1 : List Jvm.Cond := [Jvm.Cond.code x code maxLocals ret, Jvm.Cond.code ({ cls := "com/example/coarsen/coarsen/engine/Information", name := "exceeds", desc := "(DD)Z" } : Jvm.MethodName) prog_8_method_4_code (4 : Nat) (Option.some Jvm.ClassFile.FieldType.boolean)]
set_option maxRecDepth 65536 in
theorem codes_eq : words1.filter isCode = codes1 := rfl
theorem w_codes : ∀ c ∈ words1.filter isCode, c.before args0 about1 = true := by
  rw [codes_eq]
  intro c hc
  simp only [codes1, List.mem_cons, List.not_mem_nil, or_false] at hc
  rcases hc with rfl | rfl
  · exact w_c0
  · exact w_c1
set_option maxRecDepth 65536 in
theorem w_t1 : words1.all (fun c => isCode c || c.before args0 about1) = true := by decide +kernel
theorem w_tables : (allAtoms (Jvm.Cond.code x code maxLocals ret :: tables_1)).before args0 about1 = true := by
  rw [allAtoms_all]
  show words1.all (fun c => c.before args0 about1) = true
  refine all_split ?_ w_codes
  rw [w_t1]
set_option maxRecDepth 65536 in
theorem w_case : (Jvm.Cond.and given_1 narrow_1).before args0 about1 = true := by decide +kernel
theorem w_applies : (headSpec (Jvm.Cond.code x code maxLocals ret :: tables_1) room_1).applies x e0.platform about1 = true :=
  (Spec.applies_iff w_frames).mpr ⟨w_running, w_runnable, w_alone, w_named, w_hears, w_ripe, w_room, w_tables⟩
theorem atStart : AtStart classFile x code maxLocals ret World_1 tables_1 room_1 Calls_1 rest_1 Pre_1 launch0 p0 e0 about1 theMethod args0 below0 :=
  ⟨lists_1, trivial, launch0.admits_env _ _ _, launch0.least_env, fairChoices_fair.cas, fairChoices_fair.clock, w_frames, w_args, w_heap, w_applies, trivial, trivial, w_case⟩
end start1
theorem witness_1 : WitnessClaimed_1 := ⟨start1.p0, start1.e0, start1.about1, start1.theMethod, start1.args0, start1.below0, start1.atStart⟩
end Jvm.Pilot.@@N@@
