import JvmDerived
import JvmDerived.Pilot.@@N@@Statement
import JvmDerived.Pilot.@@N@@Code
set_option linter.unusedVariables false
set_option linter.unusedSimpArgs false
namespace Jvm.RoadKit
open Sem ClassFile Op Lib Jvm.Stand Jvm.Free Jvm.LawKit
section New
variable {p : Program} {l : Launch} {e : Env} {R : Room} {s : State} {m : MethodId} {args : Array Value} {below : List Frame} {meth : Method} {c : Code} {T : State} {locs : List Loc} {cells slots : Nat}
theorem retI (X : Stand p l e R s m args below meth c T locs cells slots) (hx : p.tables.exec = Jvm.exec) {pc : Nat} {Ls : Array Slot} {z : Int32} {rest : List Value} (hret : meth.sig.returnType = some .int) (hd : decode c.code pc = .ok (.ireturn, 1)) {fs : List Frame}
    (hl : ∀ (f : JFrame) (acts : List Action), f.method = m → f.locked = none → f.entered = [] → (doReturn e (T.setTop f) acts (some (.int z))).1 = T.setFrames fs) : Steps p.tables e below (T.setTop (mkF m pc Ls (.int z :: rest))) (T.setFrames fs) := by
  have hm' : T.vm.method? m = some meth := X.method'
  have hn : narrow .int (.int z) = .int z := rfl
  show Steps p.tables e below (T.setTop { method := m, pc := pc, locals := Ls, stack := _ :: rest, locked := none }) _
  jvm_step X.here [X.here.top, hx, hd, hm', hret, hn]
  first | (intro acts; rw [hl _ acts rfl rfl rfl]) | rw [hl _ _ rfl rfl rfl]
  exact Steps.refl _
end New
end Jvm.RoadKit
namespace Jvm.Pilot.@@N@@
open Jvm Jvm.ClassFile Sem Op Lib Jvm.Free Jvm.Stand Jvm.LawKit Jvm.RoadKit Bundle Jvm.Pilot.@@N@@.Jvm.D
def own_wsp (c : Int32) : Int32 := if c = (32 : Int32) then 1 else if c = (9 : Int32) then 1 else if c = (13 : Int32) then 1 else if c = (10 : Int32) then 1 else 0
def own_ws (j : Int32) : Int32 := if j = (0 : Int32) then 32 else if j = (1 : Int32) then 9 else if j = (2 : Int32) then 13 else 10
theorem own_ofNat {c : Int32} {n : Nat} (h0 : c.toInt = n) (hn : n < 2147483648) : c = Int32.ofNat n := by
  apply Int32.toInt_inj.mp
  rw [h0, Int32.toInt_ofNat_of_lt hn]
theorem own_c64 : ∀ n : Fin 64, (lcmpW (((((4294977024 : Int64).toUInt64 >>> ((Int32.ofNat n.val) &&& 0x3f).toInt64.toUInt64).toInt64)) &&& (1 : Int64)) (0 : Int64) = (0 : Int32) → own_wsp (Int32.ofNat n.val) = 0) ∧ (¬ lcmpW (((((4294977024 : Int64).toUInt64 >>> ((Int32.ofNat n.val) &&& 0x3f).toInt64.toUInt64).toInt64)) &&& (1 : Int64)) (0 : Int64) = (0 : Int32) → own_wsp (Int32.ofNat n.val) = 1) := by decide +kernel
theorem own_lo (x : Int32) (h : x.toUInt32.toUInt16.toUInt32.toInt32 < (64 : Int32)) : (lcmpW (((((4294977024 : Int64).toUInt64 >>> ((x.toUInt32.toUInt16.toUInt32.toInt32) &&& 0x3f).toInt64.toUInt64).toInt64)) &&& (1 : Int64)) (0 : Int64) = (0 : Int32) → own_wsp (x.toUInt32.toUInt16.toUInt32.toInt32) = 0) ∧ (¬ lcmpW (((((4294977024 : Int64).toUInt64 >>> ((x.toUInt32.toUInt16.toUInt32.toInt32) &&& 0x3f).toInt64.toUInt64).toInt64)) &&& (1 : Int64)) (0 : Int64) = (0 : Int32) → own_wsp (x.toUInt32.toUInt16.toUInt32.toInt32) = 1) := by
  have h1 := c_i2c x
  generalize x.toUInt32.toUInt16.toUInt32.toInt32 = c at *
  rw [Int32.lt_iff_toInt_lt] at h
  have e : (64 : Int32).toInt = 64 := by decide
  have hc : c = Int32.ofNat c.toInt.toNat := own_ofNat (by omega) (by omega)
  have := own_c64 ⟨c.toInt.toNat, by omega⟩
  rw [hc]
  exact this
theorem own_hi (x : Int32) (h : ¬ x.toUInt32.toUInt16.toUInt32.toInt32 < (64 : Int32)) : own_wsp (x.toUInt32.toUInt16.toUInt32.toInt32) = 0 := by
  generalize x.toUInt32.toUInt16.toUInt32.toInt32 = c at *
  unfold own_wsp
  rw [if_neg (fun q => h (by rw [q]; decide)), if_neg (fun q => h (by rw [q]; decide)), if_neg (fun q => h (by rw [q]; decide)), if_neg (fun q => h (by rw [q]; decide))]
theorem own_m3 (x : Int32) : x &&& (3 : Int32) = 0 ∨ x &&& (3 : Int32) = 1 ∨ x &&& (3 : Int32) = 2 ∨ x &&& (3 : Int32) = 3 := by
  have h := c_mask x 3 2 (by decide) (by decide)
  have e : ((2 ^ 2 : Nat) : Int) = 4 := by decide
  rw [e] at h
  simp only [← Int32.toInt_inj, show (0 : Int32).toInt = 0 from by decide, show (1 : Int32).toInt = 1 from by decide, show (2 : Int32).toInt = 2 from by decide, show (3 : Int32).toInt = 3 from by decide]
  omega
theorem own_in (x : Int32) : ¬ (x &&& (3 : Int32)) < 0 ∧ (x &&& (3 : Int32)) < (4 : Int32) := by
  rcases own_m3 x with q | q | q | q <;> rw [q] <;> decide
theorem own_at (x : Int32) : ([(Value.int (32 : Int32)), (.int (9 : Int32)), (.int (13 : Int32)), (.int (10 : Int32))] : List Value).getD (x &&& (3 : Int32)).toNatClampNeg (.int (0 : Int32)) = .int (own_ws (x &&& (3 : Int32))) := by
  rcases own_m3 x with q | q | q | q <;> rw [q] <;> decide
theorem own_ok (x : Int32) : own_wsp (own_ws (x &&& (3 : Int32))) = 1 := by
  rcases own_m3 x with q | q | q | q <;> rw [q] <;> decide
theorem pn_1 : plainName "com/example/principal/principal/io/Xml" = true := by first | (simp [plainName, overriddenIn]; done) | decide +kernel
theorem ef_rm1 (m : MethodId) (x0 : Int32) : entryFrame m #[(.int x0)] 1 = mkF m 0 #[.val (.int x0)] [] := by first | (simp [entryFrame, mkF, argsToLocals, Value.category]; done) | rfl
def Q_rm1 (Z : State) (p1 : Int32) (h0 : Heap) (n0 : Nat) (v : Option Value) (h : Heap) (L : List Loc) : Prop := v = some (.int (own_wsp p1)) ∧ Fr n0 L ∧ h = h0
theorem d1_0 : decode prog_57_method_21_code 0 = .ok (.iload_n 0, 1) := by decide +kernel
theorem d1_1 : decode prog_57_method_21_code 1 = .ok (.bipush 32, 2) := by decide +kernel
theorem d1_3 : decode prog_57_method_21_code 3 = .ok (.if_icmp .eq 21, 3) := by decide +kernel
theorem d1_24 : decode prog_57_method_21_code 24 = .ok (.iconst 1, 1) := by decide +kernel
theorem d1_25 : decode prog_57_method_21_code 25 = .ok (.goto 4, 3) := by decide +kernel
theorem d1_29 : decode prog_57_method_21_code 29 = .ok (.ireturn, 1) := by decide +kernel
theorem d1_6 : decode prog_57_method_21_code 6 = .ok (.iload_n 0, 1) := by decide +kernel
theorem d1_7 : decode prog_57_method_21_code 7 = .ok (.bipush 9, 2) := by decide +kernel
theorem d1_9 : decode prog_57_method_21_code 9 = .ok (.if_icmp .eq 15, 3) := by decide +kernel
theorem d1_12 : decode prog_57_method_21_code 12 = .ok (.iload_n 0, 1) := by decide +kernel
theorem d1_13 : decode prog_57_method_21_code 13 = .ok (.bipush 13, 2) := by decide +kernel
theorem d1_15 : decode prog_57_method_21_code 15 = .ok (.if_icmp .eq 9, 3) := by decide +kernel
theorem d1_18 : decode prog_57_method_21_code 18 = .ok (.iload_n 0, 1) := by decide +kernel
theorem d1_19 : decode prog_57_method_21_code 19 = .ok (.bipush 10, 2) := by decide +kernel
theorem d1_21 : decode prog_57_method_21_code 21 = .ok (.if_icmp .ne 7, 3) := by decide +kernel
theorem d1_28 : decode prog_57_method_21_code 28 = .ok (.iconst 0, 1) := by decide +kernel
set_option maxRecDepth 65536 in
set_option maxHeartbeats 40000000 in
theorem rm1 (l : Launch) (Z : State) (a0 : Array Value) (hw : ∀ d ∈ tables_1, d.before a0 Z = true) (ws : List Jvm.Cond) (p1 : Int32) (h0 : Heap) (n0 : Nat) (Z0 : n0 ≤ h0.size)  :
    MetFree l (⟨"com/example/principal/principal/io/Xml", "isWhiteSpace", "(C)Z"⟩ : MethodName) (head1 (Jvm.Cond.code (⟨"com/example/principal/principal/io/Xml", "isWhiteSpace", "(C)Z"⟩ : MethodName) prog_57_method_21_code 1 (some .boolean) :: ws) ({ frames := 0, cells := 0, slots := 0, locals := 0 } : Room)) (fun a U => a = #[(.int p1)] ∧ Z.Warmed39 U.vm ∧ U.heap = h0) (fun _ _ _ _ _ => True) (fun _ U o U' => ∃ v L, o = .returned v ∧ Q_rm1 Z p1 h0 n0 v U'.heap L ∧ FrameEnd U o U' L ({ frames := 0, cells := 0, slots := 0, locals := 0 } : Room).cells ({ frames := 0, cells := 0, slots := 0, locals := 0 } : Room).slots) := by
  refine MetFree.of_bodySF (plainFor_of_name pn_1) hisR ?_
  intro p e s m args below meth c s₁ Bd hml0 hP hK
  obtain ⟨rfl, hZ, hh⟩ := hP
  have hx := Bd.exec
  have hby := Bd.bytes
  have hml : c.maxLocals = 1 := hml0
  have hown : s.vm.findClass "com/example/principal/principal/io/Xml" = some m.cls := findClass_of_methodNamed Bd.named
  have hnm := (name_of_methodNamed Bd.named Bd.method).1
  have X0 : Stand p l e ({ frames := 0, cells := 0, slots := 0, locals := 0 } : Room) s m #[(.int p1)] below meth c s₁ [] 0 0 := Stand.of_body Bd
  have e0 : s₁.heap = h0 := by rw [← hh, Bd.state]; rfl
  have N0 := Fr.nil n0
  have pre0 : ∀ t, Steps p.tables e below (s₁.setTop (mkF m 0 #[.val (.int p1)] [])) t → Steps p.tables e below (s₁.setTop (entryFrame m #[(.int p1)] 1)) t := fun t k => castTop (ef_rm1 m p1) k
  have pre_1 : ∀ t, Steps p.tables e below (s₁.setTop (mkF m 3 #[.val (.int p1)] [(.int (32 : Int32)), (.int p1)])) t → Steps p.tables e below (s₁.setTop (entryFrame m #[(.int p1)] 1)) t := by
    intro t k
    refine pre0 _ ?_
    show Steps p.tables e below (s₁.setTop (mkF m 0 #[.val (.int p1)] [])) _
    refine XS.iloadN X0.here hx rfl (hb hby d1_0) rfl ?_
    show Steps p.tables e below (s₁.setTop (mkF m 1 #[.val (.int p1)] [(.int p1)])) _
    refine XS.bipush X0.here hx rfl (hb hby d1_1) ?_
    exact k
  by_cases hc3 : p1 = (32 : Int32)
  · obtain ⟨fs, hr, hrun, hended, hW, hsame⟩ := X0.leave (v := some (.int (1 : Int32))) (fun h => by rw [Bd.returns] at h; cases h)
    refine ⟨_, _, pre_1 _ ?_, hrun, hended, _, _, rfl, ?_, ⟨_, rfl⟩, hW, hsame.mono (by decide) (by decide)⟩
    · show Steps p.tables e below (s₁.setTop (mkF m 3 #[.val (.int p1)] [(.int (32 : Int32)), (.int p1)])) _
      refine XS.icmpYes X0.here hx rfl (pc0 := 3) (pc' := 24) rfl (hb hby d1_3) rfl (teq hc3).1 (by decide) (by decide) ?_
      show Steps p.tables e below (s₁.setTop (mkF m 24 #[.val (.int p1)] [])) _
      refine XS.iconst X0.here hx rfl (hb hby d1_24) ?_
      show Steps p.tables e below (s₁.setTop (mkF m 25 #[.val (.int p1)] [(.int (1 : Int32))])) _
      refine XS.goto X0.here hx rfl (pc0 := 25) (pc' := 29) rfl (hb hby d1_25) (by decide) (by decide) ?_
      show Steps p.tables e below (s₁.setTop (mkF m 29 #[.val (.int p1)] [(.int (1 : Int32))])) _
      exact retN X0 hx (t := .boolean) Bd.returns (by simp) (hb hby d1_29) hr
    · show Q_rm1 Z p1 h0 n0 _ s₁.heap _
      rw [e0]
      exact ⟨by rw [own_wsp, if_pos hc3], N0, rfl⟩
  · have pre_2 : ∀ t, Steps p.tables e below (s₁.setTop (mkF m 9 #[.val (.int p1)] [(.int (9 : Int32)), (.int p1)])) t → Steps p.tables e below (s₁.setTop (entryFrame m #[(.int p1)] 1)) t := by
      intro t k
      refine pre_1 _ ?_
      show Steps p.tables e below (s₁.setTop (mkF m 3 #[.val (.int p1)] [(.int (32 : Int32)), (.int p1)])) _
      refine XS.icmpNo X0.here hx rfl (hb hby d1_3) rfl (feq hc3).1 ?_
      show Steps p.tables e below (s₁.setTop (mkF m 6 #[.val (.int p1)] [])) _
      refine XS.iloadN X0.here hx rfl (hb hby d1_6) rfl ?_
      show Steps p.tables e below (s₁.setTop (mkF m 7 #[.val (.int p1)] [(.int p1)])) _
      refine XS.bipush X0.here hx rfl (hb hby d1_7) ?_
      exact k
    by_cases hc9 : p1 = (9 : Int32)
    · obtain ⟨fs, hr, hrun, hended, hW, hsame⟩ := X0.leave (v := some (.int (1 : Int32))) (fun h => by rw [Bd.returns] at h; cases h)
      refine ⟨_, _, pre_2 _ ?_, hrun, hended, _, _, rfl, ?_, ⟨_, rfl⟩, hW, hsame.mono (by decide) (by decide)⟩
      · show Steps p.tables e below (s₁.setTop (mkF m 9 #[.val (.int p1)] [(.int (9 : Int32)), (.int p1)])) _
        refine XS.icmpYes X0.here hx rfl (pc0 := 9) (pc' := 24) rfl (hb hby d1_9) rfl (teq hc9).1 (by decide) (by decide) ?_
        show Steps p.tables e below (s₁.setTop (mkF m 24 #[.val (.int p1)] [])) _
        refine XS.iconst X0.here hx rfl (hb hby d1_24) ?_
        show Steps p.tables e below (s₁.setTop (mkF m 25 #[.val (.int p1)] [(.int (1 : Int32))])) _
        refine XS.goto X0.here hx rfl (pc0 := 25) (pc' := 29) rfl (hb hby d1_25) (by decide) (by decide) ?_
        show Steps p.tables e below (s₁.setTop (mkF m 29 #[.val (.int p1)] [(.int (1 : Int32))])) _
        exact retN X0 hx (t := .boolean) Bd.returns (by simp) (hb hby d1_29) hr
      · show Q_rm1 Z p1 h0 n0 _ s₁.heap _
        rw [e0]
        exact ⟨by rw [own_wsp, if_neg hc3, if_pos hc9], N0, rfl⟩
    · have pre_3 : ∀ t, Steps p.tables e below (s₁.setTop (mkF m 15 #[.val (.int p1)] [(.int (13 : Int32)), (.int p1)])) t → Steps p.tables e below (s₁.setTop (entryFrame m #[(.int p1)] 1)) t := by
        intro t k
        refine pre_2 _ ?_
        show Steps p.tables e below (s₁.setTop (mkF m 9 #[.val (.int p1)] [(.int (9 : Int32)), (.int p1)])) _
        refine XS.icmpNo X0.here hx rfl (hb hby d1_9) rfl (feq hc9).1 ?_
        show Steps p.tables e below (s₁.setTop (mkF m 12 #[.val (.int p1)] [])) _
        refine XS.iloadN X0.here hx rfl (hb hby d1_12) rfl ?_
        show Steps p.tables e below (s₁.setTop (mkF m 13 #[.val (.int p1)] [(.int p1)])) _
        refine XS.bipush X0.here hx rfl (hb hby d1_13) ?_
        exact k
      by_cases hc15 : p1 = (13 : Int32)
      · obtain ⟨fs, hr, hrun, hended, hW, hsame⟩ := X0.leave (v := some (.int (1 : Int32))) (fun h => by rw [Bd.returns] at h; cases h)
        refine ⟨_, _, pre_3 _ ?_, hrun, hended, _, _, rfl, ?_, ⟨_, rfl⟩, hW, hsame.mono (by decide) (by decide)⟩
        · show Steps p.tables e below (s₁.setTop (mkF m 15 #[.val (.int p1)] [(.int (13 : Int32)), (.int p1)])) _
          refine XS.icmpYes X0.here hx rfl (pc0 := 15) (pc' := 24) rfl (hb hby d1_15) rfl (teq hc15).1 (by decide) (by decide) ?_
          show Steps p.tables e below (s₁.setTop (mkF m 24 #[.val (.int p1)] [])) _
          refine XS.iconst X0.here hx rfl (hb hby d1_24) ?_
          show Steps p.tables e below (s₁.setTop (mkF m 25 #[.val (.int p1)] [(.int (1 : Int32))])) _
          refine XS.goto X0.here hx rfl (pc0 := 25) (pc' := 29) rfl (hb hby d1_25) (by decide) (by decide) ?_
          show Steps p.tables e below (s₁.setTop (mkF m 29 #[.val (.int p1)] [(.int (1 : Int32))])) _
          exact retN X0 hx (t := .boolean) Bd.returns (by simp) (hb hby d1_29) hr
        · show Q_rm1 Z p1 h0 n0 _ s₁.heap _
          rw [e0]
          exact ⟨by rw [own_wsp, if_neg hc3, if_neg hc9, if_pos hc15], N0, rfl⟩
      · have pre_4 : ∀ t, Steps p.tables e below (s₁.setTop (mkF m 21 #[.val (.int p1)] [(.int (10 : Int32)), (.int p1)])) t → Steps p.tables e below (s₁.setTop (entryFrame m #[(.int p1)] 1)) t := by
          intro t k
          refine pre_3 _ ?_
          show Steps p.tables e below (s₁.setTop (mkF m 15 #[.val (.int p1)] [(.int (13 : Int32)), (.int p1)])) _
          refine XS.icmpNo X0.here hx rfl (hb hby d1_15) rfl (feq hc15).1 ?_
          show Steps p.tables e below (s₁.setTop (mkF m 18 #[.val (.int p1)] [])) _
          refine XS.iloadN X0.here hx rfl (hb hby d1_18) rfl ?_
          show Steps p.tables e below (s₁.setTop (mkF m 19 #[.val (.int p1)] [(.int p1)])) _
          refine XS.bipush X0.here hx rfl (hb hby d1_19) ?_
          exact k
        by_cases hc21 : p1 = (10 : Int32)
        · obtain ⟨fs, hr, hrun, hended, hW, hsame⟩ := X0.leave (v := some (.int (1 : Int32))) (fun h => by rw [Bd.returns] at h; cases h)
          refine ⟨_, _, pre_4 _ ?_, hrun, hended, _, _, rfl, ?_, ⟨_, rfl⟩, hW, hsame.mono (by decide) (by decide)⟩
          · show Steps p.tables e below (s₁.setTop (mkF m 21 #[.val (.int p1)] [(.int (10 : Int32)), (.int p1)])) _
            refine XS.icmpNo X0.here hx rfl (hb hby d1_21) rfl (teq hc21).2 ?_
            show Steps p.tables e below (s₁.setTop (mkF m 24 #[.val (.int p1)] [])) _
            refine XS.iconst X0.here hx rfl (hb hby d1_24) ?_
            show Steps p.tables e below (s₁.setTop (mkF m 25 #[.val (.int p1)] [(.int (1 : Int32))])) _
            refine XS.goto X0.here hx rfl (pc0 := 25) (pc' := 29) rfl (hb hby d1_25) (by decide) (by decide) ?_
            show Steps p.tables e below (s₁.setTop (mkF m 29 #[.val (.int p1)] [(.int (1 : Int32))])) _
            exact retN X0 hx (t := .boolean) Bd.returns (by simp) (hb hby d1_29) hr
          · show Q_rm1 Z p1 h0 n0 _ s₁.heap _
            rw [e0]
            exact ⟨by rw [own_wsp, if_neg hc3, if_neg hc9, if_neg hc15, if_pos hc21], N0, rfl⟩
        · obtain ⟨fs, hr, hrun, hended, hW, hsame⟩ := X0.leave (v := some (.int (0 : Int32))) (fun h => by rw [Bd.returns] at h; cases h)
          refine ⟨_, _, pre_4 _ ?_, hrun, hended, _, _, rfl, ?_, ⟨_, rfl⟩, hW, hsame.mono (by decide) (by decide)⟩
          · show Steps p.tables e below (s₁.setTop (mkF m 21 #[.val (.int p1)] [(.int (10 : Int32)), (.int p1)])) _
            refine XS.icmpYes X0.here hx rfl (pc0 := 21) (pc' := 28) rfl (hb hby d1_21) rfl (feq hc21).2 (by decide) (by decide) ?_
            show Steps p.tables e below (s₁.setTop (mkF m 28 #[.val (.int p1)] [])) _
            refine XS.iconst X0.here hx rfl (hb hby d1_28) ?_
            show Steps p.tables e below (s₁.setTop (mkF m 29 #[.val (.int p1)] [(.int (0 : Int32))])) _
            exact retN X0 hx (t := .boolean) Bd.returns (by simp) (hb hby d1_29) hr
          · show Q_rm1 Z p1 h0 n0 _ s₁.heap _
            rw [e0]
            exact ⟨by rw [own_wsp, if_neg hc3, if_neg hc9, if_neg hc15, if_neg hc21], N0, rfl⟩
theorem pn_0 : plainName "com/example/principal/principal/io/XmlIsWhiteSpacePinLaw" = true := by first | (simp [plainName, overriddenIn]; done) | decide +kernel
theorem ef_rm0 (m : MethodId) (x0 : Int32) : entryFrame m #[(.int x0)] maxLocals = mkF m 0 #[.val (.int x0), .unset, .unset, .unset, .unset, .unset, .unset, .unset] [] := by first | (simp [entryFrame, mkF, argsToLocals, Value.category, maxLocals]; done) | rfl
def Q_rm0 (Z : State) (p1 : Int32) (h0 : Heap) (n0 : Nat) (v : Option Value) (h : Heap) (L : List Loc) : Prop := v = some (.int 1) ∧ Fr n0 L
theorem pd__C_Z_238 : parseMethodDescriptor "(C)Z" = some ⟨[.char], some .boolean⟩ := by decide +kernel
set_option maxRecDepth 65536 in
set_option maxHeartbeats 40000000 in
theorem rm0 (l : Launch) (Z : State) (a0 : Array Value) (hw : ∀ d ∈ tables_1, d.before a0 Z = true) (ws : List Jvm.Cond) (p1 : Int32) (h0 : Heap) (n0 : Nat) (Z0 : n0 ≤ h0.size)  :
    MetFree l x (head1 (Jvm.Cond.code x code maxLocals ret :: ws) room_1) (fun a U => a = #[(.int p1)] ∧ Z.Warmed39 U.vm ∧ U.heap = h0) (fun _ _ _ _ _ => True) (fun _ U o U' => ∃ v L, o = .returned v ∧ Q_rm0 Z p1 h0 n0 v U'.heap L ∧ FrameEnd U o U' L room_1.cells room_1.slots) := by
  refine MetFree.of_bodySF (plainFor_of_name pn_0) hisR ?_
  intro p e s m args below meth c s₁ Bd hml0 hP hK
  obtain ⟨rfl, hZ, hh⟩ := hP
  have hx := Bd.exec
  have hby := Bd.bytes
  have hml : c.maxLocals = 8 := hml0
  have hown : s.vm.findClass "com/example/principal/principal/io/XmlIsWhiteSpacePinLaw" = some m.cls := findClass_of_methodNamed Bd.named
  have hnm := (name_of_methodNamed Bd.named Bd.method).1
  have X0 : Stand p l e room_1 s m #[(.int p1)] below meth c s₁ [] 0 0 := Stand.of_body Bd
  have e0 : s₁.heap = h0 := by rw [← hh, Bd.state]; rfl
  have N0 := Fr.nil n0
  have pre0 : ∀ t, Steps p.tables e below (s₁.setTop (mkF m 0 #[.val (.int p1), .unset, .unset, .unset, .unset, .unset, .unset, .unset] [])) t → Steps p.tables e below (s₁.setTop (entryFrame m #[(.int p1)] maxLocals)) t := fun t k => castTop (ef_rm0 m p1) k
  have pre_1 : ∀ t, Steps p.tables e below (s₁.setTop (mkF m 10 #[.val (.int p1), .val (.int (p1.toUInt32.toUInt16.toUInt32.toInt32)), .val (.long (4294977024 : Int64)), .second, .unset, .unset, .unset, .unset] [(.int (64 : Int32)), (.int (p1.toUInt32.toUInt16.toUInt32.toInt32))])) t → Steps p.tables e below (s₁.setTop (entryFrame m #[(.int p1)] maxLocals)) t := by
    intro t k
    refine pre0 _ ?_
    show Steps p.tables e below (s₁.setTop (mkF m 0 #[.val (.int p1), .unset, .unset, .unset, .unset, .unset, .unset, .unset] [])) _
    refine XS.iloadN X0.here hx rfl (hb hby at_0) rfl ?_
    show Steps p.tables e below (s₁.setTop (mkF m 1 #[.val (.int p1), .unset, .unset, .unset, .unset, .unset, .unset, .unset] [(.int p1)])) _
    refine XS.i2c X0.here hx rfl (hb hby at_1) rfl ?_
    show Steps p.tables e below (s₁.setTop (mkF m 2 #[.val (.int p1), .unset, .unset, .unset, .unset, .unset, .unset, .unset] [(.int (p1.toUInt32.toUInt16.toUInt32.toInt32))])) _
    refine XS.istoreN X0.here hx rfl (hb hby at_2) rfl (l' := #[.val (.int p1), .val (.int (p1.toUInt32.toUInt16.toUInt32.toInt32)), .unset, .unset, .unset, .unset, .unset, .unset]) rfl ?_
    show Steps p.tables e below (s₁.setTop (mkF m 3 #[.val (.int p1), .val (.int (p1.toUInt32.toUInt16.toUInt32.toInt32)), .unset, .unset, .unset, .unset, .unset, .unset] [])) _
    refine X0.ldc2Long hx hown (mvT hZ (hw _ (List.mem_of_getElem? (i := 0) rfl))) (g := (mkF m 3 #[.val (.int p1), .val (.int (p1.toUInt32.toUInt16.toUInt32.toInt32)), .unset, .unset, .unset, .unset, .unset, .unset] [])) rfl (hb hby at_3) _ ?_
    show Steps p.tables e below (s₁.setTop (mkF m 6 #[.val (.int p1), .val (.int (p1.toUInt32.toUInt16.toUInt32.toInt32)), .unset, .unset, .unset, .unset, .unset, .unset] [(.long (4294977024 : Int64))])) _
    refine XS.lstoreN X0.here hx rfl (hb hby at_6) rfl (l' := #[.val (.int p1), .val (.int (p1.toUInt32.toUInt16.toUInt32.toInt32)), .val (.long (4294977024 : Int64)), .second, .unset, .unset, .unset, .unset]) rfl ?_
    show Steps p.tables e below (s₁.setTop (mkF m 7 #[.val (.int p1), .val (.int (p1.toUInt32.toUInt16.toUInt32.toInt32)), .val (.long (4294977024 : Int64)), .second, .unset, .unset, .unset, .unset] [])) _
    refine XS.iloadN X0.here hx rfl (hb hby at_7) rfl ?_
    show Steps p.tables e below (s₁.setTop (mkF m 8 #[.val (.int p1), .val (.int (p1.toUInt32.toUInt16.toUInt32.toInt32)), .val (.long (4294977024 : Int64)), .second, .unset, .unset, .unset, .unset] [(.int (p1.toUInt32.toUInt16.toUInt32.toInt32))])) _
    refine XS.bipush X0.here hx rfl (hb hby at_8) ?_
    exact k
  by_cases hc10 : (p1.toUInt32.toUInt16.toUInt32.toInt32) < (64 : Int32)
  · have pre_2 : ∀ t, Steps p.tables e below (s₁.setTop (mkF m 20 #[.val (.int p1), .val (.int (p1.toUInt32.toUInt16.toUInt32.toInt32)), .val (.long (4294977024 : Int64)), .second, .unset, .unset, .unset, .unset] [(.int (lcmpW ((((4294977024 : Int64).toUInt64 >>> ((p1.toUInt32.toUInt16.toUInt32.toInt32) &&& 0x3f).toInt64.toUInt64).toInt64) &&& (1 : Int64)) (0 : Int64)))])) t → Steps p.tables e below (s₁.setTop (entryFrame m #[(.int p1)] maxLocals)) t := by
      intro t k
      refine pre_1 _ ?_
      show Steps p.tables e below (s₁.setTop (mkF m 10 #[.val (.int p1), .val (.int (p1.toUInt32.toUInt16.toUInt32.toInt32)), .val (.long (4294977024 : Int64)), .second, .unset, .unset, .unset, .unset] [(.int (64 : Int32)), (.int (p1.toUInt32.toUInt16.toUInt32.toInt32))])) _
      refine XS.icmpNo X0.here hx rfl (hb hby at_10) rfl (tlt hc10).2.1 ?_
      show Steps p.tables e below (s₁.setTop (mkF m 13 #[.val (.int p1), .val (.int (p1.toUInt32.toUInt16.toUInt32.toInt32)), .val (.long (4294977024 : Int64)), .second, .unset, .unset, .unset, .unset] [])) _
      refine XS.lloadN X0.here hx rfl (hb hby at_13) rfl ?_
      show Steps p.tables e below (s₁.setTop (mkF m 14 #[.val (.int p1), .val (.int (p1.toUInt32.toUInt16.toUInt32.toInt32)), .val (.long (4294977024 : Int64)), .second, .unset, .unset, .unset, .unset] [(.long (4294977024 : Int64))])) _
      refine XS.iloadN X0.here hx rfl (hb hby at_14) rfl ?_
      show Steps p.tables e below (s₁.setTop (mkF m 15 #[.val (.int p1), .val (.int (p1.toUInt32.toUInt16.toUInt32.toInt32)), .val (.long (4294977024 : Int64)), .second, .unset, .unset, .unset, .unset] [(.int (p1.toUInt32.toUInt16.toUInt32.toInt32)), (.long (4294977024 : Int64))])) _
      refine XS.lushr X0.here hx rfl (hb hby at_15) rfl ?_
      show Steps p.tables e below (s₁.setTop (mkF m 16 #[.val (.int p1), .val (.int (p1.toUInt32.toUInt16.toUInt32.toInt32)), .val (.long (4294977024 : Int64)), .second, .unset, .unset, .unset, .unset] [(.long (((4294977024 : Int64).toUInt64 >>> ((p1.toUInt32.toUInt16.toUInt32.toInt32) &&& 0x3f).toInt64.toUInt64).toInt64))])) _
      refine XS.lconst X0.here hx rfl (hb hby at_16) ?_
      show Steps p.tables e below (s₁.setTop (mkF m 17 #[.val (.int p1), .val (.int (p1.toUInt32.toUInt16.toUInt32.toInt32)), .val (.long (4294977024 : Int64)), .second, .unset, .unset, .unset, .unset] [(.long (1 : Int64)), (.long (((4294977024 : Int64).toUInt64 >>> ((p1.toUInt32.toUInt16.toUInt32.toInt32) &&& 0x3f).toInt64.toUInt64).toInt64))])) _
      refine XS.land X0.here hx rfl (hb hby at_17) rfl ?_
      show Steps p.tables e below (s₁.setTop (mkF m 18 #[.val (.int p1), .val (.int (p1.toUInt32.toUInt16.toUInt32.toInt32)), .val (.long (4294977024 : Int64)), .second, .unset, .unset, .unset, .unset] [(.long ((((4294977024 : Int64).toUInt64 >>> ((p1.toUInt32.toUInt16.toUInt32.toInt32) &&& 0x3f).toInt64.toUInt64).toInt64) &&& (1 : Int64)))])) _
      refine XS.lconst X0.here hx rfl (hb hby at_18) ?_
      show Steps p.tables e below (s₁.setTop (mkF m 19 #[.val (.int p1), .val (.int (p1.toUInt32.toUInt16.toUInt32.toInt32)), .val (.long (4294977024 : Int64)), .second, .unset, .unset, .unset, .unset] [(.long (0 : Int64)), (.long ((((4294977024 : Int64).toUInt64 >>> ((p1.toUInt32.toUInt16.toUInt32.toInt32) &&& 0x3f).toInt64.toUInt64).toInt64) &&& (1 : Int64)))])) _
      refine XS.lcmp X0.here hx rfl (hb hby at_19) rfl ?_
      exact k
    by_cases hc20 : (lcmpW ((((4294977024 : Int64).toUInt64 >>> ((p1.toUInt32.toUInt16.toUInt32.toInt32) &&& 0x3f).toInt64.toUInt64).toInt64) &&& (1 : Int64)) (0 : Int64)) = (0 : Int32)
    · obtain ⟨_, _, ⟨T3, L3, k3, n3⟩, -, X3, ⟨Lc3, hQ3, l3, y3, z3⟩, st3⟩ := Jvm.LawKit.callS X0 hx (y := (⟨"com/example/principal/principal/io/Xml", "isWhiteSpace", "(C)Z"⟩ : MethodName)) hown (mvT hZ (hw _ (List.mem_of_getElem? (i := 1) rfl))) (mvT hZ (hw _ (List.mem_of_getElem? (i := 2) rfl))) (mvT hZ (hw _ (List.mem_of_getElem? (i := 3) rfl))) (mvT hZ (hw _ (List.mem_of_getElem? (i := 4) rfl))) (by decide) (backOf (W := 0) (rm1 l Z a0 hw [] (p1.toUInt32.toUInt16.toUInt32.toInt32) h0 n0 Z0 ) hZ (hw _ (List.mem_of_getElem? (i := 4) rfl)) (hw _ (List.mem_of_getElem? (i := 3) rfl)) (by decide) (by decide)) (g := (mkF m 31 #[.val (.int p1), .val (.int (p1.toUInt32.toUInt16.toUInt32.toInt32)), .val (.long (4294977024 : Int64)), .second, .val (.int (0 : Int32)), .unset, .unset, .unset] [(.int (p1.toUInt32.toUInt16.toUInt32.toInt32))])) rfl (by rw [hml]; rfl) (argsL := [(.int (p1.toUInt32.toUInt16.toUInt32.toInt32))]) (rest := []) (lenOf pd__C_Z_238 rfl) rfl (by show 2 * 0 + _ ≤ _; exact Nat.le_of_eq rfl) (hb hby at_31) (fun _ _ => ⟨rfl, e0, (by decide : 0 + 0 ≤ _), (by decide : 0 + 0 ≤ _)⟩)
      dsimp only [Pt.U, Pt.locs, Pt.cells, Pt.slots] at X3 l3 y3 z3 st3 hQ3
      subst l3 y3 z3
      obtain ⟨rfl, N3q, e3⟩ := hQ3
      have N3 := Fr.app N0 N3q
      obtain ⟨T4, h4, k4, X4, e4, E4, A4, st4⟩ := newP X3 hx hZ (hw _ (List.mem_of_getElem? (i := 5) rfl)) e3 (g := (mkF m 47 #[.val (.int p1), .val (.int (p1.toUInt32.toUInt16.toUInt32.toInt32)), .val (.long (4294977024 : Int64)), .second, .val (.int (0 : Int32)), .val (.int (1 : Int32)), .unset, .unset] [(.int (4 : Int32))])) rfl (hb hby at_47) rfl (by decide) (cap := 4) (by decide) (by decide) (by decide) (by decide)
      obtain ⟨b4, g4⟩ : ∃ z, z = h0.size := ⟨_, rfl⟩
      rw [← g4] at A4 st4
      have g_b4 : n0 ≤ b4 := Nat.le_trans Z0 (Nat.le_of_eq g4.symm)
      have Z4 : n0 ≤ h4.size := Nat.le_trans Z0 E4.1
      have V_b4 : Arv Z h4 b4 k4 .char (4 : Int32) [(.int (0 : Int32)), (.int (0 : Int32)), (.int (0 : Int32)), (.int (0 : Int32))] (.int (0 : Int32)) := (Arv.new A4 (by decide)).pad (pad_rep [] (.int (0 : Int32)) 4)
      obtain ⟨cl5, Ar5, aq5, aS5, aN5, aH5, aG5⟩ := V_b4
      have hin5 : ¬ ((0 : Int32) < 0 ∨ cl5.slots.size ≤ ((0 : Int32)).toNatClampNeg) := inb_of aS5 ⟨by decide, by decide⟩
      obtain ⟨T6, h6, X6, e6, W6, st6⟩ := stC X4 hx hZ e4 Ar5 (j := (0 : Int32)) hin5 (g := (mkF m 53 #[.val (.int p1), .val (.int (p1.toUInt32.toUInt16.toUInt32.toInt32)), .val (.long (4294977024 : Int64)), .second, .val (.int (0 : Int32)), .val (.int (1 : Int32)), .unset, .unset] [(.int (32 : Int32)), (.int (0 : Int32)), (.ref b4), (.ref b4)])) rfl rfl (hb hby at_53)
      have V_b4_6 : Arv Z h6 b4 k4 .char (4 : Int32) [(.int (32 : Int32)), (.int (0 : Int32)), (.int (0 : Int32)), (.int (0 : Int32))] (.int (0 : Int32)) := Arv.set Ar5 aq5 aS5 aN5 aH5 aG5 (fits_nar_char _) W6 0 rfl (Nat.le_of_ble_eq_true rfl)
      have f1 : n0 ≤ b4 := g_b4
      have N6 := Fr.snoc X6 N3 f1
      have Z6 : n0 ≤ h6.size := by rw [W6.size]; exact Z4
      obtain ⟨cl7, Ar7, aq7, aS7, aN7, aH7, aG7⟩ := V_b4_6
      have hin7 : ¬ ((1 : Int32) < 0 ∨ cl7.slots.size ≤ ((1 : Int32)).toNatClampNeg) := inb_of aS7 ⟨by decide, by decide⟩
      obtain ⟨T8, h8, X8, e8, W8, st8⟩ := stC X6 hx hZ e6 Ar7 (j := (1 : Int32)) hin7 (g := (mkF m 58 #[.val (.int p1), .val (.int (p1.toUInt32.toUInt16.toUInt32.toInt32)), .val (.long (4294977024 : Int64)), .second, .val (.int (0 : Int32)), .val (.int (1 : Int32)), .unset, .unset] [(.int (9 : Int32)), (.int (1 : Int32)), (.ref b4), (.ref b4)])) rfl rfl (hb hby at_58)
      have V_b4_8 : Arv Z h8 b4 k4 .char (4 : Int32) [(.int (32 : Int32)), (.int (9 : Int32)), (.int (0 : Int32)), (.int (0 : Int32))] (.int (0 : Int32)) := Arv.set Ar7 aq7 aS7 aN7 aH7 aG7 (fits_nar_char _) W8 1 rfl (Nat.le_of_ble_eq_true rfl)
      have f2 : n0 ≤ b4 := f1
      have N8 := Fr.snoc X8 N6 f2
      have Z8 : n0 ≤ h8.size := by rw [W8.size]; exact Z6
      obtain ⟨cl9, Ar9, aq9, aS9, aN9, aH9, aG9⟩ := V_b4_8
      have hin9 : ¬ ((2 : Int32) < 0 ∨ cl9.slots.size ≤ ((2 : Int32)).toNatClampNeg) := inb_of aS9 ⟨by decide, by decide⟩
      obtain ⟨T10, h10, X10, e10, W10, st10⟩ := stC X8 hx hZ e8 Ar9 (j := (2 : Int32)) hin9 (g := (mkF m 63 #[.val (.int p1), .val (.int (p1.toUInt32.toUInt16.toUInt32.toInt32)), .val (.long (4294977024 : Int64)), .second, .val (.int (0 : Int32)), .val (.int (1 : Int32)), .unset, .unset] [(.int (13 : Int32)), (.int (2 : Int32)), (.ref b4), (.ref b4)])) rfl rfl (hb hby at_63)
      have V_b4_10 : Arv Z h10 b4 k4 .char (4 : Int32) [(.int (32 : Int32)), (.int (9 : Int32)), (.int (13 : Int32)), (.int (0 : Int32))] (.int (0 : Int32)) := Arv.set Ar9 aq9 aS9 aN9 aH9 aG9 (fits_nar_char _) W10 2 rfl (Nat.le_of_ble_eq_true rfl)
      have f3 : n0 ≤ b4 := f2
      have N10 := Fr.snoc X10 N8 f3
      have Z10 : n0 ≤ h10.size := by rw [W10.size]; exact Z8
      obtain ⟨cl11, Ar11, aq11, aS11, aN11, aH11, aG11⟩ := V_b4_10
      have hin11 : ¬ ((3 : Int32) < 0 ∨ cl11.slots.size ≤ ((3 : Int32)).toNatClampNeg) := inb_of aS11 ⟨by decide, by decide⟩
      obtain ⟨T12, h12, X12, e12, W12, st12⟩ := stC X10 hx hZ e10 Ar11 (j := (3 : Int32)) hin11 (g := (mkF m 68 #[.val (.int p1), .val (.int (p1.toUInt32.toUInt16.toUInt32.toInt32)), .val (.long (4294977024 : Int64)), .second, .val (.int (0 : Int32)), .val (.int (1 : Int32)), .unset, .unset] [(.int (10 : Int32)), (.int (3 : Int32)), (.ref b4), (.ref b4)])) rfl rfl (hb hby at_68)
      have V_b4_12 : Arv Z h12 b4 k4 .char (4 : Int32) [(.int (32 : Int32)), (.int (9 : Int32)), (.int (13 : Int32)), (.int (10 : Int32))] (.int (0 : Int32)) := Arv.set Ar11 aq11 aS11 aN11 aH11 aG11 (fits_nar_char _) W12 3 rfl (Nat.le_of_ble_eq_true rfl)
      have f4 : n0 ≤ b4 := f3
      have N12 := Fr.snoc X12 N10 f4
      have Z12 : n0 ≤ h12.size := by rw [W12.size]; exact Z10
      obtain ⟨cl13, Ar13, aq13, aS13, aN13, aH13, aG13⟩ := V_b4_12
      have hin13 : ¬ ((p1 &&& (3 : Int32)) < 0 ∨ cl13.slots.size ≤ ((p1 &&& (3 : Int32))).toNatClampNeg) := inb_of aS13 (own_in p1)
      obtain ⟨_, _, ⟨T14, L14, k14, n14⟩, -, X14, ⟨Lc14, hQ14, l14, y14, z14⟩, st14⟩ := Jvm.LawKit.callS X12 hx (y := (⟨"com/example/principal/principal/io/Xml", "isWhiteSpace", "(C)Z"⟩ : MethodName)) hown (mvT hZ (hw _ (List.mem_of_getElem? (i := 1) rfl))) (mvT hZ (hw _ (List.mem_of_getElem? (i := 2) rfl))) (mvT hZ (hw _ (List.mem_of_getElem? (i := 3) rfl))) (mvT hZ (hw _ (List.mem_of_getElem? (i := 4) rfl))) (by decide) (backOf (W := 0) (rm1 l Z a0 hw [] (own_ws (p1 &&& (3 : Int32))) h12 n0 Z12 ) hZ (hw _ (List.mem_of_getElem? (i := 4) rfl)) (hw _ (List.mem_of_getElem? (i := 3) rfl)) (by decide) (by decide)) (g := (mkF m 77 #[.val (.int p1), .val (.int (p1.toUInt32.toUInt16.toUInt32.toInt32)), .val (.long (4294977024 : Int64)), .second, .val (.int (0 : Int32)), .val (.int (1 : Int32)), .val (.ref b4), .unset] [(.int (own_ws (p1 &&& (3 : Int32))))])) rfl (by rw [hml]; rfl) (argsL := [(.int (own_ws (p1 &&& (3 : Int32))))]) (rest := []) (lenOf pd__C_Z_238 rfl) rfl (by show 2 * 0 + _ ≤ _; exact Nat.le_of_eq rfl) (hb hby at_77) (fun _ _ => ⟨rfl, e12, (by decide : 1 + 0 ≤ _), (by decide : 4 + 0 ≤ _)⟩)
      dsimp only [Pt.U, Pt.locs, Pt.cells, Pt.slots] at X14 l14 y14 z14 st14 hQ14
      subst l14 y14 z14
      obtain ⟨rfl, N14q, e14⟩ := hQ14
      have N14 := Fr.app N12 N14q
      obtain ⟨fs, hr, hrun, hended, hW, hsame⟩ := X14.leave (v := some (.int (1 : Int32))) (fun h => by rw [Bd.returns] at h; cases h)
      refine ⟨_, _, pre_2 _ ?_, hrun, hended, _, _, rfl, ?_, ⟨_, rfl⟩, hW, hsame.mono (by decide) (by decide)⟩
      · show Steps p.tables e below (s₁.setTop (mkF m 20 #[.val (.int p1), .val (.int (p1.toUInt32.toUInt16.toUInt32.toInt32)), .val (.long (4294977024 : Int64)), .second, .unset, .unset, .unset, .unset] [(.int (lcmpW ((((4294977024 : Int64).toUInt64 >>> ((p1.toUInt32.toUInt16.toUInt32.toInt32) &&& 0x3f).toInt64.toUInt64).toInt64) &&& (1 : Int64)) (0 : Int64)))])) _
        refine XS.ifYes X0.here hx rfl (pc0 := 20) (pc' := 27) rfl (hb hby at_20) rfl ((if0 _ _).trans (teq hc20).1) (by decide) (by decide) ?_
        show Steps p.tables e below (s₁.setTop (mkF m 27 #[.val (.int p1), .val (.int (p1.toUInt32.toUInt16.toUInt32.toInt32)), .val (.long (4294977024 : Int64)), .second, .unset, .unset, .unset, .unset] [])) _
        refine XS.iconst X0.here hx rfl (hb hby at_27) ?_
        show Steps p.tables e below (s₁.setTop (mkF m 28 #[.val (.int p1), .val (.int (p1.toUInt32.toUInt16.toUInt32.toInt32)), .val (.long (4294977024 : Int64)), .second, .unset, .unset, .unset, .unset] [(.int (0 : Int32))])) _
        refine XS.istore X0.here hx rfl (hb hby at_28) rfl (l' := #[.val (.int p1), .val (.int (p1.toUInt32.toUInt16.toUInt32.toInt32)), .val (.long (4294977024 : Int64)), .second, .val (.int (0 : Int32)), .unset, .unset, .unset]) rfl ?_
        show Steps p.tables e below (s₁.setTop (mkF m 30 #[.val (.int p1), .val (.int (p1.toUInt32.toUInt16.toUInt32.toInt32)), .val (.long (4294977024 : Int64)), .second, .val (.int (0 : Int32)), .unset, .unset, .unset] [])) _
        refine XS.iloadN X0.here hx rfl (hb hby at_30) rfl ?_
        show Steps p.tables e below (s₁.setTop (mkF m 31 #[.val (.int p1), .val (.int (p1.toUInt32.toUInt16.toUInt32.toInt32)), .val (.long (4294977024 : Int64)), .second, .val (.int (0 : Int32)), .unset, .unset, .unset] [(.int (p1.toUInt32.toUInt16.toUInt32.toInt32))])) _
        refine st3 _ ?_
        show Steps p.tables e below (T3.setTop (mkF m 34 #[.val (.int p1), .val (.int (p1.toUInt32.toUInt16.toUInt32.toInt32)), .val (.long (4294977024 : Int64)), .second, .val (.int (0 : Int32)), .unset, .unset, .unset] [(.int (own_wsp (p1.toUInt32.toUInt16.toUInt32.toInt32)))])) _
        refine XS.iload X3.here hx rfl (hb hby at_34) rfl ?_
        show Steps p.tables e below (T3.setTop (mkF m 36 #[.val (.int p1), .val (.int (p1.toUInt32.toUInt16.toUInt32.toInt32)), .val (.long (4294977024 : Int64)), .second, .val (.int (0 : Int32)), .unset, .unset, .unset] [(.int (0 : Int32)), (.int (own_wsp (p1.toUInt32.toUInt16.toUInt32.toInt32)))])) _
        refine XS.icmpNo X3.here hx rfl (hb hby at_36) rfl (teq ((own_lo p1 hc10).1 hc20)).2 ?_
        show Steps p.tables e below (T3.setTop (mkF m 39 #[.val (.int p1), .val (.int (p1.toUInt32.toUInt16.toUInt32.toInt32)), .val (.long (4294977024 : Int64)), .second, .val (.int (0 : Int32)), .unset, .unset, .unset] [])) _
        refine XS.iconst X3.here hx rfl (hb hby at_39) ?_
        show Steps p.tables e below (T3.setTop (mkF m 40 #[.val (.int p1), .val (.int (p1.toUInt32.toUInt16.toUInt32.toInt32)), .val (.long (4294977024 : Int64)), .second, .val (.int (0 : Int32)), .unset, .unset, .unset] [(.int (1 : Int32))])) _
        refine XS.goto X3.here hx rfl (pc0 := 40) (pc' := 44) rfl (hb hby at_40) (by decide) (by decide) ?_
        show Steps p.tables e below (T3.setTop (mkF m 44 #[.val (.int p1), .val (.int (p1.toUInt32.toUInt16.toUInt32.toInt32)), .val (.long (4294977024 : Int64)), .second, .val (.int (0 : Int32)), .unset, .unset, .unset] [(.int (1 : Int32))])) _
        refine XS.istore X3.here hx rfl (hb hby at_44) rfl (l' := #[.val (.int p1), .val (.int (p1.toUInt32.toUInt16.toUInt32.toInt32)), .val (.long (4294977024 : Int64)), .second, .val (.int (0 : Int32)), .val (.int (1 : Int32)), .unset, .unset]) rfl ?_
        show Steps p.tables e below (T3.setTop (mkF m 46 #[.val (.int p1), .val (.int (p1.toUInt32.toUInt16.toUInt32.toInt32)), .val (.long (4294977024 : Int64)), .second, .val (.int (0 : Int32)), .val (.int (1 : Int32)), .unset, .unset] [])) _
        refine XS.iconst X3.here hx rfl (hb hby at_46) ?_
        show Steps p.tables e below (T3.setTop (mkF m 47 #[.val (.int p1), .val (.int (p1.toUInt32.toUInt16.toUInt32.toInt32)), .val (.long (4294977024 : Int64)), .second, .val (.int (0 : Int32)), .val (.int (1 : Int32)), .unset, .unset] [(.int (4 : Int32))])) _
        refine st4 _ ?_
        show Steps p.tables e below (T4.setTop (mkF m 49 #[.val (.int p1), .val (.int (p1.toUInt32.toUInt16.toUInt32.toInt32)), .val (.long (4294977024 : Int64)), .second, .val (.int (0 : Int32)), .val (.int (1 : Int32)), .unset, .unset] [(.ref b4)])) _
        refine XS.dup X4.here hx rfl (hb hby at_49) rfl rfl ?_
        show Steps p.tables e below (T4.setTop (mkF m 50 #[.val (.int p1), .val (.int (p1.toUInt32.toUInt16.toUInt32.toInt32)), .val (.long (4294977024 : Int64)), .second, .val (.int (0 : Int32)), .val (.int (1 : Int32)), .unset, .unset] [(.ref b4), (.ref b4)])) _
        refine XS.iconst X4.here hx rfl (hb hby at_50) ?_
        show Steps p.tables e below (T4.setTop (mkF m 51 #[.val (.int p1), .val (.int (p1.toUInt32.toUInt16.toUInt32.toInt32)), .val (.long (4294977024 : Int64)), .second, .val (.int (0 : Int32)), .val (.int (1 : Int32)), .unset, .unset] [(.int (0 : Int32)), (.ref b4), (.ref b4)])) _
        refine XS.bipush X4.here hx rfl (hb hby at_51) ?_
        show Steps p.tables e below (T4.setTop (mkF m 53 #[.val (.int p1), .val (.int (p1.toUInt32.toUInt16.toUInt32.toInt32)), .val (.long (4294977024 : Int64)), .second, .val (.int (0 : Int32)), .val (.int (1 : Int32)), .unset, .unset] [(.int (32 : Int32)), (.int (0 : Int32)), (.ref b4), (.ref b4)])) _
        refine st6 _ ?_
        show Steps p.tables e below (T6.setTop (mkF m 54 #[.val (.int p1), .val (.int (p1.toUInt32.toUInt16.toUInt32.toInt32)), .val (.long (4294977024 : Int64)), .second, .val (.int (0 : Int32)), .val (.int (1 : Int32)), .unset, .unset] [(.ref b4)])) _
        refine XS.dup X6.here hx rfl (hb hby at_54) rfl rfl ?_
        show Steps p.tables e below (T6.setTop (mkF m 55 #[.val (.int p1), .val (.int (p1.toUInt32.toUInt16.toUInt32.toInt32)), .val (.long (4294977024 : Int64)), .second, .val (.int (0 : Int32)), .val (.int (1 : Int32)), .unset, .unset] [(.ref b4), (.ref b4)])) _
        refine XS.iconst X6.here hx rfl (hb hby at_55) ?_
        show Steps p.tables e below (T6.setTop (mkF m 56 #[.val (.int p1), .val (.int (p1.toUInt32.toUInt16.toUInt32.toInt32)), .val (.long (4294977024 : Int64)), .second, .val (.int (0 : Int32)), .val (.int (1 : Int32)), .unset, .unset] [(.int (1 : Int32)), (.ref b4), (.ref b4)])) _
        refine XS.bipush X6.here hx rfl (hb hby at_56) ?_
        show Steps p.tables e below (T6.setTop (mkF m 58 #[.val (.int p1), .val (.int (p1.toUInt32.toUInt16.toUInt32.toInt32)), .val (.long (4294977024 : Int64)), .second, .val (.int (0 : Int32)), .val (.int (1 : Int32)), .unset, .unset] [(.int (9 : Int32)), (.int (1 : Int32)), (.ref b4), (.ref b4)])) _
        refine st8 _ ?_
        show Steps p.tables e below (T8.setTop (mkF m 59 #[.val (.int p1), .val (.int (p1.toUInt32.toUInt16.toUInt32.toInt32)), .val (.long (4294977024 : Int64)), .second, .val (.int (0 : Int32)), .val (.int (1 : Int32)), .unset, .unset] [(.ref b4)])) _
        refine XS.dup X8.here hx rfl (hb hby at_59) rfl rfl ?_
        show Steps p.tables e below (T8.setTop (mkF m 60 #[.val (.int p1), .val (.int (p1.toUInt32.toUInt16.toUInt32.toInt32)), .val (.long (4294977024 : Int64)), .second, .val (.int (0 : Int32)), .val (.int (1 : Int32)), .unset, .unset] [(.ref b4), (.ref b4)])) _
        refine XS.iconst X8.here hx rfl (hb hby at_60) ?_
        show Steps p.tables e below (T8.setTop (mkF m 61 #[.val (.int p1), .val (.int (p1.toUInt32.toUInt16.toUInt32.toInt32)), .val (.long (4294977024 : Int64)), .second, .val (.int (0 : Int32)), .val (.int (1 : Int32)), .unset, .unset] [(.int (2 : Int32)), (.ref b4), (.ref b4)])) _
        refine XS.bipush X8.here hx rfl (hb hby at_61) ?_
        show Steps p.tables e below (T8.setTop (mkF m 63 #[.val (.int p1), .val (.int (p1.toUInt32.toUInt16.toUInt32.toInt32)), .val (.long (4294977024 : Int64)), .second, .val (.int (0 : Int32)), .val (.int (1 : Int32)), .unset, .unset] [(.int (13 : Int32)), (.int (2 : Int32)), (.ref b4), (.ref b4)])) _
        refine st10 _ ?_
        show Steps p.tables e below (T10.setTop (mkF m 64 #[.val (.int p1), .val (.int (p1.toUInt32.toUInt16.toUInt32.toInt32)), .val (.long (4294977024 : Int64)), .second, .val (.int (0 : Int32)), .val (.int (1 : Int32)), .unset, .unset] [(.ref b4)])) _
        refine XS.dup X10.here hx rfl (hb hby at_64) rfl rfl ?_
        show Steps p.tables e below (T10.setTop (mkF m 65 #[.val (.int p1), .val (.int (p1.toUInt32.toUInt16.toUInt32.toInt32)), .val (.long (4294977024 : Int64)), .second, .val (.int (0 : Int32)), .val (.int (1 : Int32)), .unset, .unset] [(.ref b4), (.ref b4)])) _
        refine XS.iconst X10.here hx rfl (hb hby at_65) ?_
        show Steps p.tables e below (T10.setTop (mkF m 66 #[.val (.int p1), .val (.int (p1.toUInt32.toUInt16.toUInt32.toInt32)), .val (.long (4294977024 : Int64)), .second, .val (.int (0 : Int32)), .val (.int (1 : Int32)), .unset, .unset] [(.int (3 : Int32)), (.ref b4), (.ref b4)])) _
        refine XS.bipush X10.here hx rfl (hb hby at_66) ?_
        show Steps p.tables e below (T10.setTop (mkF m 68 #[.val (.int p1), .val (.int (p1.toUInt32.toUInt16.toUInt32.toInt32)), .val (.long (4294977024 : Int64)), .second, .val (.int (0 : Int32)), .val (.int (1 : Int32)), .unset, .unset] [(.int (10 : Int32)), (.int (3 : Int32)), (.ref b4), (.ref b4)])) _
        refine st12 _ ?_
        show Steps p.tables e below (T12.setTop (mkF m 69 #[.val (.int p1), .val (.int (p1.toUInt32.toUInt16.toUInt32.toInt32)), .val (.long (4294977024 : Int64)), .second, .val (.int (0 : Int32)), .val (.int (1 : Int32)), .unset, .unset] [(.ref b4)])) _
        refine XS.astore X12.here hx rfl (hb hby at_69) rfl rfl (l' := #[.val (.int p1), .val (.int (p1.toUInt32.toUInt16.toUInt32.toInt32)), .val (.long (4294977024 : Int64)), .second, .val (.int (0 : Int32)), .val (.int (1 : Int32)), .val (.ref b4), .unset]) rfl ?_
        show Steps p.tables e below (T12.setTop (mkF m 71 #[.val (.int p1), .val (.int (p1.toUInt32.toUInt16.toUInt32.toInt32)), .val (.long (4294977024 : Int64)), .second, .val (.int (0 : Int32)), .val (.int (1 : Int32)), .val (.ref b4), .unset] [])) _
        refine XS.aload X12.here hx rfl (hb hby at_71) rfl rfl ?_
        show Steps p.tables e below (T12.setTop (mkF m 73 #[.val (.int p1), .val (.int (p1.toUInt32.toUInt16.toUInt32.toInt32)), .val (.long (4294977024 : Int64)), .second, .val (.int (0 : Int32)), .val (.int (1 : Int32)), .val (.ref b4), .unset] [(.ref b4)])) _
        refine XS.iloadN X12.here hx rfl (hb hby at_73) rfl ?_
        show Steps p.tables e below (T12.setTop (mkF m 74 #[.val (.int p1), .val (.int (p1.toUInt32.toUInt16.toUInt32.toInt32)), .val (.long (4294977024 : Int64)), .second, .val (.int (0 : Int32)), .val (.int (1 : Int32)), .val (.ref b4), .unset] [(.int p1), (.ref b4)])) _
        refine XS.iconst X12.here hx rfl (hb hby at_74) ?_
        show Steps p.tables e below (T12.setTop (mkF m 75 #[.val (.int p1), .val (.int (p1.toUInt32.toUInt16.toUInt32.toInt32)), .val (.long (4294977024 : Int64)), .second, .val (.int (0 : Int32)), .val (.int (1 : Int32)), .val (.ref b4), .unset] [(.int (3 : Int32)), (.int p1), (.ref b4)])) _
        refine XS.iand X12.here hx rfl (hb hby at_75) rfl ?_
        show Steps p.tables e below (T12.setTop (mkF m 76 #[.val (.int p1), .val (.int (p1.toUInt32.toUInt16.toUInt32.toInt32)), .val (.long (4294977024 : Int64)), .second, .val (.int (0 : Int32)), .val (.int (1 : Int32)), .val (.ref b4), .unset] [(.int (p1 &&& (3 : Int32))), (.ref b4)])) _
        refine X12.caload hx (j := (p1 &&& (3 : Int32))) (v := (.int (own_ws (p1 &&& (3 : Int32))))) (by rw [e12]; exact Ar13.1) (State.isArrayOf_alike hZ.alike Ar13.2.1) Ar13.2.2 hin13 (Has.at aH13 hin13 (own_at p1)) (g := (mkF m 76 #[.val (.int p1), .val (.int (p1.toUInt32.toUInt16.toUInt32.toInt32)), .val (.long (4294977024 : Int64)), .second, .val (.int (0 : Int32)), .val (.int (1 : Int32)), .val (.ref b4), .unset] [(.int (p1 &&& (3 : Int32))), (.ref b4)])) rfl rfl (hb hby at_76) _ ?_
        show Steps p.tables e below (T12.setTop (mkF m 77 #[.val (.int p1), .val (.int (p1.toUInt32.toUInt16.toUInt32.toInt32)), .val (.long (4294977024 : Int64)), .second, .val (.int (0 : Int32)), .val (.int (1 : Int32)), .val (.ref b4), .unset] [(.int (own_ws (p1 &&& (3 : Int32))))])) _
        refine st14 _ ?_
        show Steps p.tables e below (T14.setTop (mkF m 80 #[.val (.int p1), .val (.int (p1.toUInt32.toUInt16.toUInt32.toInt32)), .val (.long (4294977024 : Int64)), .second, .val (.int (0 : Int32)), .val (.int (1 : Int32)), .val (.ref b4), .unset] [(.int (own_wsp (own_ws (p1 &&& (3 : Int32)))))])) _
        refine XS.istore X14.here hx rfl (hb hby at_80) rfl (l' := #[.val (.int p1), .val (.int (p1.toUInt32.toUInt16.toUInt32.toInt32)), .val (.long (4294977024 : Int64)), .second, .val (.int (0 : Int32)), .val (.int (1 : Int32)), .val (.ref b4), .val (.int (own_wsp (own_ws (p1 &&& (3 : Int32)))))]) rfl ?_
        show Steps p.tables e below (T14.setTop (mkF m 82 #[.val (.int p1), .val (.int (p1.toUInt32.toUInt16.toUInt32.toInt32)), .val (.long (4294977024 : Int64)), .second, .val (.int (0 : Int32)), .val (.int (1 : Int32)), .val (.ref b4), .val (.int (own_wsp (own_ws (p1 &&& (3 : Int32)))))] [])) _
        refine XS.iload X14.here hx rfl (hb hby at_82) rfl ?_
        show Steps p.tables e below (T14.setTop (mkF m 84 #[.val (.int p1), .val (.int (p1.toUInt32.toUInt16.toUInt32.toInt32)), .val (.long (4294977024 : Int64)), .second, .val (.int (0 : Int32)), .val (.int (1 : Int32)), .val (.ref b4), .val (.int (own_wsp (own_ws (p1 &&& (3 : Int32)))))] [(.int (1 : Int32))])) _
        refine XS.ifNo X14.here hx rfl (hb hby at_84) rfl ((if0 _ _).trans (feq (by decide : ¬ ((1 : Int32) = (0 : Int32)))).1) ?_
        show Steps p.tables e below (T14.setTop (mkF m 87 #[.val (.int p1), .val (.int (p1.toUInt32.toUInt16.toUInt32.toInt32)), .val (.long (4294977024 : Int64)), .second, .val (.int (0 : Int32)), .val (.int (1 : Int32)), .val (.ref b4), .val (.int (own_wsp (own_ws (p1 &&& (3 : Int32)))))] [])) _
        refine XS.iload X14.here hx rfl (hb hby at_87) rfl ?_
        show Steps p.tables e below (T14.setTop (mkF m 89 #[.val (.int p1), .val (.int (p1.toUInt32.toUInt16.toUInt32.toInt32)), .val (.long (4294977024 : Int64)), .second, .val (.int (0 : Int32)), .val (.int (1 : Int32)), .val (.ref b4), .val (.int (own_wsp (own_ws (p1 &&& (3 : Int32)))))] [(.int (own_wsp (own_ws (p1 &&& (3 : Int32)))))])) _
        refine XS.ifNo X14.here hx rfl (hb hby at_89) rfl ((if0 _ _).trans (feq (by rw [own_ok]; decide)).1) ?_
        show Steps p.tables e below (T14.setTop (mkF m 92 #[.val (.int p1), .val (.int (p1.toUInt32.toUInt16.toUInt32.toInt32)), .val (.long (4294977024 : Int64)), .second, .val (.int (0 : Int32)), .val (.int (1 : Int32)), .val (.ref b4), .val (.int (own_wsp (own_ws (p1 &&& (3 : Int32)))))] [])) _
        refine XS.iconst X14.here hx rfl (hb hby at_92) ?_
        show Steps p.tables e below (T14.setTop (mkF m 93 #[.val (.int p1), .val (.int (p1.toUInt32.toUInt16.toUInt32.toInt32)), .val (.long (4294977024 : Int64)), .second, .val (.int (0 : Int32)), .val (.int (1 : Int32)), .val (.ref b4), .val (.int (own_wsp (own_ws (p1 &&& (3 : Int32)))))] [(.int (1 : Int32))])) _
        refine XS.goto X14.here hx rfl (pc0 := 93) (pc' := 97) rfl (hb hby at_93) (by decide) (by decide) ?_
        show Steps p.tables e below (T14.setTop (mkF m 97 #[.val (.int p1), .val (.int (p1.toUInt32.toUInt16.toUInt32.toInt32)), .val (.long (4294977024 : Int64)), .second, .val (.int (0 : Int32)), .val (.int (1 : Int32)), .val (.ref b4), .val (.int (own_wsp (own_ws (p1 &&& (3 : Int32)))))] [(.int (1 : Int32))])) _
        exact retN X14 hx (t := .boolean) Bd.returns (by simp) (hb hby at_97) hr
      · show Q_rm0 Z p1 h0 n0 _ T14.heap _
        rw [e14]
        exact ⟨rfl, N14⟩
    · obtain ⟨_, _, ⟨T15, L15, k15, n15⟩, -, X15, ⟨Lc15, hQ15, l15, y15, z15⟩, st15⟩ := Jvm.LawKit.callS X0 hx (y := (⟨"com/example/principal/principal/io/Xml", "isWhiteSpace", "(C)Z"⟩ : MethodName)) hown (mvT hZ (hw _ (List.mem_of_getElem? (i := 1) rfl))) (mvT hZ (hw _ (List.mem_of_getElem? (i := 2) rfl))) (mvT hZ (hw _ (List.mem_of_getElem? (i := 3) rfl))) (mvT hZ (hw _ (List.mem_of_getElem? (i := 4) rfl))) (by decide) (backOf (W := 0) (rm1 l Z a0 hw [] (p1.toUInt32.toUInt16.toUInt32.toInt32) h0 n0 Z0 ) hZ (hw _ (List.mem_of_getElem? (i := 4) rfl)) (hw _ (List.mem_of_getElem? (i := 3) rfl)) (by decide) (by decide)) (g := (mkF m 31 #[.val (.int p1), .val (.int (p1.toUInt32.toUInt16.toUInt32.toInt32)), .val (.long (4294977024 : Int64)), .second, .val (.int (1 : Int32)), .unset, .unset, .unset] [(.int (p1.toUInt32.toUInt16.toUInt32.toInt32))])) rfl (by rw [hml]; rfl) (argsL := [(.int (p1.toUInt32.toUInt16.toUInt32.toInt32))]) (rest := []) (lenOf pd__C_Z_238 rfl) rfl (by show 2 * 0 + _ ≤ _; exact Nat.le_of_eq rfl) (hb hby at_31) (fun _ _ => ⟨rfl, e0, (by decide : 0 + 0 ≤ _), (by decide : 0 + 0 ≤ _)⟩)
      dsimp only [Pt.U, Pt.locs, Pt.cells, Pt.slots] at X15 l15 y15 z15 st15 hQ15
      subst l15 y15 z15
      obtain ⟨rfl, N15q, e15⟩ := hQ15
      have N15 := Fr.app N0 N15q
      obtain ⟨T16, h16, k16, X16, e16, E16, A16, st16⟩ := newP X15 hx hZ (hw _ (List.mem_of_getElem? (i := 5) rfl)) e15 (g := (mkF m 47 #[.val (.int p1), .val (.int (p1.toUInt32.toUInt16.toUInt32.toInt32)), .val (.long (4294977024 : Int64)), .second, .val (.int (1 : Int32)), .val (.int (1 : Int32)), .unset, .unset] [(.int (4 : Int32))])) rfl (hb hby at_47) rfl (by decide) (cap := 4) (by decide) (by decide) (by decide) (by decide)
      obtain ⟨b16, g16⟩ : ∃ z, z = h0.size := ⟨_, rfl⟩
      rw [← g16] at A16 st16
      have g_b16 : n0 ≤ b16 := Nat.le_trans Z0 (Nat.le_of_eq g16.symm)
      have Z16 : n0 ≤ h16.size := Nat.le_trans Z0 E16.1
      have V_b16 : Arv Z h16 b16 k16 .char (4 : Int32) [(.int (0 : Int32)), (.int (0 : Int32)), (.int (0 : Int32)), (.int (0 : Int32))] (.int (0 : Int32)) := (Arv.new A16 (by decide)).pad (pad_rep [] (.int (0 : Int32)) 4)
      obtain ⟨cl17, Ar17, aq17, aS17, aN17, aH17, aG17⟩ := V_b16
      have hin17 : ¬ ((0 : Int32) < 0 ∨ cl17.slots.size ≤ ((0 : Int32)).toNatClampNeg) := inb_of aS17 ⟨by decide, by decide⟩
      obtain ⟨T18, h18, X18, e18, W18, st18⟩ := stC X16 hx hZ e16 Ar17 (j := (0 : Int32)) hin17 (g := (mkF m 53 #[.val (.int p1), .val (.int (p1.toUInt32.toUInt16.toUInt32.toInt32)), .val (.long (4294977024 : Int64)), .second, .val (.int (1 : Int32)), .val (.int (1 : Int32)), .unset, .unset] [(.int (32 : Int32)), (.int (0 : Int32)), (.ref b16), (.ref b16)])) rfl rfl (hb hby at_53)
      have V_b16_18 : Arv Z h18 b16 k16 .char (4 : Int32) [(.int (32 : Int32)), (.int (0 : Int32)), (.int (0 : Int32)), (.int (0 : Int32))] (.int (0 : Int32)) := Arv.set Ar17 aq17 aS17 aN17 aH17 aG17 (fits_nar_char _) W18 0 rfl (Nat.le_of_ble_eq_true rfl)
      have f5 : n0 ≤ b16 := g_b16
      have N18 := Fr.snoc X18 N15 f5
      have Z18 : n0 ≤ h18.size := by rw [W18.size]; exact Z16
      obtain ⟨cl19, Ar19, aq19, aS19, aN19, aH19, aG19⟩ := V_b16_18
      have hin19 : ¬ ((1 : Int32) < 0 ∨ cl19.slots.size ≤ ((1 : Int32)).toNatClampNeg) := inb_of aS19 ⟨by decide, by decide⟩
      obtain ⟨T20, h20, X20, e20, W20, st20⟩ := stC X18 hx hZ e18 Ar19 (j := (1 : Int32)) hin19 (g := (mkF m 58 #[.val (.int p1), .val (.int (p1.toUInt32.toUInt16.toUInt32.toInt32)), .val (.long (4294977024 : Int64)), .second, .val (.int (1 : Int32)), .val (.int (1 : Int32)), .unset, .unset] [(.int (9 : Int32)), (.int (1 : Int32)), (.ref b16), (.ref b16)])) rfl rfl (hb hby at_58)
      have V_b16_20 : Arv Z h20 b16 k16 .char (4 : Int32) [(.int (32 : Int32)), (.int (9 : Int32)), (.int (0 : Int32)), (.int (0 : Int32))] (.int (0 : Int32)) := Arv.set Ar19 aq19 aS19 aN19 aH19 aG19 (fits_nar_char _) W20 1 rfl (Nat.le_of_ble_eq_true rfl)
      have f6 : n0 ≤ b16 := f5
      have N20 := Fr.snoc X20 N18 f6
      have Z20 : n0 ≤ h20.size := by rw [W20.size]; exact Z18
      obtain ⟨cl21, Ar21, aq21, aS21, aN21, aH21, aG21⟩ := V_b16_20
      have hin21 : ¬ ((2 : Int32) < 0 ∨ cl21.slots.size ≤ ((2 : Int32)).toNatClampNeg) := inb_of aS21 ⟨by decide, by decide⟩
      obtain ⟨T22, h22, X22, e22, W22, st22⟩ := stC X20 hx hZ e20 Ar21 (j := (2 : Int32)) hin21 (g := (mkF m 63 #[.val (.int p1), .val (.int (p1.toUInt32.toUInt16.toUInt32.toInt32)), .val (.long (4294977024 : Int64)), .second, .val (.int (1 : Int32)), .val (.int (1 : Int32)), .unset, .unset] [(.int (13 : Int32)), (.int (2 : Int32)), (.ref b16), (.ref b16)])) rfl rfl (hb hby at_63)
      have V_b16_22 : Arv Z h22 b16 k16 .char (4 : Int32) [(.int (32 : Int32)), (.int (9 : Int32)), (.int (13 : Int32)), (.int (0 : Int32))] (.int (0 : Int32)) := Arv.set Ar21 aq21 aS21 aN21 aH21 aG21 (fits_nar_char _) W22 2 rfl (Nat.le_of_ble_eq_true rfl)
      have f7 : n0 ≤ b16 := f6
      have N22 := Fr.snoc X22 N20 f7
      have Z22 : n0 ≤ h22.size := by rw [W22.size]; exact Z20
      obtain ⟨cl23, Ar23, aq23, aS23, aN23, aH23, aG23⟩ := V_b16_22
      have hin23 : ¬ ((3 : Int32) < 0 ∨ cl23.slots.size ≤ ((3 : Int32)).toNatClampNeg) := inb_of aS23 ⟨by decide, by decide⟩
      obtain ⟨T24, h24, X24, e24, W24, st24⟩ := stC X22 hx hZ e22 Ar23 (j := (3 : Int32)) hin23 (g := (mkF m 68 #[.val (.int p1), .val (.int (p1.toUInt32.toUInt16.toUInt32.toInt32)), .val (.long (4294977024 : Int64)), .second, .val (.int (1 : Int32)), .val (.int (1 : Int32)), .unset, .unset] [(.int (10 : Int32)), (.int (3 : Int32)), (.ref b16), (.ref b16)])) rfl rfl (hb hby at_68)
      have V_b16_24 : Arv Z h24 b16 k16 .char (4 : Int32) [(.int (32 : Int32)), (.int (9 : Int32)), (.int (13 : Int32)), (.int (10 : Int32))] (.int (0 : Int32)) := Arv.set Ar23 aq23 aS23 aN23 aH23 aG23 (fits_nar_char _) W24 3 rfl (Nat.le_of_ble_eq_true rfl)
      have f8 : n0 ≤ b16 := f7
      have N24 := Fr.snoc X24 N22 f8
      have Z24 : n0 ≤ h24.size := by rw [W24.size]; exact Z22
      obtain ⟨cl25, Ar25, aq25, aS25, aN25, aH25, aG25⟩ := V_b16_24
      have hin25 : ¬ ((p1 &&& (3 : Int32)) < 0 ∨ cl25.slots.size ≤ ((p1 &&& (3 : Int32))).toNatClampNeg) := inb_of aS25 (own_in p1)
      obtain ⟨_, _, ⟨T26, L26, k26, n26⟩, -, X26, ⟨Lc26, hQ26, l26, y26, z26⟩, st26⟩ := Jvm.LawKit.callS X24 hx (y := (⟨"com/example/principal/principal/io/Xml", "isWhiteSpace", "(C)Z"⟩ : MethodName)) hown (mvT hZ (hw _ (List.mem_of_getElem? (i := 1) rfl))) (mvT hZ (hw _ (List.mem_of_getElem? (i := 2) rfl))) (mvT hZ (hw _ (List.mem_of_getElem? (i := 3) rfl))) (mvT hZ (hw _ (List.mem_of_getElem? (i := 4) rfl))) (by decide) (backOf (W := 0) (rm1 l Z a0 hw [] (own_ws (p1 &&& (3 : Int32))) h24 n0 Z24 ) hZ (hw _ (List.mem_of_getElem? (i := 4) rfl)) (hw _ (List.mem_of_getElem? (i := 3) rfl)) (by decide) (by decide)) (g := (mkF m 77 #[.val (.int p1), .val (.int (p1.toUInt32.toUInt16.toUInt32.toInt32)), .val (.long (4294977024 : Int64)), .second, .val (.int (1 : Int32)), .val (.int (1 : Int32)), .val (.ref b16), .unset] [(.int (own_ws (p1 &&& (3 : Int32))))])) rfl (by rw [hml]; rfl) (argsL := [(.int (own_ws (p1 &&& (3 : Int32))))]) (rest := []) (lenOf pd__C_Z_238 rfl) rfl (by show 2 * 0 + _ ≤ _; exact Nat.le_of_eq rfl) (hb hby at_77) (fun _ _ => ⟨rfl, e24, (by decide : 1 + 0 ≤ _), (by decide : 4 + 0 ≤ _)⟩)
      dsimp only [Pt.U, Pt.locs, Pt.cells, Pt.slots] at X26 l26 y26 z26 st26 hQ26
      subst l26 y26 z26
      obtain ⟨rfl, N26q, e26⟩ := hQ26
      have N26 := Fr.app N24 N26q
      obtain ⟨fs, hr, hrun, hended, hW, hsame⟩ := X26.leave (v := some (.int (1 : Int32))) (fun h => by rw [Bd.returns] at h; cases h)
      refine ⟨_, _, pre_2 _ ?_, hrun, hended, _, _, rfl, ?_, ⟨_, rfl⟩, hW, hsame.mono (by decide) (by decide)⟩
      · show Steps p.tables e below (s₁.setTop (mkF m 20 #[.val (.int p1), .val (.int (p1.toUInt32.toUInt16.toUInt32.toInt32)), .val (.long (4294977024 : Int64)), .second, .unset, .unset, .unset, .unset] [(.int (lcmpW ((((4294977024 : Int64).toUInt64 >>> ((p1.toUInt32.toUInt16.toUInt32.toInt32) &&& 0x3f).toInt64.toUInt64).toInt64) &&& (1 : Int64)) (0 : Int64)))])) _
        refine XS.ifNo X0.here hx rfl (hb hby at_20) rfl ((if0 _ _).trans (feq hc20).1) ?_
        show Steps p.tables e below (s₁.setTop (mkF m 23 #[.val (.int p1), .val (.int (p1.toUInt32.toUInt16.toUInt32.toInt32)), .val (.long (4294977024 : Int64)), .second, .unset, .unset, .unset, .unset] [])) _
        refine XS.iconst X0.here hx rfl (hb hby at_23) ?_
        show Steps p.tables e below (s₁.setTop (mkF m 24 #[.val (.int p1), .val (.int (p1.toUInt32.toUInt16.toUInt32.toInt32)), .val (.long (4294977024 : Int64)), .second, .unset, .unset, .unset, .unset] [(.int (1 : Int32))])) _
        refine XS.goto X0.here hx rfl (pc0 := 24) (pc' := 28) rfl (hb hby at_24) (by decide) (by decide) ?_
        show Steps p.tables e below (s₁.setTop (mkF m 28 #[.val (.int p1), .val (.int (p1.toUInt32.toUInt16.toUInt32.toInt32)), .val (.long (4294977024 : Int64)), .second, .unset, .unset, .unset, .unset] [(.int (1 : Int32))])) _
        refine XS.istore X0.here hx rfl (hb hby at_28) rfl (l' := #[.val (.int p1), .val (.int (p1.toUInt32.toUInt16.toUInt32.toInt32)), .val (.long (4294977024 : Int64)), .second, .val (.int (1 : Int32)), .unset, .unset, .unset]) rfl ?_
        show Steps p.tables e below (s₁.setTop (mkF m 30 #[.val (.int p1), .val (.int (p1.toUInt32.toUInt16.toUInt32.toInt32)), .val (.long (4294977024 : Int64)), .second, .val (.int (1 : Int32)), .unset, .unset, .unset] [])) _
        refine XS.iloadN X0.here hx rfl (hb hby at_30) rfl ?_
        show Steps p.tables e below (s₁.setTop (mkF m 31 #[.val (.int p1), .val (.int (p1.toUInt32.toUInt16.toUInt32.toInt32)), .val (.long (4294977024 : Int64)), .second, .val (.int (1 : Int32)), .unset, .unset, .unset] [(.int (p1.toUInt32.toUInt16.toUInt32.toInt32))])) _
        refine st15 _ ?_
        show Steps p.tables e below (T15.setTop (mkF m 34 #[.val (.int p1), .val (.int (p1.toUInt32.toUInt16.toUInt32.toInt32)), .val (.long (4294977024 : Int64)), .second, .val (.int (1 : Int32)), .unset, .unset, .unset] [(.int (own_wsp (p1.toUInt32.toUInt16.toUInt32.toInt32)))])) _
        refine XS.iload X15.here hx rfl (hb hby at_34) rfl ?_
        show Steps p.tables e below (T15.setTop (mkF m 36 #[.val (.int p1), .val (.int (p1.toUInt32.toUInt16.toUInt32.toInt32)), .val (.long (4294977024 : Int64)), .second, .val (.int (1 : Int32)), .unset, .unset, .unset] [(.int (1 : Int32)), (.int (own_wsp (p1.toUInt32.toUInt16.toUInt32.toInt32)))])) _
        refine XS.icmpNo X15.here hx rfl (hb hby at_36) rfl (teq ((own_lo p1 hc10).2 hc20)).2 ?_
        show Steps p.tables e below (T15.setTop (mkF m 39 #[.val (.int p1), .val (.int (p1.toUInt32.toUInt16.toUInt32.toInt32)), .val (.long (4294977024 : Int64)), .second, .val (.int (1 : Int32)), .unset, .unset, .unset] [])) _
        refine XS.iconst X15.here hx rfl (hb hby at_39) ?_
        show Steps p.tables e below (T15.setTop (mkF m 40 #[.val (.int p1), .val (.int (p1.toUInt32.toUInt16.toUInt32.toInt32)), .val (.long (4294977024 : Int64)), .second, .val (.int (1 : Int32)), .unset, .unset, .unset] [(.int (1 : Int32))])) _
        refine XS.goto X15.here hx rfl (pc0 := 40) (pc' := 44) rfl (hb hby at_40) (by decide) (by decide) ?_
        show Steps p.tables e below (T15.setTop (mkF m 44 #[.val (.int p1), .val (.int (p1.toUInt32.toUInt16.toUInt32.toInt32)), .val (.long (4294977024 : Int64)), .second, .val (.int (1 : Int32)), .unset, .unset, .unset] [(.int (1 : Int32))])) _
        refine XS.istore X15.here hx rfl (hb hby at_44) rfl (l' := #[.val (.int p1), .val (.int (p1.toUInt32.toUInt16.toUInt32.toInt32)), .val (.long (4294977024 : Int64)), .second, .val (.int (1 : Int32)), .val (.int (1 : Int32)), .unset, .unset]) rfl ?_
        show Steps p.tables e below (T15.setTop (mkF m 46 #[.val (.int p1), .val (.int (p1.toUInt32.toUInt16.toUInt32.toInt32)), .val (.long (4294977024 : Int64)), .second, .val (.int (1 : Int32)), .val (.int (1 : Int32)), .unset, .unset] [])) _
        refine XS.iconst X15.here hx rfl (hb hby at_46) ?_
        show Steps p.tables e below (T15.setTop (mkF m 47 #[.val (.int p1), .val (.int (p1.toUInt32.toUInt16.toUInt32.toInt32)), .val (.long (4294977024 : Int64)), .second, .val (.int (1 : Int32)), .val (.int (1 : Int32)), .unset, .unset] [(.int (4 : Int32))])) _
        refine st16 _ ?_
        show Steps p.tables e below (T16.setTop (mkF m 49 #[.val (.int p1), .val (.int (p1.toUInt32.toUInt16.toUInt32.toInt32)), .val (.long (4294977024 : Int64)), .second, .val (.int (1 : Int32)), .val (.int (1 : Int32)), .unset, .unset] [(.ref b16)])) _
        refine XS.dup X16.here hx rfl (hb hby at_49) rfl rfl ?_
        show Steps p.tables e below (T16.setTop (mkF m 50 #[.val (.int p1), .val (.int (p1.toUInt32.toUInt16.toUInt32.toInt32)), .val (.long (4294977024 : Int64)), .second, .val (.int (1 : Int32)), .val (.int (1 : Int32)), .unset, .unset] [(.ref b16), (.ref b16)])) _
        refine XS.iconst X16.here hx rfl (hb hby at_50) ?_
        show Steps p.tables e below (T16.setTop (mkF m 51 #[.val (.int p1), .val (.int (p1.toUInt32.toUInt16.toUInt32.toInt32)), .val (.long (4294977024 : Int64)), .second, .val (.int (1 : Int32)), .val (.int (1 : Int32)), .unset, .unset] [(.int (0 : Int32)), (.ref b16), (.ref b16)])) _
        refine XS.bipush X16.here hx rfl (hb hby at_51) ?_
        show Steps p.tables e below (T16.setTop (mkF m 53 #[.val (.int p1), .val (.int (p1.toUInt32.toUInt16.toUInt32.toInt32)), .val (.long (4294977024 : Int64)), .second, .val (.int (1 : Int32)), .val (.int (1 : Int32)), .unset, .unset] [(.int (32 : Int32)), (.int (0 : Int32)), (.ref b16), (.ref b16)])) _
        refine st18 _ ?_
        show Steps p.tables e below (T18.setTop (mkF m 54 #[.val (.int p1), .val (.int (p1.toUInt32.toUInt16.toUInt32.toInt32)), .val (.long (4294977024 : Int64)), .second, .val (.int (1 : Int32)), .val (.int (1 : Int32)), .unset, .unset] [(.ref b16)])) _
        refine XS.dup X18.here hx rfl (hb hby at_54) rfl rfl ?_
        show Steps p.tables e below (T18.setTop (mkF m 55 #[.val (.int p1), .val (.int (p1.toUInt32.toUInt16.toUInt32.toInt32)), .val (.long (4294977024 : Int64)), .second, .val (.int (1 : Int32)), .val (.int (1 : Int32)), .unset, .unset] [(.ref b16), (.ref b16)])) _
        refine XS.iconst X18.here hx rfl (hb hby at_55) ?_
        show Steps p.tables e below (T18.setTop (mkF m 56 #[.val (.int p1), .val (.int (p1.toUInt32.toUInt16.toUInt32.toInt32)), .val (.long (4294977024 : Int64)), .second, .val (.int (1 : Int32)), .val (.int (1 : Int32)), .unset, .unset] [(.int (1 : Int32)), (.ref b16), (.ref b16)])) _
        refine XS.bipush X18.here hx rfl (hb hby at_56) ?_
        show Steps p.tables e below (T18.setTop (mkF m 58 #[.val (.int p1), .val (.int (p1.toUInt32.toUInt16.toUInt32.toInt32)), .val (.long (4294977024 : Int64)), .second, .val (.int (1 : Int32)), .val (.int (1 : Int32)), .unset, .unset] [(.int (9 : Int32)), (.int (1 : Int32)), (.ref b16), (.ref b16)])) _
        refine st20 _ ?_
        show Steps p.tables e below (T20.setTop (mkF m 59 #[.val (.int p1), .val (.int (p1.toUInt32.toUInt16.toUInt32.toInt32)), .val (.long (4294977024 : Int64)), .second, .val (.int (1 : Int32)), .val (.int (1 : Int32)), .unset, .unset] [(.ref b16)])) _
        refine XS.dup X20.here hx rfl (hb hby at_59) rfl rfl ?_
        show Steps p.tables e below (T20.setTop (mkF m 60 #[.val (.int p1), .val (.int (p1.toUInt32.toUInt16.toUInt32.toInt32)), .val (.long (4294977024 : Int64)), .second, .val (.int (1 : Int32)), .val (.int (1 : Int32)), .unset, .unset] [(.ref b16), (.ref b16)])) _
        refine XS.iconst X20.here hx rfl (hb hby at_60) ?_
        show Steps p.tables e below (T20.setTop (mkF m 61 #[.val (.int p1), .val (.int (p1.toUInt32.toUInt16.toUInt32.toInt32)), .val (.long (4294977024 : Int64)), .second, .val (.int (1 : Int32)), .val (.int (1 : Int32)), .unset, .unset] [(.int (2 : Int32)), (.ref b16), (.ref b16)])) _
        refine XS.bipush X20.here hx rfl (hb hby at_61) ?_
        show Steps p.tables e below (T20.setTop (mkF m 63 #[.val (.int p1), .val (.int (p1.toUInt32.toUInt16.toUInt32.toInt32)), .val (.long (4294977024 : Int64)), .second, .val (.int (1 : Int32)), .val (.int (1 : Int32)), .unset, .unset] [(.int (13 : Int32)), (.int (2 : Int32)), (.ref b16), (.ref b16)])) _
        refine st22 _ ?_
        show Steps p.tables e below (T22.setTop (mkF m 64 #[.val (.int p1), .val (.int (p1.toUInt32.toUInt16.toUInt32.toInt32)), .val (.long (4294977024 : Int64)), .second, .val (.int (1 : Int32)), .val (.int (1 : Int32)), .unset, .unset] [(.ref b16)])) _
        refine XS.dup X22.here hx rfl (hb hby at_64) rfl rfl ?_
        show Steps p.tables e below (T22.setTop (mkF m 65 #[.val (.int p1), .val (.int (p1.toUInt32.toUInt16.toUInt32.toInt32)), .val (.long (4294977024 : Int64)), .second, .val (.int (1 : Int32)), .val (.int (1 : Int32)), .unset, .unset] [(.ref b16), (.ref b16)])) _
        refine XS.iconst X22.here hx rfl (hb hby at_65) ?_
        show Steps p.tables e below (T22.setTop (mkF m 66 #[.val (.int p1), .val (.int (p1.toUInt32.toUInt16.toUInt32.toInt32)), .val (.long (4294977024 : Int64)), .second, .val (.int (1 : Int32)), .val (.int (1 : Int32)), .unset, .unset] [(.int (3 : Int32)), (.ref b16), (.ref b16)])) _
        refine XS.bipush X22.here hx rfl (hb hby at_66) ?_
        show Steps p.tables e below (T22.setTop (mkF m 68 #[.val (.int p1), .val (.int (p1.toUInt32.toUInt16.toUInt32.toInt32)), .val (.long (4294977024 : Int64)), .second, .val (.int (1 : Int32)), .val (.int (1 : Int32)), .unset, .unset] [(.int (10 : Int32)), (.int (3 : Int32)), (.ref b16), (.ref b16)])) _
        refine st24 _ ?_
        show Steps p.tables e below (T24.setTop (mkF m 69 #[.val (.int p1), .val (.int (p1.toUInt32.toUInt16.toUInt32.toInt32)), .val (.long (4294977024 : Int64)), .second, .val (.int (1 : Int32)), .val (.int (1 : Int32)), .unset, .unset] [(.ref b16)])) _
        refine XS.astore X24.here hx rfl (hb hby at_69) rfl rfl (l' := #[.val (.int p1), .val (.int (p1.toUInt32.toUInt16.toUInt32.toInt32)), .val (.long (4294977024 : Int64)), .second, .val (.int (1 : Int32)), .val (.int (1 : Int32)), .val (.ref b16), .unset]) rfl ?_
        show Steps p.tables e below (T24.setTop (mkF m 71 #[.val (.int p1), .val (.int (p1.toUInt32.toUInt16.toUInt32.toInt32)), .val (.long (4294977024 : Int64)), .second, .val (.int (1 : Int32)), .val (.int (1 : Int32)), .val (.ref b16), .unset] [])) _
        refine XS.aload X24.here hx rfl (hb hby at_71) rfl rfl ?_
        show Steps p.tables e below (T24.setTop (mkF m 73 #[.val (.int p1), .val (.int (p1.toUInt32.toUInt16.toUInt32.toInt32)), .val (.long (4294977024 : Int64)), .second, .val (.int (1 : Int32)), .val (.int (1 : Int32)), .val (.ref b16), .unset] [(.ref b16)])) _
        refine XS.iloadN X24.here hx rfl (hb hby at_73) rfl ?_
        show Steps p.tables e below (T24.setTop (mkF m 74 #[.val (.int p1), .val (.int (p1.toUInt32.toUInt16.toUInt32.toInt32)), .val (.long (4294977024 : Int64)), .second, .val (.int (1 : Int32)), .val (.int (1 : Int32)), .val (.ref b16), .unset] [(.int p1), (.ref b16)])) _
        refine XS.iconst X24.here hx rfl (hb hby at_74) ?_
        show Steps p.tables e below (T24.setTop (mkF m 75 #[.val (.int p1), .val (.int (p1.toUInt32.toUInt16.toUInt32.toInt32)), .val (.long (4294977024 : Int64)), .second, .val (.int (1 : Int32)), .val (.int (1 : Int32)), .val (.ref b16), .unset] [(.int (3 : Int32)), (.int p1), (.ref b16)])) _
        refine XS.iand X24.here hx rfl (hb hby at_75) rfl ?_
        show Steps p.tables e below (T24.setTop (mkF m 76 #[.val (.int p1), .val (.int (p1.toUInt32.toUInt16.toUInt32.toInt32)), .val (.long (4294977024 : Int64)), .second, .val (.int (1 : Int32)), .val (.int (1 : Int32)), .val (.ref b16), .unset] [(.int (p1 &&& (3 : Int32))), (.ref b16)])) _
        refine X24.caload hx (j := (p1 &&& (3 : Int32))) (v := (.int (own_ws (p1 &&& (3 : Int32))))) (by rw [e24]; exact Ar25.1) (State.isArrayOf_alike hZ.alike Ar25.2.1) Ar25.2.2 hin25 (Has.at aH25 hin25 (own_at p1)) (g := (mkF m 76 #[.val (.int p1), .val (.int (p1.toUInt32.toUInt16.toUInt32.toInt32)), .val (.long (4294977024 : Int64)), .second, .val (.int (1 : Int32)), .val (.int (1 : Int32)), .val (.ref b16), .unset] [(.int (p1 &&& (3 : Int32))), (.ref b16)])) rfl rfl (hb hby at_76) _ ?_
        show Steps p.tables e below (T24.setTop (mkF m 77 #[.val (.int p1), .val (.int (p1.toUInt32.toUInt16.toUInt32.toInt32)), .val (.long (4294977024 : Int64)), .second, .val (.int (1 : Int32)), .val (.int (1 : Int32)), .val (.ref b16), .unset] [(.int (own_ws (p1 &&& (3 : Int32))))])) _
        refine st26 _ ?_
        show Steps p.tables e below (T26.setTop (mkF m 80 #[.val (.int p1), .val (.int (p1.toUInt32.toUInt16.toUInt32.toInt32)), .val (.long (4294977024 : Int64)), .second, .val (.int (1 : Int32)), .val (.int (1 : Int32)), .val (.ref b16), .unset] [(.int (own_wsp (own_ws (p1 &&& (3 : Int32)))))])) _
        refine XS.istore X26.here hx rfl (hb hby at_80) rfl (l' := #[.val (.int p1), .val (.int (p1.toUInt32.toUInt16.toUInt32.toInt32)), .val (.long (4294977024 : Int64)), .second, .val (.int (1 : Int32)), .val (.int (1 : Int32)), .val (.ref b16), .val (.int (own_wsp (own_ws (p1 &&& (3 : Int32)))))]) rfl ?_
        show Steps p.tables e below (T26.setTop (mkF m 82 #[.val (.int p1), .val (.int (p1.toUInt32.toUInt16.toUInt32.toInt32)), .val (.long (4294977024 : Int64)), .second, .val (.int (1 : Int32)), .val (.int (1 : Int32)), .val (.ref b16), .val (.int (own_wsp (own_ws (p1 &&& (3 : Int32)))))] [])) _
        refine XS.iload X26.here hx rfl (hb hby at_82) rfl ?_
        show Steps p.tables e below (T26.setTop (mkF m 84 #[.val (.int p1), .val (.int (p1.toUInt32.toUInt16.toUInt32.toInt32)), .val (.long (4294977024 : Int64)), .second, .val (.int (1 : Int32)), .val (.int (1 : Int32)), .val (.ref b16), .val (.int (own_wsp (own_ws (p1 &&& (3 : Int32)))))] [(.int (1 : Int32))])) _
        refine XS.ifNo X26.here hx rfl (hb hby at_84) rfl ((if0 _ _).trans (feq (by decide : ¬ ((1 : Int32) = (0 : Int32)))).1) ?_
        show Steps p.tables e below (T26.setTop (mkF m 87 #[.val (.int p1), .val (.int (p1.toUInt32.toUInt16.toUInt32.toInt32)), .val (.long (4294977024 : Int64)), .second, .val (.int (1 : Int32)), .val (.int (1 : Int32)), .val (.ref b16), .val (.int (own_wsp (own_ws (p1 &&& (3 : Int32)))))] [])) _
        refine XS.iload X26.here hx rfl (hb hby at_87) rfl ?_
        show Steps p.tables e below (T26.setTop (mkF m 89 #[.val (.int p1), .val (.int (p1.toUInt32.toUInt16.toUInt32.toInt32)), .val (.long (4294977024 : Int64)), .second, .val (.int (1 : Int32)), .val (.int (1 : Int32)), .val (.ref b16), .val (.int (own_wsp (own_ws (p1 &&& (3 : Int32)))))] [(.int (own_wsp (own_ws (p1 &&& (3 : Int32)))))])) _
        refine XS.ifNo X26.here hx rfl (hb hby at_89) rfl ((if0 _ _).trans (feq (by rw [own_ok]; decide)).1) ?_
        show Steps p.tables e below (T26.setTop (mkF m 92 #[.val (.int p1), .val (.int (p1.toUInt32.toUInt16.toUInt32.toInt32)), .val (.long (4294977024 : Int64)), .second, .val (.int (1 : Int32)), .val (.int (1 : Int32)), .val (.ref b16), .val (.int (own_wsp (own_ws (p1 &&& (3 : Int32)))))] [])) _
        refine XS.iconst X26.here hx rfl (hb hby at_92) ?_
        show Steps p.tables e below (T26.setTop (mkF m 93 #[.val (.int p1), .val (.int (p1.toUInt32.toUInt16.toUInt32.toInt32)), .val (.long (4294977024 : Int64)), .second, .val (.int (1 : Int32)), .val (.int (1 : Int32)), .val (.ref b16), .val (.int (own_wsp (own_ws (p1 &&& (3 : Int32)))))] [(.int (1 : Int32))])) _
        refine XS.goto X26.here hx rfl (pc0 := 93) (pc' := 97) rfl (hb hby at_93) (by decide) (by decide) ?_
        show Steps p.tables e below (T26.setTop (mkF m 97 #[.val (.int p1), .val (.int (p1.toUInt32.toUInt16.toUInt32.toInt32)), .val (.long (4294977024 : Int64)), .second, .val (.int (1 : Int32)), .val (.int (1 : Int32)), .val (.ref b16), .val (.int (own_wsp (own_ws (p1 &&& (3 : Int32)))))] [(.int (1 : Int32))])) _
        exact retN X26 hx (t := .boolean) Bd.returns (by simp) (hb hby at_97) hr
      · show Q_rm0 Z p1 h0 n0 _ T26.heap _
        rw [e26]
        exact ⟨rfl, N26⟩
  · obtain ⟨_, _, ⟨T27, L27, k27, n27⟩, -, X27, ⟨Lc27, hQ27, l27, y27, z27⟩, st27⟩ := Jvm.LawKit.callS X0 hx (y := (⟨"com/example/principal/principal/io/Xml", "isWhiteSpace", "(C)Z"⟩ : MethodName)) hown (mvT hZ (hw _ (List.mem_of_getElem? (i := 1) rfl))) (mvT hZ (hw _ (List.mem_of_getElem? (i := 2) rfl))) (mvT hZ (hw _ (List.mem_of_getElem? (i := 3) rfl))) (mvT hZ (hw _ (List.mem_of_getElem? (i := 4) rfl))) (by decide) (backOf (W := 0) (rm1 l Z a0 hw [] (p1.toUInt32.toUInt16.toUInt32.toInt32) h0 n0 Z0 ) hZ (hw _ (List.mem_of_getElem? (i := 4) rfl)) (hw _ (List.mem_of_getElem? (i := 3) rfl)) (by decide) (by decide)) (g := (mkF m 31 #[.val (.int p1), .val (.int (p1.toUInt32.toUInt16.toUInt32.toInt32)), .val (.long (4294977024 : Int64)), .second, .val (.int (0 : Int32)), .unset, .unset, .unset] [(.int (p1.toUInt32.toUInt16.toUInt32.toInt32))])) rfl (by rw [hml]; rfl) (argsL := [(.int (p1.toUInt32.toUInt16.toUInt32.toInt32))]) (rest := []) (lenOf pd__C_Z_238 rfl) rfl (by show 2 * 0 + _ ≤ _; exact Nat.le_of_eq rfl) (hb hby at_31) (fun _ _ => ⟨rfl, e0, (by decide : 0 + 0 ≤ _), (by decide : 0 + 0 ≤ _)⟩)
    dsimp only [Pt.U, Pt.locs, Pt.cells, Pt.slots] at X27 l27 y27 z27 st27 hQ27
    subst l27 y27 z27
    obtain ⟨rfl, N27q, e27⟩ := hQ27
    have N27 := Fr.app N0 N27q
    obtain ⟨T28, h28, k28, X28, e28, E28, A28, st28⟩ := newP X27 hx hZ (hw _ (List.mem_of_getElem? (i := 5) rfl)) e27 (g := (mkF m 47 #[.val (.int p1), .val (.int (p1.toUInt32.toUInt16.toUInt32.toInt32)), .val (.long (4294977024 : Int64)), .second, .val (.int (0 : Int32)), .val (.int (1 : Int32)), .unset, .unset] [(.int (4 : Int32))])) rfl (hb hby at_47) rfl (by decide) (cap := 4) (by decide) (by decide) (by decide) (by decide)
    obtain ⟨b28, g28⟩ : ∃ z, z = h0.size := ⟨_, rfl⟩
    rw [← g28] at A28 st28
    have g_b28 : n0 ≤ b28 := Nat.le_trans Z0 (Nat.le_of_eq g28.symm)
    have Z28 : n0 ≤ h28.size := Nat.le_trans Z0 E28.1
    have V_b28 : Arv Z h28 b28 k28 .char (4 : Int32) [(.int (0 : Int32)), (.int (0 : Int32)), (.int (0 : Int32)), (.int (0 : Int32))] (.int (0 : Int32)) := (Arv.new A28 (by decide)).pad (pad_rep [] (.int (0 : Int32)) 4)
    obtain ⟨cl29, Ar29, aq29, aS29, aN29, aH29, aG29⟩ := V_b28
    have hin29 : ¬ ((0 : Int32) < 0 ∨ cl29.slots.size ≤ ((0 : Int32)).toNatClampNeg) := inb_of aS29 ⟨by decide, by decide⟩
    obtain ⟨T30, h30, X30, e30, W30, st30⟩ := stC X28 hx hZ e28 Ar29 (j := (0 : Int32)) hin29 (g := (mkF m 53 #[.val (.int p1), .val (.int (p1.toUInt32.toUInt16.toUInt32.toInt32)), .val (.long (4294977024 : Int64)), .second, .val (.int (0 : Int32)), .val (.int (1 : Int32)), .unset, .unset] [(.int (32 : Int32)), (.int (0 : Int32)), (.ref b28), (.ref b28)])) rfl rfl (hb hby at_53)
    have V_b28_30 : Arv Z h30 b28 k28 .char (4 : Int32) [(.int (32 : Int32)), (.int (0 : Int32)), (.int (0 : Int32)), (.int (0 : Int32))] (.int (0 : Int32)) := Arv.set Ar29 aq29 aS29 aN29 aH29 aG29 (fits_nar_char _) W30 0 rfl (Nat.le_of_ble_eq_true rfl)
    have f9 : n0 ≤ b28 := g_b28
    have N30 := Fr.snoc X30 N27 f9
    have Z30 : n0 ≤ h30.size := by rw [W30.size]; exact Z28
    obtain ⟨cl31, Ar31, aq31, aS31, aN31, aH31, aG31⟩ := V_b28_30
    have hin31 : ¬ ((1 : Int32) < 0 ∨ cl31.slots.size ≤ ((1 : Int32)).toNatClampNeg) := inb_of aS31 ⟨by decide, by decide⟩
    obtain ⟨T32, h32, X32, e32, W32, st32⟩ := stC X30 hx hZ e30 Ar31 (j := (1 : Int32)) hin31 (g := (mkF m 58 #[.val (.int p1), .val (.int (p1.toUInt32.toUInt16.toUInt32.toInt32)), .val (.long (4294977024 : Int64)), .second, .val (.int (0 : Int32)), .val (.int (1 : Int32)), .unset, .unset] [(.int (9 : Int32)), (.int (1 : Int32)), (.ref b28), (.ref b28)])) rfl rfl (hb hby at_58)
    have V_b28_32 : Arv Z h32 b28 k28 .char (4 : Int32) [(.int (32 : Int32)), (.int (9 : Int32)), (.int (0 : Int32)), (.int (0 : Int32))] (.int (0 : Int32)) := Arv.set Ar31 aq31 aS31 aN31 aH31 aG31 (fits_nar_char _) W32 1 rfl (Nat.le_of_ble_eq_true rfl)
    have f10 : n0 ≤ b28 := f9
    have N32 := Fr.snoc X32 N30 f10
    have Z32 : n0 ≤ h32.size := by rw [W32.size]; exact Z30
    obtain ⟨cl33, Ar33, aq33, aS33, aN33, aH33, aG33⟩ := V_b28_32
    have hin33 : ¬ ((2 : Int32) < 0 ∨ cl33.slots.size ≤ ((2 : Int32)).toNatClampNeg) := inb_of aS33 ⟨by decide, by decide⟩
    obtain ⟨T34, h34, X34, e34, W34, st34⟩ := stC X32 hx hZ e32 Ar33 (j := (2 : Int32)) hin33 (g := (mkF m 63 #[.val (.int p1), .val (.int (p1.toUInt32.toUInt16.toUInt32.toInt32)), .val (.long (4294977024 : Int64)), .second, .val (.int (0 : Int32)), .val (.int (1 : Int32)), .unset, .unset] [(.int (13 : Int32)), (.int (2 : Int32)), (.ref b28), (.ref b28)])) rfl rfl (hb hby at_63)
    have V_b28_34 : Arv Z h34 b28 k28 .char (4 : Int32) [(.int (32 : Int32)), (.int (9 : Int32)), (.int (13 : Int32)), (.int (0 : Int32))] (.int (0 : Int32)) := Arv.set Ar33 aq33 aS33 aN33 aH33 aG33 (fits_nar_char _) W34 2 rfl (Nat.le_of_ble_eq_true rfl)
    have f11 : n0 ≤ b28 := f10
    have N34 := Fr.snoc X34 N32 f11
    have Z34 : n0 ≤ h34.size := by rw [W34.size]; exact Z32
    obtain ⟨cl35, Ar35, aq35, aS35, aN35, aH35, aG35⟩ := V_b28_34
    have hin35 : ¬ ((3 : Int32) < 0 ∨ cl35.slots.size ≤ ((3 : Int32)).toNatClampNeg) := inb_of aS35 ⟨by decide, by decide⟩
    obtain ⟨T36, h36, X36, e36, W36, st36⟩ := stC X34 hx hZ e34 Ar35 (j := (3 : Int32)) hin35 (g := (mkF m 68 #[.val (.int p1), .val (.int (p1.toUInt32.toUInt16.toUInt32.toInt32)), .val (.long (4294977024 : Int64)), .second, .val (.int (0 : Int32)), .val (.int (1 : Int32)), .unset, .unset] [(.int (10 : Int32)), (.int (3 : Int32)), (.ref b28), (.ref b28)])) rfl rfl (hb hby at_68)
    have V_b28_36 : Arv Z h36 b28 k28 .char (4 : Int32) [(.int (32 : Int32)), (.int (9 : Int32)), (.int (13 : Int32)), (.int (10 : Int32))] (.int (0 : Int32)) := Arv.set Ar35 aq35 aS35 aN35 aH35 aG35 (fits_nar_char _) W36 3 rfl (Nat.le_of_ble_eq_true rfl)
    have f12 : n0 ≤ b28 := f11
    have N36 := Fr.snoc X36 N34 f12
    have Z36 : n0 ≤ h36.size := by rw [W36.size]; exact Z34
    obtain ⟨cl37, Ar37, aq37, aS37, aN37, aH37, aG37⟩ := V_b28_36
    have hin37 : ¬ ((p1 &&& (3 : Int32)) < 0 ∨ cl37.slots.size ≤ ((p1 &&& (3 : Int32))).toNatClampNeg) := inb_of aS37 (own_in p1)
    obtain ⟨_, _, ⟨T38, L38, k38, n38⟩, -, X38, ⟨Lc38, hQ38, l38, y38, z38⟩, st38⟩ := Jvm.LawKit.callS X36 hx (y := (⟨"com/example/principal/principal/io/Xml", "isWhiteSpace", "(C)Z"⟩ : MethodName)) hown (mvT hZ (hw _ (List.mem_of_getElem? (i := 1) rfl))) (mvT hZ (hw _ (List.mem_of_getElem? (i := 2) rfl))) (mvT hZ (hw _ (List.mem_of_getElem? (i := 3) rfl))) (mvT hZ (hw _ (List.mem_of_getElem? (i := 4) rfl))) (by decide) (backOf (W := 0) (rm1 l Z a0 hw [] (own_ws (p1 &&& (3 : Int32))) h36 n0 Z36 ) hZ (hw _ (List.mem_of_getElem? (i := 4) rfl)) (hw _ (List.mem_of_getElem? (i := 3) rfl)) (by decide) (by decide)) (g := (mkF m 77 #[.val (.int p1), .val (.int (p1.toUInt32.toUInt16.toUInt32.toInt32)), .val (.long (4294977024 : Int64)), .second, .val (.int (0 : Int32)), .val (.int (1 : Int32)), .val (.ref b28), .unset] [(.int (own_ws (p1 &&& (3 : Int32))))])) rfl (by rw [hml]; rfl) (argsL := [(.int (own_ws (p1 &&& (3 : Int32))))]) (rest := []) (lenOf pd__C_Z_238 rfl) rfl (by show 2 * 0 + _ ≤ _; exact Nat.le_of_eq rfl) (hb hby at_77) (fun _ _ => ⟨rfl, e36, (by decide : 1 + 0 ≤ _), (by decide : 4 + 0 ≤ _)⟩)
    dsimp only [Pt.U, Pt.locs, Pt.cells, Pt.slots] at X38 l38 y38 z38 st38 hQ38
    subst l38 y38 z38
    obtain ⟨rfl, N38q, e38⟩ := hQ38
    have N38 := Fr.app N36 N38q
    obtain ⟨fs, hr, hrun, hended, hW, hsame⟩ := X38.leave (v := some (.int (1 : Int32))) (fun h => by rw [Bd.returns] at h; cases h)
    refine ⟨_, _, pre_1 _ ?_, hrun, hended, _, _, rfl, ?_, ⟨_, rfl⟩, hW, hsame.mono (by decide) (by decide)⟩
    · show Steps p.tables e below (s₁.setTop (mkF m 10 #[.val (.int p1), .val (.int (p1.toUInt32.toUInt16.toUInt32.toInt32)), .val (.long (4294977024 : Int64)), .second, .unset, .unset, .unset, .unset] [(.int (64 : Int32)), (.int (p1.toUInt32.toUInt16.toUInt32.toInt32))])) _
      refine XS.icmpYes X0.here hx rfl (pc0 := 10) (pc' := 27) rfl (hb hby at_10) rfl (flt hc10).2.1 (by decide) (by decide) ?_
      show Steps p.tables e below (s₁.setTop (mkF m 27 #[.val (.int p1), .val (.int (p1.toUInt32.toUInt16.toUInt32.toInt32)), .val (.long (4294977024 : Int64)), .second, .unset, .unset, .unset, .unset] [])) _
      refine XS.iconst X0.here hx rfl (hb hby at_27) ?_
      show Steps p.tables e below (s₁.setTop (mkF m 28 #[.val (.int p1), .val (.int (p1.toUInt32.toUInt16.toUInt32.toInt32)), .val (.long (4294977024 : Int64)), .second, .unset, .unset, .unset, .unset] [(.int (0 : Int32))])) _
      refine XS.istore X0.here hx rfl (hb hby at_28) rfl (l' := #[.val (.int p1), .val (.int (p1.toUInt32.toUInt16.toUInt32.toInt32)), .val (.long (4294977024 : Int64)), .second, .val (.int (0 : Int32)), .unset, .unset, .unset]) rfl ?_
      show Steps p.tables e below (s₁.setTop (mkF m 30 #[.val (.int p1), .val (.int (p1.toUInt32.toUInt16.toUInt32.toInt32)), .val (.long (4294977024 : Int64)), .second, .val (.int (0 : Int32)), .unset, .unset, .unset] [])) _
      refine XS.iloadN X0.here hx rfl (hb hby at_30) rfl ?_
      show Steps p.tables e below (s₁.setTop (mkF m 31 #[.val (.int p1), .val (.int (p1.toUInt32.toUInt16.toUInt32.toInt32)), .val (.long (4294977024 : Int64)), .second, .val (.int (0 : Int32)), .unset, .unset, .unset] [(.int (p1.toUInt32.toUInt16.toUInt32.toInt32))])) _
      refine st27 _ ?_
      show Steps p.tables e below (T27.setTop (mkF m 34 #[.val (.int p1), .val (.int (p1.toUInt32.toUInt16.toUInt32.toInt32)), .val (.long (4294977024 : Int64)), .second, .val (.int (0 : Int32)), .unset, .unset, .unset] [(.int (own_wsp (p1.toUInt32.toUInt16.toUInt32.toInt32)))])) _
      refine XS.iload X27.here hx rfl (hb hby at_34) rfl ?_
      show Steps p.tables e below (T27.setTop (mkF m 36 #[.val (.int p1), .val (.int (p1.toUInt32.toUInt16.toUInt32.toInt32)), .val (.long (4294977024 : Int64)), .second, .val (.int (0 : Int32)), .unset, .unset, .unset] [(.int (0 : Int32)), (.int (own_wsp (p1.toUInt32.toUInt16.toUInt32.toInt32)))])) _
      refine XS.icmpNo X27.here hx rfl (hb hby at_36) rfl (teq (own_hi p1 hc10)).2 ?_
      show Steps p.tables e below (T27.setTop (mkF m 39 #[.val (.int p1), .val (.int (p1.toUInt32.toUInt16.toUInt32.toInt32)), .val (.long (4294977024 : Int64)), .second, .val (.int (0 : Int32)), .unset, .unset, .unset] [])) _
      refine XS.iconst X27.here hx rfl (hb hby at_39) ?_
      show Steps p.tables e below (T27.setTop (mkF m 40 #[.val (.int p1), .val (.int (p1.toUInt32.toUInt16.toUInt32.toInt32)), .val (.long (4294977024 : Int64)), .second, .val (.int (0 : Int32)), .unset, .unset, .unset] [(.int (1 : Int32))])) _
      refine XS.goto X27.here hx rfl (pc0 := 40) (pc' := 44) rfl (hb hby at_40) (by decide) (by decide) ?_
      show Steps p.tables e below (T27.setTop (mkF m 44 #[.val (.int p1), .val (.int (p1.toUInt32.toUInt16.toUInt32.toInt32)), .val (.long (4294977024 : Int64)), .second, .val (.int (0 : Int32)), .unset, .unset, .unset] [(.int (1 : Int32))])) _
      refine XS.istore X27.here hx rfl (hb hby at_44) rfl (l' := #[.val (.int p1), .val (.int (p1.toUInt32.toUInt16.toUInt32.toInt32)), .val (.long (4294977024 : Int64)), .second, .val (.int (0 : Int32)), .val (.int (1 : Int32)), .unset, .unset]) rfl ?_
      show Steps p.tables e below (T27.setTop (mkF m 46 #[.val (.int p1), .val (.int (p1.toUInt32.toUInt16.toUInt32.toInt32)), .val (.long (4294977024 : Int64)), .second, .val (.int (0 : Int32)), .val (.int (1 : Int32)), .unset, .unset] [])) _
      refine XS.iconst X27.here hx rfl (hb hby at_46) ?_
      show Steps p.tables e below (T27.setTop (mkF m 47 #[.val (.int p1), .val (.int (p1.toUInt32.toUInt16.toUInt32.toInt32)), .val (.long (4294977024 : Int64)), .second, .val (.int (0 : Int32)), .val (.int (1 : Int32)), .unset, .unset] [(.int (4 : Int32))])) _
      refine st28 _ ?_
      show Steps p.tables e below (T28.setTop (mkF m 49 #[.val (.int p1), .val (.int (p1.toUInt32.toUInt16.toUInt32.toInt32)), .val (.long (4294977024 : Int64)), .second, .val (.int (0 : Int32)), .val (.int (1 : Int32)), .unset, .unset] [(.ref b28)])) _
      refine XS.dup X28.here hx rfl (hb hby at_49) rfl rfl ?_
      show Steps p.tables e below (T28.setTop (mkF m 50 #[.val (.int p1), .val (.int (p1.toUInt32.toUInt16.toUInt32.toInt32)), .val (.long (4294977024 : Int64)), .second, .val (.int (0 : Int32)), .val (.int (1 : Int32)), .unset, .unset] [(.ref b28), (.ref b28)])) _
      refine XS.iconst X28.here hx rfl (hb hby at_50) ?_
      show Steps p.tables e below (T28.setTop (mkF m 51 #[.val (.int p1), .val (.int (p1.toUInt32.toUInt16.toUInt32.toInt32)), .val (.long (4294977024 : Int64)), .second, .val (.int (0 : Int32)), .val (.int (1 : Int32)), .unset, .unset] [(.int (0 : Int32)), (.ref b28), (.ref b28)])) _
      refine XS.bipush X28.here hx rfl (hb hby at_51) ?_
      show Steps p.tables e below (T28.setTop (mkF m 53 #[.val (.int p1), .val (.int (p1.toUInt32.toUInt16.toUInt32.toInt32)), .val (.long (4294977024 : Int64)), .second, .val (.int (0 : Int32)), .val (.int (1 : Int32)), .unset, .unset] [(.int (32 : Int32)), (.int (0 : Int32)), (.ref b28), (.ref b28)])) _
      refine st30 _ ?_
      show Steps p.tables e below (T30.setTop (mkF m 54 #[.val (.int p1), .val (.int (p1.toUInt32.toUInt16.toUInt32.toInt32)), .val (.long (4294977024 : Int64)), .second, .val (.int (0 : Int32)), .val (.int (1 : Int32)), .unset, .unset] [(.ref b28)])) _
      refine XS.dup X30.here hx rfl (hb hby at_54) rfl rfl ?_
      show Steps p.tables e below (T30.setTop (mkF m 55 #[.val (.int p1), .val (.int (p1.toUInt32.toUInt16.toUInt32.toInt32)), .val (.long (4294977024 : Int64)), .second, .val (.int (0 : Int32)), .val (.int (1 : Int32)), .unset, .unset] [(.ref b28), (.ref b28)])) _
      refine XS.iconst X30.here hx rfl (hb hby at_55) ?_
      show Steps p.tables e below (T30.setTop (mkF m 56 #[.val (.int p1), .val (.int (p1.toUInt32.toUInt16.toUInt32.toInt32)), .val (.long (4294977024 : Int64)), .second, .val (.int (0 : Int32)), .val (.int (1 : Int32)), .unset, .unset] [(.int (1 : Int32)), (.ref b28), (.ref b28)])) _
      refine XS.bipush X30.here hx rfl (hb hby at_56) ?_
      show Steps p.tables e below (T30.setTop (mkF m 58 #[.val (.int p1), .val (.int (p1.toUInt32.toUInt16.toUInt32.toInt32)), .val (.long (4294977024 : Int64)), .second, .val (.int (0 : Int32)), .val (.int (1 : Int32)), .unset, .unset] [(.int (9 : Int32)), (.int (1 : Int32)), (.ref b28), (.ref b28)])) _
      refine st32 _ ?_
      show Steps p.tables e below (T32.setTop (mkF m 59 #[.val (.int p1), .val (.int (p1.toUInt32.toUInt16.toUInt32.toInt32)), .val (.long (4294977024 : Int64)), .second, .val (.int (0 : Int32)), .val (.int (1 : Int32)), .unset, .unset] [(.ref b28)])) _
      refine XS.dup X32.here hx rfl (hb hby at_59) rfl rfl ?_
      show Steps p.tables e below (T32.setTop (mkF m 60 #[.val (.int p1), .val (.int (p1.toUInt32.toUInt16.toUInt32.toInt32)), .val (.long (4294977024 : Int64)), .second, .val (.int (0 : Int32)), .val (.int (1 : Int32)), .unset, .unset] [(.ref b28), (.ref b28)])) _
      refine XS.iconst X32.here hx rfl (hb hby at_60) ?_
      show Steps p.tables e below (T32.setTop (mkF m 61 #[.val (.int p1), .val (.int (p1.toUInt32.toUInt16.toUInt32.toInt32)), .val (.long (4294977024 : Int64)), .second, .val (.int (0 : Int32)), .val (.int (1 : Int32)), .unset, .unset] [(.int (2 : Int32)), (.ref b28), (.ref b28)])) _
      refine XS.bipush X32.here hx rfl (hb hby at_61) ?_
      show Steps p.tables e below (T32.setTop (mkF m 63 #[.val (.int p1), .val (.int (p1.toUInt32.toUInt16.toUInt32.toInt32)), .val (.long (4294977024 : Int64)), .second, .val (.int (0 : Int32)), .val (.int (1 : Int32)), .unset, .unset] [(.int (13 : Int32)), (.int (2 : Int32)), (.ref b28), (.ref b28)])) _
      refine st34 _ ?_
      show Steps p.tables e below (T34.setTop (mkF m 64 #[.val (.int p1), .val (.int (p1.toUInt32.toUInt16.toUInt32.toInt32)), .val (.long (4294977024 : Int64)), .second, .val (.int (0 : Int32)), .val (.int (1 : Int32)), .unset, .unset] [(.ref b28)])) _
      refine XS.dup X34.here hx rfl (hb hby at_64) rfl rfl ?_
      show Steps p.tables e below (T34.setTop (mkF m 65 #[.val (.int p1), .val (.int (p1.toUInt32.toUInt16.toUInt32.toInt32)), .val (.long (4294977024 : Int64)), .second, .val (.int (0 : Int32)), .val (.int (1 : Int32)), .unset, .unset] [(.ref b28), (.ref b28)])) _
      refine XS.iconst X34.here hx rfl (hb hby at_65) ?_
      show Steps p.tables e below (T34.setTop (mkF m 66 #[.val (.int p1), .val (.int (p1.toUInt32.toUInt16.toUInt32.toInt32)), .val (.long (4294977024 : Int64)), .second, .val (.int (0 : Int32)), .val (.int (1 : Int32)), .unset, .unset] [(.int (3 : Int32)), (.ref b28), (.ref b28)])) _
      refine XS.bipush X34.here hx rfl (hb hby at_66) ?_
      show Steps p.tables e below (T34.setTop (mkF m 68 #[.val (.int p1), .val (.int (p1.toUInt32.toUInt16.toUInt32.toInt32)), .val (.long (4294977024 : Int64)), .second, .val (.int (0 : Int32)), .val (.int (1 : Int32)), .unset, .unset] [(.int (10 : Int32)), (.int (3 : Int32)), (.ref b28), (.ref b28)])) _
      refine st36 _ ?_
      show Steps p.tables e below (T36.setTop (mkF m 69 #[.val (.int p1), .val (.int (p1.toUInt32.toUInt16.toUInt32.toInt32)), .val (.long (4294977024 : Int64)), .second, .val (.int (0 : Int32)), .val (.int (1 : Int32)), .unset, .unset] [(.ref b28)])) _
      refine XS.astore X36.here hx rfl (hb hby at_69) rfl rfl (l' := #[.val (.int p1), .val (.int (p1.toUInt32.toUInt16.toUInt32.toInt32)), .val (.long (4294977024 : Int64)), .second, .val (.int (0 : Int32)), .val (.int (1 : Int32)), .val (.ref b28), .unset]) rfl ?_
      show Steps p.tables e below (T36.setTop (mkF m 71 #[.val (.int p1), .val (.int (p1.toUInt32.toUInt16.toUInt32.toInt32)), .val (.long (4294977024 : Int64)), .second, .val (.int (0 : Int32)), .val (.int (1 : Int32)), .val (.ref b28), .unset] [])) _
      refine XS.aload X36.here hx rfl (hb hby at_71) rfl rfl ?_
      show Steps p.tables e below (T36.setTop (mkF m 73 #[.val (.int p1), .val (.int (p1.toUInt32.toUInt16.toUInt32.toInt32)), .val (.long (4294977024 : Int64)), .second, .val (.int (0 : Int32)), .val (.int (1 : Int32)), .val (.ref b28), .unset] [(.ref b28)])) _
      refine XS.iloadN X36.here hx rfl (hb hby at_73) rfl ?_
      show Steps p.tables e below (T36.setTop (mkF m 74 #[.val (.int p1), .val (.int (p1.toUInt32.toUInt16.toUInt32.toInt32)), .val (.long (4294977024 : Int64)), .second, .val (.int (0 : Int32)), .val (.int (1 : Int32)), .val (.ref b28), .unset] [(.int p1), (.ref b28)])) _
      refine XS.iconst X36.here hx rfl (hb hby at_74) ?_
      show Steps p.tables e below (T36.setTop (mkF m 75 #[.val (.int p1), .val (.int (p1.toUInt32.toUInt16.toUInt32.toInt32)), .val (.long (4294977024 : Int64)), .second, .val (.int (0 : Int32)), .val (.int (1 : Int32)), .val (.ref b28), .unset] [(.int (3 : Int32)), (.int p1), (.ref b28)])) _
      refine XS.iand X36.here hx rfl (hb hby at_75) rfl ?_
      show Steps p.tables e below (T36.setTop (mkF m 76 #[.val (.int p1), .val (.int (p1.toUInt32.toUInt16.toUInt32.toInt32)), .val (.long (4294977024 : Int64)), .second, .val (.int (0 : Int32)), .val (.int (1 : Int32)), .val (.ref b28), .unset] [(.int (p1 &&& (3 : Int32))), (.ref b28)])) _
      refine X36.caload hx (j := (p1 &&& (3 : Int32))) (v := (.int (own_ws (p1 &&& (3 : Int32))))) (by rw [e36]; exact Ar37.1) (State.isArrayOf_alike hZ.alike Ar37.2.1) Ar37.2.2 hin37 (Has.at aH37 hin37 (own_at p1)) (g := (mkF m 76 #[.val (.int p1), .val (.int (p1.toUInt32.toUInt16.toUInt32.toInt32)), .val (.long (4294977024 : Int64)), .second, .val (.int (0 : Int32)), .val (.int (1 : Int32)), .val (.ref b28), .unset] [(.int (p1 &&& (3 : Int32))), (.ref b28)])) rfl rfl (hb hby at_76) _ ?_
      show Steps p.tables e below (T36.setTop (mkF m 77 #[.val (.int p1), .val (.int (p1.toUInt32.toUInt16.toUInt32.toInt32)), .val (.long (4294977024 : Int64)), .second, .val (.int (0 : Int32)), .val (.int (1 : Int32)), .val (.ref b28), .unset] [(.int (own_ws (p1 &&& (3 : Int32))))])) _
      refine st38 _ ?_
      show Steps p.tables e below (T38.setTop (mkF m 80 #[.val (.int p1), .val (.int (p1.toUInt32.toUInt16.toUInt32.toInt32)), .val (.long (4294977024 : Int64)), .second, .val (.int (0 : Int32)), .val (.int (1 : Int32)), .val (.ref b28), .unset] [(.int (own_wsp (own_ws (p1 &&& (3 : Int32)))))])) _
      refine XS.istore X38.here hx rfl (hb hby at_80) rfl (l' := #[.val (.int p1), .val (.int (p1.toUInt32.toUInt16.toUInt32.toInt32)), .val (.long (4294977024 : Int64)), .second, .val (.int (0 : Int32)), .val (.int (1 : Int32)), .val (.ref b28), .val (.int (own_wsp (own_ws (p1 &&& (3 : Int32)))))]) rfl ?_
      show Steps p.tables e below (T38.setTop (mkF m 82 #[.val (.int p1), .val (.int (p1.toUInt32.toUInt16.toUInt32.toInt32)), .val (.long (4294977024 : Int64)), .second, .val (.int (0 : Int32)), .val (.int (1 : Int32)), .val (.ref b28), .val (.int (own_wsp (own_ws (p1 &&& (3 : Int32)))))] [])) _
      refine XS.iload X38.here hx rfl (hb hby at_82) rfl ?_
      show Steps p.tables e below (T38.setTop (mkF m 84 #[.val (.int p1), .val (.int (p1.toUInt32.toUInt16.toUInt32.toInt32)), .val (.long (4294977024 : Int64)), .second, .val (.int (0 : Int32)), .val (.int (1 : Int32)), .val (.ref b28), .val (.int (own_wsp (own_ws (p1 &&& (3 : Int32)))))] [(.int (1 : Int32))])) _
      refine XS.ifNo X38.here hx rfl (hb hby at_84) rfl ((if0 _ _).trans (feq (by decide : ¬ ((1 : Int32) = (0 : Int32)))).1) ?_
      show Steps p.tables e below (T38.setTop (mkF m 87 #[.val (.int p1), .val (.int (p1.toUInt32.toUInt16.toUInt32.toInt32)), .val (.long (4294977024 : Int64)), .second, .val (.int (0 : Int32)), .val (.int (1 : Int32)), .val (.ref b28), .val (.int (own_wsp (own_ws (p1 &&& (3 : Int32)))))] [])) _
      refine XS.iload X38.here hx rfl (hb hby at_87) rfl ?_
      show Steps p.tables e below (T38.setTop (mkF m 89 #[.val (.int p1), .val (.int (p1.toUInt32.toUInt16.toUInt32.toInt32)), .val (.long (4294977024 : Int64)), .second, .val (.int (0 : Int32)), .val (.int (1 : Int32)), .val (.ref b28), .val (.int (own_wsp (own_ws (p1 &&& (3 : Int32)))))] [(.int (own_wsp (own_ws (p1 &&& (3 : Int32)))))])) _
      refine XS.ifNo X38.here hx rfl (hb hby at_89) rfl ((if0 _ _).trans (feq (by rw [own_ok]; decide)).1) ?_
      show Steps p.tables e below (T38.setTop (mkF m 92 #[.val (.int p1), .val (.int (p1.toUInt32.toUInt16.toUInt32.toInt32)), .val (.long (4294977024 : Int64)), .second, .val (.int (0 : Int32)), .val (.int (1 : Int32)), .val (.ref b28), .val (.int (own_wsp (own_ws (p1 &&& (3 : Int32)))))] [])) _
      refine XS.iconst X38.here hx rfl (hb hby at_92) ?_
      show Steps p.tables e below (T38.setTop (mkF m 93 #[.val (.int p1), .val (.int (p1.toUInt32.toUInt16.toUInt32.toInt32)), .val (.long (4294977024 : Int64)), .second, .val (.int (0 : Int32)), .val (.int (1 : Int32)), .val (.ref b28), .val (.int (own_wsp (own_ws (p1 &&& (3 : Int32)))))] [(.int (1 : Int32))])) _
      refine XS.goto X38.here hx rfl (pc0 := 93) (pc' := 97) rfl (hb hby at_93) (by decide) (by decide) ?_
      show Steps p.tables e below (T38.setTop (mkF m 97 #[.val (.int p1), .val (.int (p1.toUInt32.toUInt16.toUInt32.toInt32)), .val (.long (4294977024 : Int64)), .second, .val (.int (0 : Int32)), .val (.int (1 : Int32)), .val (.ref b28), .val (.int (own_wsp (own_ws (p1 &&& (3 : Int32)))))] [(.int (1 : Int32))])) _
      exact retN X38 hx (t := .boolean) Bd.returns (by simp) (hb hby at_97) hr
    · show Q_rm0 Z p1 h0 n0 _ T38.heap _
      rw [e38]
      exact ⟨rfl, N38⟩
set_option maxRecDepth 65536 in
set_option maxHeartbeats 40000000 in
theorem comes_1 {Post : Tables → Env → Array Value → State → Outcome → State → Prop} (hpost : ∀ tb e args s v u, (limb_1_1.after args s (.returned v) u = true ∧ limb_1_2.after args s (.returned v) u = true ∧ True) → FrameEnd s (.returned v) u (Jvm.fieldLocs frame_1_writes args s ++ Jvm.arrayLocs frame_1_arrays args s ++ Jvm.staticLocs frame_1_statics s) 16 128 → Post tb e args s (.returned v) u) :
    ArmFor flags0 classFile x code maxLocals ret World_1 tables_1 room_1 Calls_1 rest_1 Pre_1 Post := by
  intro l hfl _ _ p e ha hc hk s m args below hf hA hF happ hP
  obtain ⟨hcalls, hrest, hpre⟩ := hP
  obtain ⟨-, -, -, hnamed, -, -, -, hat⟩ := (Spec.applies_iff hf).mp happ
  obtain ⟨hg, hn⟩ := and_e (Cond.before_iff.mp (show (Jvm.Cond.and given_1 narrow_1).before args s = true from hpre))
  obtain ⟨hcount, hga0⟩ := and_e hg
  have hi0 := hga0
  obtain ⟨w0, rfl⟩ : ∃ w0 : Value, args = #[w0] := by
    have hs : args.size = 1 := by simpa [Cond.value, given_1] using hcount
    obtain ⟨L⟩ := args
    match L, hs with
    | [w0], _ => exact ⟨w0, rfl⟩
  have hw := fun d (hd : d ∈ tables_1) => atoms_spec (ws := Jvm.Cond.code x code maxLocals ret :: tables_1) hat d (List.mem_cons_of_mem _ hd)
  obtain ⟨i0, ei0⟩ := is_v hi0
  obtain rfl : w0 = (.int i0) := Option.some.inj ei0
  obtain ⟨n, o, h1, h2, h3, _, L, rfl, ⟨rfl, N⟩, hq⟩ := rm0 l s _ hw tables_1 i0  s.heap s.heap.size (Nat.le_refl _)  p e ha hc hk s m _ below hf ((Spec.applies_iff_loose hf).mp happ).1 ⟨rfl, State.Warmed39.refl s, rfl⟩ trivial
  refine ⟨n, _, h1, h2, h3, hpost _ _ _ _ _ _ ⟨Cond.after_iff.mpr rfl, Cond.after_iff.mpr (eq_i res_at (Term.int_eval (1)) rfl), trivial⟩ ⟨hq.1, hq.2.1, (hq.2.2.sift fun y hy => Or.inr (N y hy)).mono (by decide) (by decide)⟩⟩
theorem main_1_1 : Claimed_1_1 := comes_1 fun _ _ _ _ _ _ h hF => ⟨h.1, hF⟩
theorem main_1_2 : Claimed_1_2 := comes_1 fun _ _ _ _ _ _ h hF => ⟨h.2.1, hF⟩
end Jvm.Pilot.@@N@@
namespace Jvm.Pilot.@@N@@
open Jvm Jvm.ClassFile Sem Op Lib Jvm.Free Jvm.Stand Jvm.Pilot.@@N@@.Jvm.D
/-! MADE BY PROGRAM (witnessworld.py) out of the Statement's table words and the real class files: 11 classes; the members and pool entries that the words name. The judged class is class 1, her method 1. -/
namespace start1
open Jvm.ClassFile
def u (s : String) : CpInfo := .utf8 (stringToUtf16 s)
/-- a pool by its gaps: so many unusable entries, then the entry; so many at the end -/
def gap : Nat → List CpInfo → List CpInfo
  | 0, r => r
  | n + 1, r => .unusable :: gap n r
def poolList (es : List (Nat × CpInfo)) (last : Nat) : List CpInfo := es.foldr (fun e r => gap e.1 (e.2 :: r)) (gap last [])
def pool (es : List (Nat × CpInfo)) (last : Nat) : Array CpInfo := ⟨poolList es last⟩
def fileOf (pool : Array CpInfo) (this : Nat) (attrs : Array Attribute := #[]) (ms : Array MethodInfo := #[]) (fl : Nat := 33) (sup : Nat := 0) (ifs : Array Nat := #[]) (fds : Array FieldInfo := #[]) : ClassFile where
  minorVersion := 0
  majorVersion := 65
  constantPool := pool
  accessFlags := fl
  thisClass := this
  superClass := sup
  interfaces := ifs
  fields := fds
  methods := ms
  attributes := attrs
def plain (name : String) (sup : Option ClassId) : Class where
  name := name
  kind := .ordinary
  loader := none
  accessFlags := 33
  super := sup
  interfaces := #[]
  cf := none
  fields := #[]
  methods := #[]
  instanceTypes := #[]
  staticTypes := #[]
  resolved := #[]
  callSites := []
  init := .initialized
  statics := none
  mirror := none

def pool0 : Array CpInfo := pool [(5, u "<init>"), (0, u "()V"), (1, .class_ 10), (1, u "java/lang/Object")] 113

def k0m0 : Method := { name := "<init>", desc := "()V", sig := { parameters := [], returnType := none }, accessFlags := 1, code := none }
/-- java/lang/Object -/
def k0 : Class := { plain "java/lang/Object" none with
  accessFlags := 33
  interfaces := #[]
  cf := some (fileOf pool0 8 #[] #[{ accessFlags := 1, nameIndex := 5, descriptorIndex := 6, attributes := #[] }] 33 0 #[] #[])
  fields := #[]
  methods := #[k0m0]
  instanceTypes := #[]
  staticTypes := #[]
  resolved := Array.replicate 124 none
  statics := none }

def pool1 : Array CpInfo := pool [(2, .class_ 4), (1, u "java/lang/Object"), (0, u "<init>"), (0, u "()V"), (0, .long 4294977024), (1, .methodref 10 11), (0, .class_ 12), (0, .nameAndType 13 14), (0, u "com/example/principal/principal/io/Xml"), (0, u "isWhiteSpace"), (0, u "(C)Z"), (0, .class_ 16), (0, u "com/example/principal/principal/io/XmlIsWhiteSpacePinLaw"), (2, u "law"), (0, u "(I)Z")] 5

def k1m0 : Method := { name := "<init>", desc := "()V", sig := { parameters := [], returnType := none }, accessFlags := 2, code := none }
def k1c1 : Code := { maxStack := 4, maxLocals := 8, code := code, exceptionTable := #[], attributes := #[] }
def k1m1 : Method := { name := "law", desc := "(I)Z", sig := { parameters := [.int], returnType := some .boolean }, accessFlags := 9, code := some k1c1 }
/-- com/example/principal/principal/io/XmlIsWhiteSpacePinLaw -/
def k1 : Class := { plain "com/example/principal/principal/io/XmlIsWhiteSpacePinLaw" (some 0) with
  accessFlags := 49
  interfaces := #[]
  cf := some (fileOf pool1 15 #[] #[{ accessFlags := 2, nameIndex := 5, descriptorIndex := 6, attributes := #[] }, { accessFlags := 9, nameIndex := 19, descriptorIndex := 20, attributes := #[] }] 49 2 #[] #[])
  fields := #[]
  methods := #[k1m0, k1m1]
  instanceTypes := #[]
  staticTypes := #[]
  resolved := Array.replicate 26 none
  statics := none }

def pool2 : Array CpInfo := pool [(1, .class_ 2), (0, u "com/example/principal/principal/io/Xml"), (1, .class_ 6), (1, u "java/lang/Object"), (0, u "<init>"), (0, u "()V"), (2, u "BUILDERS"), (0, u "Ljava/lang/ThreadLocal;"), (59, u "BLANK"), (100, .class_ 174), (0, u "com/example/principal/principal/io/Xml$Tally"), (18, .class_ 194), (0, u "com/example/principal/principal/io/Xml$Tally$Feed"), (22, u "J"), (66, u "SERIALIZER"), (24, .class_ 310), (0, u "com/example/principal/principal/io/Xml$2"), (46, u "isWhiteSpace"), (0, u "(C)Z"), (52, u "FAIL_ON_ERROR"), (0, u "Lorg/xml/sax/ErrorHandler;"), (22, u "CONFINED"), (0, u "Ljava/util/Map;"), (36, u "BOUNDED"), (20, u "COUNTERS"), (89, .class_ 585), (0, u "com/example/principal/principal/io/Xml$1"), (1, u "MAX_DEPTH"), (0, u "I"), (2, u "MAX_NODES"), (6, u "PREFIXES_ONLY"), (0, u "Ljava/lang/String;"), (2, u "MISSING_FEATURE"), (0, u "LEXICAL_HANDLER"), (0, u "DEFERRED_NODES"), (0, u "NODE_BYTES"), (0, u "CHAR_BYTES"), (0, u "NAME_BYTES"), (2, u "NAME_CHAR_BYTES"), (0, u "RUN_BYTES"), (0, u "FREE_RUN"), (1, u "SHORT_RUNS"), (0, u "FEED_BYTES")] 97

def k2m0 : Method := { name := "<init>", desc := "()V", sig := { parameters := [], returnType := none }, accessFlags := 2, code := none }
def k2c1 : Code := { maxStack := 2, maxLocals := 1, code := prog_57_method_21_code, exceptionTable := #[], attributes := #[] }
def k2m1 : Method := { name := "isWhiteSpace", desc := "(C)Z", sig := { parameters := [.char], returnType := some .boolean }, accessFlags := 9, code := some k2c1 }
/-- com/example/principal/principal/io/Xml -/
def k2 : Class := { plain "com/example/principal/principal/io/Xml" (some 0) with
  accessFlags := 33
  interfaces := #[]
  cf := some (fileOf pool2 1 #[.nestMembers #[173, 193, 309, 584]] #[{ accessFlags := 2, nameIndex := 7, descriptorIndex := 8, attributes := #[] }, { accessFlags := 9, nameIndex := 357, descriptorIndex := 358, attributes := #[] }] 33 4 #[] #[{ accessFlags := 25, nameIndex := 587, descriptorIndex := 588, attributes := #[] }, { accessFlags := 25, nameIndex := 591, descriptorIndex := 588, attributes := #[] }, { accessFlags := 26, nameIndex := 11, descriptorIndex := 12, attributes := #[] }, { accessFlags := 26, nameIndex := 494, descriptorIndex := 12, attributes := #[] }, { accessFlags := 26, nameIndex := 72, descriptorIndex := 12, attributes := #[] }, { accessFlags := 26, nameIndex := 284, descriptorIndex := 12, attributes := #[] }, { accessFlags := 26, nameIndex := 598, descriptorIndex := 599, attributes := #[] }, { accessFlags := 26, nameIndex := 602, descriptorIndex := 599, attributes := #[] }, { accessFlags := 26, nameIndex := 603, descriptorIndex := 599, attributes := #[] }, { accessFlags := 26, nameIndex := 604, descriptorIndex := 599, attributes := #[] }, { accessFlags := 26, nameIndex := 605, descriptorIndex := 217, attributes := #[] }, { accessFlags := 25, nameIndex := 606, descriptorIndex := 217, attributes := #[] }, { accessFlags := 26, nameIndex := 607, descriptorIndex := 217, attributes := #[] }, { accessFlags := 26, nameIndex := 610, descriptorIndex := 217, attributes := #[] }, { accessFlags := 26, nameIndex := 611, descriptorIndex := 217, attributes := #[] }, { accessFlags := 26, nameIndex := 612, descriptorIndex := 588, attributes := #[] }, { accessFlags := 26, nameIndex := 614, descriptorIndex := 588, attributes := #[] }, { accessFlags := 26, nameIndex := 615, descriptorIndex := 588, attributes := #[] }, { accessFlags := 26, nameIndex := 435, descriptorIndex := 436, attributes := #[] }, { accessFlags := 26, nameIndex := 473, descriptorIndex := 436, attributes := #[] }, { accessFlags := 26, nameIndex := 411, descriptorIndex := 412, attributes := #[] }])
  fields := #[{ name := "MAX_DEPTH", type := .int, accessFlags := 25, slot := 0, constantValue := 0 }, { name := "MAX_NODES", type := .int, accessFlags := 25, slot := 1, constantValue := 0 }, { name := "BUILDERS", type := (.object "java/lang/ThreadLocal"), accessFlags := 26, slot := 2, constantValue := 0 }, { name := "COUNTERS", type := (.object "java/lang/ThreadLocal"), accessFlags := 26, slot := 3, constantValue := 0 }, { name := "BLANK", type := (.object "java/lang/ThreadLocal"), accessFlags := 26, slot := 4, constantValue := 0 }, { name := "SERIALIZER", type := (.object "java/lang/ThreadLocal"), accessFlags := 26, slot := 5, constantValue := 0 }, { name := "PREFIXES_ONLY", type := (.object "java/lang/String"), accessFlags := 26, slot := 6, constantValue := 0 }, { name := "MISSING_FEATURE", type := (.object "java/lang/String"), accessFlags := 26, slot := 7, constantValue := 0 }, { name := "LEXICAL_HANDLER", type := (.object "java/lang/String"), accessFlags := 26, slot := 8, constantValue := 0 }, { name := "DEFERRED_NODES", type := (.object "java/lang/String"), accessFlags := 26, slot := 9, constantValue := 0 }, { name := "NODE_BYTES", type := .long, accessFlags := 26, slot := 10, constantValue := 0 }, { name := "CHAR_BYTES", type := .long, accessFlags := 25, slot := 11, constantValue := 0 }, { name := "NAME_BYTES", type := .long, accessFlags := 26, slot := 12, constantValue := 0 }, { name := "NAME_CHAR_BYTES", type := .long, accessFlags := 26, slot := 13, constantValue := 0 }, { name := "RUN_BYTES", type := .long, accessFlags := 26, slot := 14, constantValue := 0 }, { name := "FREE_RUN", type := .int, accessFlags := 26, slot := 15, constantValue := 0 }, { name := "SHORT_RUNS", type := .int, accessFlags := 26, slot := 16, constantValue := 0 }, { name := "FEED_BYTES", type := .int, accessFlags := 26, slot := 17, constantValue := 0 }, { name := "CONFINED", type := (.object "java/util/Map"), accessFlags := 26, slot := 18, constantValue := 0 }, { name := "BOUNDED", type := (.object "java/util/Map"), accessFlags := 26, slot := 19, constantValue := 0 }, { name := "FAIL_ON_ERROR", type := (.object "org/xml/sax/ErrorHandler"), accessFlags := 26, slot := 20, constantValue := 0 }]
  methods := #[k2m0, k2m1]
  instanceTypes := #[]
  staticTypes := #[.int, .int, (.object "java/lang/ThreadLocal"), (.object "java/lang/ThreadLocal"), (.object "java/lang/ThreadLocal"), (.object "java/lang/ThreadLocal"), (.object "java/lang/String"), (.object "java/lang/String"), (.object "java/lang/String"), (.object "java/lang/String"), .long, .long, .long, .long, .long, .int, .int, .int, (.object "java/util/Map"), (.object "java/util/Map"), (.object "org/xml/sax/ErrorHandler")]
  resolved := Array.replicate 713 none
  statics := none }

def pool3 : Array CpInfo := pool [(1, u "java/lang/Cloneable"), (0, .class_ 1), (0, u "java/lang/Object"), (0, .class_ 3)] 3

/-- java/lang/Cloneable -/
def k3 : Class := { plain "java/lang/Cloneable" (some 0) with
  accessFlags := 1537
  interfaces := #[]
  cf := some (fileOf pool3 2 #[] #[] 1537 4 #[] #[])
  fields := #[]
  methods := #[]
  instanceTypes := #[]
  staticTypes := #[]
  resolved := Array.replicate 8 none
  statics := none }

def pool4 : Array CpInfo := pool [(1, u "java/io/Serializable"), (0, .class_ 1), (0, u "java/lang/Object"), (0, .class_ 3)] 3

/-- java/io/Serializable -/
def k4 : Class := { plain "java/io/Serializable" (some 0) with
  accessFlags := 1537
  interfaces := #[]
  cf := some (fileOf pool4 2 #[] #[] 1537 4 #[] #[])
  fields := #[]
  methods := #[]
  instanceTypes := #[]
  staticTypes := #[]
  resolved := Array.replicate 8 none
  statics := none }

/-- the primitive byte -/
def k5 : Class := { plain "byte" none with kind := .primitive 'B', accessFlags := 0x411 }
/-- [B -/
def k6 : Class := { plain "[B" (some 0) with kind := .array 5 .byte, interfaces := #[3, 4], accessFlags := 1041 }

/-- the primitive char -/
def k7 : Class := { plain "char" none with kind := .primitive 'C', accessFlags := 0x411 }
/-- [C -/
def k8 : Class := { plain "[C" (some 0) with kind := .array 7 .char, interfaces := #[3, 4], accessFlags := 1041 }

/-- the primitive int -/
def k9 : Class := { plain "int" none with kind := .primitive 'I', accessFlags := 0x411 }
/-- [I -/
def k10 : Class := { plain "[I" (some 0) with kind := .array 9 .int, interfaces := #[3, 4], accessFlags := 1041 }

def heap : Heap := #[]
def classes : Array Class := #[k0, k1, k2, k3, k4, k5, k6, k7, k8, k9, k10]
def interned : List (Array UInt16 × Addr) := []
def slotsUsed : Nat := 0
def theMethod : MethodId := ⟨1, 1⟩
def args0 : Array Value := #[.int 53]
def aboutOver (below : List Frame) : State where
  vm := { classes := classes, interned := interned.toArray }
  heap := heap
  slotsUsed := slotsUsed
  threads := #[{ frames := .invoking theMethod args0 :: below }]
def below0 : List Frame := [.native { method := ⟨0, 0⟩, args := #[] }]
def about1 : State := aboutOver below0
def p0 : Program := .bare "" "" ""
def e0 : Env := launch0.env 0 0 0
theorem w_frames : about1.frames = Frame.invoking theMethod args0 :: below0 := rfl
set_option maxRecDepth 65536 in
theorem w_args : argsFit about1.vm theMethod args0 = true := by decide +kernel
set_option maxRecDepth 65536 in
theorem w_heap : heapFits about1 = true := by decide +kernel
set_option maxRecDepth 65536 in
theorem w_runnable : about1.curStatus? = some .runnable := by decide +kernel
set_option maxRecDepth 65536 in
theorem w_alone : about1.alone = true := by decide +kernel
set_option maxRecDepth 65536 in
theorem w_named : about1.methodNamed? x = some theMethod := by decide +kernel
set_option maxRecDepth 65536 in
theorem w_hears : about1.hears theMethod below0 = true := by decide +kernel
set_option maxRecDepth 65536 in
theorem w_ripe : about1.ripe theMethod args0 below0 = true := by decide +kernel
theorem w_running : about1.status = .running := rfl
set_option maxRecDepth 65536 in
theorem w_room : about1.hasRoom e0.platform room_1 = true :=
  launch0.hasRoom_least _ room_1 (by decide +kernel) (by decide +kernel) (by decide +kernel) (by decide +kernel) (by decide +kernel) (by decide +kernel)
theorem allAtoms_all (ts : List Jvm.Cond) (a : Array Jvm.Value) (st : Jvm.State) : (allAtoms ts).before a st = ts.all (fun c => c.before a st) := by
  induction ts with
  | nil => rfl
  | cons c t ih =>
    show (Jvm.Cond.and c (allAtoms t)).before a st = _
    rw [Jvm.Cond.before_and, ih, List.all_cons]
def words1 : List Jvm.Cond := Jvm.Cond.code x code maxLocals ret :: tables_1
/-- a 'code' word, met by the world's own term for the bytes: nothing is compared byte by byte -/
theorem code_word {y : MethodName} {bytes : ByteArray} {mx : Nat} {rt : Option FieldType} {a : Array Value} {s : State} {m : MethodId} {meth : Method} {c : Code} (h1 : s.methodNamed? y = some m) (h2 : s.vm.method? m = some meth) (h3 : meth.code = some c) (h4 : c.code = bytes)
    (h5 : (c.maxLocals == mx && c.exceptionTable.isEmpty && decide (c.maxStack ≤ mostOperands) && decide (meth.sig.returnType = rt) && !meth.locks && decide (parseMethodDescriptor y.desc = some meth.sig)) = true) : (Jvm.Cond.code y bytes mx rt).before a s = true := by
  simp only [Bool.and_eq_true, beq_iff_eq, Bool.not_eq_true', decide_eq_true_eq] at h5
  obtain ⟨⟨⟨⟨⟨g1, g2⟩, g3⟩, g4⟩, g5⟩, g6⟩ := h5
  simp [Cond.before, Cond.holds, Cond.value, h1, h2, h3, h4, g1, g2, g3, g4, g5, g6]
def isCode : Jvm.Cond → Bool
  | .code _ _ _ _ => true
  | _ => false
theorem all_split {L : List Jvm.Cond} {P : Jvm.Cond → Bool} (h1 : L.all (fun c => isCode c || P c) = true) (h2 : ∀ c ∈ L.filter isCode, P c = true) : L.all P = true := by
  refine List.all_eq_true.mpr fun c hc => ?_
  have h := List.all_eq_true.mp h1 c hc
  rcases Bool.eq_false_or_eq_true (isCode c) with hi | hi
  · exact h2 c (List.mem_filter.mpr ⟨hc, hi⟩)
  · simpa [hi] using h
set_option maxRecDepth 65536 in
theorem w_c0 : (Jvm.Cond.code x code maxLocals ret).before args0 about1 = true := code_word (m := ⟨1, 1⟩) (meth := k1m1) (c := k1c1) (by decide +kernel) rfl rfl rfl (by decide +kernel)
set_option maxRecDepth 65536 in
theorem w_c1 : (Jvm.Cond.code ({ cls := "com/example/principal/principal/io/Xml", name := "isWhiteSpace", desc := "(C)Z" } : Jvm.MethodName) prog_57_method_21_code (1 : Nat) (Option.some Jvm.ClassFile.FieldType.boolean)).before args0 about1 = true := code_word (m := ⟨2, 1⟩) (meth := k2m1) (c := k2c1) (by decide +kernel) rfl rfl rfl (by decide +kernel)
def codes1 : List Jvm.Cond := [Jvm.Cond.code x code maxLocals ret, Jvm.Cond.code ({ cls := "com/example/principal/principal/io/Xml", name := "isWhiteSpace", desc := "(C)Z" } : Jvm.MethodName) prog_57_method_21_code (1 : Nat) (Option.some Jvm.ClassFile.FieldType.boolean)]
set_option maxRecDepth 65536 in
theorem codes_eq : words1.filter isCode = codes1 := rfl
theorem w_codes : ∀ c ∈ words1.filter isCode, c.before args0 about1 = true := by
  rw [codes_eq]
  intro c hc
  simp only [codes1, List.mem_cons, List.not_mem_nil, or_false] at hc
  rcases hc with rfl | rfl
  · exact w_c0
  · exact w_c1
set_option maxRecDepth 65536 in
theorem w_t1 : words1.all (fun c => isCode c || c.before args0 about1) = true := by decide +kernel
theorem w_tables : (allAtoms (Jvm.Cond.code x code maxLocals ret :: tables_1)).before args0 about1 = true := by
  rw [allAtoms_all]
  show words1.all (fun c => c.before args0 about1) = true
  refine all_split ?_ w_codes
  rw [w_t1]
set_option maxRecDepth 65536 in
theorem w_case : (Jvm.Cond.and given_1 narrow_1).before args0 about1 = true := by decide +kernel
theorem w_applies : (headSpec (Jvm.Cond.code x code maxLocals ret :: tables_1) room_1).applies x e0.platform about1 = true :=
  (Spec.applies_iff w_frames).mpr ⟨w_running, w_runnable, w_alone, w_named, w_hears, w_ripe, w_room, w_tables⟩
theorem atStart : AtStart classFile x code maxLocals ret World_1 tables_1 room_1 Calls_1 rest_1 Pre_1 launch0 p0 e0 about1 theMethod args0 below0 :=
  ⟨lists_1, trivial, launch0.admits_env _ _ _, launch0.least_env, fairChoices_fair.cas, fairChoices_fair.clock, w_frames, w_args, w_heap, w_applies, trivial, trivial, w_case⟩
end start1
theorem witness_1 : WitnessClaimed_1 := ⟨start1.p0, start1.e0, start1.about1, start1.theMethod, start1.args0, start1.below0, start1.atStart⟩
end Jvm.Pilot.@@N@@
