import JvmDerived
import JvmDerived.Pilot.@@N@@Statement
import JvmDerived.Pilot.@@N@@Code
set_option linter.unusedVariables false
set_option linter.unusedSimpArgs false
namespace Jvm.RoadKit
open Sem ClassFile Op Lib Jvm.Stand Jvm.Free Jvm.LawKit
section New
variable {p : Program} {l : Launch} {e : Env} {R : Room} {s : State} {m : MethodId} {args : Array Value} {below : List Frame} {meth : Method} {c : Code} {T : State} {locs : List Loc} {cells slots : Nat}
theorem retI (X : Stand p l e R s m args below meth c T locs cells slots) (hx : p.tables.exec = Jvm.exec) {pc : Nat} {Ls : Array Slot} {z : Int32} {rest : List Value} (hret : meth.sig.returnType = some .int) (hd : decode c.code pc = .ok (.ireturn, 1)) {fs : List Frame}
    (hl : ∀ (f : JFrame) (acts : List Action), f.method = m → f.locked = none → f.entered = [] → (doReturn e (T.setTop f) acts (some (.int z))).1 = T.setFrames fs) : Steps p.tables e below (T.setTop (mkF m pc Ls (.int z :: rest))) (T.setFrames fs) := by
  have hm' : T.vm.method? m = some meth := X.method'
  have hn : narrow .int (.int z) = .int z := rfl
  show Steps p.tables e below (T.setTop { method := m, pc := pc, locals := Ls, stack := _ :: rest, locked := none }) _
  jvm_step X.here [X.here.top, hx, hd, hm', hret, hn]
  first | (intro acts; rw [hl _ acts rfl rfl rfl]) | rw [hl _ _ rfl rfl rfl]
  exact Steps.refl _
end New
end Jvm.RoadKit
namespace Jvm.Pilot.@@N@@
open Jvm Jvm.ClassFile Sem Op Lib Jvm.Free Jvm.Stand Jvm.LawKit Jvm.RoadKit Bundle Jvm.Pilot.@@N@@.Jvm.D
theorem pn_2 : plainName "java/lang/Record" = true := by first | (simp [plainName, overriddenIn]; done) | decide +kernel
theorem ef_rm_rec (m : MethodId) (x0 : Addr) : entryFrame m #[(.ref x0)] 1 = mkF m 0 #[.val (.ref x0)] [] := by first | (simp [entryFrame, mkF, argsToLocals, Value.category]; done) | rfl
def Q_rm_rec (Z : State) (a1 : Addr) (h0 : Heap) (n0 : Nat) (v : Option Value) (h : Heap) (L : List Loc) : Prop := v = none ∧ Fr n0 L ∧ h = h0
theorem d2_0 : decode jdk_30_method_1_code 0 = .ok (.aload_n 0, 1) := by decide +kernel
theorem d2_1 : decode jdk_30_method_1_code 1 = .ok (.invokespecial 1, 3) := by decide +kernel
theorem d2_4 : decode jdk_30_method_1_code 4 = .ok (.return_, 1) := by decide +kernel
set_option maxRecDepth 65536 in
set_option maxHeartbeats 40000000 in
theorem rm_rec (l : Launch) (Z : State) (a0 : Array Value) (hw : ∀ d ∈ tables_1, d.before a0 Z = true) (ws : List Jvm.Cond) (a1 : Addr) (h0 : Heap) (n0 : Nat) (Z0 : n0 ≤ h0.size)  :
    MetFree l (⟨"java/lang/Record", "<init>", "()V"⟩ : MethodName) (head1 (Jvm.Cond.code (⟨"java/lang/Record", "<init>", "()V"⟩ : MethodName) jdk_30_method_1_code 1 none :: ws) ({ frames := 1, cells := 0, slots := 0, locals := 12 } : Room)) (fun a U => a = #[(.ref a1)] ∧ Z.Warmed39 U.vm ∧ U.heap = h0) (fun _ _ _ _ _ => True) (fun _ U o U' => ∃ v L, o = .returned v ∧ Q_rm_rec Z a1 h0 n0 v U'.heap L ∧ FrameEnd U o U' L ({ frames := 1, cells := 0, slots := 0, locals := 12 } : Room).cells ({ frames := 1, cells := 0, slots := 0, locals := 12 } : Room).slots) := by
  refine MetFree.of_bodySF (plainFor_of_name pn_2) hisR ?_
  intro p e s m args below meth c s₁ Bd hml0 hP hK
  obtain ⟨rfl, hZ, hh⟩ := hP
  have hx := Bd.exec
  have hby := Bd.bytes
  have hml : c.maxLocals = 1 := hml0
  have hown : s.vm.findClass "java/lang/Record" = some m.cls := findClass_of_methodNamed Bd.named
  have hnm := (name_of_methodNamed Bd.named Bd.method).1
  have X0 : Stand p l e ({ frames := 1, cells := 0, slots := 0, locals := 12 } : Room) s m #[(.ref a1)] below meth c s₁ [] 0 0 := Stand.of_body Bd
  have e0 : s₁.heap = h0 := by rw [← hh, Bd.state]; rfl
  have N0 := Fr.nil n0
  have pre0 : ∀ t, Steps p.tables e below (s₁.setTop (mkF m 0 #[.val (.ref a1)] [])) t → Steps p.tables e below (s₁.setTop (entryFrame m #[(.ref a1)] 1)) t := fun t k => castTop (ef_rm_rec m a1) k
  obtain ⟨T1, X1, e1, st1⟩ := initO X0 hx hZ hown (hw _ (List.mem_of_getElem? (i := 11) rfl)) (hw _ (List.mem_of_getElem? (i := 12) rfl)) (hw _ (List.mem_of_getElem? (i := 13) rfl)) e0 (g := (mkF m 1 #[.val (.ref a1)] [(.ref a1)])) rfl (by rw [hml]; rfl) rfl (hb hby d2_1) (by decide) (W := 0) (by show 2 * 0 + _ ≤ _; exact Nat.le_of_eq rfl) (by decide)
  obtain ⟨fs, hr, hrun, hended, hW, hsame⟩ := X1.leave (v := none) (fun _ => rfl)
  refine ⟨_, _, pre0 _ ?_, hrun, hended, _, _, rfl, ?_, ⟨_, rfl⟩, hW, hsame.mono (by decide) (by decide)⟩
  · show Steps p.tables e below (s₁.setTop (mkF m 0 #[.val (.ref a1)] [])) _
    refine XS.aloadN X0.here hx rfl (hb hby d2_0) rfl rfl ?_
    show Steps p.tables e below (s₁.setTop (mkF m 1 #[.val (.ref a1)] [(.ref a1)])) _
    refine st1 _ ?_
    show Steps p.tables e below (T1.setTop (mkF m 4 #[.val (.ref a1)] [])) _
    exact X1.returnOut hx Bd.returns (hb hby d2_4) hr
  · show Q_rm_rec Z a1 h0 n0 _ T1.heap _
    rw [e1]
    exact ⟨rfl, N0, rfl⟩
theorem pn_1 : plainName "com/example/emberline/emberline/query/Automaton$Literal" = true := by first | (simp [plainName, overriddenIn]; done) | decide +kernel
theorem ef_rm_ini (m : MethodId) (x0 : Addr) (x1 : Int32) : entryFrame m #[(.ref x0), (.int x1)] 2 = mkF m 0 #[.val (.ref x0), .val (.int x1)] [] := by first | (simp [entryFrame, mkF, argsToLocals, Value.category]; done) | rfl
def Q_rm_ini (Z : State) (a1 : Addr) (p2 : Int32) (h0 : Heap) (n0 : Nat) (v : Option Value) (h : Heap) (L : List Loc) : Prop := v = none ∧ Fr n0 L ∧ Keep h0 h [a1] ∧ Exa Z h a1 "com/example/emberline/emberline/query/Automaton$Literal" ∧ Fld Z h a1 "com/example/emberline/emberline/query/Automaton$Literal" "codePoint" "I" (.int p2)
theorem d1_0 : decode prog_36_method_1_code 0 = .ok (.aload_n 0, 1) := by decide +kernel
theorem pd___V_167 : parseMethodDescriptor "()V" = some ⟨[], none⟩ := by decide +kernel
theorem d1_1 : decode prog_36_method_1_code 1 = .ok (.invokespecial 1, 3) := by decide +kernel
theorem d1_4 : decode prog_36_method_1_code 4 = .ok (.aload_n 0, 1) := by decide +kernel
theorem d1_5 : decode prog_36_method_1_code 5 = .ok (.iload_n 1, 1) := by decide +kernel
theorem d1_6 : decode prog_36_method_1_code 6 = .ok (.putfield 7, 3) := by decide +kernel
theorem d1_9 : decode prog_36_method_1_code 9 = .ok (.return_, 1) := by decide +kernel
set_option maxRecDepth 65536 in
set_option maxHeartbeats 40000000 in
theorem rm_ini (l : Launch) (Z : State) (a0 : Array Value) (hw : ∀ d ∈ tables_1, d.before a0 Z = true) (ws : List Jvm.Cond) (a1 : Addr) (p2 : Int32) (h0 : Heap) (n0 : Nat) (Z0 : n0 ≤ h0.size) (F_codePoint_a1 : Fld Z h0 a1 "com/example/emberline/emberline/query/Automaton$Literal" "codePoint" "I" (.int (0 : Int32))) (E_a1 : Exa Z h0 a1 "com/example/emberline/emberline/query/Automaton$Literal") (g_a1 : n0 ≤ a1) :
    MetFree l (⟨"com/example/emberline/emberline/query/Automaton$Literal", "<init>", "(I)V"⟩ : MethodName) (head1 (Jvm.Cond.code (⟨"com/example/emberline/emberline/query/Automaton$Literal", "<init>", "(I)V"⟩ : MethodName) prog_36_method_1_code 2 none :: ws) ({ frames := 2, cells := 0, slots := 0, locals := 24 } : Room)) (fun a U => a = #[(.ref a1), (.int p2)] ∧ Z.Warmed39 U.vm ∧ U.heap = h0) (fun _ _ _ _ _ => True) (fun _ U o U' => ∃ v L, o = .returned v ∧ Q_rm_ini Z a1 p2 h0 n0 v U'.heap L ∧ FrameEnd U o U' L ({ frames := 2, cells := 0, slots := 0, locals := 24 } : Room).cells ({ frames := 2, cells := 0, slots := 0, locals := 24 } : Room).slots) := by
  refine MetFree.of_bodySF (plainFor_of_name pn_1) hisR ?_
  intro p e s m args below meth c s₁ Bd hml0 hP hK
  obtain ⟨rfl, hZ, hh⟩ := hP
  have hx := Bd.exec
  have hby := Bd.bytes
  have hml : c.maxLocals = 2 := hml0
  have hown : s.vm.findClass "com/example/emberline/emberline/query/Automaton$Literal" = some m.cls := findClass_of_methodNamed Bd.named
  have hnm := (name_of_methodNamed Bd.named Bd.method).1
  have X0 : Stand p l e ({ frames := 2, cells := 0, slots := 0, locals := 24 } : Room) s m #[(.ref a1), (.int p2)] below meth c s₁ [] 0 0 := Stand.of_body Bd
  have e0 : s₁.heap = h0 := by rw [← hh, Bd.state]; rfl
  have N0 := Fr.nil n0
  have pre0 : ∀ t, Steps p.tables e below (s₁.setTop (mkF m 0 #[.val (.ref a1), .val (.int p2)] [])) t → Steps p.tables e below (s₁.setTop (entryFrame m #[(.ref a1), (.int p2)] 2)) t := fun t k => castTop (ef_rm_ini m a1 p2) k
  obtain ⟨_, _, ⟨T1, L1, k1, n1⟩, -, X1, ⟨Lc1, hQ1, l1, y1, z1⟩, st1⟩ := X0.specialBack hx (y := (⟨"java/lang/Record", "<init>", "()V"⟩ : MethodName)) rfl hown (mvT hZ (hw _ (List.mem_of_getElem? (i := 6) rfl))) (mvT hZ (hw _ (List.mem_of_getElem? (i := 7) rfl))) (mvT hZ (hw _ (List.mem_of_getElem? (i := 10) rfl))) (by decide) (backOf (W := 0) (rm_rec l Z a0 hw [] a1 h0 n0 Z0 ) hZ (hw _ (List.mem_of_getElem? (i := 10) rfl)) (hw _ (List.mem_of_getElem? (i := 9) rfl)) (by decide) (by decide)) (g := (mkF m 1 #[.val (.ref a1), .val (.int p2)] [(.ref a1)])) rfl (by rw [hml]; rfl) (Steps.refl _) (a := a1) (argsL := []) (rest := []) (lenOf pd___V_167 rfl) rfl (by show 2 * 0 + _ ≤ _; exact Nat.le_of_eq rfl) (hb hby d1_1) (fun _ _ => ⟨rfl, e0, (by decide : 0 + 0 ≤ _), (by decide : 0 + 0 ≤ _)⟩)
  dsimp only [Pt.U, Pt.locs, Pt.cells, Pt.slots] at X1 l1 y1 z1 st1 hQ1
  subst l1 y1 z1
  obtain ⟨rfl, N1q, e1⟩ := hQ1
  have N1 := Fr.app N0 N1q
  obtain ⟨T2, h2, X2, e2, W2, st2⟩ := putF X1 hx hZ hown (host := "") (Or.inl (hw _ (List.mem_of_getElem? (i := 14) rfl))) Via.refl e1 F_codePoint_a1 E_a1 (Or.inr ⟨(hw _ (List.mem_of_getElem? (i := 15) rfl)), rfl, hnm⟩) (hw _ (List.mem_of_getElem? (i := 1) rfl)) (ty := .int) (by decide) rfl rfl (g := (mkF m 6 #[.val (.ref a1), .val (.int p2)] [(.int p2), (.ref a1)])) rfl rfl (hb hby d1_6)
  have f1 : Exa Z h2 a1 "com/example/emberline/emberline/query/Automaton$Literal" := E_a1.wr W2
  have f2 : Fld Z h2 a1 "com/example/emberline/emberline/query/Automaton$Literal" "codePoint" "I" (.int p2) := F_codePoint_a1.same W2
  have f3 : n0 ≤ a1 := g_a1
  have f4 : Keep h0 h2 [a1] := (Keep.refl h0 [a1]).wr W2 (Or.inl (by simp))
  have N2 := Fr.snoc X2 N1 f3
  have Z2 : n0 ≤ h2.size := by rw [W2.size]; exact Z0
  obtain ⟨fs, hr, hrun, hended, hW, hsame⟩ := X2.leave (v := none) (fun _ => rfl)
  refine ⟨_, _, pre0 _ ?_, hrun, hended, _, _, rfl, ?_, ⟨_, rfl⟩, hW, hsame.mono (by decide) (by decide)⟩
  · show Steps p.tables e below (s₁.setTop (mkF m 0 #[.val (.ref a1), .val (.int p2)] [])) _
    refine XS.aloadN X0.here hx rfl (hb hby d1_0) rfl rfl ?_
    show Steps p.tables e below (s₁.setTop (mkF m 1 #[.val (.ref a1), .val (.int p2)] [(.ref a1)])) _
    refine st1.trans ?_
    show Steps p.tables e below (T1.setTop (mkF m 4 #[.val (.ref a1), .val (.int p2)] [])) _
    refine XS.aloadN X1.here hx rfl (hb hby d1_4) rfl rfl ?_
    show Steps p.tables e below (T1.setTop (mkF m 5 #[.val (.ref a1), .val (.int p2)] [(.ref a1)])) _
    refine XS.iloadN X1.here hx rfl (hb hby d1_5) rfl ?_
    show Steps p.tables e below (T1.setTop (mkF m 6 #[.val (.ref a1), .val (.int p2)] [(.int p2), (.ref a1)])) _
    refine st2 _ ?_
    show Steps p.tables e below (T2.setTop (mkF m 9 #[.val (.ref a1), .val (.int p2)] [])) _
    exact X2.returnOut hx Bd.returns (hb hby d1_9) hr
  · show Q_rm_ini Z a1 p2 h0 n0 _ T2.heap _
    rw [e2]
    exact ⟨rfl, N2, f4, f1, f2⟩
def own_acc (x c : Int32) : Int32 := if x = c then 1 else 0
theorem own_ne (a b : Int32) (h : ¬ b = 0) : own_acc (a + b) a = 0 := by
  unfold own_acc
  rw [if_neg]
  intro q
  apply h
  have h1 := c_iadd a b
  rw [q] at h1
  have h2 := rng32 b
  apply Int32.toInt_inj.mp
  have e0 : (0 : Int32).toInt = 0 := by decide
  omega
theorem own_self (a : Int32) : own_acc a a = 1 := by simp [own_acc]
theorem own_one (a : Int32) : own_acc (a + (1 : Int32)) a = 0 := own_ne a 1 (by decide)
theorem pn_4 : plainName "com/example/emberline/emberline/query/Automaton$Literal" = true := by first | (simp [plainName, overriddenIn]; done) | decide +kernel
theorem ef_rm_acc (m : MethodId) (x0 : Addr) (x1 : Int32) : entryFrame m #[(.ref x0), (.int x1)] 2 = mkF m 0 #[.val (.ref x0), .val (.int x1)] [] := by first | (simp [entryFrame, mkF, argsToLocals, Value.category]; done) | rfl
def Q_rm_acc (Z : State) (a1 : Addr) (p2 : Int32) (w1 : Int32) (h0 : Heap) (n0 : Nat) (v : Option Value) (h : Heap) (L : List Loc) : Prop := v = some (.int (own_acc p2 w1)) ∧ Fr n0 L ∧ h = h0
theorem d4_0 : decode prog_36_method_2_code 0 = .ok (.iload_n 1, 1) := by decide +kernel
theorem d4_1 : decode prog_36_method_2_code 1 = .ok (.aload_n 0, 1) := by decide +kernel
theorem d4_2 : decode prog_36_method_2_code 2 = .ok (.getfield 7, 3) := by decide +kernel
theorem d4_5 : decode prog_36_method_2_code 5 = .ok (.if_icmp .ne 7, 3) := by decide +kernel
theorem d4_8 : decode prog_36_method_2_code 8 = .ok (.iconst 1, 1) := by decide +kernel
theorem d4_9 : decode prog_36_method_2_code 9 = .ok (.goto 4, 3) := by decide +kernel
theorem d4_13 : decode prog_36_method_2_code 13 = .ok (.ireturn, 1) := by decide +kernel
theorem d4_12 : decode prog_36_method_2_code 12 = .ok (.iconst 0, 1) := by decide +kernel
set_option maxRecDepth 65536 in
set_option maxHeartbeats 40000000 in
theorem rm_acc (l : Launch) (Z : State) (a0 : Array Value) (hw : ∀ d ∈ tables_1, d.before a0 Z = true) (ws : List Jvm.Cond) (a1 : Addr) (p2 : Int32) (w1 : Int32) (h0 : Heap) (n0 : Nat) (Z0 : n0 ≤ h0.size) (F_codePoint_a1 : Fld Z h0 a1 "com/example/emberline/emberline/query/Automaton$Literal" "codePoint" "I" (.int w1)) :
    MetFree l (⟨"com/example/emberline/emberline/query/Automaton$Literal", "accepts", "(I)Z"⟩ : MethodName) (head1 (Jvm.Cond.code (⟨"com/example/emberline/emberline/query/Automaton$Literal", "accepts", "(I)Z"⟩ : MethodName) prog_36_method_2_code 2 (some .boolean) :: ws) ({ frames := 0, cells := 0, slots := 0, locals := 0 } : Room)) (fun a U => a = #[(.ref a1), (.int p2)] ∧ Z.Warmed39 U.vm ∧ U.heap = h0) (fun _ _ _ _ _ => True) (fun _ U o U' => ∃ v L, o = .returned v ∧ Q_rm_acc Z a1 p2 w1 h0 n0 v U'.heap L ∧ FrameEnd U o U' L ({ frames := 0, cells := 0, slots := 0, locals := 0 } : Room).cells ({ frames := 0, cells := 0, slots := 0, locals := 0 } : Room).slots) := by
  refine MetFree.of_bodySF (plainFor_of_name pn_4) hisR ?_
  intro p e s m args below meth c s₁ Bd hml0 hP hK
  obtain ⟨rfl, hZ, hh⟩ := hP
  have hx := Bd.exec
  have hby := Bd.bytes
  have hml : c.maxLocals = 2 := hml0
  have hown : s.vm.findClass "com/example/emberline/emberline/query/Automaton$Literal" = some m.cls := findClass_of_methodNamed Bd.named
  have hnm := (name_of_methodNamed Bd.named Bd.method).1
  have X0 : Stand p l e ({ frames := 0, cells := 0, slots := 0, locals := 0 } : Room) s m #[(.ref a1), (.int p2)] below meth c s₁ [] 0 0 := Stand.of_body Bd
  have e0 : s₁.heap = h0 := by rw [← hh, Bd.state]; rfl
  have N0 := Fr.nil n0
  have pre0 : ∀ t, Steps p.tables e below (s₁.setTop (mkF m 0 #[.val (.ref a1), .val (.int p2)] [])) t → Steps p.tables e below (s₁.setTop (entryFrame m #[(.ref a1), (.int p2)] 2)) t := fun t k => castTop (ef_rm_acc m a1 p2) k
  obtain ⟨T1, X1, e1, st1⟩ := getF X0 hx hZ hown (host := "") (Or.inl (hw _ (List.mem_of_getElem? (i := 14) rfl))) Via.refl e0 F_codePoint_a1 (g := (mkF m 2 #[.val (.ref a1), .val (.int p2)] [(.ref a1), (.int p2)])) rfl rfl (hb hby d4_2)
  have pre_2 : ∀ t, Steps p.tables e below (T1.setTop (mkF m 5 #[.val (.ref a1), .val (.int p2)] [(.int w1), (.int p2)])) t → Steps p.tables e below (s₁.setTop (entryFrame m #[(.ref a1), (.int p2)] 2)) t := by
    intro t k
    refine pre0 _ ?_
    show Steps p.tables e below (s₁.setTop (mkF m 0 #[.val (.ref a1), .val (.int p2)] [])) _
    refine XS.iloadN X0.here hx rfl (hb hby d4_0) rfl ?_
    show Steps p.tables e below (s₁.setTop (mkF m 1 #[.val (.ref a1), .val (.int p2)] [(.int p2)])) _
    refine XS.aloadN X0.here hx rfl (hb hby d4_1) rfl rfl ?_
    show Steps p.tables e below (s₁.setTop (mkF m 2 #[.val (.ref a1), .val (.int p2)] [(.ref a1), (.int p2)])) _
    refine st1 _ ?_
    exact k
  by_cases hc5 : p2 = w1
  · obtain ⟨fs, hr, hrun, hended, hW, hsame⟩ := X1.leave (v := some (.int (1 : Int32))) (fun h => by rw [Bd.returns] at h; cases h)
    refine ⟨_, _, pre_2 _ ?_, hrun, hended, _, _, rfl, ?_, ⟨_, rfl⟩, hW, hsame.mono (by decide) (by decide)⟩
    · show Steps p.tables e below (T1.setTop (mkF m 5 #[.val (.ref a1), .val (.int p2)] [(.int w1), (.int p2)])) _
      refine XS.icmpNo X1.here hx rfl (hb hby d4_5) rfl (teq hc5).2 ?_
      show Steps p.tables e below (T1.setTop (mkF m 8 #[.val (.ref a1), .val (.int p2)] [])) _
      refine XS.iconst X1.here hx rfl (hb hby d4_8) ?_
      show Steps p.tables e below (T1.setTop (mkF m 9 #[.val (.ref a1), .val (.int p2)] [(.int (1 : Int32))])) _
      refine XS.goto X1.here hx rfl (pc0 := 9) (pc' := 13) rfl (hb hby d4_9) (by decide) (by decide) ?_
      show Steps p.tables e below (T1.setTop (mkF m 13 #[.val (.ref a1), .val (.int p2)] [(.int (1 : Int32))])) _
      exact retN X1 hx (t := .boolean) Bd.returns (by simp) (hb hby d4_13) hr
    · show Q_rm_acc Z a1 p2 w1 h0 n0 _ T1.heap _
      rw [e1]
      exact ⟨by rw [own_acc, if_pos hc5], N0, rfl⟩
  · obtain ⟨fs, hr, hrun, hended, hW, hsame⟩ := X1.leave (v := some (.int (0 : Int32))) (fun h => by rw [Bd.returns] at h; cases h)
    refine ⟨_, _, pre_2 _ ?_, hrun, hended, _, _, rfl, ?_, ⟨_, rfl⟩, hW, hsame.mono (by decide) (by decide)⟩
    · show Steps p.tables e below (T1.setTop (mkF m 5 #[.val (.ref a1), .val (.int p2)] [(.int w1), (.int p2)])) _
      refine XS.icmpYes X1.here hx rfl (pc0 := 5) (pc' := 12) rfl (hb hby d4_5) rfl (feq hc5).2 (by decide) (by decide) ?_
      show Steps p.tables e below (T1.setTop (mkF m 12 #[.val (.ref a1), .val (.int p2)] [])) _
      refine XS.iconst X1.here hx rfl (hb hby d4_12) ?_
      show Steps p.tables e below (T1.setTop (mkF m 13 #[.val (.ref a1), .val (.int p2)] [(.int (0 : Int32))])) _
      exact retN X1 hx (t := .boolean) Bd.returns (by simp) (hb hby d4_13) hr
    · show Q_rm_acc Z a1 p2 w1 h0 n0 _ T1.heap _
      rw [e1]
      exact ⟨by rw [own_acc, if_neg hc5], N0, rfl⟩
theorem pn_5 : plainName "com/example/emberline/emberline/query/Automaton$Literal" = true := by first | (simp [plainName, overriddenIn]; done) | decide +kernel
theorem ef_rm_cp (m : MethodId) (x0 : Addr) : entryFrame m #[(.ref x0)] 1 = mkF m 0 #[.val (.ref x0)] [] := by first | (simp [entryFrame, mkF, argsToLocals, Value.category]; done) | rfl
def Q_rm_cp (Z : State) (a1 : Addr) (w1 : Int32) (h0 : Heap) (n0 : Nat) (v : Option Value) (h : Heap) (L : List Loc) : Prop := v = some (.int w1) ∧ Fr n0 L ∧ h = h0
theorem d5_0 : decode prog_36_method_6_code 0 = .ok (.aload_n 0, 1) := by decide +kernel
theorem d5_1 : decode prog_36_method_6_code 1 = .ok (.getfield 7, 3) := by decide +kernel
theorem d5_4 : decode prog_36_method_6_code 4 = .ok (.ireturn, 1) := by decide +kernel
set_option maxRecDepth 65536 in
set_option maxHeartbeats 40000000 in
theorem rm_cp (l : Launch) (Z : State) (a0 : Array Value) (hw : ∀ d ∈ tables_1, d.before a0 Z = true) (ws : List Jvm.Cond) (a1 : Addr) (w1 : Int32) (h0 : Heap) (n0 : Nat) (Z0 : n0 ≤ h0.size) (F_codePoint_a1 : Fld Z h0 a1 "com/example/emberline/emberline/query/Automaton$Literal" "codePoint" "I" (.int w1)) :
    MetFree l (⟨"com/example/emberline/emberline/query/Automaton$Literal", "codePoint", "()I"⟩ : MethodName) (head1 (Jvm.Cond.code (⟨"com/example/emberline/emberline/query/Automaton$Literal", "codePoint", "()I"⟩ : MethodName) prog_36_method_6_code 1 (some .int) :: ws) ({ frames := 0, cells := 0, slots := 0, locals := 0 } : Room)) (fun a U => a = #[(.ref a1)] ∧ Z.Warmed39 U.vm ∧ U.heap = h0) (fun _ _ _ _ _ => True) (fun _ U o U' => ∃ v L, o = .returned v ∧ Q_rm_cp Z a1 w1 h0 n0 v U'.heap L ∧ FrameEnd U o U' L ({ frames := 0, cells := 0, slots := 0, locals := 0 } : Room).cells ({ frames := 0, cells := 0, slots := 0, locals := 0 } : Room).slots) := by
  refine MetFree.of_bodySF (plainFor_of_name pn_5) hisR ?_
  intro p e s m args below meth c s₁ Bd hml0 hP hK
  obtain ⟨rfl, hZ, hh⟩ := hP
  have hx := Bd.exec
  have hby := Bd.bytes
  have hml : c.maxLocals = 1 := hml0
  have hown : s.vm.findClass "com/example/emberline/emberline/query/Automaton$Literal" = some m.cls := findClass_of_methodNamed Bd.named
  have hnm := (name_of_methodNamed Bd.named Bd.method).1
  have X0 : Stand p l e ({ frames := 0, cells := 0, slots := 0, locals := 0 } : Room) s m #[(.ref a1)] below meth c s₁ [] 0 0 := Stand.of_body Bd
  have e0 : s₁.heap = h0 := by rw [← hh, Bd.state]; rfl
  have N0 := Fr.nil n0
  have pre0 : ∀ t, Steps p.tables e below (s₁.setTop (mkF m 0 #[.val (.ref a1)] [])) t → Steps p.tables e below (s₁.setTop (entryFrame m #[(.ref a1)] 1)) t := fun t k => castTop (ef_rm_cp m a1) k
  obtain ⟨T1, X1, e1, st1⟩ := getF X0 hx hZ hown (host := "") (Or.inl (hw _ (List.mem_of_getElem? (i := 14) rfl))) Via.refl e0 F_codePoint_a1 (g := (mkF m 1 #[.val (.ref a1)] [(.ref a1)])) rfl rfl (hb hby d5_1)
  obtain ⟨fs, hr, hrun, hended, hW, hsame⟩ := X1.leave (v := some (.int w1)) (fun h => by rw [Bd.returns] at h; cases h)
  refine ⟨_, _, pre0 _ ?_, hrun, hended, _, _, rfl, ?_, ⟨_, rfl⟩, hW, hsame.mono (by decide) (by decide)⟩
  · show Steps p.tables e below (s₁.setTop (mkF m 0 #[.val (.ref a1)] [])) _
    refine XS.aloadN X0.here hx rfl (hb hby d5_0) rfl rfl ?_
    show Steps p.tables e below (s₁.setTop (mkF m 1 #[.val (.ref a1)] [(.ref a1)])) _
    refine st1 _ ?_
    show Steps p.tables e below (T1.setTop (mkF m 4 #[.val (.ref a1)] [(.int w1)])) _
    exact retI X1 hx Bd.returns (hb hby d5_4) hr
  · show Q_rm_cp Z a1 w1 h0 n0 _ T1.heap _
    rw [e1]
    exact ⟨rfl, N0, rfl⟩
theorem pn_0 : plainName "com/example/emberline/emberline/query/LiteralAcceptsPinLaw" = true := by first | (simp [plainName, overriddenIn]; done) | decide +kernel
theorem ef_rm0 (m : MethodId) (x0 : Int32) (x1 : Int32) : entryFrame m #[(.int x0), (.int x1)] maxLocals = mkF m 0 #[.val (.int x0), .val (.int x1), .unset, .unset, .unset, .unset, .unset] [] := by first | (simp [entryFrame, mkF, argsToLocals, Value.category, maxLocals]; done) | rfl
def Q_rm0 (Z : State) (p1 : Int32) (p2 : Int32) (h0 : Heap) (n0 : Nat) (v : Option Value) (h : Heap) (L : List Loc) : Prop := v = some (.int 1) ∧ Fr n0 L
theorem pd__I_V_240 : parseMethodDescriptor "(I)V" = some ⟨[.int], none⟩ := by decide +kernel
theorem pd__I_Z_244 : parseMethodDescriptor "(I)Z" = some ⟨[.int], some .boolean⟩ := by decide +kernel
theorem pd___I_154 : parseMethodDescriptor "()I" = some ⟨[], some .int⟩ := by decide +kernel
set_option maxRecDepth 65536 in
set_option maxHeartbeats 40000000 in
theorem rm0 (l : Launch) (Z : State) (a0 : Array Value) (hw : ∀ d ∈ tables_1, d.before a0 Z = true) (ws : List Jvm.Cond) (p1 : Int32) (p2 : Int32) (h0 : Heap) (n0 : Nat) (Z0 : n0 ≤ h0.size)  :
    MetFree l x (head1 (Jvm.Cond.code x code maxLocals ret :: ws) room_1) (fun a U => a = #[(.int p1), (.int p2)] ∧ Z.Warmed39 U.vm ∧ U.heap = h0) (fun _ _ _ _ _ => True) (fun _ U o U' => ∃ v L, o = .returned v ∧ Q_rm0 Z p1 p2 h0 n0 v U'.heap L ∧ FrameEnd U o U' L room_1.cells room_1.slots) := by
  refine MetFree.of_bodySF (plainFor_of_name pn_0) hisR ?_
  intro p e s m args below meth c s₁ Bd hml0 hP hK
  obtain ⟨rfl, hZ, hh⟩ := hP
  have hx := Bd.exec
  have hby := Bd.bytes
  have hml : c.maxLocals = 7 := hml0
  have hown : s.vm.findClass "com/example/emberline/emberline/query/LiteralAcceptsPinLaw" = some m.cls := findClass_of_methodNamed Bd.named
  have hnm := (name_of_methodNamed Bd.named Bd.method).1
  have X0 : Stand p l e room_1 s m #[(.int p1), (.int p2)] below meth c s₁ [] 0 0 := Stand.of_body Bd
  have e0 : s₁.heap = h0 := by rw [← hh, Bd.state]; rfl
  have N0 := Fr.nil n0
  have pre0 : ∀ t, Steps p.tables e below (s₁.setTop (mkF m 0 #[.val (.int p1), .val (.int p2), .unset, .unset, .unset, .unset, .unset] [])) t → Steps p.tables e below (s₁.setTop (entryFrame m #[(.int p1), (.int p2)] maxLocals)) t := fun t k => castTop (ef_rm0 m p1 p2) k
  obtain ⟨T1, h1, X1, e1, E1, A1, D1, -, st1⟩ := newO X0 hx hZ hown (hw _ (List.mem_of_getElem? (i := 0) rfl)) (hw _ (List.mem_of_getElem? (i := 1) rfl)) (hw _ (List.mem_of_getElem? (i := 2) rfl)) e0 (g := (mkF m 0 #[.val (.int p1), .val (.int p2), .unset, .unset, .unset, .unset, .unset] [])) rfl (hb hby at_0) (by decide) (by decide)
  obtain ⟨b1, g1⟩ : ∃ z, z = h0.size := ⟨_, rfl⟩
  rw [← g1] at A1 D1 st1
  have g_b1 : n0 ≤ b1 := Nat.le_trans Z0 (Nat.le_of_eq g1.symm)
  have Z1 : n0 ≤ h1.size := Nat.le_trans Z0 E1.1
  have F_codePoint_b1 : Fld Z h1 b1 "com/example/emberline/emberline/query/Automaton$Literal" "codePoint" "I" (.int (0 : Int32)) := D1 (Or.inr (hw _ (List.mem_of_getElem? (i := 15) rfl))) (ty := .int) (by decide)
  obtain ⟨_, _, ⟨T2, L2, k2, n2⟩, -, X2, ⟨Lc2, hQ2, l2, y2, z2⟩, st2⟩ := X1.specialBack hx (y := (⟨"com/example/emberline/emberline/query/Automaton$Literal", "<init>", "(I)V"⟩ : MethodName)) rfl hown (mvT hZ (hw _ (List.mem_of_getElem? (i := 3) rfl))) (mvT hZ (hw _ (List.mem_of_getElem? (i := 4) rfl))) (mvT hZ (hw _ (List.mem_of_getElem? (i := 5) rfl))) (by decide) (backOf (W := 1) (rm_ini l Z a0 hw [] b1 p1 h1 n0 Z1 F_codePoint_b1 A1 g_b1) hZ (hw _ (List.mem_of_getElem? (i := 5) rfl)) (hw _ (List.mem_of_getElem? (i := 2) rfl)) (by decide) (by decide)) (g := (mkF m 5 #[.val (.int p1), .val (.int p2), .unset, .unset, .unset, .unset, .unset] [(.int p1), (.ref b1), (.ref b1)])) rfl (by rw [hml]; rfl) (Steps.refl _) (a := b1) (argsL := [(.int p1)]) (rest := [(.ref b1)]) (lenOf pd__I_V_240 rfl) rfl (by show 2 * 0 + _ ≤ _; exact Nat.le_of_eq rfl) (hb hby at_5) (fun _ _ => ⟨rfl, e1, (by decide : 1 + 0 ≤ _), (by decide : 1 + 0 ≤ _)⟩)
  dsimp only [Pt.U, Pt.locs, Pt.cells, Pt.slots] at X2 l2 y2 z2 st2 hQ2
  subst l2 y2 z2
  obtain ⟨rfl, N2q, K2, fk2_0, fk2_1⟩ := hQ2
  have f1 : n0 ≤ b1 := g_b1
  have Z2 : n0 ≤ T2.heap.size := Nat.le_trans Z1 K2.1
  have N2 := Fr.app N0 N2q
  have pre_3 : ∀ t, Steps p.tables e below (T2.setTop (mkF m 10 #[.val (.int p1), .val (.int p2), .val (.ref b1), .unset, .unset, .unset, .unset] [(.int p2)])) t → Steps p.tables e below (s₁.setTop (entryFrame m #[(.int p1), (.int p2)] maxLocals)) t := by
    intro t k
    refine pre0 _ ?_
    show Steps p.tables e below (s₁.setTop (mkF m 0 #[.val (.int p1), .val (.int p2), .unset, .unset, .unset, .unset, .unset] [])) _
    refine st1 _ ?_
    show Steps p.tables e below (T1.setTop (mkF m 3 #[.val (.int p1), .val (.int p2), .unset, .unset, .unset, .unset, .unset] [(.ref b1)])) _
    refine XS.dup X1.here hx rfl (hb hby at_3) rfl rfl ?_
    show Steps p.tables e below (T1.setTop (mkF m 4 #[.val (.int p1), .val (.int p2), .unset, .unset, .unset, .unset, .unset] [(.ref b1), (.ref b1)])) _
    refine XS.iloadN X1.here hx rfl (hb hby at_4) rfl ?_
    show Steps p.tables e below (T1.setTop (mkF m 5 #[.val (.int p1), .val (.int p2), .unset, .unset, .unset, .unset, .unset] [(.int p1), (.ref b1), (.ref b1)])) _
    refine st2.trans ?_
    show Steps p.tables e below (T2.setTop (mkF m 8 #[.val (.int p1), .val (.int p2), .unset, .unset, .unset, .unset, .unset] [(.ref b1)])) _
    refine XS.astoreN X2.here hx rfl (hb hby at_8) rfl rfl (l' := #[.val (.int p1), .val (.int p2), .val (.ref b1), .unset, .unset, .unset, .unset]) rfl ?_
    show Steps p.tables e below (T2.setTop (mkF m 9 #[.val (.int p1), .val (.int p2), .val (.ref b1), .unset, .unset, .unset, .unset] [])) _
    refine XS.iloadN X2.here hx rfl (hb hby at_9) rfl ?_
    exact k
  by_cases hc10 : p2 = (0 : Int32)
  · obtain ⟨cq4, kq4, q4a, q4b, q4c⟩ := isOf hZ rfl fk2_0
    obtain ⟨_, _, ⟨T4, L4, k4, n4⟩, -, X4, ⟨Lc4, hQ4, l4, y4, z4⟩, st4⟩ := X2.virtualBack hx (y := (⟨"com/example/emberline/emberline/query/Automaton$Literal", "accepts", "(I)Z"⟩ : MethodName)) (z := (⟨"com/example/emberline/emberline/query/Automaton$Literal", "accepts", "(I)Z"⟩ : MethodName)) hown (mvT hZ (hw _ (List.mem_of_getElem? (i := 16) rfl))) (mvT hZ (hw _ (List.mem_of_getElem? (i := 17) rfl))) (notFace_of_selects (args := #[]) (mvT hZ (hw _ (List.mem_of_getElem? (i := 19) rfl)))) (mvT hZ (hw _ (List.mem_of_getElem? (i := 19) rfl))) (mvT hZ (hw _ (List.mem_of_getElem? (i := 18) rfl))) (by decide) (backOf (W := 0) (rm_acc l Z a0 hw [] b1 p1 p1 T2.heap n0 Z2 fk2_1) hZ (hw _ (List.mem_of_getElem? (i := 20) rfl)) (hw _ (List.mem_of_getElem? (i := 2) rfl)) (by decide) (by decide)) q4a q4c (g := (mkF m 26 #[.val (.int p1), .val (.int p2), .val (.ref b1), .val (.int (1 : Int32)), .val (.int (p1 + (1 : Int32))), .unset, .unset] [(.int p1), (.ref b1)])) rfl (by rw [hml]; rfl) (Steps.refl _) (argsL := [(.int p1)]) (rest := []) (lenOf pd__I_Z_244 rfl) rfl (by show 2 * 0 + _ ≤ _; exact Nat.le_of_eq rfl) (hb hby at_26) (fun _ _ => ⟨rfl, rfl, (by decide : 1 + 0 ≤ _), (by decide : 1 + 0 ≤ _)⟩)
    dsimp only [Pt.U, Pt.locs, Pt.cells, Pt.slots] at X4 l4 y4 z4 st4 hQ4
    subst l4 y4 z4
    obtain ⟨rfl, N4q, e4⟩ := hQ4
    have N4 := Fr.app N2 N4q
    obtain ⟨cq5, kq5, q5a, q5b, q5c⟩ := isOf hZ e4 fk2_0
    obtain ⟨_, _, ⟨T5, L5, k5, n5⟩, -, X5, ⟨Lc5, hQ5, l5, y5, z5⟩, st5⟩ := X4.virtualBack hx (y := (⟨"com/example/emberline/emberline/query/Automaton$Literal", "accepts", "(I)Z"⟩ : MethodName)) (z := (⟨"com/example/emberline/emberline/query/Automaton$Literal", "accepts", "(I)Z"⟩ : MethodName)) hown (mvT hZ (hw _ (List.mem_of_getElem? (i := 16) rfl))) (mvT hZ (hw _ (List.mem_of_getElem? (i := 17) rfl))) (notFace_of_selects (args := #[]) (mvT hZ (hw _ (List.mem_of_getElem? (i := 19) rfl)))) (mvT hZ (hw _ (List.mem_of_getElem? (i := 19) rfl))) (mvT hZ (hw _ (List.mem_of_getElem? (i := 18) rfl))) (by decide) (backOf (W := 0) (rm_acc l Z a0 hw [] b1 (p1 + (1 : Int32)) p1 T2.heap n0 Z2 fk2_1) hZ (hw _ (List.mem_of_getElem? (i := 20) rfl)) (hw _ (List.mem_of_getElem? (i := 2) rfl)) (by decide) (by decide)) q5a q5c (g := (mkF m 34 #[.val (.int p1), .val (.int p2), .val (.ref b1), .val (.int (1 : Int32)), .val (.int (p1 + (1 : Int32))), .val (.int (own_acc p1 p1)), .unset] [(.int (p1 + (1 : Int32))), (.ref b1)])) rfl (by rw [hml]; rfl) (Steps.refl _) (argsL := [(.int (p1 + (1 : Int32)))]) (rest := []) (lenOf pd__I_Z_244 rfl) rfl (by show 2 * 0 + _ ≤ _; exact Nat.le_of_eq rfl) (hb hby at_34) (fun _ _ => ⟨rfl, e4, (by decide : 1 + 0 ≤ _), (by decide : 1 + 0 ≤ _)⟩)
    dsimp only [Pt.U, Pt.locs, Pt.cells, Pt.slots] at X5 l5 y5 z5 st5 hQ5
    subst l5 y5 z5
    obtain ⟨rfl, N5q, e5⟩ := hQ5
    have N5 := Fr.app N4 N5q
    obtain ⟨cq6, kq6, q6a, q6b, q6c⟩ := isOf hZ e5 fk2_0
    obtain ⟨_, _, ⟨T6, L6, k6, n6⟩, -, X6, ⟨Lc6, hQ6, l6, y6, z6⟩, st6⟩ := X5.virtualBack hx (y := (⟨"com/example/emberline/emberline/query/Automaton$Literal", "codePoint", "()I"⟩ : MethodName)) (z := (⟨"com/example/emberline/emberline/query/Automaton$Literal", "codePoint", "()I"⟩ : MethodName)) hown (mvT hZ (hw _ (List.mem_of_getElem? (i := 21) rfl))) (mvT hZ (hw _ (List.mem_of_getElem? (i := 22) rfl))) (notFace_of_selects (args := #[]) (mvT hZ (hw _ (List.mem_of_getElem? (i := 24) rfl)))) (mvT hZ (hw _ (List.mem_of_getElem? (i := 24) rfl))) (mvT hZ (hw _ (List.mem_of_getElem? (i := 23) rfl))) (by decide) (backOf (W := 0) (rm_cp l Z a0 hw [] b1 p1 T2.heap n0 Z2 fk2_1) hZ (hw _ (List.mem_of_getElem? (i := 25) rfl)) (hw _ (List.mem_of_getElem? (i := 2) rfl)) (by decide) (by decide)) q6a q6c (g := (mkF m 58 #[.val (.int p1), .val (.int p2), .val (.ref b1), .val (.int (1 : Int32)), .val (.int (p1 + (1 : Int32))), .val (.int (own_acc p1 p1)), .val (.int (1 : Int32))] [(.ref b1)])) rfl (by rw [hml]; rfl) (Steps.refl _) (argsL := []) (rest := []) (lenOf pd___I_154 rfl) rfl (by show 2 * 0 + _ ≤ _; exact Nat.le_of_eq rfl) (hb hby at_58) (fun _ _ => ⟨rfl, e5, (by decide : 1 + 0 ≤ _), (by decide : 1 + 0 ≤ _)⟩)
    dsimp only [Pt.U, Pt.locs, Pt.cells, Pt.slots] at X6 l6 y6 z6 st6 hQ6
    subst l6 y6 z6
    obtain ⟨rfl, N6q, e6⟩ := hQ6
    have N6 := Fr.app N5 N6q
    obtain ⟨fs, hr, hrun, hended, hW, hsame⟩ := X6.leave (v := some (.int (1 : Int32))) (fun h => by rw [Bd.returns] at h; cases h)
    refine ⟨_, _, pre_3 _ ?_, hrun, hended, _, _, rfl, ?_, ⟨_, rfl⟩, hW, hsame.mono (by decide) (by decide)⟩
    · show Steps p.tables e below (T2.setTop (mkF m 10 #[.val (.int p1), .val (.int p2), .val (.ref b1), .unset, .unset, .unset, .unset] [(.int p2)])) _
      refine XS.ifNo X2.here hx rfl (hb hby at_10) rfl ((if0 _ _).trans (teq hc10).2) ?_
      show Steps p.tables e below (T2.setTop (mkF m 13 #[.val (.int p1), .val (.int p2), .val (.ref b1), .unset, .unset, .unset, .unset] [])) _
      refine XS.iconst X2.here hx rfl (hb hby at_13) ?_
      show Steps p.tables e below (T2.setTop (mkF m 14 #[.val (.int p1), .val (.int p2), .val (.ref b1), .unset, .unset, .unset, .unset] [(.int (1 : Int32))])) _
      refine XS.goto X2.here hx rfl (pc0 := 14) (pc' := 18) rfl (hb hby at_14) (by decide) (by decide) ?_
      show Steps p.tables e below (T2.setTop (mkF m 18 #[.val (.int p1), .val (.int p2), .val (.ref b1), .unset, .unset, .unset, .unset] [(.int (1 : Int32))])) _
      refine XS.istoreN X2.here hx rfl (hb hby at_18) rfl (l' := #[.val (.int p1), .val (.int p2), .val (.ref b1), .val (.int (1 : Int32)), .unset, .unset, .unset]) rfl ?_
      show Steps p.tables e below (T2.setTop (mkF m 19 #[.val (.int p1), .val (.int p2), .val (.ref b1), .val (.int (1 : Int32)), .unset, .unset, .unset] [])) _
      refine XS.iloadN X2.here hx rfl (hb hby at_19) rfl ?_
      show Steps p.tables e below (T2.setTop (mkF m 20 #[.val (.int p1), .val (.int p2), .val (.ref b1), .val (.int (1 : Int32)), .unset, .unset, .unset] [(.int p1)])) _
      refine XS.iloadN X2.here hx rfl (hb hby at_20) rfl ?_
      show Steps p.tables e below (T2.setTop (mkF m 21 #[.val (.int p1), .val (.int p2), .val (.ref b1), .val (.int (1 : Int32)), .unset, .unset, .unset] [(.int (1 : Int32)), (.int p1)])) _
      refine XS.iadd X2.here hx rfl (hb hby at_21) rfl ?_
      show Steps p.tables e below (T2.setTop (mkF m 22 #[.val (.int p1), .val (.int p2), .val (.ref b1), .val (.int (1 : Int32)), .unset, .unset, .unset] [(.int (p1 + (1 : Int32)))])) _
      refine XS.istore X2.here hx rfl (hb hby at_22) rfl (l' := #[.val (.int p1), .val (.int p2), .val (.ref b1), .val (.int (1 : Int32)), .val (.int (p1 + (1 : Int32))), .unset, .unset]) rfl ?_
      show Steps p.tables e below (T2.setTop (mkF m 24 #[.val (.int p1), .val (.int p2), .val (.ref b1), .val (.int (1 : Int32)), .val (.int (p1 + (1 : Int32))), .unset, .unset] [])) _
      refine XS.aloadN X2.here hx rfl (hb hby at_24) rfl rfl ?_
      show Steps p.tables e below (T2.setTop (mkF m 25 #[.val (.int p1), .val (.int p2), .val (.ref b1), .val (.int (1 : Int32)), .val (.int (p1 + (1 : Int32))), .unset, .unset] [(.ref b1)])) _
      refine XS.iloadN X2.here hx rfl (hb hby at_25) rfl ?_
      show Steps p.tables e below (T2.setTop (mkF m 26 #[.val (.int p1), .val (.int p2), .val (.ref b1), .val (.int (1 : Int32)), .val (.int (p1 + (1 : Int32))), .unset, .unset] [(.int p1), (.ref b1)])) _
      refine st4.trans ?_
      show Steps p.tables e below (T4.setTop (mkF m 29 #[.val (.int p1), .val (.int p2), .val (.ref b1), .val (.int (1 : Int32)), .val (.int (p1 + (1 : Int32))), .unset, .unset] [(.int (own_acc p1 p1))])) _
      refine XS.istore X4.here hx rfl (hb hby at_29) rfl (l' := #[.val (.int p1), .val (.int p2), .val (.ref b1), .val (.int (1 : Int32)), .val (.int (p1 + (1 : Int32))), .val (.int (own_acc p1 p1)), .unset]) rfl ?_
      show Steps p.tables e below (T4.setTop (mkF m 31 #[.val (.int p1), .val (.int p2), .val (.ref b1), .val (.int (1 : Int32)), .val (.int (p1 + (1 : Int32))), .val (.int (own_acc p1 p1)), .unset] [])) _
      refine XS.aloadN X4.here hx rfl (hb hby at_31) rfl rfl ?_
      show Steps p.tables e below (T4.setTop (mkF m 32 #[.val (.int p1), .val (.int p2), .val (.ref b1), .val (.int (1 : Int32)), .val (.int (p1 + (1 : Int32))), .val (.int (own_acc p1 p1)), .unset] [(.ref b1)])) _
      refine XS.iload X4.here hx rfl (hb hby at_32) rfl ?_
      show Steps p.tables e below (T4.setTop (mkF m 34 #[.val (.int p1), .val (.int p2), .val (.ref b1), .val (.int (1 : Int32)), .val (.int (p1 + (1 : Int32))), .val (.int (own_acc p1 p1)), .unset] [(.int (p1 + (1 : Int32))), (.ref b1)])) _
      refine st5.trans ?_
      show Steps p.tables e below (T5.setTop (mkF m 37 #[.val (.int p1), .val (.int p2), .val (.ref b1), .val (.int (1 : Int32)), .val (.int (p1 + (1 : Int32))), .val (.int (own_acc p1 p1)), .unset] [(.int (own_acc (p1 + (1 : Int32)) p1))])) _
      refine XS.ifNo X5.here hx rfl (hb hby at_37) rfl ((if0 _ _).trans (teq (own_one p1)).2) ?_
      show Steps p.tables e below (T5.setTop (mkF m 40 #[.val (.int p1), .val (.int p2), .val (.ref b1), .val (.int (1 : Int32)), .val (.int (p1 + (1 : Int32))), .val (.int (own_acc p1 p1)), .unset] [])) _
      refine XS.iconst X5.here hx rfl (hb hby at_40) ?_
      show Steps p.tables e below (T5.setTop (mkF m 41 #[.val (.int p1), .val (.int p2), .val (.ref b1), .val (.int (1 : Int32)), .val (.int (p1 + (1 : Int32))), .val (.int (own_acc p1 p1)), .unset] [(.int (1 : Int32))])) _
      refine XS.goto X5.here hx rfl (pc0 := 41) (pc' := 45) rfl (hb hby at_41) (by decide) (by decide) ?_
      show Steps p.tables e below (T5.setTop (mkF m 45 #[.val (.int p1), .val (.int p2), .val (.ref b1), .val (.int (1 : Int32)), .val (.int (p1 + (1 : Int32))), .val (.int (own_acc p1 p1)), .unset] [(.int (1 : Int32))])) _
      refine XS.istore X5.here hx rfl (hb hby at_45) rfl (l' := #[.val (.int p1), .val (.int p2), .val (.ref b1), .val (.int (1 : Int32)), .val (.int (p1 + (1 : Int32))), .val (.int (own_acc p1 p1)), .val (.int (1 : Int32))]) rfl ?_
      show Steps p.tables e below (T5.setTop (mkF m 47 #[.val (.int p1), .val (.int p2), .val (.ref b1), .val (.int (1 : Int32)), .val (.int (p1 + (1 : Int32))), .val (.int (own_acc p1 p1)), .val (.int (1 : Int32))] [])) _
      refine XS.iload X5.here hx rfl (hb hby at_47) rfl ?_
      show Steps p.tables e below (T5.setTop (mkF m 49 #[.val (.int p1), .val (.int p2), .val (.ref b1), .val (.int (1 : Int32)), .val (.int (p1 + (1 : Int32))), .val (.int (own_acc p1 p1)), .val (.int (1 : Int32))] [(.int (own_acc p1 p1))])) _
      refine XS.ifNo X5.here hx rfl (hb hby at_49) rfl ((if0 _ _).trans (feq (by rw [own_self]; decide)).1) ?_
      show Steps p.tables e below (T5.setTop (mkF m 52 #[.val (.int p1), .val (.int p2), .val (.ref b1), .val (.int (1 : Int32)), .val (.int (p1 + (1 : Int32))), .val (.int (own_acc p1 p1)), .val (.int (1 : Int32))] [])) _
      refine XS.iload X5.here hx rfl (hb hby at_52) rfl ?_
      show Steps p.tables e below (T5.setTop (mkF m 54 #[.val (.int p1), .val (.int p2), .val (.ref b1), .val (.int (1 : Int32)), .val (.int (p1 + (1 : Int32))), .val (.int (own_acc p1 p1)), .val (.int (1 : Int32))] [(.int (1 : Int32))])) _
      refine XS.ifNo X5.here hx rfl (hb hby at_54) rfl ((if0 _ _).trans (feq (by decide : ¬ ((1 : Int32) = (0 : Int32)))).1) ?_
      show Steps p.tables e below (T5.setTop (mkF m 57 #[.val (.int p1), .val (.int p2), .val (.ref b1), .val (.int (1 : Int32)), .val (.int (p1 + (1 : Int32))), .val (.int (own_acc p1 p1)), .val (.int (1 : Int32))] [])) _
      refine XS.aloadN X5.here hx rfl (hb hby at_57) rfl rfl ?_
      show Steps p.tables e below (T5.setTop (mkF m 58 #[.val (.int p1), .val (.int p2), .val (.ref b1), .val (.int (1 : Int32)), .val (.int (p1 + (1 : Int32))), .val (.int (own_acc p1 p1)), .val (.int (1 : Int32))] [(.ref b1)])) _
      refine st6.trans ?_
      show Steps p.tables e below (T6.setTop (mkF m 61 #[.val (.int p1), .val (.int p2), .val (.ref b1), .val (.int (1 : Int32)), .val (.int (p1 + (1 : Int32))), .val (.int (own_acc p1 p1)), .val (.int (1 : Int32))] [(.int p1)])) _
      refine XS.iloadN X6.here hx rfl (hb hby at_61) rfl ?_
      show Steps p.tables e below (T6.setTop (mkF m 62 #[.val (.int p1), .val (.int p2), .val (.ref b1), .val (.int (1 : Int32)), .val (.int (p1 + (1 : Int32))), .val (.int (own_acc p1 p1)), .val (.int (1 : Int32))] [(.int p1), (.int p1)])) _
      refine XS.icmpNo X6.here hx rfl (hb hby at_62) rfl (teq (rfl : p1 = p1)).2 ?_
      show Steps p.tables e below (T6.setTop (mkF m 65 #[.val (.int p1), .val (.int p2), .val (.ref b1), .val (.int (1 : Int32)), .val (.int (p1 + (1 : Int32))), .val (.int (own_acc p1 p1)), .val (.int (1 : Int32))] [])) _
      refine XS.iconst X6.here hx rfl (hb hby at_65) ?_
      show Steps p.tables e below (T6.setTop (mkF m 66 #[.val (.int p1), .val (.int p2), .val (.ref b1), .val (.int (1 : Int32)), .val (.int (p1 + (1 : Int32))), .val (.int (own_acc p1 p1)), .val (.int (1 : Int32))] [(.int (1 : Int32))])) _
      refine XS.goto X6.here hx rfl (pc0 := 66) (pc' := 70) rfl (hb hby at_66) (by decide) (by decide) ?_
      show Steps p.tables e below (T6.setTop (mkF m 70 #[.val (.int p1), .val (.int p2), .val (.ref b1), .val (.int (1 : Int32)), .val (.int (p1 + (1 : Int32))), .val (.int (own_acc p1 p1)), .val (.int (1 : Int32))] [(.int (1 : Int32))])) _
      exact retN X6 hx (t := .boolean) Bd.returns (by simp) (hb hby at_70) hr
    · show Q_rm0 Z p1 p2 h0 n0 _ T6.heap _
      rw [e6]
      exact ⟨rfl, N6⟩
  · obtain ⟨cq7, kq7, q7a, q7b, q7c⟩ := isOf hZ rfl fk2_0
    obtain ⟨_, _, ⟨T7, L7, k7, n7⟩, -, X7, ⟨Lc7, hQ7, l7, y7, z7⟩, st7⟩ := X2.virtualBack hx (y := (⟨"com/example/emberline/emberline/query/Automaton$Literal", "accepts", "(I)Z"⟩ : MethodName)) (z := (⟨"com/example/emberline/emberline/query/Automaton$Literal", "accepts", "(I)Z"⟩ : MethodName)) hown (mvT hZ (hw _ (List.mem_of_getElem? (i := 16) rfl))) (mvT hZ (hw _ (List.mem_of_getElem? (i := 17) rfl))) (notFace_of_selects (args := #[]) (mvT hZ (hw _ (List.mem_of_getElem? (i := 19) rfl)))) (mvT hZ (hw _ (List.mem_of_getElem? (i := 19) rfl))) (mvT hZ (hw _ (List.mem_of_getElem? (i := 18) rfl))) (by decide) (backOf (W := 0) (rm_acc l Z a0 hw [] b1 p1 p1 T2.heap n0 Z2 fk2_1) hZ (hw _ (List.mem_of_getElem? (i := 20) rfl)) (hw _ (List.mem_of_getElem? (i := 2) rfl)) (by decide) (by decide)) q7a q7c (g := (mkF m 26 #[.val (.int p1), .val (.int p2), .val (.ref b1), .val (.int p2), .val (.int (p1 + p2)), .unset, .unset] [(.int p1), (.ref b1)])) rfl (by rw [hml]; rfl) (Steps.refl _) (argsL := [(.int p1)]) (rest := []) (lenOf pd__I_Z_244 rfl) rfl (by show 2 * 0 + _ ≤ _; exact Nat.le_of_eq rfl) (hb hby at_26) (fun _ _ => ⟨rfl, rfl, (by decide : 1 + 0 ≤ _), (by decide : 1 + 0 ≤ _)⟩)
    dsimp only [Pt.U, Pt.locs, Pt.cells, Pt.slots] at X7 l7 y7 z7 st7 hQ7
    subst l7 y7 z7
    obtain ⟨rfl, N7q, e7⟩ := hQ7
    have N7 := Fr.app N2 N7q
    obtain ⟨cq8, kq8, q8a, q8b, q8c⟩ := isOf hZ e7 fk2_0
    obtain ⟨_, _, ⟨T8, L8, k8, n8⟩, -, X8, ⟨Lc8, hQ8, l8, y8, z8⟩, st8⟩ := X7.virtualBack hx (y := (⟨"com/example/emberline/emberline/query/Automaton$Literal", "accepts", "(I)Z"⟩ : MethodName)) (z := (⟨"com/example/emberline/emberline/query/Automaton$Literal", "accepts", "(I)Z"⟩ : MethodName)) hown (mvT hZ (hw _ (List.mem_of_getElem? (i := 16) rfl))) (mvT hZ (hw _ (List.mem_of_getElem? (i := 17) rfl))) (notFace_of_selects (args := #[]) (mvT hZ (hw _ (List.mem_of_getElem? (i := 19) rfl)))) (mvT hZ (hw _ (List.mem_of_getElem? (i := 19) rfl))) (mvT hZ (hw _ (List.mem_of_getElem? (i := 18) rfl))) (by decide) (backOf (W := 0) (rm_acc l Z a0 hw [] b1 (p1 + p2) p1 T2.heap n0 Z2 fk2_1) hZ (hw _ (List.mem_of_getElem? (i := 20) rfl)) (hw _ (List.mem_of_getElem? (i := 2) rfl)) (by decide) (by decide)) q8a q8c (g := (mkF m 34 #[.val (.int p1), .val (.int p2), .val (.ref b1), .val (.int p2), .val (.int (p1 + p2)), .val (.int (own_acc p1 p1)), .unset] [(.int (p1 + p2)), (.ref b1)])) rfl (by rw [hml]; rfl) (Steps.refl _) (argsL := [(.int (p1 + p2))]) (rest := []) (lenOf pd__I_Z_244 rfl) rfl (by show 2 * 0 + _ ≤ _; exact Nat.le_of_eq rfl) (hb hby at_34) (fun _ _ => ⟨rfl, e7, (by decide : 1 + 0 ≤ _), (by decide : 1 + 0 ≤ _)⟩)
    dsimp only [Pt.U, Pt.locs, Pt.cells, Pt.slots] at X8 l8 y8 z8 st8 hQ8
    subst l8 y8 z8
    obtain ⟨rfl, N8q, e8⟩ := hQ8
    have N8 := Fr.app N7 N8q
    obtain ⟨cq9, kq9, q9a, q9b, q9c⟩ := isOf hZ e8 fk2_0
    obtain ⟨_, _, ⟨T9, L9, k9, n9⟩, -, X9, ⟨Lc9, hQ9, l9, y9, z9⟩, st9⟩ := X8.virtualBack hx (y := (⟨"com/example/emberline/emberline/query/Automaton$Literal", "codePoint", "()I"⟩ : MethodName)) (z := (⟨"com/example/emberline/emberline/query/Automaton$Literal", "codePoint", "()I"⟩ : MethodName)) hown (mvT hZ (hw _ (List.mem_of_getElem? (i := 21) rfl))) (mvT hZ (hw _ (List.mem_of_getElem? (i := 22) rfl))) (notFace_of_selects (args := #[]) (mvT hZ (hw _ (List.mem_of_getElem? (i := 24) rfl)))) (mvT hZ (hw _ (List.mem_of_getElem? (i := 24) rfl))) (mvT hZ (hw _ (List.mem_of_getElem? (i := 23) rfl))) (by decide) (backOf (W := 0) (rm_cp l Z a0 hw [] b1 p1 T2.heap n0 Z2 fk2_1) hZ (hw _ (List.mem_of_getElem? (i := 25) rfl)) (hw _ (List.mem_of_getElem? (i := 2) rfl)) (by decide) (by decide)) q9a q9c (g := (mkF m 58 #[.val (.int p1), .val (.int p2), .val (.ref b1), .val (.int p2), .val (.int (p1 + p2)), .val (.int (own_acc p1 p1)), .val (.int (1 : Int32))] [(.ref b1)])) rfl (by rw [hml]; rfl) (Steps.refl _) (argsL := []) (rest := []) (lenOf pd___I_154 rfl) rfl (by show 2 * 0 + _ ≤ _; exact Nat.le_of_eq rfl) (hb hby at_58) (fun _ _ => ⟨rfl, e8, (by decide : 1 + 0 ≤ _), (by decide : 1 + 0 ≤ _)⟩)
    dsimp only [Pt.U, Pt.locs, Pt.cells, Pt.slots] at X9 l9 y9 z9 st9 hQ9
    subst l9 y9 z9
    obtain ⟨rfl, N9q, e9⟩ := hQ9
    have N9 := Fr.app N8 N9q
    obtain ⟨fs, hr, hrun, hended, hW, hsame⟩ := X9.leave (v := some (.int (1 : Int32))) (fun h => by rw [Bd.returns] at h; cases h)
    refine ⟨_, _, pre_3 _ ?_, hrun, hended, _, _, rfl, ?_, ⟨_, rfl⟩, hW, hsame.mono (by decide) (by decide)⟩
    · show Steps p.tables e below (T2.setTop (mkF m 10 #[.val (.int p1), .val (.int p2), .val (.ref b1), .unset, .unset, .unset, .unset] [(.int p2)])) _
      refine XS.ifYes X2.here hx rfl (pc0 := 10) (pc' := 17) rfl (hb hby at_10) rfl ((if0 _ _).trans (feq hc10).2) (by decide) (by decide) ?_
      show Steps p.tables e below (T2.setTop (mkF m 17 #[.val (.int p1), .val (.int p2), .val (.ref b1), .unset, .unset, .unset, .unset] [])) _
      refine XS.iloadN X2.here hx rfl (hb hby at_17) rfl ?_
      show Steps p.tables e below (T2.setTop (mkF m 18 #[.val (.int p1), .val (.int p2), .val (.ref b1), .unset, .unset, .unset, .unset] [(.int p2)])) _
      refine XS.istoreN X2.here hx rfl (hb hby at_18) rfl (l' := #[.val (.int p1), .val (.int p2), .val (.ref b1), .val (.int p2), .unset, .unset, .unset]) rfl ?_
      show Steps p.tables e below (T2.setTop (mkF m 19 #[.val (.int p1), .val (.int p2), .val (.ref b1), .val (.int p2), .unset, .unset, .unset] [])) _
      refine XS.iloadN X2.here hx rfl (hb hby at_19) rfl ?_
      show Steps p.tables e below (T2.setTop (mkF m 20 #[.val (.int p1), .val (.int p2), .val (.ref b1), .val (.int p2), .unset, .unset, .unset] [(.int p1)])) _
      refine XS.iloadN X2.here hx rfl (hb hby at_20) rfl ?_
      show Steps p.tables e below (T2.setTop (mkF m 21 #[.val (.int p1), .val (.int p2), .val (.ref b1), .val (.int p2), .unset, .unset, .unset] [(.int p2), (.int p1)])) _
      refine XS.iadd X2.here hx rfl (hb hby at_21) rfl ?_
      show Steps p.tables e below (T2.setTop (mkF m 22 #[.val (.int p1), .val (.int p2), .val (.ref b1), .val (.int p2), .unset, .unset, .unset] [(.int (p1 + p2))])) _
      refine XS.istore X2.here hx rfl (hb hby at_22) rfl (l' := #[.val (.int p1), .val (.int p2), .val (.ref b1), .val (.int p2), .val (.int (p1 + p2)), .unset, .unset]) rfl ?_
      show Steps p.tables e below (T2.setTop (mkF m 24 #[.val (.int p1), .val (.int p2), .val (.ref b1), .val (.int p2), .val (.int (p1 + p2)), .unset, .unset] [])) _
      refine XS.aloadN X2.here hx rfl (hb hby at_24) rfl rfl ?_
      show Steps p.tables e below (T2.setTop (mkF m 25 #[.val (.int p1), .val (.int p2), .val (.ref b1), .val (.int p2), .val (.int (p1 + p2)), .unset, .unset] [(.ref b1)])) _
      refine XS.iloadN X2.here hx rfl (hb hby at_25) rfl ?_
      show Steps p.tables e below (T2.setTop (mkF m 26 #[.val (.int p1), .val (.int p2), .val (.ref b1), .val (.int p2), .val (.int (p1 + p2)), .unset, .unset] [(.int p1), (.ref b1)])) _
      refine st7.trans ?_
      show Steps p.tables e below (T7.setTop (mkF m 29 #[.val (.int p1), .val (.int p2), .val (.ref b1), .val (.int p2), .val (.int (p1 + p2)), .unset, .unset] [(.int (own_acc p1 p1))])) _
      refine XS.istore X7.here hx rfl (hb hby at_29) rfl (l' := #[.val (.int p1), .val (.int p2), .val (.ref b1), .val (.int p2), .val (.int (p1 + p2)), .val (.int (own_acc p1 p1)), .unset]) rfl ?_
      show Steps p.tables e below (T7.setTop (mkF m 31 #[.val (.int p1), .val (.int p2), .val (.ref b1), .val (.int p2), .val (.int (p1 + p2)), .val (.int (own_acc p1 p1)), .unset] [])) _
      refine XS.aloadN X7.here hx rfl (hb hby at_31) rfl rfl ?_
      show Steps p.tables e below (T7.setTop (mkF m 32 #[.val (.int p1), .val (.int p2), .val (.ref b1), .val (.int p2), .val (.int (p1 + p2)), .val (.int (own_acc p1 p1)), .unset] [(.ref b1)])) _
      refine XS.iload X7.here hx rfl (hb hby at_32) rfl ?_
      show Steps p.tables e below (T7.setTop (mkF m 34 #[.val (.int p1), .val (.int p2), .val (.ref b1), .val (.int p2), .val (.int (p1 + p2)), .val (.int (own_acc p1 p1)), .unset] [(.int (p1 + p2)), (.ref b1)])) _
      refine st8.trans ?_
      show Steps p.tables e below (T8.setTop (mkF m 37 #[.val (.int p1), .val (.int p2), .val (.ref b1), .val (.int p2), .val (.int (p1 + p2)), .val (.int (own_acc p1 p1)), .unset] [(.int (own_acc (p1 + p2) p1))])) _
      refine XS.ifNo X8.here hx rfl (hb hby at_37) rfl ((if0 _ _).trans (teq (own_ne p1 p2 hc10)).2) ?_
      show Steps p.tables e below (T8.setTop (mkF m 40 #[.val (.int p1), .val (.int p2), .val (.ref b1), .val (.int p2), .val (.int (p1 + p2)), .val (.int (own_acc p1 p1)), .unset] [])) _
      refine XS.iconst X8.here hx rfl (hb hby at_40) ?_
      show Steps p.tables e below (T8.setTop (mkF m 41 #[.val (.int p1), .val (.int p2), .val (.ref b1), .val (.int p2), .val (.int (p1 + p2)), .val (.int (own_acc p1 p1)), .unset] [(.int (1 : Int32))])) _
      refine XS.goto X8.here hx rfl (pc0 := 41) (pc' := 45) rfl (hb hby at_41) (by decide) (by decide) ?_
      show Steps p.tables e below (T8.setTop (mkF m 45 #[.val (.int p1), .val (.int p2), .val (.ref b1), .val (.int p2), .val (.int (p1 + p2)), .val (.int (own_acc p1 p1)), .unset] [(.int (1 : Int32))])) _
      refine XS.istore X8.here hx rfl (hb hby at_45) rfl (l' := #[.val (.int p1), .val (.int p2), .val (.ref b1), .val (.int p2), .val (.int (p1 + p2)), .val (.int (own_acc p1 p1)), .val (.int (1 : Int32))]) rfl ?_
      show Steps p.tables e below (T8.setTop (mkF m 47 #[.val (.int p1), .val (.int p2), .val (.ref b1), .val (.int p2), .val (.int (p1 + p2)), .val (.int (own_acc p1 p1)), .val (.int (1 : Int32))] [])) _
      refine XS.iload X8.here hx rfl (hb hby at_47) rfl ?_
      show Steps p.tables e below (T8.setTop (mkF m 49 #[.val (.int p1), .val (.int p2), .val (.ref b1), .val (.int p2), .val (.int (p1 + p2)), .val (.int (own_acc p1 p1)), .val (.int (1 : Int32))] [(.int (own_acc p1 p1))])) _
      refine XS.ifNo X8.here hx rfl (hb hby at_49) rfl ((if0 _ _).trans (feq (by rw [own_self]; decide)).1) ?_
      show Steps p.tables e below (T8.setTop (mkF m 52 #[.val (.int p1), .val (.int p2), .val (.ref b1), .val (.int p2), .val (.int (p1 + p2)), .val (.int (own_acc p1 p1)), .val (.int (1 : Int32))] [])) _
      refine XS.iload X8.here hx rfl (hb hby at_52) rfl ?_
      show Steps p.tables e below (T8.setTop (mkF m 54 #[.val (.int p1), .val (.int p2), .val (.ref b1), .val (.int p2), .val (.int (p1 + p2)), .val (.int (own_acc p1 p1)), .val (.int (1 : Int32))] [(.int (1 : Int32))])) _
      refine XS.ifNo X8.here hx rfl (hb hby at_54) rfl ((if0 _ _).trans (feq (by decide : ¬ ((1 : Int32) = (0 : Int32)))).1) ?_
      show Steps p.tables e below (T8.setTop (mkF m 57 #[.val (.int p1), .val (.int p2), .val (.ref b1), .val (.int p2), .val (.int (p1 + p2)), .val (.int (own_acc p1 p1)), .val (.int (1 : Int32))] [])) _
      refine XS.aloadN X8.here hx rfl (hb hby at_57) rfl rfl ?_
      show Steps p.tables e below (T8.setTop (mkF m 58 #[.val (.int p1), .val (.int p2), .val (.ref b1), .val (.int p2), .val (.int (p1 + p2)), .val (.int (own_acc p1 p1)), .val (.int (1 : Int32))] [(.ref b1)])) _
      refine st9.trans ?_
      show Steps p.tables e below (T9.setTop (mkF m 61 #[.val (.int p1), .val (.int p2), .val (.ref b1), .val (.int p2), .val (.int (p1 + p2)), .val (.int (own_acc p1 p1)), .val (.int (1 : Int32))] [(.int p1)])) _
      refine XS.iloadN X9.here hx rfl (hb hby at_61) rfl ?_
      show Steps p.tables e below (T9.setTop (mkF m 62 #[.val (.int p1), .val (.int p2), .val (.ref b1), .val (.int p2), .val (.int (p1 + p2)), .val (.int (own_acc p1 p1)), .val (.int (1 : Int32))] [(.int p1), (.int p1)])) _
      refine XS.icmpNo X9.here hx rfl (hb hby at_62) rfl (teq (rfl : p1 = p1)).2 ?_
      show Steps p.tables e below (T9.setTop (mkF m 65 #[.val (.int p1), .val (.int p2), .val (.ref b1), .val (.int p2), .val (.int (p1 + p2)), .val (.int (own_acc p1 p1)), .val (.int (1 : Int32))] [])) _
      refine XS.iconst X9.here hx rfl (hb hby at_65) ?_
      show Steps p.tables e below (T9.setTop (mkF m 66 #[.val (.int p1), .val (.int p2), .val (.ref b1), .val (.int p2), .val (.int (p1 + p2)), .val (.int (own_acc p1 p1)), .val (.int (1 : Int32))] [(.int (1 : Int32))])) _
      refine XS.goto X9.here hx rfl (pc0 := 66) (pc' := 70) rfl (hb hby at_66) (by decide) (by decide) ?_
      show Steps p.tables e below (T9.setTop (mkF m 70 #[.val (.int p1), .val (.int p2), .val (.ref b1), .val (.int p2), .val (.int (p1 + p2)), .val (.int (own_acc p1 p1)), .val (.int (1 : Int32))] [(.int (1 : Int32))])) _
      exact retN X9 hx (t := .boolean) Bd.returns (by simp) (hb hby at_70) hr
    · show Q_rm0 Z p1 p2 h0 n0 _ T9.heap _
      rw [e9]
      exact ⟨rfl, N9⟩
set_option maxRecDepth 65536 in
set_option maxHeartbeats 40000000 in
theorem comes_1 {Post : Tables → Env → Array Value → State → Outcome → State → Prop} (hpost : ∀ tb e args s v u, (limb_1_1.after args s (.returned v) u = true ∧ limb_1_2.after args s (.returned v) u = true ∧ True) → FrameEnd s (.returned v) u (Jvm.fieldLocs frame_1_writes args s ++ Jvm.arrayLocs frame_1_arrays args s ++ Jvm.staticLocs frame_1_statics s) 16 128 → Post tb e args s (.returned v) u) :
    ArmFor flags0 classFile x code maxLocals ret World_1 tables_1 room_1 Calls_1 rest_1 Pre_1 Post := by
  intro l hfl _ _ p e ha hc hk s m args below hf hA hF happ hP
  obtain ⟨hcalls, hrest, hpre⟩ := hP
  obtain ⟨-, -, -, hnamed, -, -, -, hat⟩ := (Spec.applies_iff hf).mp happ
  obtain ⟨hg, hn⟩ := and_e (Cond.before_iff.mp (show (Jvm.Cond.and given_1 narrow_1).before args s = true from hpre))
  obtain ⟨hcount, hga0⟩ := and_e hg
  obtain ⟨hi0, hga1⟩ := and_e hga0
  have hi1 := hga1
  obtain ⟨w0, w1, rfl⟩ : ∃ w0 w1 : Value, args = #[w0, w1] := by
    have hs : args.size = 2 := by simpa [Cond.value, given_1] using hcount
    obtain ⟨L⟩ := args
    match L, hs with
    | [w0, w1], _ => exact ⟨w0, w1, rfl⟩
  have hw := fun d (hd : d ∈ tables_1) => atoms_spec (ws := Jvm.Cond.code x code maxLocals ret :: tables_1) hat d (List.mem_cons_of_mem _ hd)
  obtain ⟨i0, ei0⟩ := is_v hi0
  obtain rfl : w0 = (.int i0) := Option.some.inj ei0
  obtain ⟨i1, ei1⟩ := is_v hi1
  obtain rfl : w1 = (.int i1) := Option.some.inj ei1
  obtain ⟨n, o, h1, h2, h3, _, L, rfl, ⟨rfl, N⟩, hq⟩ := rm0 l s _ hw tables_1 i0 i1  s.heap s.heap.size (Nat.le_refl _)  p e ha hc hk s m _ below hf ((Spec.applies_iff_loose hf).mp happ).1 ⟨rfl, State.Warmed39.refl s, rfl⟩ trivial
  refine ⟨n, _, h1, h2, h3, hpost _ _ _ _ _ _ ⟨Cond.after_iff.mpr rfl, Cond.after_iff.mpr (eq_i res_at (Term.int_eval (1)) rfl), trivial⟩ ⟨hq.1, hq.2.1, (hq.2.2.sift fun y hy => Or.inr (N y hy)).mono (by decide) (by decide)⟩⟩
theorem main_1_1 : Claimed_1_1 := comes_1 fun _ _ _ _ _ _ h hF => ⟨h.1, hF⟩
theorem main_1_2 : Claimed_1_2 := comes_1 fun _ _ _ _ _ _ h hF => ⟨h.2.1, hF⟩
end Jvm.Pilot.@@N@@
namespace Jvm.Pilot.@@N@@
open Jvm Jvm.ClassFile Sem Op Lib Jvm.Free Jvm.Stand Jvm.Pilot.@@N@@.Jvm.D
/-! MADE BY PROGRAM (witnessworld.py) out of the Statement's table words and the real class files: 11 classes; the members and pool entries that the words name. The judged class is class 1, her method 1. -/
namespace start1
open Jvm.ClassFile
def u (s : String) : CpInfo := .utf8 (stringToUtf16 s)
/-- a pool by its gaps: so many unusable entries, then the entry; so many at the end -/
def gap : Nat → List CpInfo → List CpInfo
  | 0, r => r
  | n + 1, r => .unusable :: gap n r
def poolList (es : List (Nat × CpInfo)) (last : Nat) : List CpInfo := es.foldr (fun e r => gap e.1 (e.2 :: r)) (gap last [])
def pool (es : List (Nat × CpInfo)) (last : Nat) : Array CpInfo := ⟨poolList es last⟩
def fileOf (pool : Array CpInfo) (this : Nat) (attrs : Array Attribute := #[]) (ms : Array MethodInfo := #[]) (fl : Nat := 33) (sup : Nat := 0) (ifs : Array Nat := #[]) (fds : Array FieldInfo := #[]) : ClassFile where
  minorVersion := 0
  majorVersion := 65
  constantPool := pool
  accessFlags := fl
  thisClass := this
  superClass := sup
  interfaces := ifs
  fields := fds
  methods := ms
  attributes := attrs
def plain (name : String) (sup : Option ClassId) : Class where
  name := name
  kind := .ordinary
  loader := none
  accessFlags := 33
  super := sup
  interfaces := #[]
  cf := none
  fields := #[]
  methods := #[]
  instanceTypes := #[]
  staticTypes := #[]
  resolved := #[]
  callSites := []
  init := .initialized
  statics := none
  mirror := none

def pool0 : Array CpInfo := pool [(5, u "<init>"), (0, u "()V"), (1, .class_ 10), (1, u "java/lang/Object")] 113

def k0c0 : Code := { maxStack := 0, maxLocals := 1, code := object_method_1_code, exceptionTable := #[], attributes := #[] }
def k0m0 : Method := { name := "<init>", desc := "()V", sig := { parameters := [], returnType := none }, accessFlags := 1, code := some k0c0 }
/-- java/lang/Object -/
def k0 : Class := { plain "java/lang/Object" none with
  accessFlags := 33
  interfaces := #[]
  cf := some (fileOf pool0 8 #[] #[{ accessFlags := 1, nameIndex := 5, descriptorIndex := 6, attributes := #[] }] 33 0 #[] #[])
  fields := #[]
  methods := #[k0m0]
  instanceTypes := #[]
  staticTypes := #[]
  resolved := Array.replicate 124 none
  statics := none }

def pool1 : Array CpInfo := pool [(2, .class_ 4), (1, u "java/lang/Object"), (0, u "<init>"), (0, u "()V"), (0, .class_ 8), (0, u "com/example/emberline/emberline/query/Automaton$Literal"), (0, .methodref 7 10), (0, .nameAndType 5 11), (0, u "(I)V"), (0, .methodref 7 13), (0, .nameAndType 14 15), (0, u "accepts"), (0, u "(I)Z"), (0, .methodref 7 17), (0, .nameAndType 18 19), (0, u "codePoint"), (0, u "()I"), (0, .class_ 21), (0, u "com/example/emberline/emberline/query/LiteralAcceptsPinLaw"), (2, u "law"), (0, u "(II)Z")] 7

def k1m0 : Method := { name := "<init>", desc := "()V", sig := { parameters := [], returnType := none }, accessFlags := 2, code := none }
def k1c1 : Code := { maxStack := 3, maxLocals := 7, code := code, exceptionTable := #[], attributes := #[] }
def k1m1 : Method := { name := "law", desc := "(II)Z", sig := { parameters := [.int, .int], returnType := some .boolean }, accessFlags := 9, code := some k1c1 }
/-- com/example/emberline/emberline/query/LiteralAcceptsPinLaw -/
def k1 : Class := { plain "com/example/emberline/emberline/query/LiteralAcceptsPinLaw" (some 0) with
  accessFlags := 49
  interfaces := #[]
  cf := some (fileOf pool1 20 #[] #[{ accessFlags := 2, nameIndex := 5, descriptorIndex := 6, attributes := #[] }, { accessFlags := 9, nameIndex := 24, descriptorIndex := 25, attributes := #[] }] 49 2 #[] #[])
  fields := #[]
  methods := #[k1m0, k1m1]
  instanceTypes := #[]
  staticTypes := #[]
  resolved := Array.replicate 33 none
  statics := none }

def pool2 : Array CpInfo := pool [(1, .methodref 2 3), (0, .class_ 4), (0, .nameAndType 5 6), (0, u "java/lang/Object"), (0, u "<init>"), (0, u "()V"), (0, .class_ 8), (0, u "java/lang/Record")] 13

def k2c0 : Code := { maxStack := 1, maxLocals := 1, code := jdk_30_method_1_code, exceptionTable := #[], attributes := #[] }
def k2m0 : Method := { name := "<init>", desc := "()V", sig := { parameters := [], returnType := none }, accessFlags := 4, code := some k2c0 }
/-- java/lang/Record -/
def k2 : Class := { plain "java/lang/Record" (some 0) with
  accessFlags := 1057
  interfaces := #[]
  cf := some (fileOf pool2 7 #[] #[{ accessFlags := 4, nameIndex := 5, descriptorIndex := 6, attributes := #[] }] 1057 2 #[] #[])
  fields := #[]
  methods := #[k2m0]
  instanceTypes := #[]
  staticTypes := #[]
  resolved := Array.replicate 22 none
  statics := none }

def pool3 : Array CpInfo := pool [(1, .class_ 2), (0, u "com/example/emberline/emberline/query/Automaton$OneCharacter"), (0, .class_ 4), (0, u "java/lang/Object"), (5, .class_ 11), (0, u "com/example/emberline/emberline/query/Automaton")] 12

/-- com/example/emberline/emberline/query/Automaton$OneCharacter -/
def k3 : Class := { plain "com/example/emberline/emberline/query/Automaton$OneCharacter" (some 0) with
  accessFlags := 1536
  interfaces := #[]
  cf := some (fileOf pool3 1 #[.nestHost 10] #[] 1536 3 #[] #[])
  fields := #[]
  methods := #[]
  instanceTypes := #[]
  staticTypes := #[]
  resolved := Array.replicate 24 none
  statics := none }

def pool4 : Array CpInfo := pool [(1, .methodref 2 3), (0, .class_ 4), (0, .nameAndType 5 6), (0, u "java/lang/Record"), (0, u "<init>"), (0, u "()V"), (0, .fieldref 8 9), (0, .class_ 10), (0, .nameAndType 11 12), (0, u "com/example/emberline/emberline/query/Automaton$Literal"), (0, u "codePoint"), (0, u "I"), (12, .class_ 26), (0, u "com/example/emberline/emberline/query/Automaton$OneCharacter"), (0, u "(I)V"), (3, u "accepts"), (0, u "(I)Z"), (2, u "()I"), (4, .class_ 41), (0, u "com/example/emberline/emberline/query/Automaton")] 19

def k4c0 : Code := { maxStack := 2, maxLocals := 2, code := prog_36_method_1_code, exceptionTable := #[], attributes := #[] }
def k4m0 : Method := { name := "<init>", desc := "(I)V", sig := { parameters := [.int], returnType := none }, accessFlags := 0, code := some k4c0 }
def k4c1 : Code := { maxStack := 2, maxLocals := 2, code := prog_36_method_2_code, exceptionTable := #[], attributes := #[] }
def k4m1 : Method := { name := "accepts", desc := "(I)Z", sig := { parameters := [.int], returnType := some .boolean }, accessFlags := 1, code := some k4c1 }
def k4c2 : Code := { maxStack := 1, maxLocals := 1, code := prog_36_method_6_code, exceptionTable := #[], attributes := #[] }
def k4m2 : Method := { name := "codePoint", desc := "()I", sig := { parameters := [], returnType := some .int }, accessFlags := 1, code := some k4c2 }
/-- com/example/emberline/emberline/query/Automaton$Literal -/
def k4 : Class := { plain "com/example/emberline/emberline/query/Automaton$Literal" (some 2) with
  accessFlags := 48
  interfaces := #[3]
  cf := some (fileOf pool4 8 #[.nestHost 40] #[{ accessFlags := 0, nameIndex := 5, descriptorIndex := 27, attributes := #[] }, { accessFlags := 1, nameIndex := 31, descriptorIndex := 32, attributes := #[] }, { accessFlags := 1, nameIndex := 11, descriptorIndex := 35, attributes := #[] }] 48 2 #[25] #[{ accessFlags := 18, nameIndex := 11, descriptorIndex := 12, attributes := #[] }])
  fields := #[{ name := "codePoint", type := .int, accessFlags := 18, slot := 0, constantValue := 0 }]
  methods := #[k4m0, k4m1, k4m2]
  instanceTypes := #[.int]
  staticTypes := #[]
  resolved := Array.replicate 61 none
  statics := none }

def pool5 : Array CpInfo := pool [(1, u "java/lang/Cloneable"), (0, .class_ 1), (0, u "java/lang/Object"), (0, .class_ 3)] 3

/-- java/lang/Cloneable -/
def k5 : Class := { plain "java/lang/Cloneable" (some 0) with
  accessFlags := 1537
  interfaces := #[]
  cf := some (fileOf pool5 2 #[] #[] 1537 4 #[] #[])
  fields := #[]
  methods := #[]
  instanceTypes := #[]
  staticTypes := #[]
  resolved := Array.replicate 8 none
  statics := none }

def pool6 : Array CpInfo := pool [(1, u "java/io/Serializable"), (0, .class_ 1), (0, u "java/lang/Object"), (0, .class_ 3)] 3

/-- java/io/Serializable -/
def k6 : Class := { plain "java/io/Serializable" (some 0) with
  accessFlags := 1537
  interfaces := #[]
  cf := some (fileOf pool6 2 #[] #[] 1537 4 #[] #[])
  fields := #[]
  methods := #[]
  instanceTypes := #[]
  staticTypes := #[]
  resolved := Array.replicate 8 none
  statics := none }

/-- the primitive byte -/
def k7 : Class := { plain "byte" none with kind := .primitive 'B', accessFlags := 0x411 }
/-- [B -/
def k8 : Class := { plain "[B" (some 0) with kind := .array 7 .byte, interfaces := #[5, 6], accessFlags := 1041 }

/-- the primitive int -/
def k9 : Class := { plain "int" none with kind := .primitive 'I', accessFlags := 0x411 }
/-- [I -/
def k10 : Class := { plain "[I" (some 0) with kind := .array 9 .int, interfaces := #[5, 6], accessFlags := 1041 }

def heap : Heap := #[]
def classes : Array Class := #[k0, k1, k2, k3, k4, k5, k6, k7, k8, k9, k10]
def interned : List (Array UInt16 × Addr) := []
def slotsUsed : Nat := 0
def theMethod : MethodId := ⟨1, 1⟩
def args0 : Array Value := #[.int 53, .int 7]
def aboutOver (below : List Frame) : State where
  vm := { classes := classes, interned := interned.toArray }
  heap := heap
  slotsUsed := slotsUsed
  threads := #[{ frames := .invoking theMethod args0 :: below }]
def below0 : List Frame := [.native { method := ⟨0, 0⟩, args := #[] }]
def about1 : State := aboutOver below0
def p0 : Program := .bare "" "" ""
def e0 : Env := launch0.env 0 0 0
theorem w_frames : about1.frames = Frame.invoking theMethod args0 :: below0 := rfl
set_option maxRecDepth 65536 in
theorem w_args : argsFit about1.vm theMethod args0 = true := by decide +kernel
set_option maxRecDepth 65536 in
theorem w_heap : heapFits about1 = true := by decide +kernel
set_option maxRecDepth 65536 in
theorem w_runnable : about1.curStatus? = some .runnable := by decide +kernel
set_option maxRecDepth 65536 in
theorem w_alone : about1.alone = true := by decide +kernel
set_option maxRecDepth 65536 in
theorem w_named : about1.methodNamed? x = some theMethod := by decide +kernel
set_option maxRecDepth 65536 in
theorem w_hears : about1.hears theMethod below0 = true := by decide +kernel
set_option maxRecDepth 65536 in
theorem w_ripe : about1.ripe theMethod args0 below0 = true := by decide +kernel
theorem w_running : about1.status = .running := rfl
set_option maxRecDepth 65536 in
theorem w_room : about1.hasRoom e0.platform room_1 = true :=
  launch0.hasRoom_least _ room_1 (by decide +kernel) (by decide +kernel) (by decide +kernel) (by decide +kernel) (by decide +kernel) (by decide +kernel)
theorem allAtoms_all (ts : List Jvm.Cond) (a : Array Jvm.Value) (st : Jvm.State) : (allAtoms ts).before a st = ts.all (fun c => c.before a st) := by
  induction ts with
  | nil => rfl
  | cons c t ih =>
    show (Jvm.Cond.and c (allAtoms t)).before a st = _
    rw [Jvm.Cond.before_and, ih, List.all_cons]
def words1 : List Jvm.Cond := Jvm.Cond.code x code maxLocals ret :: tables_1
/-- a 'code' word, met by the world's own term for the bytes: nothing is compared byte by byte -/
theorem code_word {y : MethodName} {bytes : ByteArray} {mx : Nat} {rt : Option FieldType} {a : Array Value} {s : State} {m : MethodId} {meth : Method} {c : Code} (h1 : s.methodNamed? y = some m) (h2 : s.vm.method? m = some meth) (h3 : meth.code = some c) (h4 : c.code = bytes)
    (h5 : (c.maxLocals == mx && c.exceptionTable.isEmpty && decide (c.maxStack ≤ mostOperands) && decide (meth.sig.returnType = rt) && !meth.locks && decide (parseMethodDescriptor y.desc = some meth.sig)) = true) : (Jvm.Cond.code y bytes mx rt).before a s = true := by
  simp only [Bool.and_eq_true, beq_iff_eq, Bool.not_eq_true', decide_eq_true_eq] at h5
  obtain ⟨⟨⟨⟨⟨g1, g2⟩, g3⟩, g4⟩, g5⟩, g6⟩ := h5
  simp [Cond.before, Cond.holds, Cond.value, h1, h2, h3, h4, g1, g2, g3, g4, g5, g6]
def isCode : Jvm.Cond → Bool
  | .code _ _ _ _ => true
  | _ => false
theorem all_split {L : List Jvm.Cond} {P : Jvm.Cond → Bool} (h1 : L.all (fun c => isCode c || P c) = true) (h2 : ∀ c ∈ L.filter isCode, P c = true) : L.all P = true := by
  refine List.all_eq_true.mpr fun c hc => ?_
  have h := List.all_eq_true.mp h1 c hc
  rcases Bool.eq_false_or_eq_true (isCode c) with hi | hi
  · exact h2 c (List.mem_filter.mpr ⟨hc, hi⟩)
  · simpa [hi] using h
set_option maxRecDepth 65536 in
theorem w_c0 : (Jvm.Cond.code x code maxLocals ret).before args0 about1 = true := code_word (m := ⟨1, 1⟩) (meth := k1m1) (c := k1c1) (by decide +kernel) rfl rfl rfl (by decide +kernel)
set_option maxRecDepth 65536 in
theorem w_c1 : (Jvm.Cond.code ({ cls := "com/example/emberline/emberline/query/Automaton$Literal", name := "<init>", desc := "(I)V" } : Jvm.MethodName) prog_36_method_1_code (2 : Nat) (Option.none : Option Jvm.ClassFile.FieldType)).before args0 about1 = true := code_word (m := ⟨4, 0⟩) (meth := k4m0) (c := k4c0) (by decide +kernel) rfl rfl rfl (by decide +kernel)
set_option maxRecDepth 65536 in
theorem w_c2 : (Jvm.Cond.code ({ cls := "java/lang/Record", name := "<init>", desc := "()V" } : Jvm.MethodName) jdk_30_method_1_code (1 : Nat) (Option.none : Option Jvm.ClassFile.FieldType)).before args0 about1 = true := code_word (m := ⟨2, 0⟩) (meth := k2m0) (c := k2c0) (by decide +kernel) rfl rfl rfl (by decide +kernel)
set_option maxRecDepth 65536 in
theorem w_c3 : (Jvm.Cond.code ({ cls := "java/lang/Object", name := "<init>", desc := "()V" } : Jvm.MethodName) object_method_1_code (1 : Nat) (Option.none : Option Jvm.ClassFile.FieldType)).before args0 about1 = true := code_word (m := ⟨0, 0⟩) (meth := k0m0) (c := k0c0) (by decide +kernel) rfl rfl rfl (by decide +kernel)
set_option maxRecDepth 65536 in
theorem w_c4 : (Jvm.Cond.code ({ cls := "com/example/emberline/emberline/query/Automaton$Literal", name := "accepts", desc := "(I)Z" } : Jvm.MethodName) prog_36_method_2_code (2 : Nat) (Option.some Jvm.ClassFile.FieldType.boolean)).before args0 about1 = true := code_word (m := ⟨4, 1⟩) (meth := k4m1) (c := k4c1) (by decide +kernel) rfl rfl rfl (by decide +kernel)
set_option maxRecDepth 65536 in
theorem w_c5 : (Jvm.Cond.code ({ cls := "com/example/emberline/emberline/query/Automaton$Literal", name := "codePoint", desc := "()I" } : Jvm.MethodName) prog_36_method_6_code (1 : Nat) (Option.some Jvm.ClassFile.FieldType.int)).before args0 about1 = true := code_word (m := ⟨4, 2⟩) (meth := k4m2) (c := k4c2) (by decide +kernel) rfl rfl rfl (by decide +kernel)
def codes1 : List Jvm.Cond := [Jvm.Cond.code x code maxLocals ret, Jvm.Cond.code ({ cls := "com/example/emberline/emberline/query/Automaton$Literal", name := "<init>", desc := "(I)V" } : Jvm.MethodName) prog_36_method_1_code (2 : Nat) (Option.none : Option Jvm.ClassFile.FieldType), Jvm.Cond.code ({ cls := "java/lang/Record", name := "<init>", desc := "()V" } : Jvm.MethodName) jdk_30_method_1_code (1 : Nat) (Option.none : Option Jvm.ClassFile.FieldType), Jvm.Cond.code ({ cls := "java/lang/Object", name := "<init>", desc := "()V" } : Jvm.MethodName) object_method_1_code (1 : Nat) (Option.none : Option Jvm.ClassFile.FieldType), Jvm.Cond.code ({ cls := "com/example/emberline/emberline/query/Automaton$Literal", name := "accepts", desc := "(I)Z" } : Jvm.MethodName) prog_36_method_2_code (2 : Nat) (Option.some Jvm.ClassFile.FieldType.boolean), Jvm.Cond.code ({ cls := "com/example/emberline/emberline/query/Automaton$Literal", name := "codePoint", desc := "()I" } : Jvm.MethodName) prog_36_method_6_code (1 : Nat) (Option.some Jvm.ClassFile.FieldType.int)]
set_option maxRecDepth 65536 in
theorem codes_eq : words1.filter isCode = codes1 := rfl
theorem w_codes : ∀ c ∈ words1.filter isCode, c.before args0 about1 = true := by
  rw [codes_eq]
  intro c hc
  simp only [codes1, List.mem_cons, List.not_mem_nil, or_false] at hc
  rcases hc with rfl | rfl | rfl | rfl | rfl | rfl
  · exact w_c0
  · exact w_c1
  · exact w_c2
  · exact w_c3
  · exact w_c4
  · exact w_c5
set_option maxRecDepth 65536 in
theorem w_t1 : (words1.take 24).all (fun c => isCode c || c.before args0 about1) = true := by decide +kernel
set_option maxRecDepth 65536 in
theorem w_t2 : (words1.drop 24).all (fun c => isCode c || c.before args0 about1) = true := by decide +kernel
theorem w_tables : (allAtoms (Jvm.Cond.code x code maxLocals ret :: tables_1)).before args0 about1 = true := by
  rw [allAtoms_all]
  show words1.all (fun c => c.before args0 about1) = true
  refine all_split ?_ w_codes
  rw [← List.take_append_drop 24 words1, List.all_append, w_t1, w_t2]
  rfl
set_option maxRecDepth 65536 in
theorem w_case : (Jvm.Cond.and given_1 narrow_1).before args0 about1 = true := by decide +kernel
theorem w_applies : (headSpec (Jvm.Cond.code x code maxLocals ret :: tables_1) room_1).applies x e0.platform about1 = true :=
  (Spec.applies_iff w_frames).mpr ⟨w_running, w_runnable, w_alone, w_named, w_hears, w_ripe, w_room, w_tables⟩
theorem atStart : AtStart classFile x code maxLocals ret World_1 tables_1 room_1 Calls_1 rest_1 Pre_1 launch0 p0 e0 about1 theMethod args0 below0 :=
  ⟨lists_1, trivial, launch0.admits_env _ _ _, launch0.least_env, fairChoices_fair.cas, fairChoices_fair.clock, w_frames, w_args, w_heap, w_applies, trivial, trivial, w_case⟩
end start1
theorem witness_1 : WitnessClaimed_1 := ⟨start1.p0, start1.e0, start1.about1, start1.theMethod, start1.args0, start1.below0, start1.atStart⟩
end Jvm.Pilot.@@N@@
