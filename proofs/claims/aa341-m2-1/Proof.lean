import JvmDerived
import JvmDerived.Pilot.@@N@@Statement
import JvmDerived.Pilot.@@N@@Code
set_option linter.unusedVariables false
set_option linter.unusedSimpArgs false
namespace Jvm.RoadKit
open Sem ClassFile Op Lib Jvm.Stand Jvm.Free Jvm.LawKit
section New
variable {p : Program} {l : Launch} {e : Env} {R : Room} {s : State} {m : MethodId} {args : Array Value} {below : List Frame} {meth : Method} {c : Code} {T : State} {locs : List Loc} {cells slots : Nat}
theorem retI (X : Stand p l e R s m args below meth c T locs cells slots) (hx : p.tables.exec = Jvm.exec) {pc : Nat} {Ls : Array Slot} {z : Int32} {rest : List Value} (hret : meth.sig.returnType = some .int) (hd : decode c.code pc = .ok (.ireturn, 1)) {fs : List Frame}
    (hl : ∀ (f : JFrame) (acts : List Action), f.method = m → f.locked = none → f.entered = [] → (doReturn e (T.setTop f) acts (some (.int z))).1 = T.setFrames fs) : Steps p.tables e below (T.setTop (mkF m pc Ls (.int z :: rest))) (T.setFrames fs) := by
  have hm' : T.vm.method? m = some meth := X.method'
  have hn : narrow .int (.int z) = .int z := rfl
  show Steps p.tables e below (T.setTop { method := m, pc := pc, locals := Ls, stack := _ :: rest, locked := none }) _
  jvm_step X.here [X.here.top, hx, hd, hm', hret, hn]
  first | (intro acts; rw [hl _ acts rfl rfl rfl]) | rw [hl _ _ rfl rfl rfl]
  exact Steps.refl _
theorem retD (X : Stand p l e R s m args below meth c T locs cells slots) (hx : p.tables.exec = Jvm.exec) {pc : Nat} {Ls : Array Slot} {z : UInt64} {rest : List Value} (hret : meth.sig.returnType = some .double) (hd : decode c.code pc = .ok (.dreturn, 1)) {fs : List Frame}
    (hl : ∀ (f : JFrame) (acts : List Action), f.method = m → f.locked = none → f.entered = [] → (doReturn e (T.setTop f) acts (some (.double z))).1 = T.setFrames fs) : Steps p.tables e below (T.setTop (mkF m pc Ls (.double z :: rest))) (T.setFrames fs) := by
  have hm' : T.vm.method? m = some meth := X.method'
  have hn : narrow .double (.double z) = .double z := rfl
  show Steps p.tables e below (T.setTop { method := m, pc := pc, locals := Ls, stack := _ :: rest, locked := none }) _
  jvm_step X.here [X.here.top, hx, hd, hm', hret, hn]
  first | (intro acts; rw [hl _ acts rfl rfl rfl]) | rw [hl _ _ rfl rfl rfl]
  exact Steps.refl _
end New
end Jvm.RoadKit
/- laws to paste: Road.backV, Road.eqW, Road.codOf (cut by pick.py; bodies as the Statement names them) -/
namespace Jvm.Pilot.@@N@@
namespace StrChars
open Jvm Sem ClassFile Op Lib Jvm.Stand Jvm.Free.XT Jvm.Free.ALB Jvm.Free.JM Jvm.Free
open Jvm.Lib.Cold (StaticIs)
/-- a char array whose places are chars -/
def Ch (a : Addr) (A : Cell) (U : State) : Prop := Arr .char a A U ∧ Typed .char A
theorem Ch.mv {a : Addr} {A : Cell} {U U' : State} (h : Ch a A U) (hal : U.vm.Alike U'.vm) (hh : U'.heap = U.heap) : Ch a A U' := ⟨h.1.mv hal hh, h.2⟩
theorem Ch.keep {a : Addr} {A : Cell} {U U' : State} (h : Ch a A U) (hal : U.vm.Alike U'.vm) (hk : U'.heap[a]? = some A) : Ch a A U' := ⟨h.1.keep hal hk, h.2⟩
/-- what place i of a char[]'s cell holds -/
def cv (A : Cell) (i : Nat) : Int32 := match A.slots[i]? with | some (.int x) => x | _ => 0
theorem Ch.get {a : Addr} {A : Cell} {U : State} (h : Ch a A U) {i : Nat} (hi : i < A.slots.size) : A.slots[i]? = some (.int (cv A i)) := by
  have e := Array.getElem?_eq_getElem hi
  have f := h.2 i _ e
  unfold cv; rw [e]
  generalize A.slots[i] = v at f
  cases v <;> simp [fits] at f ⊢
/-- the byte that i2b leaves of a char -/
def lo8 (x : Int32) : Int32 := x.toInt8.toInt32
theorem fits_lo8 (y : Int32) : fits .byte (.int (lo8 y)) = true := by
  have h1 := y.toInt8.le_toInt
  have h2 := y.toInt8.toInt_lt
  simp only [lo8, fits, Bool.and_eq_true, decide_eq_true_eq, Int32.le_iff_toInt_le, Int8.toInt_toInt32, show (-128 : Int32).toInt = -128 from by decide, show (127 : Int32).toInt = 127 from by decide]
  omega
/-- A' is A but that each place j of lo .. hi - 1 holds f j -/
def Laid (A A' : Cell) (lo hi : Nat) (f : Nat → Value) : Prop := A'.cls = A.cls ∧ A'.vm = A.vm ∧ A'.slots.size = A.slots.size ∧ ∀ i, A'.slots[i]? = if lo ≤ i ∧ i < hi then some (f i) else A.slots[i]?
theorem Laid.zero (A : Cell) (lo : Nat) (f : Nat → Value) : Laid A A lo (lo + 0) f := ⟨rfl, rfl, rfl, fun i => by rw [if_neg (by omega)]⟩
theorem Laid.step {A Ak : Cell} {lo k : Nat} {f : Nat → Value} {v : Value} (h : Laid A Ak lo k f) (hlo : lo ≤ k) (hk : k < Ak.slots.size) (hv : v = f k) : Laid A (Ak.setSlot k v) lo (k + 1) f := by
  refine ⟨h.1, h.2.1, by simpa [Cell.setSlot] using h.2.2.1, fun i => ?_⟩
  by_cases e : k = i
  · subst e; rw [Cell.slots_setSlot_self v hk, if_pos (by omega), hv]
  · rw [Cell.slots_setSlot_ne v e, h.2.2.2 i]
    by_cases q : lo ≤ i ∧ i < k
    · rw [if_pos q, if_pos (by omega)]
    · rw [if_neg q, if_neg (by omega)]
def U16 : String := "java/lang/StringUTF16"
namespace Cmp5
def yN : MethodName := ⟨"java/lang/StringUTF16", "compress", "([CI[BII)I"⟩
abbrev yB : ByteArray := jdk_52_method_21_code
theorem d0 : decode yB 0 = .ok (.iconst 0, 1) := by decide +kernel
theorem d1 : decode yB 1 = .ok (.istore 5, 2) := by decide +kernel
theorem d3 : decode yB 3 = .ok (.iload 5, 2) := by decide +kernel
theorem d5 : decode yB 5 = .ok (.iload 4, 2) := by decide +kernel
theorem d7 : decode yB 7 = .ok (.if_icmp (.ge) 37, 3) := by decide +kernel
theorem d10 : decode yB 10 = .ok (.aload_n 0, 1) := by decide +kernel
theorem d11 : decode yB 11 = .ok (.iload_n 1, 1) := by decide +kernel
theorem d12 : decode yB 12 = .ok (.caload, 1) := by decide +kernel
theorem d13 : decode yB 13 = .ok (.istore 6, 2) := by decide +kernel
theorem d15 : decode yB 15 = .ok (.iload 6, 2) := by decide +kernel
theorem d17 : decode yB 17 = .ok (.sipush 255, 3) := by decide +kernel
theorem d20 : decode yB 20 = .ok (.if_icmp (.le) 6, 3) := by decide +kernel
theorem d26 : decode yB 26 = .ok (.aload_n 2, 1) := by decide +kernel
theorem d27 : decode yB 27 = .ok (.iload_n 3, 1) := by decide +kernel
theorem d28 : decode yB 28 = .ok (.iload 6, 2) := by decide +kernel
theorem d30 : decode yB 30 = .ok (.i2b, 1) := by decide +kernel
theorem d31 : decode yB 31 = .ok (.bastore, 1) := by decide +kernel
theorem d32 : decode yB 32 = .ok (.iinc 1 1, 3) := by decide +kernel
theorem d35 : decode yB 35 = .ok (.iinc 3 1, 3) := by decide +kernel
theorem d38 : decode yB 38 = .ok (.iinc 5 1, 3) := by decide +kernel
theorem d41 : decode yB 41 = .ok (.goto (-38), 3) := by decide +kernel
theorem d44 : decode yB 44 = .ok (.iload 4, 2) := by decide +kernel
theorem d46 : decode yB 46 = .ok (.ireturn, 1) := by decide +kernel
def site : List Cond := []
def tab : Cond := tabOf yN yB 7 (some .int) site
def P (b : Addr) (A : Cell) (d : Addr) (B : Cell) (o q len : Nat) (args : Array Value) (s : State) : Prop := args = #[.ref b, .int (Int32.ofNat o), .ref d, .int (Int32.ofNat q), .int (Int32.ofNat len)] ∧ Ch b A s ∧ Arr .byte d B s ∧ b ≠ d ∧ o + len ≤ A.slots.size ∧ q + len ≤ B.slots.size ∧ ∀ i, i < len → ¬ 255 < cv A (o + i)
def E (b : Addr) (A : Cell) (d : Addr) (B : Cell) (o q len : Nat) (r : Option Value) (s u : State) : Prop := r = some (.int (Int32.ofNat len)) ∧ ∃ B', Put d B' s u ∧ Laid B B' q (q + len) (fun j => Value.int (lo8 (cv A (o + (j - q)))))
/-- no char of the range above 255: len; the places written hold each char's low byte -/
theorem law (l : Launch) (b : Addr) (A : Cell) (d : Addr) (B : Cell) (o q len : Nat) : Law l yN 5 5 0 0 yB 7 (some .int) site (P b A d B o q len) (E b A d B o q len) (copyLocs d q len) 0 0 := by
  refine Law.of_walk (plainFor_of_name (by decide +kernel)) (by decide +kernel) (by decide +kernel) (by decide) (fun _ _ h => by rw [h.1]; rfl) (fun _ U U' hal hh h => ⟨h.1, h.2.1.mv hal hh, h.2.2.1.mv hal hh, h.2.2.2⟩) (fun r U U' V V' h1 hal h2 h => ⟨h.1, h.2.elim fun B' q => ⟨B', q.1.mv h1 h2, q.2⟩⟩) ?_
  intro p e s m args below meth c s₁ X0 hexec hbytes hml hret hlk hnm hown hh0 W hP
  obtain ⟨rfl, hA, hB, hne, l1, l2, hp⟩ := hP
  have c1 : Steps p.tables e below (s₁.setTop (entryFrame m #[.ref b, .int (Int32.ofNat o), .ref d, .int (Int32.ofNat q), .int (Int32.ofNat len)] 7)) (s₁.setTop (mkF m 0 #[.val (.ref b), .val (.int (Int32.ofNat o)), .val (.ref d), .val (.int (Int32.ofNat q)), .val (.int (Int32.ofNat len)), .unset, .unset] [])) := entry rfl
  have hA0 := hA.1.mv X0.warmed.alike hh0
  have hB0 := hB.mv X0.warmed.alike hh0
  have a31 := hA.1.2.2.2
  have c2 : Steps p.tables e below (s₁.setTop (entryFrame m #[.ref b, .int (Int32.ofNat o), .ref d, .int (Int32.ofNat q), .int (Int32.ofNat len)] 7)) (s₁.setTop (mkF m 3 #[.val (.ref b), .val (.int (Int32.ofNat o)), .val (.ref d), .val (.int (Int32.ofNat q)), .val (.int (Int32.ofNat len)), .val (.int 0), .unset] [])) := c1.trans (by
    refine iconstV X0.here hexec rfl 0 (hb hbytes d0) (by decide) ?_
    refine XS.istore X0.here hexec rfl (hb hbytes d1) rfl rfl ?_
    exact Steps.refl _)
  have loop : ∀ (r i : Nat), i + r = len → ∀ (z : Slot), (z = .unset ∨ ∃ w, z = .val w ∧ w.category = 1) → ∀ (Tl : State) (Bk : Cell), Stand p l e { frames := 0, locals := 0, cells := 0, slots := 0 } s m #[.ref b, .int (Int32.ofNat o), .ref d, .int (Int32.ofNat q), .int (Int32.ofNat len)] below meth c Tl ([] ++ copyLocs d q i) 0 0 → Put d Bk s₁ Tl → Laid B Bk q (q + i) (fun j => Value.int (lo8 (cv A (o + (j - q))))) →
      Steps p.tables e below (s₁.setTop (entryFrame m #[.ref b, .int (Int32.ofNat o), .ref d, .int (Int32.ofNat q), .int (Int32.ofNat len)] 7)) (Tl.setTop (mkF m 3 #[.val (.ref b), .val (.int (Int32.ofNat (o + i))), .val (.ref d), .val (.int (Int32.ofNat (q + i))), .val (.int (Int32.ofNat len)), .val (.int (Int32.ofNat i)), z] [])) → ∃ (T' : State) (B' : Cell) (z' : Slot), Stand p l e { frames := 0, locals := 0, cells := 0, slots := 0 } s m #[.ref b, .int (Int32.ofNat o), .ref d, .int (Int32.ofNat q), .int (Int32.ofNat len)] below meth c T' ([] ++ copyLocs d q len) 0 0 ∧ Put d B' s₁ T' ∧ Laid B B' q (q + len) (fun j => Value.int (lo8 (cv A (o + (j - q))))) ∧
      Steps p.tables e below (s₁.setTop (entryFrame m #[.ref b, .int (Int32.ofNat o), .ref d, .int (Int32.ofNat q), .int (Int32.ofNat len)] 7)) (T'.setTop (mkF m 3 #[.val (.ref b), .val (.int (Int32.ofNat (o + len))), .val (.ref d), .val (.int (Int32.ofNat (q + len))), .val (.int (Int32.ofNat len)), .val (.int (Int32.ofNat len)), z'] [])) := by
    intro r
    induction r with
    | zero =>
      intro i hi z hz Tl Bk Xl pl fl cl
      have hil : i = len := by omega
      rw [hil] at Xl fl cl
      exact ⟨Tl, Bk, z, Xl, pl, fl, cl⟩
    | succ r ih =>
      intro i hi z hz Tl Bk Xl pl fl cl
      have all := X0.warmed.alike.symm.trans Xl.warmed.alike
      have hAl := hA0.keep all (pl.other hne hA0.1)
      have hBk := hB0.like all pl.1 fl.1 fl.2.1 fl.2.2.1
      have hlt : q + i < Bk.slots.size := by rw [fl.2.2.1]; omega
      have c3 : Steps p.tables e below (s₁.setTop (entryFrame m #[.ref b, .int (Int32.ofNat o), .ref d, .int (Int32.ofNat q), .int (Int32.ofNat len)] 7)) (Tl.setTop (mkF m 12 #[.val (.ref b), .val (.int (Int32.ofNat (o + i))), .val (.ref d), .val (.int (Int32.ofNat (q + i))), .val (.int (Int32.ofNat len)), .val (.int (Int32.ofNat i)), z] [.int (Int32.ofNat (o + i)), .ref b])) := cl.trans (by
        refine XS.iload Xl.here hexec rfl (hb hbytes d3) rfl ?_
        refine XS.iload Xl.here hexec rfl (hb hbytes d5) rfl ?_
        refine XS.icmpNo Xl.here hexec rfl (hb hbytes d7) rfl (ii_ge_f (lt32 (by omega) (by omega))) ?_
        refine XS.aloadN Xl.here hexec rfl (hb hbytes d10) rfl rfl ?_
        refine XS.iloadN Xl.here hexec rfl (hb hbytes d11) rfl ?_
        exact Steps.refl _)
      have c4 : Steps p.tables e below (s₁.setTop (entryFrame m #[.ref b, .int (Int32.ofNat o), .ref d, .int (Int32.ofNat q), .int (Int32.ofNat len)] 7)) (Tl.setTop (mkF m 13 #[.val (.ref b), .val (.int (Int32.ofNat (o + i))), .val (.ref d), .val (.int (Int32.ofNat (q + i))), .val (.int (Int32.ofNat len)), .val (.int (Int32.ofNat i)), z] [.int (cv A (o + i))])) := c3.trans (by
        refine Xl.aget hexec hAl rfl (hA.get (i := o + i) (by omega)) rfl rfl (hb hbytes d12) ?_
        exact Steps.refl _)
      have c5 : Steps p.tables e below (s₁.setTop (entryFrame m #[.ref b, .int (Int32.ofNat o), .ref d, .int (Int32.ofNat q), .int (Int32.ofNat len)] 7)) (Tl.setTop (mkF m 15 #[.val (.ref b), .val (.int (Int32.ofNat (o + i))), .val (.ref d), .val (.int (Int32.ofNat (q + i))), .val (.int (Int32.ofNat len)), .val (.int (Int32.ofNat i)), .val (.int (cv A (o + i)))] [])) := c4.trans (by
        refine XS.istoreS Xl.here hexec rfl (hb hbytes d13) rfl rfl hz ?_
        exact Steps.refl _)
      have c6 : Steps p.tables e below (s₁.setTop (entryFrame m #[.ref b, .int (Int32.ofNat o), .ref d, .int (Int32.ofNat q), .int (Int32.ofNat len)] 7)) (Tl.setTop (mkF m 31 #[.val (.ref b), .val (.int (Int32.ofNat (o + i))), .val (.ref d), .val (.int (Int32.ofNat (q + i))), .val (.int (Int32.ofNat len)), .val (.int (Int32.ofNat i)), .val (.int (cv A (o + i)))] [.int (lo8 (cv A (o + i))), .int (Int32.ofNat (q + i)), .ref d])) := c5.trans (by
        refine XS.iload Xl.here hexec rfl (hb hbytes d15) rfl ?_
        refine sipushV Xl.here hexec rfl 255 (hb hbytes d17) (by decide) ?_
        refine XS.icmpYes Xl.here hexec rfl (pc0 := 20) rfl (hb hbytes d20) rfl (ii_le_t (hp i (by omega))) (by decide) rfl ?_
        refine XS.aloadN Xl.here hexec rfl (hb hbytes d26) rfl rfl ?_
        refine XS.iloadN Xl.here hexec rfl (hb hbytes d27) rfl ?_
        refine XS.iload Xl.here hexec rfl (hb hbytes d28) rfl ?_
        refine i2b Xl.here hexec rfl (hb hbytes d30) rfl ?_
        exact Steps.refl _)
      obtain ⟨T7, X7, p7, st7⟩ := Xl.aput hexec hBk rfl hlt rfl (fits_lo8 (cv A (o + i))) (g := (mkF m 31 #[.val (.ref b), .val (.int (Int32.ofNat (o + i))), .val (.ref d), .val (.int (Int32.ofNat (q + i))), .val (.int (Int32.ofNat len)), .val (.int (Int32.ofNat i)), .val (.int (cv A (o + i)))] [.int (lo8 (cv A (o + i))), .int (Int32.ofNat (q + i)), .ref d])) rfl (rest := []) rfl (hb hbytes d31)
      have c8 : Steps p.tables e below (s₁.setTop (entryFrame m #[.ref b, .int (Int32.ofNat o), .ref d, .int (Int32.ofNat q), .int (Int32.ofNat len)] 7)) (T7.setTop (mkF m 32 #[.val (.ref b), .val (.int (Int32.ofNat (o + i))), .val (.ref d), .val (.int (Int32.ofNat (q + i))), .val (.int (Int32.ofNat len)), .val (.int (Int32.ofNat i)), .val (.int (cv A (o + i)))] [])) := c6.trans (st7 _ (Steps.refl _))
      have c9 : Steps p.tables e below (s₁.setTop (entryFrame m #[.ref b, .int (Int32.ofNat o), .ref d, .int (Int32.ofNat q), .int (Int32.ofNat len)] 7)) (T7.setTop (mkF m 3 #[.val (.ref b), .val (.int (Int32.ofNat (o + i) + 1)), .val (.ref d), .val (.int (Int32.ofNat (q + i) + 1)), .val (.int (Int32.ofNat len)), .val (.int (Int32.ofNat i + 1)), .val (.int (cv A (o + i)))] [])) := c8.trans (by
        refine iincV X7.here hexec rfl 1 (hb hbytes d32) (by decide) rfl rfl ?_
        refine iincV X7.here hexec rfl 1 (hb hbytes d35) (by decide) rfl rfl ?_
        refine iincV X7.here hexec rfl 1 (hb hbytes d38) (by decide) rfl rfl ?_
        refine XS.goto X7.here hexec rfl (pc0 := 41) rfl (hb hbytes d41) (by decide) rfl ?_
        exact Steps.refl _)
      have c10 : Steps p.tables e below (s₁.setTop (entryFrame m #[.ref b, .int (Int32.ofNat o), .ref d, .int (Int32.ofNat q), .int (Int32.ofNat len)] 7)) (T7.setTop (mkF m 3 #[.val (.ref b), .val (.int (Int32.ofNat (o + (i + 1)))), .val (.ref d), .val (.int (Int32.ofNat (q + (i + 1)))), .val (.int (Int32.ofNat len)), .val (.int (Int32.ofNat (i + 1))), .val (.int (cv A (o + i)))] [])) := by
        have := c9
        rw [succ32, succ32, succ32] at this
        exact this
      exact ih (i + 1) (by omega) _ (Or.inr ⟨_, rfl, rfl⟩) T7 _ (by rw [copyLocs_step, ← List.append_assoc]; exact X7) (pl.trans p7) (fl.step (by omega) hlt (by simp)) c10
  obtain ⟨T9, B9, z9, X9, p9, f9, g9⟩ := loop len 0 (by omega) .unset (Or.inl rfl) s₁ B (by simpa [copyLocs] using X0) ⟨hB0.1, fun _ _ => rfl, rfl⟩ (Laid.zero _ _ _) c2
  have c11 : Steps p.tables e below (s₁.setTop (entryFrame m #[.ref b, .int (Int32.ofNat o), .ref d, .int (Int32.ofNat q), .int (Int32.ofNat len)] 7)) (T9.setTop (mkF m 46 #[.val (.ref b), .val (.int (Int32.ofNat (o + len))), .val (.ref d), .val (.int (Int32.ofNat (q + len))), .val (.int (Int32.ofNat len)), .val (.int (Int32.ofNat len)), z9] [.int (Int32.ofNat len)])) := g9.trans (by
    refine XS.iload X9.here hexec rfl (hb hbytes d3) rfl ?_
    refine XS.iload X9.here hexec rfl (hb hbytes d5) rfl ?_
    refine XS.icmpYes X9.here hexec rfl (pc0 := 7) rfl (hb hbytes d7) rfl (ii_ge_t (nlt32 (by omega) (Nat.le_refl _))) (by decide) rfl ?_
    refine XS.iload X9.here hexec rfl (hb hbytes d44) rfl ?_
    exact Steps.refl _)
  exact ⟨T9, some (.int (Int32.ofNat len)), _, _, _, X9, by simp, rfl, rfl, (fun h => by cases h), ⟨rfl, B9, p9.from hh0, f9⟩, fun fs hl => c11.trans (X9.ireturnOut hexec hret rfl (Or.inl rfl) (hb hbytes d46) hl)⟩
end Cmp5
namespace Cmp3
def yN : MethodName := ⟨"java/lang/StringUTF16", "compress", "([CII)[B"⟩
abbrev yB : ByteArray := jdk_52_method_16_code
theorem d0 : decode yB 0 = .ok (.iload_n 2, 1) := by decide +kernel
theorem d1 : decode yB 1 = .ok (.newarray .byte, 2) := by decide +kernel
theorem d3 : decode yB 3 = .ok (.astore_n 3, 1) := by decide +kernel
theorem d4 : decode yB 4 = .ok (.aload_n 0, 1) := by decide +kernel
theorem d5 : decode yB 5 = .ok (.iload_n 1, 1) := by decide +kernel
theorem d6 : decode yB 6 = .ok (.aload_n 3, 1) := by decide +kernel
theorem d7 : decode yB 7 = .ok (.iconst 0, 1) := by decide +kernel
theorem d8 : decode yB 8 = .ok (.iload_n 2, 1) := by decide +kernel
theorem d9 : decode yB 9 = .ok (.invokestatic 115, 3) := by decide +kernel
theorem d12 : decode yB 12 = .ok (.istore 4, 2) := by decide +kernel
theorem d14 : decode yB 14 = .ok (.iload 4, 2) := by decide +kernel
theorem d16 : decode yB 16 = .ok (.iload_n 2, 1) := by decide +kernel
theorem d17 : decode yB 17 = .ok (.if_icmp (.eq) 40, 3) := by decide +kernel
theorem d57 : decode yB 57 = .ok (.aload_n 3, 1) := by decide +kernel
theorem d58 : decode yB 58 = .ok (.areturn, 1) := by decide +kernel
def site : List Cond := [.arrayClass .byte, Cmp5.tab] ++ staticW U16 115 Cmp5.yN
def tab : Cond := tabOf yN yB 6 (some (.array .byte)) site
def P (b : Addr) (A : Cell) (o len : Nat) (args : Array Value) (s : State) : Prop := args = #[.ref b, .int (Int32.ofNat o), .int (Int32.ofNat len)] ∧ Ch b A s ∧ o + len ≤ A.slots.size ∧ len ≤ 536870912 ∧ ∀ i, i < len → ¬ 255 < cv A (o + i)
def E (b : Addr) (A : Cell) (o len : Nat) (r : Option Value) (s u : State) : Prop := NewArr .byte "[B" len (fun j => .int (lo8 (cv A (o + j)))) r s u ∧ u.heap.size = s.heap.size + 1
/-- no char of the range above 255: a new byte[] of their low bytes -/
theorem law (l : Launch) (b : Addr) (A : Cell) (o len : Nat) : Law l yN 3 3 1 18 yB 6 (some (.array .byte)) site (P b A o len) (E b A o len) [] 1 len := by
  refine Law.of_walk (plainFor_of_name (by decide +kernel)) (by decide +kernel) (by decide +kernel) (by decide) (fun _ _ h => by rw [h.1]; rfl) (fun _ U U' hal hh h => ⟨h.1, h.2.1.mv hal hh, h.2.2⟩) (fun r U U' V V' h1 hal h2 h => ⟨NewArr.mv r U U' V V' h1 hal h2 h.1, by rw [h1, h2]; exact h.2⟩) ?_
  intro p e s m args below meth c s₁ X0 hexec hbytes hml hret hlk hnm hown hh0 W hP
  obtain ⟨rfl, hA, l1, l2, hp⟩ := hP
  have a31 := hA.1.2.2.2
  have c1 : Steps p.tables e below (s₁.setTop (entryFrame m #[.ref b, .int (Int32.ofNat o), .int (Int32.ofNat len)] 6)) (s₁.setTop (mkF m 0 #[.val (.ref b), .val (.int (Int32.ofNat o)), .val (.int (Int32.ofNat len)), .unset, .unset, .unset] [])) := entry rfl
  have c2 : Steps p.tables e below (s₁.setTop (entryFrame m #[.ref b, .int (Int32.ofNat o), .int (Int32.ofNat len)] 6)) (s₁.setTop (mkF m 1 #[.val (.ref b), .val (.int (Int32.ofNat o)), .val (.int (Int32.ofNat len)), .unset, .unset, .unset] [.int (Int32.ofNat len)])) := c1.trans (by
    refine XS.iloadN X0.here hexec rfl (hb hbytes d0) rfl ?_
    exact Steps.refl _)
  obtain ⟨T3, B3, X3, ba3, bs3, bv3, bh3, bf3, st3⟩ := X0.anew hexec (atype := .byte) (wk W (.arrayClass .byte)) rfl (by show len * 1 ≤ _; omega) (by omega) (g := (mkF m 1 #[.val (.ref b), .val (.int (Int32.ofNat o)), .val (.int (Int32.ofNat len)), .unset, .unset, .unset] [.int (Int32.ofNat len)])) rfl (hb hbytes d1) (rest := []) rfl (Nat.le_refl _) (by show 0 + len ≤ len; omega)
  rw [hh0] at ba3 st3
  have kp3 : XT.Kept s T3 := (XT.Kept.of_eq hh0).push bh3
  have hA3 := hA.keep X3.warmed.alike (kp3 _ _ hA.1.1)
  have hne : b ≠ s.heap.size := hA.1.ne
  have c4 : Steps p.tables e below (s₁.setTop (entryFrame m #[.ref b, .int (Int32.ofNat o), .int (Int32.ofNat len)] 6)) (T3.setTop (mkF m 3 #[.val (.ref b), .val (.int (Int32.ofNat o)), .val (.int (Int32.ofNat len)), .unset, .unset, .unset] [.ref s.heap.size])) := c2.trans (st3 _ (Steps.refl _))
  have c5 : Steps p.tables e below (s₁.setTop (entryFrame m #[.ref b, .int (Int32.ofNat o), .int (Int32.ofNat len)] 6)) (T3.setTop (mkF m 9 #[.val (.ref b), .val (.int (Int32.ofNat o)), .val (.int (Int32.ofNat len)), .val (.ref s.heap.size), .unset, .unset] [.int (Int32.ofNat len), .int 0, .ref s.heap.size, .int (Int32.ofNat o), .ref b])) := c4.trans (by
    refine XS.astoreN X3.here hexec rfl (hb hbytes d3) rfl rfl rfl ?_
    refine XS.aloadN X3.here hexec rfl (hb hbytes d4) rfl rfl ?_
    refine XS.iloadN X3.here hexec rfl (hb hbytes d5) rfl ?_
    refine XS.aloadN X3.here hexec rfl (hb hbytes d6) rfl rfl ?_
    refine iconstV X3.here hexec rfl 0 (hb hbytes d7) (by decide) ?_
    refine XS.iloadN X3.here hexec rfl (hb hbytes d8) rfl ?_
    exact Steps.refl _)
  obtain ⟨v6, T6, X6, E6, g6⟩ := X3.callS hexec (Cmp5.law l b A s.heap.size B3 o 0 len) hown (wks W (staticW U16 115 Cmp5.yN)) (wk W Cmp5.tab) (W := 0) (Nat.le_of_ble_eq_true rfl) (Nat.le_of_ble_eq_true rfl) (Nat.le_refl _) (by show 0 + len + 0 ≤ len; omega) (g := (mkF m 9 #[.val (.ref b), .val (.int (Int32.ofNat o)), .val (.int (Int32.ofNat len)), .val (.ref s.heap.size), .unset, .unset] [.int (Int32.ofNat len), .int (Int32.ofNat 0), .ref s.heap.size, .int (Int32.ofNat o), .ref b])) rfl (by rw [hml]; rfl) c5 (argsL := [.ref b, .int (Int32.ofNat o), .ref s.heap.size, .int (Int32.ofNat 0), .int (Int32.ofNat len)]) (rest := []) rfl rfl (by show 2 * 0 + 0 ≤ _; decide) (hb hbytes d9) (⟨rfl, hA3, ba3, hne, l1, by rw [bs3]; simp, hp⟩)
  obtain ⟨rfl, B6, p6, f6⟩ := E6
  have c7 : Steps p.tables e below (s₁.setTop (entryFrame m #[.ref b, .int (Int32.ofNat o), .int (Int32.ofNat len)] 6)) (T6.setTop (mkF m 12 #[.val (.ref b), .val (.int (Int32.ofNat o)), .val (.int (Int32.ofNat len)), .val (.ref s.heap.size), .unset, .unset] [.int (Int32.ofNat len)])) := g6
  have c8 : Steps p.tables e below (s₁.setTop (entryFrame m #[.ref b, .int (Int32.ofNat o), .int (Int32.ofNat len)] 6)) (T6.setTop (mkF m 58 #[.val (.ref b), .val (.int (Int32.ofNat o)), .val (.int (Int32.ofNat len)), .val (.ref s.heap.size), .val (.int (Int32.ofNat len)), .unset] [.ref s.heap.size])) := c7.trans (by
    refine XS.istore X6.here hexec rfl (hb hbytes d12) rfl rfl ?_
    refine XS.iload X6.here hexec rfl (hb hbytes d14) rfl ?_
    refine XS.iloadN X6.here hexec rfl (hb hbytes d16) rfl ?_
    refine XS.icmpYes X6.here hexec rfl (pc0 := 17) rfl (hb hbytes d17) rfl (ii_eq_t rfl) (by decide) rfl ?_
    refine XS.aloadN X6.here hexec rfl (hb hbytes d57) rfl rfl ?_
    exact Steps.refl _)
  have X8 := X6.wide (L' := []) (cells' := 1) (slots' := len) (fun x hx hlt => by
    simp only [List.nil_append, copyLocs, List.mem_map, List.mem_range] at hx
    obtain ⟨i, -, rfl⟩ := hx
    exact absurd hlt (Nat.lt_irrefl _)) (Nat.le_refl _) (by omega)
  exact ⟨T6, some (.ref s.heap.size), _, _, _, X8, rfl, rfl, rfl, (fun h => by cases h), ⟨⟨rfl, B6, ba3.like (X3.warmed.alike.symm.trans X6.warmed.alike) p6.1 f6.1 f6.2.1 f6.2.2.1, f6.2.1.trans bv3, by rw [X6.warmed.alike.findClass, f6.1]; exact bf3, by rw [f6.2.2.1, bs3]; simp, fun j hj => by rw [f6.2.2.2 j, if_pos (by omega)]; rfl, kp3.put p6 (Nat.le_refl _)⟩, by rw [p6.2.2, bh3, hh0]; simp⟩, fun fs hl => c8.trans (X8.areturnOut hexec rfl hret rfl (hb hbytes d58) hl)⟩
end Cmp3
namespace CodL
def yN : MethodName := ⟨"java/lang/StringUTF16", "coderFromArrayLen", "([BI)B"⟩
abbrev yB : ByteArray := jdk_52_method_15_code
theorem d0 : decode yB 0 = .ok (.iload_n 1, 1) := by decide +kernel
theorem d1 : decode yB 1 = .ok (.aload_n 0, 1) := by decide +kernel
theorem d2 : decode yB 2 = .ok (.arraylength, 1) := by decide +kernel
theorem d3 : decode yB 3 = .ok (.isub, 1) := by decide +kernel
theorem d4 : decode yB 4 = .ok (.bipush 31, 2) := by decide +kernel
theorem d6 : decode yB 6 = .ok (.iushr, 1) := by decide +kernel
theorem d7 : decode yB 7 = .ok (.i2b, 1) := by decide +kernel
theorem d8 : decode yB 8 = .ok (.ireturn, 1) := by decide +kernel
def site : List Cond := []
def tab : Cond := tabOf yN yB 2 (some .byte) site
def P (d : Addr) (B : Cell) (args : Array Value) (s : State) : Prop := args = #[.ref d, .int (Int32.ofNat B.slots.size)] ∧ Arr .byte d B s
def E (r : Option Value) (s u : State) : Prop := XT.PureE (some (.int 0)) r s u
/-- an array as long as the number of chars: LATIN1 -/
theorem law (l : Launch) (d : Addr) (B : Cell) : Law l yN 2 2 0 0 yB 2 (some .byte) site (P d B) E [] 0 0 := by
  refine Law.of_walk (plainFor_of_name (by decide +kernel)) (by decide +kernel) (by decide +kernel) (by decide) (fun _ _ h => by rw [h.1]; rfl) (fun _ U U' hal hh h => ⟨h.1, h.2.mv hal hh⟩) (fun r U U' V V' h1 hal h2 h => XT.PureE.mv r U U' V V' h1 hal h2 h) ?_
  intro p e s m args below meth c s₁ X0 hexec hbytes hml hret hlk hnm hown hh0 W hP
  obtain ⟨rfl, hB⟩ := hP
  have hB0 := hB.mv X0.warmed.alike hh0
  have c1 : Steps p.tables e below (s₁.setTop (entryFrame m #[.ref d, .int (Int32.ofNat B.slots.size)] 2)) (s₁.setTop (mkF m 0 #[.val (.ref d), .val (.int (Int32.ofNat B.slots.size))] [])) := entry rfl
  have c2 : Steps p.tables e below (s₁.setTop (entryFrame m #[.ref d, .int (Int32.ofNat B.slots.size)] 2)) (s₁.setTop (mkF m 2 #[.val (.ref d), .val (.int (Int32.ofNat B.slots.size))] [.ref d, .int (Int32.ofNat B.slots.size)])) := c1.trans (by
    refine XS.iloadN X0.here hexec rfl (hb hbytes d0) rfl ?_
    refine XS.aloadN X0.here hexec rfl (hb hbytes d1) rfl rfl ?_
    exact Steps.refl _)
  have c3 : Steps p.tables e below (s₁.setTop (entryFrame m #[.ref d, .int (Int32.ofNat B.slots.size)] 2)) (s₁.setTop (mkF m 8 #[.val (.ref d), .val (.int (Int32.ofNat B.slots.size))] [.int (lo8 (ushr (Int32.ofNat B.slots.size - Int32.ofNat B.slots.size) 31))])) := c2.trans (by
    refine X0.alen hexec hB0 rfl rfl (hb hbytes d2) ?_
    refine XS.isub X0.here hexec rfl (hb hbytes d3) rfl ?_
    refine bipushV X0.here hexec rfl 31 (hb hbytes d4) (by decide) ?_
    refine iushr X0.here hexec rfl (hb hbytes d6) rfl ?_
    refine i2b X0.here hexec rfl (hb hbytes d7) rfl ?_
    exact Steps.refl _)
  have e0 : lo8 (ushr (Int32.ofNat B.slots.size - Int32.ofNat B.slots.size) 31) = 0 := by rw [Int32.sub_self]; decide
  rw [e0] at c3
  exact ⟨s₁, some (.int 0), _, _, _, X0, rfl, rfl, rfl, (fun h => by cases h), ⟨rfl, hh0⟩, fun fs hl => c3.trans (X0.ireturnOut hexec hret rfl (Or.inr (Or.inr (Or.inl rfl))) (hb hbytes d8) hl)⟩
end CodL
/-- the String at a is Latin-1 over a new byte[] (the heap's one new cell): the low bytes of the len chars of A from o on; every cell but a is kept -/
def Got (a : Addr) (D : Cell) (fV fC : Field) (A : Cell) (o len : Nat) (r : Option Value) (s u : State) : Prop := r = none ∧ ∃ D' V : Cell, Blank "java/lang/String" a D' u ∧ Same D D' [fV.slot, fC.slot] ∧ D'.slots[fV.slot]? = some (.ref s.heap.size) ∧ D'.slots[fC.slot]? = some (.int 0) ∧ Arr .byte s.heap.size V u ∧ V.vm = .none ∧ u.vm.findClass "[B" = some V.cls ∧ V.slots.size = len ∧ (∀ j, j < len → V.slots[j]? = some (.int (lo8 (cv A (o + j))))) ∧ (∀ (y : Addr) (c : Cell), y ≠ a → s.heap[y]? = some c → u.heap[y]? = some c) ∧ u.heap.size = s.heap.size + 1
theorem Got.mv {a : Addr} {D A : Cell} {fV fC : Field} {o len : Nat} : ∀ r (U U' V V' : State), U'.heap = U.heap → V.vm.Alike V'.vm → V'.heap = V.heap → Got a D fV fC A o len r U V → Got a D fV fC A o len r U' V' :=
  fun r U U' V V' h1 hal h2 ⟨e0, D', X, a1, a2, a3, a4, a5, a6, a7, a8, a9, a10, a11⟩ => ⟨e0, D', X, a1.mv hal h2, a2, by rw [h1]; exact a3, a4, by rw [h1]; exact a5.mv hal h2, a6, by rw [hal.findClass]; exact a7, a8, a9, by rw [h1, h2]; exact a10, by rw [h1, h2]; exact a11⟩
namespace New4
def yN : MethodName := ⟨"java/lang/String", "<init>", "([CIILjava/lang/Void;)V"⟩
abbrev yB : ByteArray := jdk_42_method_149_code
theorem d0 : decode yB 0 = .ok (.aload_n 0, 1) := by decide +kernel
theorem d1 : decode yB 1 = .ok (.invokespecial 1, 3) := by decide +kernel
theorem d4 : decode yB 4 = .ok (.iload_n 3, 1) := by decide +kernel
theorem d5 : decode yB 5 = .ok (.ifCond (.ne) 22, 3) := by decide +kernel
theorem d27 : decode yB 27 = .ok (.getstatic 38, 3) := by decide +kernel
theorem d30 : decode yB 30 = .ok (.ifCond (.eq) 28, 3) := by decide +kernel
theorem d33 : decode yB 33 = .ok (.aload_n 1, 1) := by decide +kernel
theorem d34 : decode yB 34 = .ok (.iload_n 2, 1) := by decide +kernel
theorem d35 : decode yB 35 = .ok (.iload_n 3, 1) := by decide +kernel
theorem d36 : decode yB 36 = .ok (.invokestatic 177, 3) := by decide +kernel
theorem d39 : decode yB 39 = .ok (.astore 5, 2) := by decide +kernel
theorem d41 : decode yB 41 = .ok (.aload_n 0, 1) := by decide +kernel
theorem d42 : decode yB 42 = .ok (.aload 5, 2) := by decide +kernel
theorem d44 : decode yB 44 = .ok (.iload_n 3, 1) := by decide +kernel
theorem d45 : decode yB 45 = .ok (.invokestatic 47, 3) := by decide +kernel
theorem d48 : decode yB 48 = .ok (.putfield 15, 3) := by decide +kernel
theorem d51 : decode yB 51 = .ok (.aload_n 0, 1) := by decide +kernel
theorem d52 : decode yB 52 = .ok (.aload 5, 2) := by decide +kernel
theorem d54 : decode yB 54 = .ok (.putfield 9, 3) := by decide +kernel
theorem d57 : decode yB 57 = .ok (.return_, 1) := by decide +kernel
def site : List Cond := [.fieldLink "java/lang/String" 38 "java/lang/String" "COMPACT_STRINGS" "Z", Cmp3.tab, CodL.tab, .laysFinal "java/lang/String" "java/lang/String" "value" "[B", .fieldLink "java/lang/String" 9 "java/lang/String" "value" "[B", .laysFinal "java/lang/String" "java/lang/String" "coder" "B", .fieldLink "java/lang/String" 15 "java/lang/String" "coder" "B"] ++ objW "java/lang/String" 1 ++ staticW "java/lang/String" 177 Cmp3.yN ++ staticW "java/lang/String" 47 CodL.yN
def tab : Cond := tabOf yN yB 6 none site
def P (a : Addr) (D : Cell) (fV fC : Field) (b : Addr) (A : Cell) (z : Int32) (o len : Nat) (args : Array Value) (s : State) : Prop := args = #[.ref a, .ref b, .int (Int32.ofNat o), .int (Int32.ofNat len), .null] ∧ Blank "java/lang/String" a D s ∧ Found "java/lang/String" "value" "[B" fV s ∧ Found "java/lang/String" "coder" "B" fC s ∧ Ch b A s ∧ StaticIs s "java/lang/String" "COMPACT_STRINGS" "Z" (.int z) ∧ ¬ z = 0 ∧ 0 < len ∧ o + len ≤ A.slots.size ∧ len ≤ 536870912 ∧ ∀ i, i < len → ¬ 255 < cv A (o + i)
def E (a : Addr) (D : Cell) (fV fC : Field) (A : Cell) (o len : Nat) (r : Option Value) (s u : State) : Prop := Got a D fV fC A o len r s u
/-- len > 0, no char of the range above 255: a Latin-1 String of their low bytes -/
theorem law (l : Launch) (a : Addr) (D : Cell) (fV fC : Field) (b : Addr) (A : Cell) (z : Int32) (o len : Nat) : Law l yN 5 4 2 35 yB 6 none site (P a D fV fC b A z o len) (E a D fV fC A o len) [⟨a, fC.slot⟩, ⟨a, fV.slot⟩] 1 len := by
  refine Law.of_walk (plainFor_of_name (by decide +kernel)) (by decide +kernel) (by decide +kernel) (by decide) (fun _ _ h => by rw [h.1]; rfl) (fun _ U U' hal hh h => ⟨h.1, h.2.1.mv hal hh, h.2.2.1.al hal, h.2.2.2.1.al hal, h.2.2.2.2.1.mv hal hh, h.2.2.2.2.2.1.there hal hh, h.2.2.2.2.2.2⟩) (fun r U U' V V' h1 hal h2 h => Got.mv r U U' V V' h1 hal h2 h) ?_
  intro p e s m args below meth c s₁ X0 hexec hbytes hml hret hlk hnm hown hh0 W hP
  obtain ⟨rfl, hB, f1, f2, hA, s1, hz, l0, l1, l2, hp⟩ := hP
  have a31 := hA.1.2.2.2
  have c1 : Steps p.tables e below (s₁.setTop (entryFrame m #[.ref a, .ref b, .int (Int32.ofNat o), .int (Int32.ofNat len), .null] 6)) (s₁.setTop (mkF m 0 #[.val (.ref a), .val (.ref b), .val (.int (Int32.ofNat o)), .val (.int (Int32.ofNat len)), .val .null, .unset] [])) := entry rfl
  have c2 : Steps p.tables e below (s₁.setTop (entryFrame m #[.ref a, .ref b, .int (Int32.ofNat o), .int (Int32.ofNat len), .null] 6)) (s₁.setTop (mkF m 1 #[.val (.ref a), .val (.ref b), .val (.int (Int32.ofNat o)), .val (.int (Int32.ofNat len)), .val .null, .unset] [.ref a])) := c1.trans (by
    refine XS.aloadN X0.here hexec rfl (hb hbytes d0) rfl rfl ?_
    exact Steps.refl _)
  obtain ⟨T3, X3, q3, st3⟩ := X0.oinit hexec hown (wks W (objW "java/lang/String" 1)) (g := (mkF m 1 #[.val (.ref a), .val (.ref b), .val (.int (Int32.ofNat o)), .val (.int (Int32.ofNat len)), .val .null, .unset] [.ref a])) rfl (by rw [hml]; rfl) (rest := []) rfl (hb hbytes d1) (W := 0) (by show 2 * 0 + 0 ≤ _; decide) (Nat.le_of_ble_eq_true rfl) (Nat.le_of_ble_eq_true rfl)
  have hh3 := q3.trans hh0
  have c4 : Steps p.tables e below (s₁.setTop (entryFrame m #[.ref a, .ref b, .int (Int32.ofNat o), .int (Int32.ofNat len), .null] 6)) (T3.setTop (mkF m 27 #[.val (.ref a), .val (.ref b), .val (.int (Int32.ofNat o)), .val (.int (Int32.ofNat len)), .val .null, .unset] [])) := (c2.trans (st3 _ (Steps.refl _))).trans (by
    refine XS.iloadN X3.here hexec rfl (hb hbytes d4) rfl ?_
    refine XS.ifYes X3.here hexec rfl (pc0 := 5) rfl (hb hbytes d5) rfl (i0_ne_t (nz32 (by omega) l0)) (by decide) rfl ?_
    exact Steps.refl _)
  obtain ⟨T5, X5, q5, st5⟩ := X3.sget hexec hown (wk W (.fieldLink "java/lang/String" 38 "java/lang/String" "COMPACT_STRINGS" "Z")) s1 (fun _ _ h => by rw [hh3]; exact h) (g := (mkF m 27 #[.val (.ref a), .val (.ref b), .val (.int (Int32.ofNat o)), .val (.int (Int32.ofNat len)), .val .null, .unset] [])) rfl (hb hbytes d27)
  have hh5 := q5.trans hh3
  have c6 : Steps p.tables e below (s₁.setTop (entryFrame m #[.ref a, .ref b, .int (Int32.ofNat o), .int (Int32.ofNat len), .null] 6)) (T5.setTop (mkF m 30 #[.val (.ref a), .val (.ref b), .val (.int (Int32.ofNat o)), .val (.int (Int32.ofNat len)), .val .null, .unset] [.int z])) := c4.trans (st5 _ (Steps.refl _))
  have c7 : Steps p.tables e below (s₁.setTop (entryFrame m #[.ref a, .ref b, .int (Int32.ofNat o), .int (Int32.ofNat len), .null] 6)) (T5.setTop (mkF m 36 #[.val (.ref a), .val (.ref b), .val (.int (Int32.ofNat o)), .val (.int (Int32.ofNat len)), .val .null, .unset] [.int (Int32.ofNat len), .int (Int32.ofNat o), .ref b])) := c6.trans (by
    refine XS.ifNo X5.here hexec rfl (hb hbytes d30) rfl (i0_eq_f hz) ?_
    refine XS.aloadN X5.here hexec rfl (hb hbytes d33) rfl rfl ?_
    refine XS.iloadN X5.here hexec rfl (hb hbytes d34) rfl ?_
    refine XS.iloadN X5.here hexec rfl (hb hbytes d35) rfl ?_
    exact Steps.refl _)
  obtain ⟨v8, T8, X8, E8, g8⟩ := X5.callS hexec (Cmp3.law l b A o len) hown (wks W (staticW "java/lang/String" 177 Cmp3.yN)) (wk W Cmp3.tab) (W := 0) (Nat.le_of_ble_eq_true rfl) (Nat.le_of_ble_eq_true rfl) (Nat.le_refl _) (by show 0 + len ≤ len; omega) (g := (mkF m 36 #[.val (.ref a), .val (.ref b), .val (.int (Int32.ofNat o)), .val (.int (Int32.ofNat len)), .val .null, .unset] [.int (Int32.ofNat len), .int (Int32.ofNat o), .ref b])) rfl (by rw [hml]; rfl) c7 (argsL := [.ref b, .int (Int32.ofNat o), .int (Int32.ofNat len)]) (rest := []) rfl rfl (by show 2 * 0 + 0 ≤ _; decide) (hb hbytes d36) (⟨rfl, hA.mv X5.warmed.alike hh5, l1, l2, hp⟩)
  obtain ⟨e8, z8⟩ := E8
  obtain ⟨rfl, N, n1, n2, n3, n4, n5, n6⟩ := NewArr.mv _ T5 s _ _ hh5.symm (Vm.Alike.refl _) rfl e8
  rw [hh5] at z8
  have hB1 := hB.keep X8.warmed.alike (n6 _ _ hB.1)
  have hne : s.heap.size ≠ a := (Nat.ne_of_lt (Array.getElem?_eq_some_iff.mp hB.1).1).symm
  have c9 : Steps p.tables e below (s₁.setTop (entryFrame m #[.ref a, .ref b, .int (Int32.ofNat o), .int (Int32.ofNat len), .null] 6)) (T8.setTop (mkF m 39 #[.val (.ref a), .val (.ref b), .val (.int (Int32.ofNat o)), .val (.int (Int32.ofNat len)), .val .null, .unset] [.ref s.heap.size])) := g8
  have c10 : Steps p.tables e below (s₁.setTop (entryFrame m #[.ref a, .ref b, .int (Int32.ofNat o), .int (Int32.ofNat len), .null] 6)) (T8.setTop (mkF m 45 #[.val (.ref a), .val (.ref b), .val (.int (Int32.ofNat o)), .val (.int (Int32.ofNat len)), .val .null, .val (.ref s.heap.size)] [.int (Int32.ofNat N.slots.size), .ref s.heap.size, .ref a])) := by
    have hc : Steps p.tables e below (s₁.setTop (entryFrame m #[.ref a, .ref b, .int (Int32.ofNat o), .int (Int32.ofNat len), .null] 6)) (T8.setTop (mkF m 45 #[.val (.ref a), .val (.ref b), .val (.int (Int32.ofNat o)), .val (.int (Int32.ofNat len)), .val .null, .val (.ref s.heap.size)] [.int (Int32.ofNat len), .ref s.heap.size, .ref a])) := c9.trans (by
      refine XS.astore X8.here hexec rfl (hb hbytes d39) rfl rfl rfl ?_
      refine XS.aloadN X8.here hexec rfl (hb hbytes d41) rfl rfl ?_
      refine XS.aload X8.here hexec rfl (hb hbytes d42) rfl rfl ?_
      refine XS.iloadN X8.here hexec rfl (hb hbytes d44) rfl ?_
      exact Steps.refl _)
    rw [n4]; exact hc
  obtain ⟨v11, T11, X11, E11, g11⟩ := X8.callS hexec (CodL.law l s.heap.size N) hown (wks W (staticW "java/lang/String" 47 CodL.yN)) (wk W CodL.tab) (W := 1) (Nat.le_of_ble_eq_true rfl) (Nat.le_of_ble_eq_true rfl) (Nat.le_refl _) (by show 0 + len + 0 ≤ len; omega) (g := (mkF m 45 #[.val (.ref a), .val (.ref b), .val (.int (Int32.ofNat o)), .val (.int (Int32.ofNat len)), .val .null, .val (.ref s.heap.size)] [.int (Int32.ofNat N.slots.size), .ref s.heap.size, .ref a])) rfl (by rw [hml]; rfl) c10 (argsL := [.ref s.heap.size, .int (Int32.ofNat N.slots.size)]) (rest := [.ref a]) rfl rfl (by show 2 * 0 + (1 + 0) ≤ _; decide) (hb hbytes d45) (⟨rfl, n1⟩)
  obtain ⟨rfl, q11⟩ := E11
  have hB11 := hB1.mv (X8.warmed.alike.symm.trans X11.warmed.alike) q11
  have c12 : Steps p.tables e below (s₁.setTop (entryFrame m #[.ref a, .ref b, .int (Int32.ofNat o), .int (Int32.ofNat len), .null] 6)) (T11.setTop (mkF m 48 #[.val (.ref a), .val (.ref b), .val (.int (Int32.ofNat o)), .val (.int (Int32.ofNat len)), .val .null, .val (.ref s.heap.size)] [.int 0, .ref a])) := g11
  obtain ⟨T13, X13, p13, bl13, sl13, st13⟩ := X11.finit hexec hown (wk W (.fieldLink "java/lang/String" 15 "java/lang/String" "coder" "B")) (Or.inr ⟨_, (wk W (.laysFinal "java/lang/String" "java/lang/String" "coder" "B"))⟩) (Or.inl ⟨rfl, hnm⟩) f2 (Or.inl rfl) hB11 (t := .byte) (by decide +kernel) rfl (g := (mkF m 48 #[.val (.ref a), .val (.ref b), .val (.int (Int32.ofNat o)), .val (.int (Int32.ofNat len)), .val .null, .val (.ref s.heap.size)] [.int 0, .ref a])) rfl (rest := []) rfl (hb hbytes d48)
  have c14 : Steps p.tables e below (s₁.setTop (entryFrame m #[.ref a, .ref b, .int (Int32.ofNat o), .int (Int32.ofNat len), .null] 6)) (T13.setTop (mkF m 54 #[.val (.ref a), .val (.ref b), .val (.int (Int32.ofNat o)), .val (.int (Int32.ofNat len)), .val .null, .val (.ref s.heap.size)] [.ref s.heap.size, .ref a])) := (c12.trans (st13 _ (Steps.refl _))).trans (by
    refine XS.aloadN X13.here hexec rfl (hb hbytes d51) rfl rfl ?_
    refine XS.aload X13.here hexec rfl (hb hbytes d52) rfl rfl ?_
    exact Steps.refl _)
  obtain ⟨T15, X15, p15, bl15, sl15, st15⟩ := X13.finit hexec hown (wk W (.fieldLink "java/lang/String" 9 "java/lang/String" "value" "[B")) (Or.inr ⟨_, (wk W (.laysFinal "java/lang/String" "java/lang/String" "value" "[B"))⟩) (Or.inl ⟨rfl, hnm⟩) f1 (Or.inl rfl) bl13 (t := (.array .byte)) (by decide +kernel) rfl (g := (mkF m 54 #[.val (.ref a), .val (.ref b), .val (.int (Int32.ofNat o)), .val (.int (Int32.ofNat len)), .val .null, .val (.ref s.heap.size)] [.ref s.heap.size, .ref a])) rfl (rest := []) rfl (hb hbytes d54)
  have c16 : Steps p.tables e below (s₁.setTop (entryFrame m #[.ref a, .ref b, .int (Int32.ofNat o), .int (Int32.ofNat len), .null] 6)) (T15.setTop (mkF m 57 #[.val (.ref a), .val (.ref b), .val (.int (Int32.ofNat o)), .val (.int (Int32.ofNat len)), .val .null, .val (.ref s.heap.size)] [])) := c14.trans (st15 _ (Steps.refl _))
  have ap := apart (Or.inr ⟨_, (wk W (.laysFinal "java/lang/String" "java/lang/String" "value" "[B"))⟩) (Or.inr ⟨_, (wk W (.laysFinal "java/lang/String" "java/lang/String" "coder" "B"))⟩) f1 f2 (t₁ := .array .byte) (t₂ := .byte) (by decide +kernel) (by decide +kernel) (by decide)
  have al := X8.warmed.alike.symm.trans X15.warmed.alike
  have n7 : T11.heap[s.heap.size]? = some N := by rw [q11]; exact n1.1
  exact ⟨T15, none, _, _, _, X15, by simp, rfl, by omega, (fun _ => rfl), ⟨rfl, _, N, bl15, ((Same.refl D _).set _ (by simp)).set _ (by simp), sl15, (Cell.slots_setSlot_ne _ ap).trans sl13, n1.keep al (p15.other hne (p13.other hne n7)), n2, by rw [al.findClass]; exact n3, n4, n5, fun y c h1 h2 => p15.other h1 (p13.other h1 (by rw [q11]; exact n6 y c h2)), by rw [p15.2.2, p13.2.2, q11]; exact z8⟩, fun fs hl => c16.trans (X15.returnOut hexec hret (hb hbytes d57) hl)⟩
end New4
namespace New1
def yN : MethodName := ⟨"java/lang/String", "<init>", "([C)V"⟩
abbrev yB : ByteArray := jdk_42_method_3_code
theorem d0 : decode yB 0 = .ok (.aload_n 0, 1) := by decide +kernel
theorem d1 : decode yB 1 = .ok (.aload_n 1, 1) := by decide +kernel
theorem d2 : decode yB 2 = .ok (.iconst 0, 1) := by decide +kernel
theorem d3 : decode yB 3 = .ok (.aload_n 1, 1) := by decide +kernel
theorem d4 : decode yB 4 = .ok (.arraylength, 1) := by decide +kernel
theorem d5 : decode yB 5 = .ok (.aconst_null, 1) := by decide +kernel
theorem d6 : decode yB 6 = .ok (.invokespecial 27, 3) := by decide +kernel
theorem d9 : decode yB 9 = .ok (.return_, 1) := by decide +kernel
def site : List Cond := [New4.tab] ++ initW "java/lang/String" 27 New4.yN
def tab : Cond := tabOf yN yB 2 none site
def P (a : Addr) (D : Cell) (fV fC : Field) (b : Addr) (A : Cell) (z : Int32) (args : Array Value) (s : State) : Prop := args = #[.ref a, .ref b] ∧ Blank "java/lang/String" a D s ∧ Found "java/lang/String" "value" "[B" fV s ∧ Found "java/lang/String" "coder" "B" fC s ∧ Ch b A s ∧ StaticIs s "java/lang/String" "COMPACT_STRINGS" "Z" (.int z) ∧ ¬ z = 0 ∧ 0 < A.slots.size ∧ A.slots.size ≤ 536870912 ∧ ∀ i, i < A.slots.size → ¬ 255 < cv A i
def E (a : Addr) (D : Cell) (fV fC : Field) (A : Cell) (r : Option Value) (s u : State) : Prop := Got a D fV fC A 0 A.slots.size r s u
/-- new String(chars), not empty, no char above 255: a Latin-1 String of their low bytes -/
theorem law (l : Launch) (a : Addr) (D : Cell) (fV fC : Field) (b : Addr) (A : Cell) (z : Int32) : Law l yN 2 1 3 52 yB 2 none site (P a D fV fC b A z) (E a D fV fC A) [⟨a, fC.slot⟩, ⟨a, fV.slot⟩] 1 A.slots.size := by
  refine Law.of_walk (plainFor_of_name (by decide +kernel)) (by decide +kernel) (by decide +kernel) (by decide) (fun _ _ h => by rw [h.1]; rfl) (fun _ U U' hal hh h => ⟨h.1, h.2.1.mv hal hh, h.2.2.1.al hal, h.2.2.2.1.al hal, h.2.2.2.2.1.mv hal hh, h.2.2.2.2.2.1.there hal hh, h.2.2.2.2.2.2⟩) (fun r U U' V V' h1 hal h2 h => Got.mv r U U' V V' h1 hal h2 h) ?_
  intro p e s m args below meth c s₁ X0 hexec hbytes hml hret hlk hnm hown hh0 W hP
  obtain ⟨rfl, hB, f1, f2, hA, s1, hz, l0, l2, hp⟩ := hP
  have c1 : Steps p.tables e below (s₁.setTop (entryFrame m #[.ref a, .ref b] 2)) (s₁.setTop (mkF m 0 #[.val (.ref a), .val (.ref b)] [])) := entry rfl
  have c2 : Steps p.tables e below (s₁.setTop (entryFrame m #[.ref a, .ref b] 2)) (s₁.setTop (mkF m 6 #[.val (.ref a), .val (.ref b)] [.null, .int (Int32.ofNat A.slots.size), .int 0, .ref b, .ref a])) := c1.trans (by
    refine XS.aloadN X0.here hexec rfl (hb hbytes d0) rfl rfl ?_
    refine XS.aloadN X0.here hexec rfl (hb hbytes d1) rfl rfl ?_
    refine iconstV X0.here hexec rfl 0 (hb hbytes d2) (by decide) ?_
    refine XS.aloadN X0.here hexec rfl (hb hbytes d3) rfl rfl ?_
    refine X0.alen hexec (hA.1.mv X0.warmed.alike hh0) rfl rfl (hb hbytes d4) ?_
    refine XS.aconstNull X0.here hexec rfl (hb hbytes d5) ?_
    exact Steps.refl _)
  obtain ⟨v3, T3, X3, E3, g3⟩ := X0.callN hexec (New4.law l a D fV fC b A z 0 A.slots.size) rfl hown (wks W (initW "java/lang/String" 27 New4.yN)) (W New4.tab (by simp only [site, List.mem_cons, List.mem_append, true_or, or_true])) (W := 0) (Nat.le_of_ble_eq_true rfl) (Nat.le_of_ble_eq_true rfl) (Nat.le_refl _) (by show 0 + A.slots.size ≤ A.slots.size; omega) (g := (mkF m 6 #[.val (.ref a), .val (.ref b)] [.null, .int (Int32.ofNat A.slots.size), .int (Int32.ofNat 0), .ref b, .ref a])) rfl (by rw [hml]; rfl) c2 (argsL := [.ref b, .int (Int32.ofNat 0), .int (Int32.ofNat A.slots.size), .null]) (rest := []) rfl rfl (by show 2 * 0 + 0 ≤ _; decide) (hb hbytes d6) (⟨rfl, hB.mv X0.warmed.alike hh0, f1.al X0.warmed.alike, f2.al X0.warmed.alike, hA.mv X0.warmed.alike hh0, s1.there X0.warmed.alike hh0, hz, l0, by omega, l2, fun i hi => by rw [Nat.zero_add]; exact hp i hi⟩)
  have e0 := Got.mv _ s₁ s _ _ hh0.symm (Vm.Alike.refl _) rfl E3
  obtain rfl := e0.1
  have c4 : Steps p.tables e below (s₁.setTop (entryFrame m #[.ref a, .ref b] 2)) (T3.setTop (mkF m 9 #[.val (.ref a), .val (.ref b)] [])) := g3
  exact ⟨T3, none, _, _, _, X3, by simp, rfl, by omega, (fun _ => rfl), e0, fun fs hl => c4.trans (X3.returnOut hexec hret (hb hbytes d9) hl)⟩
theorem pays {l : Launch} {R : Room} {p : Program} {e : Env} {below : List Frame} {s : State} {sargs : Array Value} {len W : Nat} (a : Addr) (D : Cell) (fV fC : Field) (b : Addr) (A : Cell) (z : Int32) (htab : tab.before sargs s = true) (hfr : 4 ≤ R.frames) (hlo : W + 65 ≤ R.locals) :
    Back l R p e below s sargs yN len W (fun A₁ a₁ => A₁.cells + 1 ≤ R.cells ∧ A₁.slots + A.slots.size ≤ R.slots ∧ P a D fV fC b A z a₁ A₁.U) (fun A₁ _ v₁ B₁ => E a D fV fC A v₁ A₁.U B₁.U ∧ B₁.locs = A₁.locs ++ [⟨a, fC.slot⟩, ⟨a, fV.slot⟩] ∧ B₁.cells = A₁.cells + 1 ∧ B₁.slots = A₁.slots + A.slots.size) :=
  (law l a D fV fC b A z).pays htab hfr (by omega)
end New1
/-- the byte, read back as charAt reads it, is the char -/
theorem lo8_mask {x : Int32} (h0 : ¬ x < 0) (h1 : ¬ 255 < x) : lo8 x &&& 255 = x := by
  have t : ∀ k : Fin 256, lo8 (Int32.ofNat k.val) &&& 255 = Int32.ofNat k.val := by decide +kernel
  rw [Int32.lt_iff_toInt_lt] at h0 h1
  have e0 : (0 : Int32).toInt = 0 := rfl
  have e1 : (255 : Int32).toInt = 255 := rfl
  obtain ⟨k, hk⟩ : ∃ k : Nat, x.toInt = k := ⟨x.toInt.toNat, by omega⟩
  have hx : x = Int32.ofNat k := Int32.toInt_inj.mp (by rw [hk, Int32.toInt_ofNat_small (by omega)])
  rw [hx]
  exact t ⟨k, by omega⟩
end StrChars
namespace StrChars.Road
open Jvm Sem ClassFile Op Lib Jvm.Stand Jvm.Free Jvm.Free.XT
open Jvm.Lib.Cold (StaticIs)
abbrev ST : String := "java/lang/String"
/-- every table word that New1's law asks, flat -/
abbrev words : List Jvm.Cond := [.code New1.yN New1.yB 2 none, .initialized ST, .methodLink ST 27 New4.yN, .instanceMethod New4.yN,
  .code New4.yN New4.yB 6 none, .fieldLink ST 38 ST "COMPACT_STRINGS" "Z", .laysFinal ST ST "value" "[B", .fieldLink ST 9 ST "value" "[B", .laysFinal ST ST "coder" "B", .fieldLink ST 15 ST "coder" "B",
  .methodLink ST 1 Lib.objectInit, .instanceMethod Lib.objectInit, .code Lib.objectInit ⟨#[0xb1]⟩ 1 none, .methodLink ST 177 Cmp3.yN, .static Cmp3.yN, .methodLink ST 47 CodL.yN, .static CodL.yN,
  .code Cmp3.yN Cmp3.yB 6 (some (.array .byte)), .initialized U16, .arrayClass .byte, .methodLink U16 115 Cmp5.yN, .static Cmp5.yN, .code Cmp5.yN Cmp5.yB 7 (some .int), .code CodL.yN CodL.yB 2 (some .byte)]
theorem tab_of {a : Array Value} {s : State} (h : ∀ w ∈ words, w.before a s = true) : New1.tab.before a s = true := by
  have h5 : Cmp5.tab.before a s = true := unparts (wk h (.code Cmp5.yN Cmp5.yB 7 (some .int))) (wks h (.initialized Cmp5.yN.cls :: Cmp5.site))
  have hc : CodL.tab.before a s = true := unparts (wk h (.code CodL.yN CodL.yB 2 (some .byte))) (wks h (.initialized CodL.yN.cls :: CodL.site))
  have q5 : ∀ w ∈ Cmp5.tab :: words, w.before a s = true := fun w hw => (List.mem_cons.mp hw).elim (fun e => e ▸ h5) (h w)
  have h3 : Cmp3.tab.before a s = true := unparts (wk q5 (.code Cmp3.yN Cmp3.yB 6 (some (.array .byte)))) (wks q5 (.initialized Cmp3.yN.cls :: Cmp3.site))
  have q3 : ∀ w ∈ Cmp3.tab :: CodL.tab :: words, w.before a s = true := fun w hw => (List.mem_cons.mp hw).elim (fun e => e ▸ h3) fun hw => (List.mem_cons.mp hw).elim (fun e => e ▸ hc) (h w)
  have h4 : New4.tab.before a s = true := unparts (wk q3 (.code New4.yN New4.yB 6 none)) (wks q3 (.initialized New4.yN.cls :: New4.site))
  have q4 : ∀ w ∈ New4.tab :: words, w.before a s = true := fun w hw => (List.mem_cons.mp hw).elim (fun e => e ▸ h4) (h w)
  exact unparts (wk q4 (.code New1.yN New1.yB 2 none)) (wks q4 (.initialized New1.yN.cls :: New1.site))
/-- the words ride from the start Z to the walk's own state -/
theorem moved {Z s : State} {a0 args : Array Value} (hZ : Z.Warmed39 s.vm) (hw : ∀ d ∈ words, d.before a0 Z = true) : ∀ d ∈ words, d.before args s = true := fun d hd => by
  have q := hw d hd
  have t : ∀ d ∈ words, d = .arrayClass .byte ∨ (d.onTables && d.keepsFace) = true := by decide +kernel
  rcases t d hd with rfl | t
  · exact RoadKit.mvA hZ q
  · exact RoadKit.mv hZ q t
/-- WHAT COMES BACK, over the tables of the start Z: h the heap at the call, h' behind it -/
def Q (Z : State) (x : Addr) (A : Cell) (h : Heap) (v : Option Value) (h' : Heap) (L : List Loc) : Prop := v = none ∧ (∀ y ∈ L, y.base = x) ∧ RoadKit.Keep h h' [x] ∧ h'.size = h.size + 1 ∧ RoadKit.Exa Z h' x ST ∧ RoadKit.Fld Z h' x ST "value" "[B" (.ref h.size) ∧ RoadKit.Fld Z h' x ST "coder" "B" (.int 0) ∧
  (∃ V : Cell, RoadKit.Arr Z h' h.size V .byte ∧ V.vm = .none ∧ Z.vm.findClass "[B" = some V.cls ∧ V.slots.size = A.slots.size ∧ ∀ j, j < A.slots.size → V.slots[j]? = some (.int (lo8 (cv A j)))) ∧
  ∀ (O n d : String) (w : Value), RoadKit.Fld Z h x O n d w → RoadKit.slotOf Z O n d ≠ RoadKit.slotOf Z ST "value" "[B" → RoadKit.slotOf Z O n d ≠ RoadKit.slotOf Z ST "coder" "B" → RoadKit.Fld Z h' x O n d w
/-- **new String(chars) AT A CALL, IN THE ROAD'S FORM**: for specialBack behind newO: x the fresh String, b the char[] with the cell A -/
theorem back {p : Program} {l : Launch} {e : Env} {R : Room} {s : State} {args : Array Value} {below : List Frame} {len W : Nat} {Z : State} {a0 : Array Value} {h : Heap} (hZ : Z.Warmed39 s.vm) (hw : ∀ d ∈ words, d.before a0 Z = true) {kI : Nat} (wi : (Jvm.Cond.instantiable ST kI).before a0 Z = true)
    {x b : Addr} {A : Cell} {z : Int32} {v0 c0 : Value} (E : RoadKit.Exa Z h x ST) (V : RoadKit.Fld Z h x ST "value" "[B" v0) (C : RoadKit.Fld Z h x ST "coder" "B" c0) (K : RoadKit.Arr Z h b A .char) (hty : Typed .char A) (S : RoadKit.Sta Z h ST "COMPACT_STRINGS" "Z" (.int z)) (hz : ¬ z = 0)
    (l0 : 0 < A.slots.size) (l2 : A.slots.size ≤ 536870912) (hp : ∀ i, i < A.slots.size → ¬ 255 < cv A i) (hfr : 4 ≤ R.frames) (hlo : W + 65 ≤ R.locals) :
    Back l R p e below s args New1.yN len W (fun P a => a = #[.ref x, .ref b] ∧ P.U.heap = h ∧ P.cells + 1 ≤ R.cells ∧ P.slots + A.slots.size ≤ R.slots)
      (fun P _ v B => ∃ L, Q Z x A h v B.U.heap L ∧ B.locs = P.locs ++ L ∧ B.cells = P.cells + 1 ∧ B.slots = P.slots + A.slots.size) := by
  intro m meth c P g ig mk a X hg hsize hdg hW hn hp'
  obtain ⟨rfl, rfl, r1, r2⟩ := hp'
  have al : Z.vm.Alike P.U.vm := hZ.alike.trans X.warmed.alike
  obtain ⟨D, cfV, kV, iV, fV, hD, gV, stV, knV, obV, asV, slV⟩ := id V
  obtain ⟨D', cfC, kC, iC, fC, hD', gC, stC, -, -, asC, slC⟩ := id C
  cases hD.symm.trans hD'
  obtain ⟨D2, kD, e1, e2, e3, e4, e5⟩ := id E
  cases hD.symm.trans e1
  obtain ⟨c2, k2, i1, i2, i3, -⟩ := Cond.instantiable_spec wi
  cases e2.symm.trans i1
  cases e3.symm.trans i2
  obtain ⟨kU, u1, u2⟩ := al.2.2 _ _ e3
  have hB : Blank ST x D P.U := ⟨hD, ⟨knV, fun q hq => by rw [hq] at obV; cases obV⟩, by rw [al.findClass]; exact e2, kU, u1, by rw [u2]; exact i3, by rw [u2]; exact e5 i3⟩
  have F1 : Found ST "value" "[B" fV P.U := ⟨SBG.found_only al ⟨cfV, kV, iV, gV⟩, stV⟩
  have F2 : Found ST "coder" "B" fC P.U := ⟨SBG.found_only al ⟨cfC, kC, iC, gC⟩, stC⟩
  have hA : Ch b A P.U := ⟨⟨K.1, State.isArrayOf_alike al K.2.1, K.2.2, by omega⟩, hty⟩
  have hS : StaticIs P.U ST "COMPACT_STRINGS" "Z" (.int z) := by
    obtain ⟨cfS, iS, kS, fS, st, cS, t1, t2, t3, t4, t5, t6, t7⟩ := S
    exact StaticIs.there (s := { Z with heap := P.U.heap }) ⟨cfS, iS, kS, fS, st, cS, t1, t2, t3, t4, t5, (fun q => by rw [q] at t6; cases t6), t7⟩ al rfl
  obtain ⟨v, B, X', ⟨⟨hv, E', V', q1, q2, q3, q4, q5, q6, q7, q8, q9, q10, q11⟩, hl, hc, hs⟩, st⟩ := New1.pays x D fV fC b A z (tab_of (moved hZ hw)) hfr hlo m meth c P g ig mk _ X hg hsize hdg hW hn ⟨r1, r2, rfl, hB, F1, F2, hA, hS, hz, l0, l2, hp⟩
  have al' : Z.vm.Alike B.U.vm := hZ.alike.trans X'.warmed.alike
  have hsz : E'.slots.size = D.slots.size := by
    obtain ⟨-, -, -, kB, w1, w2, w3⟩ := q1
    obtain ⟨kB', y1, y2⟩ := al'.2.2 _ _ e3
    rw [q2.2.1] at w1
    cases w1.symm.trans y1
    rw [w3, e5 i3, y2]
  refine ⟨v, B, X', ⟨_, ⟨hv, ?_, ⟨by omega, fun y cy hy hn' => q10 y cy (by simpa using hn') hy, fun y cy hy => ?_⟩, q11, ⟨E', _, q1.1, by rw [q2.2.1]; exact e2, by rw [q2.2.1]; exact e3, by rw [q2.1]; exact obV, fun _ => by rw [hsz]; exact e5 i3⟩,
    ⟨E', cfV, kV, iV, fV, q1.1, gV, stV, by rw [q2.1]; exact knV, by rw [q2.1]; exact obV, by rw [q2.2.1]; exact asV, q3⟩, ⟨E', cfC, kC, iC, fC, q1.1, gC, stC, by rw [q2.1]; exact knV, by rw [q2.1]; exact obV, by rw [q2.2.1]; exact asC, q4⟩,
    ⟨V', ⟨q5.1, State.isArrayOf_alike al'.symm q5.2.1, q5.2.2.1⟩, q6, by rw [← al'.findClass]; exact q7, q8, fun j hj => by have := q9 j hj; rwa [Nat.zero_add] at this⟩, fun O n d w F n1 n2 => ?_⟩, hl, hc, hs⟩, st⟩
  · intro y hy
    simp only [List.mem_cons, List.not_mem_nil, or_false] at hy
    rcases hy with rfl | rfl <;> rfl
  · by_cases q : y = x
    · subst q
      cases hD.symm.trans hy
      exact ⟨E', q1.1, q2.2.1, q2.1, hsz⟩
    · exact ⟨cy, q10 y cy q hy, rfl, rfl, rfl⟩
  · obtain ⟨D3, cf, k, i, f, g1, g2, g3, g4, g5, g6, g7⟩ := F
    cases hD.symm.trans g1
    simp only [RoadKit.slotOf, g2, gV, gC, Option.map_some, Option.getD_some] at n1 n2
    exact ⟨E', cf, k, i, f, q1.1, g2, g3, by rw [q2.1]; exact g4, by rw [q2.1]; exact g5, by rw [q2.2.1]; exact g6, by rw [q2.2.2 f.slot (by simp [n1, n2])]; exact g7⟩
end StrChars.Road
namespace StrChars.Road
open Jvm Sem ClassFile Op Lib Jvm.Stand Jvm.Free Jvm.Free.XT
/-- WHAT COMES BACK, the byte[] as a list of values -/
def QA (Z : State) (x : Addr) (zn : Int32) (cs : List Int32) (h : Heap) (v : Option Value) (h' : Heap) (L : List Loc) : Prop := v = none ∧ (∀ y ∈ L, y.base = x) ∧ RoadKit.Keep h h' [x] ∧ h'.size = h.size + 1 ∧ RoadKit.Exa Z h' x ST ∧ RoadKit.Fld Z h' x ST "value" "[B" (.ref h.size) ∧ RoadKit.Fld Z h' x ST "coder" "B" (.int 0) ∧
  (∃ kb, Z.vm.findClass "[B" = some kb ∧ RoadKit.Arv Z h' h.size kb .byte zn (cs.map fun c => .int (lo8 c)) (.int 0)) ∧
  ∀ (O n d : String) (w : Value), RoadKit.Fld Z h x O n d w → RoadKit.slotOf Z O n d ≠ RoadKit.slotOf Z ST "value" "[B" → RoadKit.slotOf Z O n d ≠ RoadKit.slotOf Z ST "coder" "B" → RoadKit.Fld Z h' x O n d w
/-- **new String(chars) AT A CALL, THE ARRAYS AS LISTS**: the char[] at b holds cs, not empty, no char above 255 -/
theorem backArv {p : Program} {l : Launch} {e : Env} {R : Room} {s : State} {args : Array Value} {below : List Frame} {len W : Nat} {Z : State} {a0 : Array Value} {h : Heap} (hZ : Z.Warmed39 s.vm) (hw : ∀ d ∈ words, d.before a0 Z = true) {kI : Nat} (wi : (Jvm.Cond.instantiable ST kI).before a0 Z = true)
    {x b : Addr} {k : ClassId} {zn z : Int32} {cs : List Int32} {dv v0 c0 : Value} (E : RoadKit.Exa Z h x ST) (V : RoadKit.Fld Z h x ST "value" "[B" v0) (C : RoadKit.Fld Z h x ST "coder" "B" c0) (K : RoadKit.Arv Z h b k .char zn (cs.map Value.int) dv) (S : RoadKit.Sta Z h ST "COMPACT_STRINGS" "Z" (.int z)) (hz : ¬ z = 0)
    (hlen : zn.toNatClampNeg = cs.length) (h0 : 0 < cs.length) (hbig : cs.length ≤ 536870912) (hall : ∀ c ∈ cs, ¬ 255 < c) (hfr : 4 ≤ R.frames) (hlo : W + 65 ≤ R.locals) :
    Back l R p e below s args New1.yN len W (fun P a => a = #[.ref x, .ref b] ∧ P.U.heap = h ∧ P.cells + 1 ≤ R.cells ∧ P.slots + cs.length ≤ R.slots)
      (fun P _ v B => ∃ L, QA Z x zn cs h v B.U.heap L ∧ B.locs = P.locs ++ L ∧ B.cells = P.cells + 1 ∧ B.slots = P.slots + cs.length) := by
  obtain ⟨A, K1, K2, K3, K4, K5, K6⟩ := K
  have e : A.slots.size = cs.length := K3.trans hlen
  have hat : ∀ (i : Nat) (hi : i < cs.length), A.slots[i]? = some (.int cs[i]) := fun i hi => by rw [K5 i (by omega)]; simp [List.getD_eq_getElem?_getD, hi]
  have hcv : ∀ (i : Nat) (hi : i < cs.length), cv A i = cs[i] := fun i hi => by unfold cv; rw [hat i hi]
  have hty : Typed .char A := fun i v hv => by
    have hi : i < A.slots.size := (Array.getElem?_eq_some_iff.mp hv).1
    have q := K5 i hi
    rw [hv] at q
    rw [Option.some.inj q]
    exact K6 i hi
  refine Back.mono (back hZ hw wi E V C K1 hty S hz (by omega) (by omega) (fun i hi => by rw [hcv i (by omega)]; exact hall _ (List.getElem_mem _)) hfr hlo) (fun P a hp => ⟨hp.1, hp.2.1, hp.2.2.1, by rw [e]; exact hp.2.2.2⟩) (fun P a v B hp hq => ?_)
  obtain ⟨L, ⟨q1, q2, q3, q4, q5, q6, q7, ⟨V', v1, v2, v3, v4, v5⟩, q9⟩, hl, hc, hs⟩ := hq
  refine ⟨L, ⟨q1, q2, q3, q4, q5, q6, q7, ⟨V'.cls, v3, V', v1, rfl, by rw [v4, e, hlen], K4, fun i hi => ?_, fun i hi => ?_⟩, q9⟩, hl, hc, by rw [hs, e]⟩
  · have hi' : i < cs.length := by omega
    rw [v5 i (by omega), hcv i hi']; simp [List.getD_eq_getElem?_getD, hi']
  · have hi' : i < cs.length := by omega
    simp only [List.getD_eq_getElem?_getD, List.getElem?_map, List.getElem?_eq_getElem hi', Option.map_some, Option.getD_some]
    exact fits_lo8 _
end StrChars.Road
namespace StrChars.Road
open Jvm Sem ClassFile Op Lib Jvm.Stand Jvm.Free Jvm.Free.XT
/-- WHAT COMES BACK, in the writer's own shape -/
def QV (Z : State) (x : Addr) (N : Int32) (bs : List Int32) (h : Heap) (n0 : Nat) (v : Option Value) (h' : Heap) (L : List Loc) : Prop := v = none ∧ RoadKit.Fr n0 L ∧ RoadKit.Keep h h' [x] ∧ RoadKit.Exa Z h' x ST ∧ RoadKit.Fld Z h' x ST "coder" "B" (.int 0) ∧
  ∃ (t : Addr) (kb : ClassId), n0 ≤ t ∧ h.size ≤ t ∧ ¬ t = x ∧ RoadKit.Fld Z h' x ST "value" "[B" (.ref t) ∧ RoadKit.Arv Z h' t kb .byte N (bs.map Value.int) (.int 0)
/-- **new String(chars) AT A CALL, FOR THE WRITER**: a char[] of n known ints, each 0 to 255 -/
theorem backV {p : Program} {l : Launch} {e : Env} {R : Room} {s : State} {args : Array Value} {below : List Frame} {len W : Nat} {Z : State} {a0 : Array Value} {h : Heap} (hZ : Z.Warmed39 s.vm) (hw : ∀ d ∈ words, d.before a0 Z = true) {kI : Nat} (wi : (Jvm.Cond.instantiable ST kI).before a0 Z = true)
    {x b : Addr} {kC : ClassId} {cs bs : List Int32} {d v0 c0 : Value} {z N : Int32} {n n0 : Nat} (hx0 : n0 ≤ x) (hh0 : n0 ≤ h.size) (E : RoadKit.Exa Z h x ST) (V : RoadKit.Fld Z h x ST "value" "[B" v0) (C : RoadKit.Fld Z h x ST "coder" "B" c0) (K : RoadKit.Arv Z h b kC .char N (cs.map Value.int) d) (S : RoadKit.Sta Z h ST "COMPACT_STRINGS" "Z" (.int z)) (hz : ¬ z = 0)
    (hn : cs.length = n) (hN : N = Int32.ofNat n) (l0 : 0 < n) (l2 : n ≤ 4000) (hp : ∀ c ∈ cs, ¬ c < 0 ∧ ¬ (255 : Int32) < c) (hb : bs = cs.map (fun c => c.toInt8.toInt32)) (hfr : 4 ≤ R.frames) (hlo : W + 65 ≤ R.locals) :
    Back l R p e below s args (⟨"java/lang/String", "<init>", "([C)V"⟩ : MethodName) len W (fun P a => a = #[.ref x, .ref b] ∧ P.U.heap = h ∧ P.cells + 1 ≤ R.cells ∧ P.slots + n ≤ R.slots)
      (fun P _ v B => ∃ L, QV Z x N bs h n0 v B.U.heap L ∧ B.locs = P.locs ++ L ∧ B.cells = P.cells + 1 ∧ B.slots = P.slots + n) := by
  subst hn hN hb
  refine Back.mono (backArv hZ hw wi E V C K S hz (n32 (by omega)) l0 (by omega) (fun c hc => (hp c hc).2) hfr hlo) (fun P a hp => hp) (fun P a v B hp hq => ?_)
  obtain ⟨L, ⟨q1, q2, q3, q4, q5, q6, q7, ⟨kb, v1, v2⟩, q9⟩, hl, hc, hs⟩ := hq
  exact ⟨L, ⟨q1, fun y hy => by rw [q2 y hy]; exact hx0, q3, q5, q7, h.size, kb, hh0, Nat.le_refl _, Nat.ne_of_gt E.lt, q6, by rw [List.map_map]; exact v2⟩, hl, hc, hs⟩
end StrChars.Road
namespace StrChars
open Jvm Sem ClassFile Op Lib Jvm.Stand Jvm.Free.XT Jvm.Free.ALB Jvm.Free.JM Jvm.Free
open Jvm.Lib.Cold (StaticIs)
def hi8 (x : Int32) : Int32 := lo8 (x >>> ((8 : Int32) &&& 31))
/-- what StringUTF16.getChar makes of two bytes -/
def pairCh (u v : Int32) : Int32 := (((u &&& 255) <<< ((0 : Int32) &&& 31)) ||| ((v &&& 255) <<< ((8 : Int32) &&& 31))).toUInt32.toUInt16.toUInt32.toInt32
theorem lo8_and (x : Int32) : (lo8 x &&& 255).toBitVec.toNat = x.toBitVec.toNat % 256 := by
  have h : (lo8 x).toBitVec = (x.toBitVec.signExtend 8).signExtend 32 := by rw [lo8, Int8.toBitVec_toInt32, Int32.toBitVec_toInt8]
  rw [Int32.toBitVec_and, BitVec.toNat_and, h]
  have e : ((x.toBitVec.signExtend 8).signExtend 32).toNat % 256 = x.toBitVec.toNat % 256 := by
    rw [BitVec.toNat_signExtend]
    have hlt := x.toBitVec.isLt
    simp only [BitVec.toNat_setWidth, BitVec.toNat_signExtend]
    split <;> split <;> omega
  rw [← e]
  exact Nat.and_two_pow_sub_one_eq_mod _ 8
theorem pair_says {c : Int32} (h0 : ¬ c < 0) (h1 : ¬ 65535 < c) : pairCh (lo8 c) (hi8 c) = c := by
  rw [Int32.lt_iff_toInt_lt] at h0 h1
  have e0 : (0 : Int32).toInt = 0 := rfl
  have e1 : (65535 : Int32).toInt = 65535 := rfl
  have hc : c.toInt = c.toBitVec.toNat := by
    have := c.toBitVec.isLt
    have e : c.toInt = c.toBitVec.toInt := rfl
    rw [e] at h0 h1
    rw [e]
    rw [BitVec.toInt_eq_toNat_cond] at h0 h1 ⊢
    split at h0 <;> split <;> omega
  have hn : c.toBitVec.toNat < 65536 := by omega
  have a1 := lo8_and c
  have a2 : (hi8 c &&& 255).toBitVec.toNat = c.toBitVec.toNat / 256 := by
    rw [hi8, lo8_and]
    have e : ((8 : Int32) &&& 31) = 8 := by decide
    rw [e, Int32.toBitVec_shiftRight]
    have e2 : ((8 : Int32).toBitVec.smod 32) = 8#32 := by decide
    rw [e2, BitVec.sshiftRight_eq', BitVec.toNat_sshiftRight_of_msb_false (by rw [BitVec.msb_eq_false_iff_two_mul_lt]; omega)]
    show c.toBitVec.toNat >>> 8 % 256 = _
    rw [Nat.shiftRight_eq_div_pow]
    omega
  unfold pairCh
  apply Int32.toBitVec_inj.mp
  apply BitVec.eq_of_toNat_eq
  have f0 : ((0 : Int32) &&& 31) = 0 := by decide
  have f8 : ((8 : Int32) &&& 31) = 8 := by decide
  rw [f0, f8]
  have g : (((lo8 c &&& 255) <<< (0 : Int32)) ||| ((hi8 c &&& 255) <<< (8 : Int32))).toBitVec.toNat = c.toBitVec.toNat := by
    rw [Int32.toBitVec_or, Int32.toBitVec_shiftLeft, Int32.toBitVec_shiftLeft]
    have s0 : ((0 : Int32).toBitVec.smod 32) = 0#32 := by decide
    have s8 : ((8 : Int32).toBitVec.smod 32) = 8#32 := by decide
    rw [s0, s8, BitVec.toNat_or]
    simp only [BitVec.shiftLeft_eq', BitVec.toNat_shiftLeft, a1, a2]
    show (c.toBitVec.toNat % 256) <<< 0 % 2 ^ 32 ||| (c.toBitVec.toNat / 256) <<< 8 % 2 ^ 32 = _
    rw [Nat.shiftLeft_zero, Nat.mod_eq_of_lt (show c.toBitVec.toNat % 256 < 2 ^ 32 by omega), Nat.mod_eq_of_lt (show (c.toBitVec.toNat / 256) <<< 8 < 2 ^ 32 by rw [Nat.shiftLeft_eq]; omega), Nat.or_comm, ← Nat.shiftLeft_add_eq_or_of_lt (by omega), Nat.shiftLeft_eq]
    omega
  show BitVec.toNat (((((lo8 c &&& 255) <<< (0 : Int32)) ||| ((hi8 c &&& 255) <<< (8 : Int32))).toBitVec.setWidth 16).setWidth 32) = _
  rw [BitVec.toNat_setWidth, BitVec.toNat_setWidth, g]
  omega
end StrChars
namespace StrChars
open Jvm Sem ClassFile Op Lib Jvm.Stand Jvm.Free.XT Jvm.Free.ALB Jvm.Free.JM Jvm.Free
open Jvm.Lib.Cold (StaticIs)
/-- the array's cell V codes the n chars f 0 .. f (n - 1) by the coder cd, as the JDK does: coder 1 just where some char is above 255 -/
def Cod (cd : Int32) (n : Nat) (f : Nat → Int32) (V : Cell) : Prop := (cd = 0 ∧ V.slots.size = n ∧ ∀ j, j < n → V.slots[j]? = some (.int (lo8 (f j))) ∧ ¬ 255 < f j) ∨ (cd = 1 ∧ V.slots.size = 2 * n ∧ (∀ j, j < n → V.slots[2 * j]? = some (.int (lo8 (f j))) ∧ V.slots[2 * j + 1]? = some (.int (hi8 (f j)))) ∧ ∃ j, j < n ∧ 255 < f j)
/-- **x is a String of the n chars f 0 .. f (n - 1)**, Latin-1 or UTF-16; its array at t has the cell V -/
def Txt (x t : Addr) (V : Cell) (cd : Int32) (n : Nat) (f : Nat → Int32) (U : State) : Prop := Exact "java/lang/String" x U ∧ Has x "java/lang/String" "value" "[B" (.ref t) U ∧ Has x "java/lang/String" "coder" "B" (.int cd) U ∧ XT.Arr .byte t V U ∧ Cod cd n f V ∧ ∀ j, j < n → ¬ f j < 0 ∧ ¬ 65535 < f j
theorem Txt.mv {x t : Addr} {V : Cell} {cd : Int32} {n : Nat} {f : Nat → Int32} {U U' : State} (h : Txt x t V cd n f U) (hal : U.vm.Alike U'.vm) (hh : U'.heap = U.heap) : Txt x t V cd n f U' := ⟨h.1.mv hal hh, h.2.1.mv hal hh, h.2.2.1.mv hal hh, h.2.2.2.1.mv hal hh, h.2.2.2.2⟩
end StrChars
namespace StrChars.Road
open Jvm Sem ClassFile Op Lib Jvm.Stand Jvm.Free Jvm.Free.XT
open Jvm.Lib.Cold (StaticIs)
theorem consq {a : Array Value} {s : State} {c : Jvm.Cond} {L : List Jvm.Cond} (h0 : c.before a s = true) (h : ∀ w ∈ L, w.before a s = true) : ∀ w ∈ c :: L, w.before a s = true := fun w hw => (List.mem_cons.mp hw).elim (fun e => e ▸ h0) (h w)
/-- the bytes of the chars cs, low before high -/
def wideBytes : List Int32 → List Value
  | [] => []
  | c :: cs => .int (lo8 c) :: .int (hi8 c) :: wideBytes cs
theorem wide_lo (d : Value) : ∀ (cs : List Int32) (j : Nat), j < cs.length → (wideBytes cs).getD (2 * j) d = .int (lo8 (cs.getD j 0))
  | [], j, h => absurd h (Nat.not_lt_zero j)
  | c :: cs, 0, _ => rfl
  | c :: cs, j + 1, h => by
    have q := wide_lo d cs j (by simpa using h)
    rw [show 2 * (j + 1) = 2 * j + 1 + 1 from by omega]
    simpa [wideBytes] using q
theorem wide_hi (d : Value) : ∀ (cs : List Int32) (j : Nat), j < cs.length → (wideBytes cs).getD (2 * j + 1) d = .int (hi8 (cs.getD j 0))
  | [], j, h => absurd h (Nat.not_lt_zero j)
  | c :: cs, 0, _ => rfl
  | c :: cs, j + 1, h => by
    have q := wide_hi d cs j (by simpa using h)
    rw [show 2 * (j + 1) + 1 = 2 * j + 1 + 1 + 1 from by omega]
    simpa [wideBytes] using q
theorem low_at (d : Value) (cs : List Int32) (j : Nat) (h : j < cs.length) : (cs.map fun c => Value.int (lo8 c)).getD j d = .int (lo8 (cs.getD j 0)) := by
  simp [List.getD_eq_getElem?_getD, h]
/-- an array of N2 bytes vs codes the chars cs by the coder cd -/
def CodA (cs : List Int32) (cd N2 : Int32) (vs : List Value) : Prop := (cd = 0 ∧ N2 = Int32.ofNat cs.length ∧ vs = (cs.map fun c => Value.int (lo8 c)) ∧ ∀ c ∈ cs, ¬ 255 < c) ∨ (cd = 1 ∧ N2 = Int32.ofNat (2 * cs.length) ∧ vs = wideBytes cs ∧ ∃ c ∈ cs, 255 < c)
theorem CodA.cod {cs : List Int32} {cd N2 : Int32} {vs : List Value} {V : Cell} (h : CodA cs cd N2 vs) (hn : 2 * cs.length < 2 ^ 31) (hs : V.slots.size = N2.toNatClampNeg) (hv : RoadKit.Has V vs (.int 0)) : Cod cd cs.length (fun j => cs.getD j 0) V := by
  rcases h with ⟨rfl, rfl, rfl, h⟩ | ⟨rfl, rfl, rfl, c, hc, hw⟩
  · rw [n32 (by omega)] at hs
    exact Or.inl ⟨rfl, hs, fun j hj => ⟨by rw [hv j (by omega), low_at _ _ _ hj], by
      have e : cs.getD j 0 = cs[j] := by simp [List.getD_eq_getElem?_getD, hj]
      show ¬ 255 < cs.getD j 0
      rw [e]; exact h _ (List.getElem_mem _)⟩⟩
  · rw [n32 (by omega)] at hs
    obtain ⟨j, hj, rfl⟩ := List.getElem_of_mem hc
    exact Or.inr ⟨rfl, hs, fun j hj => ⟨by rw [hv _ (by omega), wide_lo _ _ _ hj], by rw [hv _ (by omega), wide_hi _ _ _ hj]⟩, j, hj, by
      have e : cs.getD j 0 = cs[j] := by simp [List.getD_eq_getElem?_getD, hj]
      show 255 < cs.getD j 0
      rw [e]; exact hw⟩
/-- an object of exactly java/lang/String, its two fields found: as the laws ask it -/
theorem strObj {Z U : State} {a0 : Array Value} {kI : Nat} (wi : (Jvm.Cond.instantiable ST kI).before a0 Z = true) (al : Z.vm.Alike U.vm) {x : Addr} {v0 c0 : Value} (E : RoadKit.Exa Z U.heap x ST) (V : RoadKit.Fld Z U.heap x ST "value" "[B" v0) (C : RoadKit.Fld Z U.heap x ST "coder" "B" c0) :
    ∃ (D : Cell) (fV fC : Field), Blank ST x D U ∧ Found ST "value" "[B" fV U ∧ Found ST "coder" "B" fC U ∧ D.slots[fV.slot]? = some v0 ∧ D.slots[fC.slot]? = some c0 ∧ RoadKit.slotOf Z ST "value" "[B" = fV.slot ∧ RoadKit.slotOf Z ST "coder" "B" = fC.slot := by
  obtain ⟨D, cfV, kV, iV, fV, hD, gV, stV, knV, obV, asV, slV⟩ := V
  obtain ⟨D', cfC, kC, iC, fC, hD', gC, stC, -, -, asC, slC⟩ := C
  cases hD.symm.trans hD'
  obtain ⟨D2, kD, e1, e2, e3, e4, e5⟩ := E
  cases hD.symm.trans e1
  obtain ⟨c2, k2, i1, i2, i3, -⟩ := Cond.instantiable_spec wi
  cases e2.symm.trans i1
  cases e3.symm.trans i2
  obtain ⟨kU, u1, u2⟩ := al.2.2 _ _ e3
  exact ⟨D, fV, fC, ⟨hD, ⟨knV, fun q hq => by rw [hq] at obV; cases obV⟩, by rw [al.findClass]; exact e2, kU, u1, by rw [u2]; exact i3, by rw [u2]; exact e5 i3⟩, ⟨SBG.found_only al ⟨cfV, kV, iV, gV⟩, stV⟩, ⟨SBG.found_only al ⟨cfC, kC, iC, gC⟩, stC⟩, slV, slC, by simp [RoadKit.slotOf, gV], by simp [RoadKit.slotOf, gC]⟩
theorem sta_is {Z U : State} (al : Z.vm.Alike U.vm) {C n d : String} {v : Value} (S : RoadKit.Sta Z U.heap C n d v) : StaticIs U C n d v := by
  obtain ⟨cfS, iS, kS, fS, st, cS, t1, t2, t3, t4, t5, t6, t7⟩ := S
  exact StaticIs.there (s := { Z with heap := U.heap }) ⟨cfS, iS, kS, fS, st, cS, t1, t2, t3, t4, t5, (fun q => by rw [q] at t6; cases t6), t7⟩ al rfl
end StrChars.Road
namespace StrChars
open Jvm Sem ClassFile Op Lib Jvm.Stand Jvm.Free.XT Jvm.Free.ALB Jvm.Free.JM Jvm.Free
open Jvm.Lib.Cold (StaticIs)
/-- what place i of a byte[]'s cell holds -/
def yv (A : Cell) (i : Nat) : Int32 := match A.slots[i]? with | some (.int x) => x | _ => 0
theorem yv_get {a : Addr} {A : Cell} {U : State} (h : XT.Arr .byte a A U) (ht : Typed .byte A) {i : Nat} (hi : i < A.slots.size) : A.slots[i]? = some (.int (yv A i)) := by
  have e := Array.getElem?_eq_getElem hi
  have f := ht i _ e
  unfold yv; rw [e]
  generalize A.slots[i] = v at f
  cases v <;> simp [fits] at f ⊢
/-- the two arrays are equal, place for place -/
def EqC (A B : Cell) : Prop := A.slots.size = B.slots.size ∧ ∀ i, i < A.slots.size → yv A i = yv B i
/-- a boolean that says whether p -/
def Says01 (q : Prop) (r : Option Value) (s u : State) : Prop := ∃ v : Int32, r = some (.int v) ∧ u.heap = s.heap ∧ ((v = 1 ∧ q) ∨ (v = 0 ∧ ¬ q))
theorem Says01.mv {q : Prop} : ∀ r (U U' V V' : State), U'.heap = U.heap → V.vm.Alike V'.vm → V'.heap = V.heap → Says01 q r U V → Says01 q r U' V' :=
  fun r U U' V V' h1 _ h2 ⟨v, a, b, c⟩ => ⟨v, a, by rw [h1, h2]; exact b, c⟩
namespace LEq
def yN : MethodName := ⟨"java/lang/StringLatin1", "equals", "([B[B)Z"⟩
abbrev yB : ByteArray := jdk_43_method_13_code
theorem d0 : decode yB 0 = .ok (.aload_n 0, 1) := by decide +kernel
theorem d1 : decode yB 1 = .ok (.arraylength, 1) := by decide +kernel
theorem d2 : decode yB 2 = .ok (.aload_n 1, 1) := by decide +kernel
theorem d3 : decode yB 3 = .ok (.arraylength, 1) := by decide +kernel
theorem d4 : decode yB 4 = .ok (.if_icmp (.ne) 30, 3) := by decide +kernel
theorem d7 : decode yB 7 = .ok (.iconst 0, 1) := by decide +kernel
theorem d8 : decode yB 8 = .ok (.istore_n 2, 1) := by decide +kernel
theorem d9 : decode yB 9 = .ok (.iload_n 2, 1) := by decide +kernel
theorem d10 : decode yB 10 = .ok (.aload_n 0, 1) := by decide +kernel
theorem d11 : decode yB 11 = .ok (.arraylength, 1) := by decide +kernel
theorem d12 : decode yB 12 = .ok (.if_icmp (.ge) 20, 3) := by decide +kernel
theorem d15 : decode yB 15 = .ok (.aload_n 0, 1) := by decide +kernel
theorem d16 : decode yB 16 = .ok (.iload_n 2, 1) := by decide +kernel
theorem d17 : decode yB 17 = .ok (.baload, 1) := by decide +kernel
theorem d18 : decode yB 18 = .ok (.aload_n 1, 1) := by decide +kernel
theorem d19 : decode yB 19 = .ok (.iload_n 2, 1) := by decide +kernel
theorem d20 : decode yB 20 = .ok (.baload, 1) := by decide +kernel
theorem d21 : decode yB 21 = .ok (.if_icmp (.eq) 5, 3) := by decide +kernel
theorem d24 : decode yB 24 = .ok (.iconst 0, 1) := by decide +kernel
theorem d25 : decode yB 25 = .ok (.ireturn, 1) := by decide +kernel
theorem d26 : decode yB 26 = .ok (.iinc 2 1, 3) := by decide +kernel
theorem d29 : decode yB 29 = .ok (.goto (-20), 3) := by decide +kernel
theorem d32 : decode yB 32 = .ok (.iconst 1, 1) := by decide +kernel
theorem d33 : decode yB 33 = .ok (.ireturn, 1) := by decide +kernel
theorem d34 : decode yB 34 = .ok (.iconst 0, 1) := by decide +kernel
theorem d35 : decode yB 35 = .ok (.ireturn, 1) := by decide +kernel
def site : List Cond := []
def tab : Cond := tabOf yN yB 3 (some .boolean) site
def P (a : Addr) (A : Cell) (b : Addr) (B : Cell) (args : Array Value) (s : State) : Prop := args = #[.ref a, .ref b] ∧ XT.Arr .byte a A s ∧ Typed .byte A ∧ XT.Arr .byte b B s ∧ Typed .byte B
/-- whether two byte[] are equal, place for place -/
theorem law (l : Launch) (a : Addr) (A : Cell) (b : Addr) (B : Cell) : Law l yN 2 2 0 0 yB 3 (some .boolean) site (P a A b B) (Says01 (EqC A B)) [] 0 0 := by
  refine Law.of_walk (plainFor_of_name (by decide +kernel)) (by decide +kernel) (by decide +kernel) (by decide) (fun _ _ h => by rw [h.1]; rfl) (fun _ U U' hal hh h => ⟨h.1, h.2.1.mv hal hh, h.2.2.1, h.2.2.2.1.mv hal hh, h.2.2.2.2⟩) (fun r U U' V V' h1 hal h2 h => Says01.mv r U U' V V' h1 hal h2 h) ?_
  intro p e s m args below meth c s₁ X0 hexec hbytes hml hret hlk hnm hown hh0 W hP
  obtain ⟨rfl, hA, tA, hB, tB⟩ := hP
  have a31 := hA.2.2.2
  have b31 := hB.2.2.2
  have hA0 := hA.mv X0.warmed.alike hh0
  have hB0 := hB.mv X0.warmed.alike hh0
  have c1 : Steps p.tables e below (s₁.setTop (entryFrame m #[.ref a, .ref b] 3)) (s₁.setTop (mkF m 0 #[.val (.ref a), .val (.ref b), .unset] [])) := entry rfl
  have c2 : Steps p.tables e below (s₁.setTop (entryFrame m #[.ref a, .ref b] 3)) (s₁.setTop (mkF m 4 #[.val (.ref a), .val (.ref b), .unset] [.int (Int32.ofNat B.slots.size), .int (Int32.ofNat A.slots.size)])) := c1.trans (by
    refine XS.aloadN X0.here hexec rfl (hb hbytes d0) rfl rfl ?_
    refine X0.alen hexec hA0 rfl rfl (hb hbytes d1) ?_
    refine XS.aloadN X0.here hexec rfl (hb hbytes d2) rfl rfl ?_
    refine X0.alen hexec hB0 rfl rfl (hb hbytes d3) ?_
    exact Steps.refl _)
  by_cases hs : A.slots.size = B.slots.size
  · have c3 : Steps p.tables e below (s₁.setTop (entryFrame m #[.ref a, .ref b] 3)) (s₁.setTop (mkF m 9 #[.val (.ref a), .val (.ref b), .val (.int 0)] [])) := c2.trans (by
      refine XS.icmpNo X0.here hexec rfl (hb hbytes d4) rfl (ii_ne_f (by rw [hs])) ?_
      refine iconstV X0.here hexec rfl 0 (hb hbytes d7) (by decide) ?_
      refine XS.istoreN X0.here hexec rfl (hb hbytes d8) rfl rfl ?_
      exact Steps.refl _)
    have loop : ∀ (r i : Nat), i + r = A.slots.size → (∀ j, j < i → yv A j = yv B j) → Steps p.tables e below (s₁.setTop (entryFrame m #[.ref a, .ref b] 3)) (s₁.setTop (mkF m 9 #[.val (.ref a), .val (.ref b), .val (.int (Int32.ofNat i))] [])) → ∃ (pc : Nat) (Ls : Array Slot) (v : Int32), (pc = 25 ∨ pc = 33) ∧ ((v = 1 ∧ EqC A B) ∨ (v = 0 ∧ ¬ EqC A B)) ∧ Steps p.tables e below (s₁.setTop (entryFrame m #[.ref a, .ref b] 3)) (s₁.setTop (mkF m pc Ls [.int v])) := by
      intro r
      induction r with
      | zero =>
        intro i hi he cl
        exact ⟨33, _, 1, Or.inr rfl, Or.inl ⟨rfl, hs, fun j hj => he j (by omega)⟩, cl.trans (by
          refine XS.iloadN X0.here hexec rfl (hb hbytes d9) rfl ?_
          refine XS.aloadN X0.here hexec rfl (hb hbytes d10) rfl rfl ?_
          refine X0.alen hexec hA0 rfl rfl (hb hbytes d11) ?_
          refine XS.icmpYes X0.here hexec rfl (pc0 := 12) rfl (hb hbytes d12) rfl (ii_ge_t (nlt32 (by omega) (by omega))) (by decide) rfl ?_
          refine iconstV X0.here hexec rfl 1 (hb hbytes d32) (by decide) ?_
          exact Steps.refl _)⟩
      | succ r ih =>
        intro i hi he cl
        have c4 : Steps p.tables e below (s₁.setTop (entryFrame m #[.ref a, .ref b] 3)) (s₁.setTop (mkF m 21 #[.val (.ref a), .val (.ref b), .val (.int (Int32.ofNat i))] [.int (yv B i), .int (yv A i)])) := cl.trans (by
          refine XS.iloadN X0.here hexec rfl (hb hbytes d9) rfl ?_
          refine XS.aloadN X0.here hexec rfl (hb hbytes d10) rfl rfl ?_
          refine X0.alen hexec hA0 rfl rfl (hb hbytes d11) ?_
          refine XS.icmpNo X0.here hexec rfl (hb hbytes d12) rfl (ii_ge_f (lt32 (by omega) (by omega))) ?_
          refine XS.aloadN X0.here hexec rfl (hb hbytes d15) rfl rfl ?_
          refine XS.iloadN X0.here hexec rfl (hb hbytes d16) rfl ?_
          refine X0.aget hexec hA0 rfl (yv_get hA tA (i := i) (by omega)) rfl rfl (hb hbytes d17) ?_
          refine XS.aloadN X0.here hexec rfl (hb hbytes d18) rfl rfl ?_
          refine XS.iloadN X0.here hexec rfl (hb hbytes d19) rfl ?_
          refine X0.aget hexec hB0 rfl (yv_get hB tB (i := i) (by omega)) rfl rfl (hb hbytes d20) ?_
          exact Steps.refl _)
        by_cases hv : yv A i = yv B i
        · have c5 : Steps p.tables e below (s₁.setTop (entryFrame m #[.ref a, .ref b] 3)) (s₁.setTop (mkF m 9 #[.val (.ref a), .val (.ref b), .val (.int (Int32.ofNat i + 1))] [])) := c4.trans (by
            refine XS.icmpYes X0.here hexec rfl (pc0 := 21) rfl (hb hbytes d21) rfl (ii_eq_t hv) (by decide) rfl ?_
            refine iincV X0.here hexec rfl 1 (hb hbytes d26) (by decide) rfl rfl ?_
            refine XS.goto X0.here hexec rfl (pc0 := 29) rfl (hb hbytes d29) (by decide) rfl ?_
            exact Steps.refl _)
          rw [succ32] at c5
          exact ih (i + 1) (by omega) (fun j hj => by
            by_cases e : j = i
            · rw [e]; exact hv
            · exact he j (by omega)) c5
        · exact ⟨25, _, 0, Or.inl rfl, Or.inr ⟨rfl, fun q => hv (q.2 i (by omega))⟩, c4.trans (by
            refine XS.icmpNo X0.here hexec rfl (hb hbytes d21) rfl (ii_eq_f hv) ?_
            refine iconstV X0.here hexec rfl 0 (hb hbytes d24) (by decide) ?_
            exact Steps.refl _)⟩
    obtain ⟨pc, Ls, v, hpc, hv, cz⟩ := loop A.slots.size 0 (by omega) (fun j hj => absurd hj (Nat.not_lt_zero j)) c3
    have nv : narrow .boolean (.int v) = .int v := by rcases hv with ⟨rfl, -⟩ | ⟨rfl, -⟩ <;> rfl
    rcases hpc with rfl | rfl
    · exact ⟨s₁, some (.int v), _, _, _, X0, rfl, rfl, rfl, (fun h => by cases h), ⟨v, rfl, hh0, hv⟩, fun fs hl => cz.trans (X0.ireturnOut hexec hret nv (Or.inr (Or.inl rfl)) (hb hbytes d25) hl)⟩
    · exact ⟨s₁, some (.int v), _, _, _, X0, rfl, rfl, rfl, (fun h => by cases h), ⟨v, rfl, hh0, hv⟩, fun fs hl => cz.trans (X0.ireturnOut hexec hret nv (Or.inr (Or.inl rfl)) (hb hbytes d33) hl)⟩
  · have c3 : Steps p.tables e below (s₁.setTop (entryFrame m #[.ref a, .ref b] 3)) (s₁.setTop (mkF m 35 #[.val (.ref a), .val (.ref b), .unset] [.int 0])) := c2.trans (by
      refine XS.icmpYes X0.here hexec rfl (pc0 := 4) rfl (hb hbytes d4) rfl (ii_ne_t (ne32 a31 b31 hs)) (by decide) rfl ?_
      refine iconstV X0.here hexec rfl 0 (hb hbytes d34) (by decide) ?_
      exact Steps.refl _)
    exact ⟨s₁, some (.int 0), _, _, _, X0, rfl, rfl, rfl, (fun h => by cases h), ⟨0, rfl, hh0, Or.inr ⟨rfl, fun q => hs q.1⟩⟩, fun fs hl => c3.trans (X0.ireturnOut hexec hret rfl (Or.inr (Or.inl rfl)) (hb hbytes d35) hl)⟩
end LEq
theorem Cod.ty {cd : Int32} {n : Nat} {f : Nat → Int32} {V : Cell} (h : Cod cd n f V) : Typed .byte V := fun i v hv => by
  have hi : i < V.slots.size := (Array.getElem?_eq_some_iff.mp hv).1
  rcases h with ⟨-, k1, k2⟩ | ⟨-, k1, k2, -⟩
  · rw [(k2 i (by omega)).1] at hv; cases hv; exact fits_lo8 _
  · rcases Nat.mod_two_eq_zero_or_one i with e | e
    · obtain ⟨j, rfl⟩ : ∃ j, i = 2 * j := ⟨i / 2, by omega⟩
      rw [(k2 j (by omega)).1] at hv; cases hv; exact fits_lo8 _
    · obtain ⟨j, rfl⟩ : ∃ j, i = 2 * j + 1 := ⟨i / 2, by omega⟩
      rw [(k2 j (by omega)).2] at hv; cases hv; exact fits_lo8 _
/-- the same text -/
def SameT (n : Nat) (f : Nat → Int32) (k : Nat) (g : Nat → Int32) : Prop := n = k ∧ ∀ j, j < n → f j = g j
theorem lo8_inj {x y : Int32} (h0 : ¬ x < 0) (h1 : ¬ 255 < x) (k0 : ¬ y < 0) (k1 : ¬ 255 < y) (h : lo8 x = lo8 y) : x = y := by
  rw [← lo8_mask h0 h1, ← lo8_mask k0 k1, h]
/-- arrays coded by one coder are equal just where the texts are -/
theorem Cod.eqv {cd : Int32} {n k : Nat} {f g : Nat → Int32} {V V' : Cell} (h : Cod cd n f V) (h' : Cod cd k g V') (hf : ∀ j, j < n → ¬ f j < 0 ∧ ¬ 65535 < f j) (hg : ∀ j, j < k → ¬ g j < 0 ∧ ¬ 65535 < g j) : EqC V V' ↔ SameT n f k g := by
  have yvv : ∀ {W : Cell} {i : Nat} {x : Int32}, W.slots[i]? = some (.int x) → yv W i = x := fun q => by unfold yv; rw [q]
  rcases h with ⟨rfl, k1, k2⟩ | ⟨rfl, k1, k2, -⟩
  · rcases h' with ⟨-, m1, m2⟩ | ⟨e, -⟩
    · constructor
      · rintro ⟨e1, e2⟩
        refine ⟨by omega, fun j hj => ?_⟩
        have q := e2 j (by omega)
        rw [yvv (k2 j hj).1, yvv (m2 j (by omega)).1] at q
        exact lo8_inj (hf j hj).1 (k2 j hj).2 (hg j (by omega)).1 (m2 j (by omega)).2 q
      · rintro ⟨rfl, e2⟩
        refine ⟨by omega, fun j hj => ?_⟩
        rw [yvv (k2 j (by omega)).1, yvv (m2 j (by omega)).1, e2 j (by omega)]
    · exact absurd e (by decide)
  · rcases h' with ⟨e, -⟩ | ⟨-, m1, m2, -⟩
    · exact absurd e (by decide)
    · constructor
      · rintro ⟨e1, e2⟩
        refine ⟨by omega, fun j hj => ?_⟩
        have q1 := e2 (2 * j) (by omega)
        have q2 := e2 (2 * j + 1) (by omega)
        rw [yvv (k2 j hj).1, yvv (m2 j (by omega)).1] at q1
        rw [yvv (k2 j hj).2, yvv (m2 j (by omega)).2] at q2
        rw [← pair_says (hf j hj).1 (hf j hj).2, ← pair_says (hg j (by omega)).1 (hg j (by omega)).2, q1, q2]
      · rintro ⟨rfl, e2⟩
        refine ⟨by omega, fun i hi => ?_⟩
        rcases Nat.mod_two_eq_zero_or_one i with e | e
        · obtain ⟨j, rfl⟩ : ∃ j, i = 2 * j := ⟨i / 2, by omega⟩
          rw [yvv (k2 j (by omega)).1, yvv (m2 j (by omega)).1, e2 j (by omega)]
        · obtain ⟨j, rfl⟩ : ∃ j, i = 2 * j + 1 := ⟨i / 2, by omega⟩
          rw [yvv (k2 j (by omega)).2, yvv (m2 j (by omega)).2, e2 j (by omega)]
/-- two codings differ: so do the texts -/
theorem Cod.dif {cd cd' : Int32} {n k : Nat} {f g : Nat → Int32} {V V' : Cell} (h : Cod cd n f V) (h' : Cod cd' k g V') (hne : ¬ cd = cd') : ¬ SameT n f k g := by
  rintro ⟨rfl, e⟩
  rcases h with ⟨rfl, -, k2⟩ | ⟨rfl, -, -, j, hj, hw⟩
  · rcases h' with ⟨rfl, -⟩ | ⟨-, -, -, j, hj, hw⟩
    · exact hne rfl
    · exact (k2 j hj).2 (by rw [e j hj]; exact hw)
  · rcases h' with ⟨-, -, m2⟩ | ⟨rfl, -⟩
    · exact (m2 j hj).2 (by rw [← e j hj]; exact hw)
    · exact hne rfl
/-- an object of exactly C is an instance of C -/
theorem cinst {p : Program} {l : Launch} {e : Env} {R : Room} {s : State} {m : MethodId} {args : Array Value} {below : List Frame} {meth : Method} {c : Code} {T : State} {locs : List Loc} {cells slots : Nat} (X : Stand p l e R s m args below meth c T locs cells slots) (hexec : p.tables.exec = Jvm.exec) {own C : String} {index : Nat} (hown : s.vm.findClass own = some m.cls) (hlink : (Cond.classLink own index C).before args s = true) {a : Addr} (hE : Exact C a T)
    {g : JFrame} (hg : g.method = m) {rest : List Value} (hstack : g.stack = .ref a :: rest) (hdg : decode c.code g.pc = .ok (.instanceof index, 3)) :
    ∃ T', Stand p l e R s m args below meth c T' locs cells slots ∧ T'.heap = T.heap ∧ ∀ target, Steps p.tables e below (T'.setTop { g with pc := g.pc + 3, stack := .int 1 :: rest }) target → Steps p.tables e below (T.setTop g) target := by
  obtain ⟨cB, h1, D, h2, h3, h4⟩ := hE
  have h1' : s.vm.findClass C = some cB := by rw [← X.warmed.alike.findClass]; exact h1
  obtain ⟨vm', X', st⟩ := X.instanceofYes hexec hown hlink h2 h4 h1' (by rw [h3]; exact Jvm.Free.SB.assignable_self _ _) hg hstack hdg
  exact ⟨_, X', rfl, st⟩
theorem cself {p : Program} {l : Launch} {e : Env} {R : Room} {s : State} {m : MethodId} {args : Array Value} {below : List Frame} {meth : Method} {c : Code} {T : State} {locs : List Loc} {cells slots : Nat} (X : Stand p l e R s m args below meth c T locs cells slots) (hexec : p.tables.exec = Jvm.exec) {own C : String} {index : Nat} (hown : s.vm.findClass own = some m.cls) (hlink : (Cond.classLink own index C).before args s = true) {a : Addr} (hE : Exact C a T)
    {g : JFrame} (hg : g.method = m) {rest : List Value} (hstack : g.stack = .ref a :: rest) (hdg : decode c.code g.pc = .ok (.checkcast index, 3)) :
    ∃ T', Stand p l e R s m args below meth c T' locs cells slots ∧ T'.heap = T.heap ∧ ∀ target, Steps p.tables e below (T'.setTop { g with pc := g.pc + 3, stack := .ref a :: rest }) target → Steps p.tables e below (T.setTop g) target := by
  obtain ⟨cB, h1, D, h2, h3, h4⟩ := hE
  have h1' : s.vm.findClass C = some cB := by rw [← X.warmed.alike.findClass]; exact h1
  obtain ⟨vm', X', st⟩ := X.checkcastYes hexec hown hlink h2 h4 h1' (by rw [h3]; exact Jvm.Free.SB.assignable_self _ _) hg hstack hdg
  exact ⟨_, X', rfl, fun t h => st t (by rw [← hstack] at h; exact h)⟩
namespace SEq
def yN : MethodName := ⟨"java/lang/String", "equals", "(Ljava/lang/Object;)Z"⟩
abbrev yB : ByteArray := jdk_42_method_66_code
theorem d0 : decode yB 0 = .ok (.aload_n 0, 1) := by decide +kernel
theorem d1 : decode yB 1 = .ok (.aload_n 1, 1) := by decide +kernel
theorem d2 : decode yB 2 = .ok (.if_acmp (.ne) 5, 3) := by decide +kernel
theorem d5 : decode yB 5 = .ok (.iconst 1, 1) := by decide +kernel
theorem d6 : decode yB 6 = .ok (.ireturn, 1) := by decide +kernel
theorem d7 : decode yB 7 = .ok (.aload_n 1, 1) := by decide +kernel
theorem d8 : decode yB 8 = .ok (.instanceof 10, 3) := by decide +kernel
theorem d11 : decode yB 11 = .ok (.ifCond (.eq) 43, 3) := by decide +kernel
theorem d14 : decode yB 14 = .ok (.aload_n 1, 1) := by decide +kernel
theorem d15 : decode yB 15 = .ok (.checkcast 10, 3) := by decide +kernel
theorem d18 : decode yB 18 = .ok (.astore_n 2, 1) := by decide +kernel
theorem d19 : decode yB 19 = .ok (.getstatic 38, 3) := by decide +kernel
theorem d22 : decode yB 22 = .ok (.ifCond (.eq) 14, 3) := by decide +kernel
theorem d25 : decode yB 25 = .ok (.aload_n 0, 1) := by decide +kernel
theorem d26 : decode yB 26 = .ok (.getfield 15, 3) := by decide +kernel
theorem d29 : decode yB 29 = .ok (.aload_n 2, 1) := by decide +kernel
theorem d30 : decode yB 30 = .ok (.getfield 15, 3) := by decide +kernel
theorem d33 : decode yB 33 = .ok (.if_icmp (.ne) 21, 3) := by decide +kernel
theorem d36 : decode yB 36 = .ok (.aload_n 0, 1) := by decide +kernel
theorem d37 : decode yB 37 = .ok (.getfield 9, 3) := by decide +kernel
theorem d40 : decode yB 40 = .ok (.aload_n 2, 1) := by decide +kernel
theorem d41 : decode yB 41 = .ok (.getfield 9, 3) := by decide +kernel
theorem d44 : decode yB 44 = .ok (.invokestatic 541, 3) := by decide +kernel
theorem d47 : decode yB 47 = .ok (.ifCond (.eq) 7, 3) := by decide +kernel
theorem d50 : decode yB 50 = .ok (.iconst 1, 1) := by decide +kernel
theorem d51 : decode yB 51 = .ok (.goto 4, 3) := by decide +kernel
theorem d54 : decode yB 54 = .ok (.iconst 0, 1) := by decide +kernel
theorem d55 : decode yB 55 = .ok (.ireturn, 1) := by decide +kernel
def site : List Cond := [.classLink "java/lang/String" 10 "java/lang/String", .fieldLink "java/lang/String" 38 "java/lang/String" "COMPACT_STRINGS" "Z", .fieldLink "java/lang/String" 15 "java/lang/String" "coder" "B", .fieldLink "java/lang/String" 9 "java/lang/String" "value" "[B", LEq.tab] ++ staticW "java/lang/String" 541 LEq.yN
def tab : Cond := tabOf yN yB 3 (some .boolean) site
def P (x t : Addr) (V : Cell) (cd : Int32) (n : Nat) (f : Nat → Int32) (y t' : Addr) (V' : Cell) (cd' : Int32) (k : Nat) (g : Nat → Int32) (z : Int32) (args : Array Value) (s : State) : Prop := args = #[.ref x, .ref y] ∧ Txt x t V cd n f s ∧ Txt y t' V' cd' k g s ∧ StaticIs s "java/lang/String" "COMPACT_STRINGS" "Z" (.int z) ∧ ¬ z = 0
/-- equals(Object) of two Strings: whether the texts are the same -/
theorem law (l : Launch) (x t : Addr) (V : Cell) (cd : Int32) (n : Nat) (f : Nat → Int32) (y t' : Addr) (V' : Cell) (cd' : Int32) (k : Nat) (g : Nat → Int32) (z : Int32) : Law l yN 2 1 1 14 yB 3 (some .boolean) site (P x t V cd n f y t' V' cd' k g z) (Says01 (SameT n f k g)) [] 0 0 := by
  refine Law.of_walk (plainFor_of_name (by decide +kernel)) (by decide +kernel) (by decide +kernel) (by decide) (fun _ _ h => by rw [h.1]; rfl) (fun _ U U' hal hh h => ⟨h.1, h.2.1.mv hal hh, h.2.2.1.mv hal hh, h.2.2.2.1.there hal hh, h.2.2.2.2⟩) (fun r U U' V V' h1 hal h2 h => Says01.mv r U U' V V' h1 hal h2 h) ?_
  intro p e s m args below meth c s₁ X0 hexec hbytes hml hret hlk hnm hown hh0 W hP
  obtain ⟨rfl, hx, hy, s1, hz⟩ := hP
  have c1 : Steps p.tables e below (s₁.setTop (entryFrame m #[.ref x, .ref y] 3)) (s₁.setTop (mkF m 2 #[.val (.ref x), .val (.ref y), .unset] [.ref y, .ref x])) := Steps.trans (entry rfl) (by
    show Steps p.tables e below (s₁.setTop (mkF m 0 #[.val (.ref x), .val (.ref y), .unset] [])) _
    refine XS.aloadN X0.here hexec rfl (hb hbytes d0) rfl rfl ?_
    refine XS.aloadN X0.here hexec rfl (hb hbytes d1) rfl rfl ?_
    exact Steps.refl _)
  by_cases hxy : x = y
  · have c2 : Steps p.tables e below (s₁.setTop (entryFrame m #[.ref x, .ref y] 3)) (s₁.setTop (mkF m 6 #[.val (.ref x), .val (.ref y), .unset] [.int 1])) := c1.trans (by
      refine acmpNo X0.here hexec rfl (hb hbytes d2) rfl rfl rfl (by simp [acmp, hxy]) ?_
      refine iconstV X0.here hexec rfl 1 (hb hbytes d5) (by decide) ?_
      exact Steps.refl _)
    subst hxy
    have ec : cd = cd' := by
      obtain ⟨D, fd, a1, a2, a3⟩ := hx.2.2.1
      obtain ⟨D', fd', b1, b2, b3⟩ := hy.2.2.1
      cases a1.symm.trans b1
      obtain ⟨q1, q2, q3, q4⟩ := a2.1
      obtain ⟨r1, r2, r3, r4⟩ := b2.1
      cases q4.symm.trans r4
      cases a3.symm.trans b3; rfl
    have et : t = t' := by
      obtain ⟨D, fd, a1, a2, a3⟩ := hx.2.1
      obtain ⟨D', fd', b1, b2, b3⟩ := hy.2.1
      cases a1.symm.trans b1
      obtain ⟨q1, q2, q3, q4⟩ := a2.1
      obtain ⟨r1, r2, r3, r4⟩ := b2.1
      cases q4.symm.trans r4
      cases a3.symm.trans b3; rfl
    subst ec et
    have ev : V = V' := by cases hx.2.2.2.1.1.symm.trans hy.2.2.2.1.1; rfl
    subst ev
    have hs : SameT n f k g := (Cod.eqv hx.2.2.2.2.1 hy.2.2.2.2.1 hx.2.2.2.2.2 hy.2.2.2.2.2).mp ⟨rfl, fun _ _ => rfl⟩
    exact ⟨s₁, some (.int 1), _, _, _, X0, rfl, rfl, rfl, (fun h => by cases h), ⟨1, rfl, hh0, Or.inl ⟨rfl, hs⟩⟩, fun fs hl => c2.trans (X0.ireturnOut hexec hret rfl (Or.inr (Or.inl rfl)) (hb hbytes d6) hl)⟩
  · have c2 : Steps p.tables e below (s₁.setTop (entryFrame m #[.ref x, .ref y] 3)) (s₁.setTop (mkF m 8 #[.val (.ref x), .val (.ref y), .unset] [.ref y])) := c1.trans (by
      refine acmpYes X0.here hexec rfl (pc0 := 2) rfl (hb hbytes d2) rfl rfl rfl (by simp [acmp, hxy]) (by decide) rfl ?_
      refine XS.aloadN X0.here hexec rfl (hb hbytes d7) rfl rfl ?_
      exact Steps.refl _)
    obtain ⟨T3, X3, q3, st3⟩ := cinst X0 hexec hown (wk W (.classLink "java/lang/String" 10 "java/lang/String")) (hy.mv X0.warmed.alike hh0).1 (g := (mkF m 8 #[.val (.ref x), .val (.ref y), .unset] [.ref y])) rfl (rest := []) rfl (hb hbytes d8)
    have hh3 := q3.trans hh0
    have c4 : Steps p.tables e below (s₁.setTop (entryFrame m #[.ref x, .ref y] 3)) (T3.setTop (mkF m 15 #[.val (.ref x), .val (.ref y), .unset] [.ref y])) := (c2.trans (st3 _ (Steps.refl _))).trans (by
      refine XS.ifNo X3.here hexec rfl (hb hbytes d11) rfl (i0_eq_f (by decide)) ?_
      refine XS.aloadN X3.here hexec rfl (hb hbytes d14) rfl rfl ?_
      exact Steps.refl _)
    obtain ⟨T5, X5, q5, st5⟩ := cself X3 hexec hown (wk W (.classLink "java/lang/String" 10 "java/lang/String")) (hy.mv X3.warmed.alike hh3).1 (g := (mkF m 15 #[.val (.ref x), .val (.ref y), .unset] [.ref y])) rfl (rest := []) rfl (hb hbytes d15)
    have hh5 := q5.trans hh3
    have c6 : Steps p.tables e below (s₁.setTop (entryFrame m #[.ref x, .ref y] 3)) (T5.setTop (mkF m 19 #[.val (.ref x), .val (.ref y), .val (.ref y)] [])) := (c4.trans (st5 _ (Steps.refl _))).trans (by
      refine XS.astoreN X5.here hexec rfl (hb hbytes d18) rfl rfl rfl ?_
      exact Steps.refl _)
    obtain ⟨T7, X7, q7, st7⟩ := X5.sget hexec hown (wk W (.fieldLink "java/lang/String" 38 "java/lang/String" "COMPACT_STRINGS" "Z")) s1 (fun _ _ h => by rw [hh5]; exact h) (g := (mkF m 19 #[.val (.ref x), .val (.ref y), .val (.ref y)] [])) rfl (hb hbytes d19)
    have hh7 := q7.trans hh5
    have c8 : Steps p.tables e below (s₁.setTop (entryFrame m #[.ref x, .ref y] 3)) (T7.setTop (mkF m 26 #[.val (.ref x), .val (.ref y), .val (.ref y)] [.ref x])) := (c6.trans (st7 _ (Steps.refl _))).trans (by
      refine XS.ifNo X7.here hexec rfl (hb hbytes d22) rfl (i0_eq_f hz) ?_
      refine XS.aloadN X7.here hexec rfl (hb hbytes d25) rfl rfl ?_
      exact Steps.refl _)
    obtain ⟨T9, X9, q9, st9⟩ := X7.hget hexec hown (wk W (.fieldLink "java/lang/String" 15 "java/lang/String" "coder" "B")) (hx.mv X7.warmed.alike hh7).2.2.1 (g := (mkF m 26 #[.val (.ref x), .val (.ref y), .val (.ref y)] [.ref x])) rfl (rest := []) rfl (hb hbytes d26)
    have hh9 := q9.trans hh7
    have c10 : Steps p.tables e below (s₁.setTop (entryFrame m #[.ref x, .ref y] 3)) (T9.setTop (mkF m 30 #[.val (.ref x), .val (.ref y), .val (.ref y)] [.ref y, .int cd])) := (c8.trans (st9 _ (Steps.refl _))).trans (by
      refine XS.aloadN X9.here hexec rfl (hb hbytes d29) rfl rfl ?_
      exact Steps.refl _)
    obtain ⟨T11, X11, q11, st11⟩ := X9.hget hexec hown (wk W (.fieldLink "java/lang/String" 15 "java/lang/String" "coder" "B")) (hy.mv X9.warmed.alike hh9).2.2.1 (g := (mkF m 30 #[.val (.ref x), .val (.ref y), .val (.ref y)] [.ref y, .int cd])) rfl (rest := [.int cd]) rfl (hb hbytes d30)
    have hh11 := q11.trans hh9
    have c12 : Steps p.tables e below (s₁.setTop (entryFrame m #[.ref x, .ref y] 3)) (T11.setTop (mkF m 33 #[.val (.ref x), .val (.ref y), .val (.ref y)] [.int cd', .int cd])) := c10.trans (st11 _ (Steps.refl _))
    by_cases hcd : cd = cd'
    · subst hcd
      have c13 : Steps p.tables e below (s₁.setTop (entryFrame m #[.ref x, .ref y] 3)) (T11.setTop (mkF m 37 #[.val (.ref x), .val (.ref y), .val (.ref y)] [.ref x])) := c12.trans (by
        refine XS.icmpNo X11.here hexec rfl (hb hbytes d33) rfl (ii_ne_f rfl) ?_
        refine XS.aloadN X11.here hexec rfl (hb hbytes d36) rfl rfl ?_
        exact Steps.refl _)
      obtain ⟨T14, X14, q14, st14⟩ := X11.hget hexec hown (wk W (.fieldLink "java/lang/String" 9 "java/lang/String" "value" "[B")) (hx.mv X11.warmed.alike hh11).2.1 (g := (mkF m 37 #[.val (.ref x), .val (.ref y), .val (.ref y)] [.ref x])) rfl (rest := []) rfl (hb hbytes d37)
      have hh14 := q14.trans hh11
      have c15 : Steps p.tables e below (s₁.setTop (entryFrame m #[.ref x, .ref y] 3)) (T14.setTop (mkF m 41 #[.val (.ref x), .val (.ref y), .val (.ref y)] [.ref y, .ref t])) := (c13.trans (st14 _ (Steps.refl _))).trans (by
        refine XS.aloadN X14.here hexec rfl (hb hbytes d40) rfl rfl ?_
        exact Steps.refl _)
      obtain ⟨T16, X16, q16, st16⟩ := X14.hget hexec hown (wk W (.fieldLink "java/lang/String" 9 "java/lang/String" "value" "[B")) (hy.mv X14.warmed.alike hh14).2.1 (g := (mkF m 41 #[.val (.ref x), .val (.ref y), .val (.ref y)] [.ref y, .ref t])) rfl (rest := [.ref t]) rfl (hb hbytes d41)
      have hh16 := q16.trans hh14
      have c17 : Steps p.tables e below (s₁.setTop (entryFrame m #[.ref x, .ref y] 3)) (T16.setTop (mkF m 44 #[.val (.ref x), .val (.ref y), .val (.ref y)] [.ref t', .ref t])) := c15.trans (st16 _ (Steps.refl _))
      obtain ⟨v18, T18, X18, E18, g18⟩ := X16.callS hexec (LEq.law l t V t' V') hown (wks W (staticW "java/lang/String" 541 LEq.yN)) (wk W LEq.tab) (W := 0) (Nat.le_of_ble_eq_true rfl) (Nat.le_of_ble_eq_true rfl) (Nat.le_refl _) (Nat.le_refl _) (g := (mkF m 44 #[.val (.ref x), .val (.ref y), .val (.ref y)] [.ref t', .ref t])) rfl (by rw [hml]; rfl) c17 (argsL := [.ref t, .ref t']) (rest := []) rfl rfl (by show 2 * 0 + 0 ≤ _; decide) (hb hbytes d44) (⟨rfl, hx.2.2.2.1.mv X16.warmed.alike hh16, hx.2.2.2.2.1.ty, hy.2.2.2.1.mv X16.warmed.alike hh16, hy.2.2.2.2.1.ty⟩)
      obtain ⟨v, rfl, q18, hv⟩ := E18
      have iff := Cod.eqv hx.2.2.2.2.1 hy.2.2.2.2.1 hx.2.2.2.2.2 hy.2.2.2.2.2
      rcases hv with ⟨rfl, he⟩ | ⟨rfl, he⟩
      · have c19 : Steps p.tables e below (s₁.setTop (entryFrame m #[.ref x, .ref y] 3)) (T18.setTop (mkF m 55 #[.val (.ref x), .val (.ref y), .val (.ref y)] [.int 1])) := Steps.trans g18 (by
          refine XS.ifNo X18.here hexec rfl (hb hbytes d47) rfl (i0_eq_f (by decide)) ?_
          refine iconstV X18.here hexec rfl 1 (hb hbytes d50) (by decide) ?_
          refine XS.goto X18.here hexec rfl (pc0 := 51) rfl (hb hbytes d51) (by decide) rfl ?_
          exact Steps.refl _)
        exact ⟨T18, some (.int 1), _, _, _, X18, rfl, rfl, rfl, (fun h => by cases h), ⟨1, rfl, q18.trans hh16, Or.inl ⟨rfl, iff.mp he⟩⟩, fun fs hl => c19.trans (X18.ireturnOut hexec hret rfl (Or.inr (Or.inl rfl)) (hb hbytes d55) hl)⟩
      · have c19 : Steps p.tables e below (s₁.setTop (entryFrame m #[.ref x, .ref y] 3)) (T18.setTop (mkF m 55 #[.val (.ref x), .val (.ref y), .val (.ref y)] [.int 0])) := Steps.trans g18 (by
          refine XS.ifYes X18.here hexec rfl (pc0 := 47) rfl (hb hbytes d47) rfl (i0_eq_t rfl) (by decide) rfl ?_
          refine iconstV X18.here hexec rfl 0 (hb hbytes d54) (by decide) ?_
          exact Steps.refl _)
        exact ⟨T18, some (.int 0), _, _, _, X18, rfl, rfl, rfl, (fun h => by cases h), ⟨0, rfl, q18.trans hh16, Or.inr ⟨rfl, fun q => he (iff.mpr q)⟩⟩, fun fs hl => c19.trans (X18.ireturnOut hexec hret rfl (Or.inr (Or.inl rfl)) (hb hbytes d55) hl)⟩
    · have c13 : Steps p.tables e below (s₁.setTop (entryFrame m #[.ref x, .ref y] 3)) (T11.setTop (mkF m 55 #[.val (.ref x), .val (.ref y), .val (.ref y)] [.int 0])) := c12.trans (by
        refine XS.icmpYes X11.here hexec rfl (pc0 := 33) rfl (hb hbytes d33) rfl (ii_ne_t hcd) (by decide) rfl ?_
        refine iconstV X11.here hexec rfl 0 (hb hbytes d54) (by decide) ?_
        exact Steps.refl _)
      exact ⟨T11, some (.int 0), _, _, _, X11, rfl, rfl, rfl, (fun h => by cases h), ⟨0, rfl, hh11, Or.inr ⟨rfl, Cod.dif hx.2.2.2.2.1 hy.2.2.2.2.1 hcd⟩⟩, fun fs hl => c13.trans (X11.ireturnOut hexec hret rfl (Or.inr (Or.inl rfl)) (hb hbytes d55) hl)⟩
theorem pays {l : Launch} {R : Room} {p : Program} {e : Env} {below : List Frame} {s : State} {sargs : Array Value} {len W : Nat} (x t : Addr) (V : Cell) (cd : Int32) (n : Nat) (f : Nat → Int32) (y t' : Addr) (V' : Cell) (cd' : Int32) (k : Nat) (g : Nat → Int32) (z : Int32) (htab : tab.before sargs s = true) (hfr : 2 ≤ R.frames) (hlo : W + 28 ≤ R.locals) :
    Back l R p e below s sargs yN len W (fun A₁ a₁ => A₁.cells + 0 ≤ R.cells ∧ A₁.slots + 0 ≤ R.slots ∧ P x t V cd n f y t' V' cd' k g z a₁ A₁.U) (fun A₁ _ v₁ B₁ => Says01 (SameT n f k g) v₁ A₁.U B₁.U ∧ B₁.locs = A₁.locs ++ [] ∧ B₁.cells = A₁.cells + 0 ∧ B₁.slots = A₁.slots + 0) :=
  (law l x t V cd n f y t' V' cd' k g z).pays htab hfr (by omega)
end SEq
end StrChars
namespace StrChars.Road
open Jvm Sem ClassFile Op Lib Jvm.Stand Jvm.Free Jvm.Free.XT
open Jvm.Lib.Cold (StaticIs)
/-- the words of String.equals(Object) -/
abbrev wordsEq : List Jvm.Cond := [.code SEq.yN SEq.yB 3 (some .boolean), .initialized ST, .classLink ST 10 ST, .fieldLink ST 38 ST "COMPACT_STRINGS" "Z", .fieldLink ST 15 ST "coder" "B", .fieldLink ST 9 ST "value" "[B", .methodLink ST 541 LEq.yN, .static LEq.yN, .code LEq.yN LEq.yB 3 (some .boolean), .initialized "java/lang/StringLatin1"]
theorem tabEq_of {a : Array Value} {s : State} (h : ∀ w ∈ wordsEq, w.before a s = true) : SEq.tab.before a s = true := by
  have hl : LEq.tab.before a s = true := unparts (wk h (.code LEq.yN LEq.yB 3 (some .boolean))) (wks h (.initialized LEq.yN.cls :: LEq.site))
  have q := consq hl h
  exact unparts (wk q (.code SEq.yN SEq.yB 3 (some .boolean))) (wks q (.initialized SEq.yN.cls :: SEq.site))
theorem movedEq {Z s : State} {a0 args : Array Value} (hZ : Z.Warmed39 s.vm) (hw : ∀ d ∈ wordsEq, d.before a0 Z = true) : ∀ d ∈ wordsEq, d.before args s = true := fun d hd => by
  have t : ∀ d ∈ wordsEq, (d.onTables && d.keepsFace) = true := by decide +kernel
  exact RoadKit.mv hZ (hw d hd) (t d hd)
/-- the road's facts of a String, as the laws ask it -/
theorem txt_of {Z U : State} {a0 : Array Value} {kI : Nat} (wi : (Jvm.Cond.instantiable ST kI).before a0 Z = true) (al : Z.vm.Alike U.vm) {x t : Addr} {kb : ClassId} {cs : List Int32} {cd N2 : Int32} {vs : List Value} (E : RoadKit.Exa Z U.heap x ST) (V : RoadKit.Fld Z U.heap x ST "value" "[B" (.ref t)) (C : RoadKit.Fld Z U.heap x ST "coder" "B" (.int cd)) (K : RoadKit.Arv Z U.heap t kb .byte N2 vs (.int 0)) (hc : CodA cs cd N2 vs) (hb : ∀ c ∈ cs, ¬ c < 0 ∧ ¬ (65535 : Int32) < c) (l2 : cs.length ≤ 4000) :
    ∃ A, Txt x t A cd cs.length (fun j => cs.getD j 0) U := by
  obtain ⟨A, K1, K2, K3, K4, K5, K6⟩ := K
  have hcod := hc.cod (by omega) K3 K5
  obtain ⟨D, fV, fC, hB, F1, F2, g1, g2, -, -⟩ := strObj wi al E V C
  exact ⟨A, ⟨_, hB.2.2.1, D, hB.1, rfl, by cases q : D.vm <;> first | rfl | exact absurd q (hB.2.1.2 _)⟩, Has.of hB F1 g1, Has.of hB F2 g2, ⟨K1.1, State.isArrayOf_alike al K1.2.1, K1.2.2, by rcases hcod with ⟨-, q, -⟩ | ⟨-, q, -⟩ <;> omega⟩, hcod, fun j hj => by
    have e : cs.getD j 0 = cs[j] := by simp [List.getD_eq_getElem?_getD, hj]
    show ¬ cs.getD j 0 < 0 ∧ ¬ 65535 < cs.getD j 0
    rw [e]; exact hb _ (List.getElem_mem _)⟩
theorem same_list (cs ds : List Int32) : SameT cs.length (fun j => cs.getD j 0) ds.length (fun j => ds.getD j 0) ↔ cs = ds := by
  constructor
  · rintro ⟨e, q⟩
    refine List.ext_getElem e fun j h1 h2 => ?_
    have := q j h1
    simpa [List.getD_eq_getElem?_getD, h1, h2] using this
  · rintro rfl
    exact ⟨rfl, fun _ _ => rfl⟩
/-- **equals(Object) OF TWO SUCH STRINGS**: 1 just where the chars are the same -/
theorem eqW {p : Program} {l : Launch} {e : Env} {R : Room} {s : State} {args : Array Value} {below : List Frame} {len W : Nat} {Z : State} {a0 : Array Value} {h : Heap} (hZ : Z.Warmed39 s.vm) (hw : ∀ d ∈ wordsEq, d.before a0 Z = true) {kI : Nat} (wi : (Jvm.Cond.instantiable ST kI).before a0 Z = true)
    {x t : Addr} {kb : ClassId} {cs : List Int32} {cd N2 : Int32} {vs : List Value} (E : RoadKit.Exa Z h x ST) (V : RoadKit.Fld Z h x ST "value" "[B" (.ref t)) (C : RoadKit.Fld Z h x ST "coder" "B" (.int cd)) (K : RoadKit.Arv Z h t kb .byte N2 vs (.int 0)) (hc : CodA cs cd N2 vs) (hb : ∀ c ∈ cs, ¬ c < 0 ∧ ¬ (65535 : Int32) < c) (l2 : cs.length ≤ 4000)
    {y t' : Addr} {kb' : ClassId} {ds : List Int32} {cd' N2' : Int32} {vs' : List Value} (E' : RoadKit.Exa Z h y ST) (V' : RoadKit.Fld Z h y ST "value" "[B" (.ref t')) (C' : RoadKit.Fld Z h y ST "coder" "B" (.int cd')) (K' : RoadKit.Arv Z h t' kb' .byte N2' vs' (.int 0)) (hc' : CodA ds cd' N2' vs') (hb' : ∀ c ∈ ds, ¬ c < 0 ∧ ¬ (65535 : Int32) < c) (l2' : ds.length ≤ 4000)
    {z : Int32} (S : RoadKit.Sta Z h ST "COMPACT_STRINGS" "Z" (.int z)) (hz : ¬ z = 0) (hfr : 2 ≤ R.frames) (hlo : W + 28 ≤ R.locals) :
    Back l R p e below s args (⟨"java/lang/String", "equals", "(Ljava/lang/Object;)Z"⟩ : MethodName) len W (fun P a => a = #[.ref x, .ref y] ∧ P.U.heap = h ∧ P.cells + 0 ≤ R.cells ∧ P.slots + 0 ≤ R.slots)
      (fun P _ v B => ∃ L, (((v = some (.int 1) ∧ cs = ds) ∨ (v = some (.int 0) ∧ ¬ cs = ds)) ∧ L = [] ∧ B.U.heap = h) ∧ B.locs = P.locs ++ L ∧ B.cells = P.cells + 0 ∧ B.slots = P.slots + 0) := by
  intro m meth c P g ig mk a X hg hsize hdg hW hn hp'
  obtain ⟨rfl, rfl, r1, r2⟩ := hp'
  have al : Z.vm.Alike P.U.vm := hZ.alike.trans X.warmed.alike
  obtain ⟨A, hx⟩ := txt_of wi al E V C K hc hb l2
  obtain ⟨A', hy⟩ := txt_of wi al E' V' C' K' hc' hb' l2'
  obtain ⟨v, B, X', ⟨⟨w, hv, hh, hq⟩, hl, hk, hs⟩, st⟩ := SEq.pays x t A cd cs.length (fun j => cs.getD j 0) y t' A' cd' ds.length (fun j => ds.getD j 0) z (tabEq_of (movedEq hZ hw)) hfr hlo m meth c P g ig mk _ X hg hsize hdg hW hn ⟨r1, r2, rfl, hx, hy, sta_is al S, hz⟩
  refine ⟨v, B, X', ⟨[], ⟨?_, rfl, hh⟩, hl, hk, hs⟩, st⟩
  rcases hq with ⟨rfl, q⟩ | ⟨rfl, q⟩
  · exact Or.inl ⟨hv, (same_list cs ds).mp q⟩
  · exact Or.inr ⟨hv, fun e => q ((same_list cs ds).mpr e)⟩
end StrChars.Road
namespace StrChars.Road
open Jvm Sem ClassFile Op Lib Jvm.Stand Jvm.Free Jvm.Free.XT
open Jvm.Lib.Cold (StaticIs)
/-- what backV says of its String, as the contracts of this text ask it: cs's low bytes, coder 0 -/
theorem codOf {cs : List Int32} {n : Nat} (hn : cs.length = n) (hb : ∀ c ∈ cs, ¬ 255 < c) : CodA cs 0 (Int32.ofNat n) ((cs.map lo8).map Value.int) := Or.inl ⟨rfl, by rw [hn], by simp [List.map_map, Function.comp_def], hb⟩
end StrChars.Road
end Jvm.Pilot.@@N@@
namespace Jvm.Pilot.@@N@@
open Jvm Jvm.ClassFile Sem Op Lib Jvm.Free Jvm.Stand Jvm.LawKit Jvm.RoadKit Bundle Jvm.Pilot.@@N@@.Jvm.D
def own_EL : List (String × Nat) := [("com/example/mended_hedge/mendedhedge/cli/Command", 35), ("com/example/mended_hedge/mendedhedge/cli/Command", 37), ("java/lang/String", 7)]
theorem own_safe {Z : State} {EL : List (String × Nat)} {vm : Vm} {h : Heap} {x : Addr} (hal : Z.vm.Alike vm) (E : Exa Z h x "java/lang/String") (F : Fld Z h x "java/lang/String" "value" "[B" .null) : Safe Z EL vm h x := fun B => by
  obtain ⟨cell, k, e1, e2, e3, -, -⟩ := E
  obtain ⟨c1, cf, kf, i, f, f1, f2, f3, f4, f5, f6, f7⟩ := F
  obtain ⟨p, -, u, a, -, q, -, G, rfl | rfl⟩ := B
  · have ha : h[q.sa]? = some q.sC := G.ha
    cases ha.symm.trans f1
    obtain ⟨cS, ⟨⟨s1, s2, s3, ⟨cv, kv, iv, s4, s4'⟩, s5, s6, s7, s8, s9⟩, hfS, hcS⟩, -⟩ := G
    obtain ⟨kv', z4⟩ := ff_back (U := Wst Z vm h) hal s4
    have e4 := f2.symm.trans z4
    simp only [Option.some.injEq, Prod.mk.injEq] at e4
    rw [e4.2.2.2, s8] at f7
    cases f7
  · have hd : h[q.sd]? = some q.SA := G.hd
    cases hd.symm.trans e1
    obtain ⟨cS, -, -, fc, -⟩ := G
    have fc' : vm.findClass "[B" = some q.SA.cls := fc
    rw [hal.findClass] at fc'
    obtain ⟨k1, q1, q2⟩ := Vm.findClass_spec fc'
    obtain ⟨k2, q3, q4⟩ := Vm.findClass_spec e2
    cases q1.symm.trans q3
    exact absurd (q2.symm.trans q4) (by decide)

theorem own_words : ∀ d ∈ StrChars.Road.words, d ∈ tables_1 := by decide +kernel
theorem own_wordsEq : ∀ d ∈ StrChars.Road.wordsEq, d ∈ tables_1 := by decide +kernel
abbrev own_in (c : Int32) : Prop := ¬ c < 0 ∧ ¬ (255 : Int32) < c
theorem own_id {c : Int32} (h : own_in c) : nar .char c = c := by
  obtain ⟨h1, h2⟩ := h
  show c.toUInt32.toUInt16.toUInt32.toInt32 = c
  have h3 := c_i2c c
  rw [Int32.lt_iff_toInt_lt] at h1 h2
  have e1 : (255 : Int32).toInt = 255 := by decide
  have e0 : (0 : Int32).toInt = 0 := by decide
  apply Int32.toInt_inj.mp
  omega
theorem own_nc {c : Int32} (h : own_in c) : own_in (nar .char c) := by rw [own_id h]; exact h
theorem own_b8 (x : Int64) : own_in ((x &&& (255 : Int64)).toInt32.toUInt32.toUInt16.toUInt32.toInt32) := by
  have h := c_maskL x 255 8 (by decide) (by decide)
  have e : ((2 ^ 8 : Nat) : Int) = 256 := by decide
  rw [e] at h
  have h1 := c_l2i (x &&& 255)
  have h2 := rng32 (x &&& 255).toInt32
  have h3 := c_i2c (x &&& 255).toInt32
  unfold own_in
  rw [Int32.lt_iff_toInt_lt, Int32.lt_iff_toInt_lt]
  have e1 : (255 : Int32).toInt = 255 := by decide
  have e0 : (0 : Int32).toInt = 0 := by decide
  omega
theorem own_up (cs : List Int32) (h : ∀ c ∈ cs, ¬ c < 0 ∧ ¬ (255 : Int32) < c) : ∀ c ∈ cs, ¬ c < 0 ∧ ¬ (65535 : Int32) < c := by
  intro c hc
  refine ⟨(h c hc).1, fun q => (h c hc).2 ?_⟩
  rw [Int32.lt_iff_toInt_lt] at q ⊢
  have e1 : (65535 : Int32).toInt = 65535 := by decide
  have e2 : (255 : Int32).toInt = 255 := by decide
  omega
def own_cs (n c0 c1 c2 c3 c4 c5 c6 : Int32) : List Int32 := if n = (0 : Int32) then [] else if n = (1 : Int32) then [nar .char c0] else if n = (2 : Int32) then [nar .char c0, nar .char c1] else if n = (3 : Int32) then [nar .char c0, nar .char c1, nar .char c2] else if n = (4 : Int32) then [nar .char c0, nar .char c1, nar .char c2, nar .char c3] else if n = (5 : Int32) then [nar .char c0, nar .char c1, nar .char c2, nar .char c3, nar .char c4] else if n = (6 : Int32) then [nar .char c0, nar .char c1, nar .char c2, nar .char c3, nar .char c4, nar .char c5] else [nar .char c0, nar .char c1, nar .char c2, nar .char c3, nar .char c4, nar .char c5, nar .char c6]
def own_L1 : List Int32 := [45, 45, 104, 101, 108, 112]
def own_L2 : List Int32 := [45, 104]
theorem own_L1r : ∀ c ∈ own_L1, ¬ c < 0 ∧ ¬ (255 : Int32) < c := by decide
theorem own_L2r : ∀ c ∈ own_L2, ¬ c < 0 ∧ ¬ (255 : Int32) < c := by decide
def own_help (cl : List Int32) : Int32 := if cl = own_L1 then 1 else if cl = own_L2 then 1 else 0
def own_short (n a b : Int32) : Int32 := if n = (2 : Int32) then (if a = (45 : Int32) then (if b = (104 : Int32) then 1 else 0) else 0) else 0
def own_long (n a b c d e f : Int32) : Int32 := if n = (6 : Int32) then (if a = (45 : Int32) then (if b = (45 : Int32) then (if c = (104 : Int32) then (if d = (101 : Int32) then (if e = (108 : Int32) then (if f = (112 : Int32) then 1 else 0) else 0) else 0) else 0) else 0) else 0) else 0
def own_or (a b : Int32) : Int32 := if a = (0 : Int32) then (if b = (0 : Int32) then 0 else 1) else 1
theorem own_cs_rng (n c0 c1 c2 c3 c4 c5 c6 : Int32) (h0 : own_in c0) (h1 : own_in c1) (h2 : own_in c2) (h3 : own_in c3) (h4 : own_in c4) (h5 : own_in c5) (h6 : own_in c6) : ∀ c ∈ own_cs n c0 c1 c2 c3 c4 c5 c6, ¬ c < 0 ∧ ¬ (255 : Int32) < c := by
  unfold own_cs
  repeat' split
  · exact (fun _ h => nomatch h)
  · exact (List.forall_mem_cons.mpr ⟨own_nc h0, (fun _ h => nomatch h)⟩)
  · exact (List.forall_mem_cons.mpr ⟨own_nc h0, (List.forall_mem_cons.mpr ⟨own_nc h1, (fun _ h => nomatch h)⟩)⟩)
  · exact (List.forall_mem_cons.mpr ⟨own_nc h0, (List.forall_mem_cons.mpr ⟨own_nc h1, (List.forall_mem_cons.mpr ⟨own_nc h2, (fun _ h => nomatch h)⟩)⟩)⟩)
  · exact (List.forall_mem_cons.mpr ⟨own_nc h0, (List.forall_mem_cons.mpr ⟨own_nc h1, (List.forall_mem_cons.mpr ⟨own_nc h2, (List.forall_mem_cons.mpr ⟨own_nc h3, (fun _ h => nomatch h)⟩)⟩)⟩)⟩)
  · exact (List.forall_mem_cons.mpr ⟨own_nc h0, (List.forall_mem_cons.mpr ⟨own_nc h1, (List.forall_mem_cons.mpr ⟨own_nc h2, (List.forall_mem_cons.mpr ⟨own_nc h3, (List.forall_mem_cons.mpr ⟨own_nc h4, (fun _ h => nomatch h)⟩)⟩)⟩)⟩)⟩)
  · exact (List.forall_mem_cons.mpr ⟨own_nc h0, (List.forall_mem_cons.mpr ⟨own_nc h1, (List.forall_mem_cons.mpr ⟨own_nc h2, (List.forall_mem_cons.mpr ⟨own_nc h3, (List.forall_mem_cons.mpr ⟨own_nc h4, (List.forall_mem_cons.mpr ⟨own_nc h5, (fun _ h => nomatch h)⟩)⟩)⟩)⟩)⟩)⟩)
  · exact (List.forall_mem_cons.mpr ⟨own_nc h0, (List.forall_mem_cons.mpr ⟨own_nc h1, (List.forall_mem_cons.mpr ⟨own_nc h2, (List.forall_mem_cons.mpr ⟨own_nc h3, (List.forall_mem_cons.mpr ⟨own_nc h4, (List.forall_mem_cons.mpr ⟨own_nc h5, (List.forall_mem_cons.mpr ⟨own_nc h6, (fun _ h => nomatch h)⟩)⟩)⟩)⟩)⟩)⟩)⟩)
theorem own_cs_len (n c0 c1 c2 c3 c4 c5 c6 : Int32) : (own_cs n c0 c1 c2 c3 c4 c5 c6).length ≤ 4000 := by
  unfold own_cs
  repeat' split
  all_goals simp
theorem own_fin (n c0 c1 c2 c3 c4 c5 c6 : Int32) (h0 : own_in c0) (h1 : own_in c1) (h2 : own_in c2) (h3 : own_in c3) (h4 : own_in c4) (h5 : own_in c5) (h6 : own_in c6) : own_help (own_cs n c0 c1 c2 c3 c4 c5 c6) = own_or (own_short n c0 c1) (own_long n c0 c1 c2 c3 c4 c5) := by
  unfold own_cs
  simp only [own_id h0, own_id h1, own_id h2, own_id h3, own_id h4, own_id h5, own_id h6]
  by_cases n0 : n = 0
  · subst n0; simp [own_help, own_L1, own_L2, own_or, own_short, own_long]
  by_cases n1 : n = 1
  · subst n1; simp [own_help, own_L1, own_L2, own_or, own_short, own_long]
  by_cases n2 : n = 2
  · subst n2
    by_cases a : c0 = 45
    · by_cases b : c1 = 104
      · simp [own_help, own_L1, own_L2, own_or, own_short, own_long, a, b]
      · simp [own_help, own_L1, own_L2, own_or, own_short, own_long, a, b]
    · simp [own_help, own_L1, own_L2, own_or, own_short, own_long, a]
  by_cases n3 : n = 3
  · subst n3; simp [own_help, own_L1, own_L2, own_or, own_short, own_long]
  by_cases n4 : n = 4
  · subst n4; simp [own_help, own_L1, own_L2, own_or, own_short, own_long]
  by_cases n5 : n = 5
  · subst n5; simp [own_help, own_L1, own_L2, own_or, own_short, own_long]
  by_cases n6 : n = 6
  · subst n6
    by_cases a : c0 = 45
    · by_cases b : c1 = 45
      · by_cases c : c2 = 104
        · by_cases d : c3 = 101
          · by_cases e : c4 = 108
            · by_cases f : c5 = 112
              · simp [own_help, own_L1, own_L2, own_or, own_short, own_long, a, b, c, d, e, f]
              · simp [own_help, own_L1, own_L2, own_or, own_short, own_long, a, b, c, d, e, f]
            · simp [own_help, own_L1, own_L2, own_or, own_short, own_long, a, b, c, d, e]
          · simp [own_help, own_L1, own_L2, own_or, own_short, own_long, a, b, c, d]
        · simp [own_help, own_L1, own_L2, own_or, own_short, own_long, a, b, c]
      · simp [own_help, own_L1, own_L2, own_or, own_short, own_long, a, b]
    · simp [own_help, own_L1, own_L2, own_or, own_short, own_long, a]
  · simp [own_help, own_L1, own_L2, own_or, own_short, own_long, n0, n1, n2, n3, n4, n5, n6]
theorem pn_4 : plainName "java/lang/String" = true := by first | (simp [plainName, overriddenIn]; done) | decide +kernel
theorem ef_rm_s2 (m : MethodId) (x0 : Addr) (x1 : Addr) (x2 : Int32) (x3 : Int32) : entryFrame m #[(.ref x0), (.ref x1), (.int x2), (.int x3), .null] 6 = mkF m 0 #[.val (.ref x0), .val (.ref x1), .val (.int x2), .val (.int x3), .val .null, .unset] [] := by first | (simp [entryFrame, mkF, argsToLocals, Value.category]; done) | rfl
def Q_rm_s2 (Z : State) (a1 : Addr) (a2 : Addr) (h0 : Heap) (n0 : Nat) (v : Option Value) (h : Heap) (L : List Loc) : Prop := v = none ∧ Fr n0 L ∧ Keep h0 h [a1] ∧ Exa Z h a1 "java/lang/String" ∧ Fld Z h a1 "java/lang/String" "coder" "B" (.int (0 : Int32)) ∧ ∃ (t : Addr) (kb : ClassId), Fld Z h a1 "java/lang/String" "value" "[B" (.ref t) ∧ Arv Z h t kb .byte (0 : Int32) [] (.int 0)
theorem d4_0 : decode jdk_42_method_149_code 0 = .ok (.aload_n 0, 1) := by decide +kernel
theorem d4_1 : decode jdk_42_method_149_code 1 = .ok (.invokespecial 1, 3) := by decide +kernel
theorem d4_4 : decode jdk_42_method_149_code 4 = .ok (.iload_n 3, 1) := by decide +kernel
theorem d4_5 : decode jdk_42_method_149_code 5 = .ok (.ifCond .ne 22, 3) := by decide +kernel
theorem d4_8 : decode jdk_42_method_149_code 8 = .ok (.aload_n 0, 1) := by decide +kernel
theorem own_sa : ∀ w ∈ Bundle.stringAtoms, w ∈ tables_1 := by decide +kernel
theorem d4_9 : decode jdk_42_method_149_code 9 = .ok (.ldc 7, 2) := by decide +kernel
theorem d4_11 : decode jdk_42_method_149_code 11 = .ok (.getfield 9, 3) := by decide +kernel
theorem d4_14 : decode jdk_42_method_149_code 14 = .ok (.putfield 9, 3) := by decide +kernel
theorem d4_17 : decode jdk_42_method_149_code 17 = .ok (.aload_n 0, 1) := by decide +kernel
theorem d4_18 : decode jdk_42_method_149_code 18 = .ok (.ldc 7, 2) := by decide +kernel
theorem d4_20 : decode jdk_42_method_149_code 20 = .ok (.getfield 15, 3) := by decide +kernel
theorem d4_23 : decode jdk_42_method_149_code 23 = .ok (.putfield 15, 3) := by decide +kernel
theorem d4_26 : decode jdk_42_method_149_code 26 = .ok (.return_, 1) := by decide +kernel
set_option maxRecDepth 65536 in
set_option maxHeartbeats 40000000 in
theorem rm_s2 (l : Launch) (Z : State) (a0 : Array Value) (hw : ∀ d ∈ tables_1, d.before a0 Z = true) (ws : List Jvm.Cond) (a1 : Addr) (a2 : Addr) (h0 : Heap) (n0 : Nat) (Z0 : n0 ≤ h0.size) (hEL : EW Z a0 own_EL) (F_value_a1 : Fld Z h0 a1 "java/lang/String" "value" "[B" .null) (F_coder_a1 : Fld Z h0 a1 "java/lang/String" "coder" "B" (.int (0 : Int32))) (E_a1 : Exa Z h0 a1 "java/lang/String") (g_a1 : n0 ≤ a1) :
    MetFree l (⟨"java/lang/String", "<init>", "([CIILjava/lang/Void;)V"⟩ : MethodName) (head1 (Jvm.Cond.code (⟨"java/lang/String", "<init>", "([CIILjava/lang/Void;)V"⟩ : MethodName) jdk_42_method_149_code 6 none :: ws) ({ frames := 1, cells := 4, slots := 8, locals := 12 } : Room)) (fun a U => a = #[(.ref a1), (.ref a2), (.int (0 : Int32)), (.int (0 : Int32)), .null] ∧ Z.Warmed39 U.vm ∧ U.heap = h0 ∧ CHv Z own_EL U.vm h0) (fun _ _ _ _ _ => True) (fun _ U o U' => ∃ v L, o = .returned v ∧ Q_rm_s2 Z a1 a2 h0 n0 v U'.heap L ∧ CHr Z own_EL U.vm U.heap U'.vm U'.heap ∧ ReturnedEndW U o U' L ({ frames := 1, cells := 4, slots := 8, locals := 12 } : Room).cells ({ frames := 1, cells := 4, slots := 8, locals := 12 } : Room).slots) := by
  refine MetFree.of_bodySF (plainFor_of_name pn_4) hisR ?_
  intro p e s m args below meth c s₁ Bd hml0 hP hK
  obtain ⟨rfl, hZ, hh, hCH⟩ := hP
  have hx := Bd.exec
  have hby := Bd.bytes
  have hml : c.maxLocals = 6 := hml0
  have hown : s.vm.findClass "java/lang/String" = some m.cls := findClass_of_methodNamed Bd.named
  have hnm := (name_of_methodNamed Bd.named Bd.method).1
  have X0 : Stand p l e ({ frames := 1, cells := 4, slots := 8, locals := 12 } : Room) s m #[(.ref a1), (.ref a2), (.int (0 : Int32)), (.int (0 : Int32)), .null] below meth c s₁ [] 0 0 := Stand.of_body Bd
  have e0 : s₁.heap = h0 := by rw [← hh, Bd.state]; rfl
  have N0 := Fr.nil n0
  have pre0 : ∀ t, Steps p.tables e below (s₁.setTop (mkF m 0 #[.val (.ref a1), .val (.ref a2), .val (.int (0 : Int32)), .val (.int (0 : Int32)), .val .null, .unset] [])) t → Steps p.tables e below (s₁.setTop (entryFrame m #[(.ref a1), (.ref a2), (.int (0 : Int32)), (.int (0 : Int32)), .null] 6)) t := fun t kt => castTop (ef_rm_s2 m a1 a2 (0 : Int32) (0 : Int32)) kt
  have C0 : CHr Z own_EL s.vm h0 s.vm h0 := CHr.refl hCH
  have sf0_a1 : Safe Z own_EL s.vm h0 a1 := own_safe hZ.alike E_a1 F_value_a1
  obtain ⟨T1, X1, e1, st1⟩ := initO X0 hx hZ hown (hw _ (List.mem_of_getElem? (i := 19) rfl)) (hw _ (List.mem_of_getElem? (i := 20) rfl)) (hw _ (List.mem_of_getElem? (i := 21) rfl)) e0 (g := (mkF m 1 #[.val (.ref a1), .val (.ref a2), .val (.int (0 : Int32)), .val (.int (0 : Int32)), .val .null, .unset] [(.ref a1)])) rfl (by rw [hml]; rfl) rfl (hb hby d4_1) (by decide) (W := 0) (by show 2 * 0 + _ ≤ _; exact Nat.le_of_eq rfl) (by decide)
  have pre_2 : ∀ t, Steps p.tables e below (T1.setTop (mkF m 9 #[.val (.ref a1), .val (.ref a2), .val (.int (0 : Int32)), .val (.int (0 : Int32)), .val .null, .unset] [(.ref a1)])) t → Steps p.tables e below (s₁.setTop (entryFrame m #[(.ref a1), (.ref a2), (.int (0 : Int32)), (.int (0 : Int32)), .null] 6)) t := by
    intro t kt
    refine pre0 _ ?_
    show Steps p.tables e below (s₁.setTop (mkF m 0 #[.val (.ref a1), .val (.ref a2), .val (.int (0 : Int32)), .val (.int (0 : Int32)), .val .null, .unset] [])) _
    refine XS.aloadN X0.here hx rfl (hb hby d4_0) rfl rfl ?_
    show Steps p.tables e below (s₁.setTop (mkF m 1 #[.val (.ref a1), .val (.ref a2), .val (.int (0 : Int32)), .val (.int (0 : Int32)), .val .null, .unset] [(.ref a1)])) _
    refine st1 _ ?_
    show Steps p.tables e below (T1.setTop (mkF m 4 #[.val (.ref a1), .val (.ref a2), .val (.int (0 : Int32)), .val (.int (0 : Int32)), .val .null, .unset] [])) _
    refine XS.iloadN X1.here hx rfl (hb hby d4_4) rfl ?_
    show Steps p.tables e below (T1.setTop (mkF m 5 #[.val (.ref a1), .val (.ref a2), .val (.int (0 : Int32)), .val (.int (0 : Int32)), .val .null, .unset] [(.int (0 : Int32))])) _
    refine XS.ifNo X1.here hx rfl (hb hby d4_5) rfl ((if0 _ _).trans (teq (by decide : (0 : Int32) = (0 : Int32))).2) ?_
    show Steps p.tables e below (T1.setTop (mkF m 8 #[.val (.ref a1), .val (.ref a2), .val (.int (0 : Int32)), .val (.int (0 : Int32)), .val .null, .unset] [])) _
    refine XS.aloadN X1.here hx rfl (hb hby d4_8) rfl rfl ?_
    exact kt
  obtain ⟨b3, T3, h3, k3, c3, kb3, X3, e3, E3, hS3, hk3, hZ, hown, Eb3, Fc3, Fv3, Vb3, -, -, hC3, -, hne3, st3⟩ := ldcCH (s := s) (vm0 := s.vm) (EL := own_EL) (vs := []) (z := (0 : Int32)) X1 hx hZ hown (hw _ (List.mem_of_getElem? (i := 22) rfl)) (fun a ha => hw a (own_sa a ha)) e1 ((State.WarmedH.refl s).since h0.size) (Nat.le_refl _) hEL (by simp [own_EL]) C0.1 (by decide) (by decide) (by decide) (g := (mkF m 9 #[.val (.ref a1), .val (.ref a2), .val (.int (0 : Int32)), .val (.int (0 : Int32)), .val .null, .unset] [(.ref a1)])) rfl (hb hby d4_9) (n := 0) (by decide) (by decide) (by decide) (by decide)
  have f1 : Exa Z h3 a1 "java/lang/String" := E_a1.ext E3
  have f2 : Fld Z h3 a1 "java/lang/String" "value" "[B" .null := F_value_a1.ext E3
  have f3 : Fld Z h3 a1 "java/lang/String" "coder" "B" (.int (0 : Int32)) := F_coder_a1.ext E3
  have f4 : n0 ≤ a1 := g_a1
  have f5 : Keep h0 h3 [a1] := (Keep.refl h0 [a1]).ext E3
  have C4 : CHr Z own_EL s.vm h0 T3.vm h3 := C0.trans hC3
  have sf4_a1 : Safe Z own_EL T3.vm h3 a1 := hC3.safe F_coder_a1.lt sf0_a1
  have Z3 : n0 ≤ h3.size := Nat.le_trans Z0 E3.1
  have ne_a1_b3 : a1 ≠ b3 := (hne3 a1 sf4_a1).1
  have ne_a1_c3 : a1 ≠ c3 := (hne3 a1 sf4_a1).2
  obtain ⟨T5, X5, e5, st5⟩ := getF X3 hx hZ hown (host := "") (Or.inl (hw _ (List.mem_of_getElem? (i := 28) rfl))) Via.refl e3 Fv3 (g := (mkF m 11 #[.val (.ref a1), .val (.ref a2), .val (.int (0 : Int32)), .val (.int (0 : Int32)), .val .null, .unset] [(.ref b3), (.ref a1)])) rfl rfl (hb hby d4_11)
  obtain ⟨T6, h6, X6, e6, W6, st6⟩ := putF X5 hx hZ hown (host := "") (Or.inl (hw _ (List.mem_of_getElem? (i := 28) rfl))) Via.refl e5 f2 f1 (Or.inr ⟨(hw _ (List.mem_of_getElem? (i := 24) rfl)), rfl, hnm⟩) (hw _ (List.mem_of_getElem? (i := 9) rfl)) (ty := (.array .byte)) (by decide) rfl rfl (g := (mkF m 14 #[.val (.ref a1), .val (.ref a2), .val (.int (0 : Int32)), .val (.int (0 : Int32)), .val .null, .unset] [(.ref c3), (.ref a1)])) rfl rfl (hb hby d4_14)
  have f6 : Exa Z h6 a1 "java/lang/String" := f1.wr W6
  have f7 : Fld Z h6 a1 "java/lang/String" "value" "[B" (.ref c3) := f2.same W6
  have f8 : Fld Z h6 a1 "java/lang/String" "coder" "B" (.int (0 : Int32)) := f3.other W6 (Or.inr (slot_ne (Or.inr (hw _ (List.mem_of_getElem? (i := 25) rfl))) (Or.inr (hw _ (List.mem_of_getElem? (i := 24) rfl))) (by decide) (t := .byte) (t' := (.array .byte)) (by decide) (by decide)))
  have f9 : n0 ≤ a1 := f4
  have f10 : Keep h0 h6 [a1] := f5.wr W6 (Or.inl (by simp))
  have f11 : k3 ≤ h6.size := (by rw [W6.size]; exact hk3)
  have f12 : Exa Z h6 b3 "java/lang/String" := Eb3.wr W6
  have f13 : Fld Z h6 b3 "java/lang/String" "coder" "B" (.int (0 : Int32)) := Fc3.other W6 (Or.inl (Ne.symm ne_a1_b3))
  have f14 : Fld Z h6 b3 "java/lang/String" "value" "[B" (.ref c3) := Fv3.other W6 (Or.inl (Ne.symm ne_a1_b3))
  have f15 : Arv Z h6 c3 kb3 .byte (0 : Int32) [] (.int 0) := Vb3.other W6 (Ne.symm ne_a1_c3)
  have C7 : CHr Z own_EL s.vm h0 T3.vm h6 := C4.trans (CHr.wr W6 sf4_a1 C4.1)
  have sf7_a1 : Safe Z own_EL T3.vm h6 a1 := Safe.wr W6 sf4_a1 C4.1 sf4_a1
  have N6 := Fr.snoc X6 N0 f9
  have Z6 : n0 ≤ h6.size := by rw [W6.size]; exact Z3
  have pre_8 : ∀ t, Steps p.tables e below (T6.setTop (mkF m 18 #[.val (.ref a1), .val (.ref a2), .val (.int (0 : Int32)), .val (.int (0 : Int32)), .val .null, .unset] [(.ref a1)])) t → Steps p.tables e below (s₁.setTop (entryFrame m #[(.ref a1), (.ref a2), (.int (0 : Int32)), (.int (0 : Int32)), .null] 6)) t := by
    intro t kt
    refine pre_2 _ ?_
    show Steps p.tables e below (T1.setTop (mkF m 9 #[.val (.ref a1), .val (.ref a2), .val (.int (0 : Int32)), .val (.int (0 : Int32)), .val .null, .unset] [(.ref a1)])) _
    refine st3 _ ?_
    show Steps p.tables e below (T3.setTop (mkF m 11 #[.val (.ref a1), .val (.ref a2), .val (.int (0 : Int32)), .val (.int (0 : Int32)), .val .null, .unset] [(.ref b3), (.ref a1)])) _
    refine st5 _ ?_
    show Steps p.tables e below (T5.setTop (mkF m 14 #[.val (.ref a1), .val (.ref a2), .val (.int (0 : Int32)), .val (.int (0 : Int32)), .val .null, .unset] [(.ref c3), (.ref a1)])) _
    refine st6 _ ?_
    show Steps p.tables e below (T6.setTop (mkF m 17 #[.val (.ref a1), .val (.ref a2), .val (.int (0 : Int32)), .val (.int (0 : Int32)), .val .null, .unset] [])) _
    refine XS.aloadN X6.here hx rfl (hb hby d4_17) rfl rfl ?_
    exact kt
  obtain ⟨b9, T9, h9, k9, c9, kb9, X9, e9, E9, hS9, hk9, hZ, hown, Eb9, Fc9, Fv9, Vb9, -, -, hC9, -, hne9, st9⟩ := ldcCH (s := s) (vm0 := T3.vm) (EL := own_EL) (vs := []) (z := (0 : Int32)) X6 hx hZ hown (hw _ (List.mem_of_getElem? (i := 22) rfl)) (fun a ha => hw a (own_sa a ha)) e6 hS3 f11 hEL (by simp [own_EL]) C7.1 (by decide) (by decide) (by decide) (g := (mkF m 18 #[.val (.ref a1), .val (.ref a2), .val (.int (0 : Int32)), .val (.int (0 : Int32)), .val .null, .unset] [(.ref a1)])) rfl (hb hby d4_18) (n := 0) (by decide) (by decide) (by decide) (by decide)
  have f16 : Exa Z h9 a1 "java/lang/String" := f6.ext E9
  have f17 : Fld Z h9 a1 "java/lang/String" "value" "[B" (.ref c3) := f7.ext E9
  have f18 : Fld Z h9 a1 "java/lang/String" "coder" "B" (.int (0 : Int32)) := f8.ext E9
  have f19 : n0 ≤ a1 := f9
  have f20 : Keep h0 h9 [a1] := f10.ext E9
  have f21 : Exa Z h9 b3 "java/lang/String" := f12.ext E9
  have f22 : Fld Z h9 b3 "java/lang/String" "coder" "B" (.int (0 : Int32)) := f13.ext E9
  have f23 : Fld Z h9 b3 "java/lang/String" "value" "[B" (.ref c3) := f14.ext E9
  have f24 : Arv Z h9 c3 kb3 .byte (0 : Int32) [] (.int 0) := f15.ext E9
  have C10 : CHr Z own_EL s.vm h0 T9.vm h9 := C7.trans hC9
  have sf10_a1 : Safe Z own_EL T9.vm h9 a1 := hC9.safe f8.lt sf7_a1
  have Z9 : n0 ≤ h9.size := Nat.le_trans Z6 E9.1
  have ne_a1_b9 : a1 ≠ b9 := (hne9 a1 sf10_a1).1
  have ne_a1_c9 : a1 ≠ c9 := (hne9 a1 sf10_a1).2
  obtain ⟨T11, X11, e11, st11⟩ := getF X9 hx hZ hown (host := "") (Or.inl (hw _ (List.mem_of_getElem? (i := 29) rfl))) Via.refl e9 Fc9 (g := (mkF m 20 #[.val (.ref a1), .val (.ref a2), .val (.int (0 : Int32)), .val (.int (0 : Int32)), .val .null, .unset] [(.ref b9), (.ref a1)])) rfl rfl (hb hby d4_20)
  obtain ⟨T12, h12, X12, e12, W12, st12⟩ := putFN X11 hx hZ hown (hw _ (List.mem_of_getElem? (i := 29) rfl)) Via.refl e11 f18 f16 (Or.inr ⟨(hw _ (List.mem_of_getElem? (i := 25) rfl)), rfl, hnm⟩) (hw _ (List.mem_of_getElem? (i := 9) rfl)) (ty := .byte) (v' := (.int (nar .byte (0 : Int32)))) (by decide) rfl (fits_nar_byte _) (g := (mkF m 23 #[.val (.ref a1), .val (.ref a2), .val (.int (0 : Int32)), .val (.int (0 : Int32)), .val .null, .unset] [(.int (0 : Int32)), (.ref a1)])) rfl rfl (hb hby d4_23)
  have f25 : Exa Z h12 a1 "java/lang/String" := f16.wr W12
  have f26 : Fld Z h12 a1 "java/lang/String" "value" "[B" (.ref c3) := f17.other W12 (Or.inr (slot_ne (Or.inr (hw _ (List.mem_of_getElem? (i := 24) rfl))) (Or.inr (hw _ (List.mem_of_getElem? (i := 25) rfl))) (by decide) (t := (.array .byte)) (t' := .byte) (by decide) (by decide)))
  have f27 : Fld Z h12 a1 "java/lang/String" "coder" "B" (.int (nar .byte (0 : Int32))) := f18.same W12
  have f28 : n0 ≤ a1 := f19
  have f29 : Keep h0 h12 [a1] := f20.wr W12 (Or.inl (by simp))
  have f30 : Exa Z h12 b3 "java/lang/String" := f21.wr W12
  have f31 : Fld Z h12 b3 "java/lang/String" "coder" "B" (.int (0 : Int32)) := f22.other W12 (Or.inl (Ne.symm ne_a1_b3))
  have f32 : Fld Z h12 b3 "java/lang/String" "value" "[B" (.ref c3) := f23.other W12 (Or.inl (Ne.symm ne_a1_b3))
  have f33 : Arv Z h12 c3 kb3 .byte (0 : Int32) [] (.int 0) := f24.other W12 (Ne.symm ne_a1_c3)
  have f34 : k9 ≤ h12.size := (by rw [W12.size]; exact hk9)
  have f35 : Exa Z h12 b9 "java/lang/String" := Eb9.wr W12
  have f36 : Fld Z h12 b9 "java/lang/String" "coder" "B" (.int (0 : Int32)) := Fc9.other W12 (Or.inl (Ne.symm ne_a1_b9))
  have f37 : Fld Z h12 b9 "java/lang/String" "value" "[B" (.ref c9) := Fv9.other W12 (Or.inl (Ne.symm ne_a1_b9))
  have f38 : Arv Z h12 c9 kb9 .byte (0 : Int32) [] (.int 0) := Vb9.other W12 (Ne.symm ne_a1_c9)
  have C13 : CHr Z own_EL s.vm h0 T9.vm h12 := C10.trans (CHr.wr W12 sf10_a1 C10.1)
  have sf13_a1 : Safe Z own_EL T9.vm h12 a1 := Safe.wr W12 sf10_a1 C10.1 sf10_a1
  have N12 := Fr.snoc X12 N6 f28
  have Z12 : n0 ≤ h12.size := by rw [W12.size]; exact Z9
  obtain ⟨fs, hr, hrun, hended, hRW⟩ := X12.leaveW (s := s) hS9 (by rw [e12]; exact f34) (v := none) (fun _ => rfl) (hlocks := Bd.notSynchronized)
  refine ⟨_, _, pre_8 _ ?_, hrun, hended, _, _, rfl, ?_, (by show CHr Z own_EL s.vm s.heap T12.vm T12.heap; rw [hh, e12]; exact C13.trans (CHv.at (s := s) (vm0 := T9.vm) X12 hZ hEL C13.1)), hRW.1, hRW.2.1, hRW.2.2.1, hRW.2.2.2.mono (by decide) (by decide)⟩
  · show Steps p.tables e below (T6.setTop (mkF m 18 #[.val (.ref a1), .val (.ref a2), .val (.int (0 : Int32)), .val (.int (0 : Int32)), .val .null, .unset] [(.ref a1)])) _
    refine st9 _ ?_
    show Steps p.tables e below (T9.setTop (mkF m 20 #[.val (.ref a1), .val (.ref a2), .val (.int (0 : Int32)), .val (.int (0 : Int32)), .val .null, .unset] [(.ref b9), (.ref a1)])) _
    refine st11 _ ?_
    show Steps p.tables e below (T11.setTop (mkF m 23 #[.val (.ref a1), .val (.ref a2), .val (.int (0 : Int32)), .val (.int (0 : Int32)), .val .null, .unset] [(.int (0 : Int32)), (.ref a1)])) _
    refine st12 _ ?_
    show Steps p.tables e below (T12.setTop (mkF m 26 #[.val (.ref a1), .val (.ref a2), .val (.int (0 : Int32)), .val (.int (0 : Int32)), .val .null, .unset] [])) _
    exact X12.returnOut hx Bd.returns (hb hby d4_26) hr
  · show Q_rm_s2 Z a1 a2 h0 n0 _ T12.heap _
    rw [e12]
    exact ⟨rfl, N12, f29, f25, f27, _, _, f26, f33⟩
theorem pn_3 : plainName "java/lang/String" = true := by first | (simp [plainName, overriddenIn]; done) | decide +kernel
theorem ef_rm_s1 (m : MethodId) (x0 : Addr) (x1 : Addr) : entryFrame m #[(.ref x0), (.ref x1)] 2 = mkF m 0 #[.val (.ref x0), .val (.ref x1)] [] := by first | (simp [entryFrame, mkF, argsToLocals, Value.category]; done) | rfl
def Q_rm_s1 (Z : State) (a1 : Addr) (a2 : Addr) (kc : ClassId) (h0 : Heap) (n0 : Nat) (v : Option Value) (h : Heap) (L : List Loc) : Prop := v = none ∧ Fr n0 L ∧ Keep h0 h [a1] ∧ Exa Z h a1 "java/lang/String" ∧ Fld Z h a1 "java/lang/String" "coder" "B" (.int (0 : Int32)) ∧ ∃ (t : Addr) (kb : ClassId), Fld Z h a1 "java/lang/String" "value" "[B" (.ref t) ∧ Arv Z h t kb .byte (0 : Int32) [] (.int 0)
theorem d3_0 : decode jdk_42_method_3_code 0 = .ok (.aload_n 0, 1) := by decide +kernel
theorem d3_1 : decode jdk_42_method_3_code 1 = .ok (.aload_n 1, 1) := by decide +kernel
theorem d3_2 : decode jdk_42_method_3_code 2 = .ok (.iconst 0, 1) := by decide +kernel
theorem d3_3 : decode jdk_42_method_3_code 3 = .ok (.aload_n 1, 1) := by decide +kernel
theorem d3_4 : decode jdk_42_method_3_code 4 = .ok (.arraylength, 1) := by decide +kernel
theorem d3_5 : decode jdk_42_method_3_code 5 = .ok (.aconst_null, 1) := by decide +kernel
theorem pd___CIILjava_lang_Void__V_1938 : parseMethodDescriptor "([CIILjava/lang/Void;)V" = some ⟨[(.array .char), .int, .int, (.object "java/lang/Void")], none⟩ := by decide +kernel
theorem d3_6 : decode jdk_42_method_3_code 6 = .ok (.invokespecial 27, 3) := by decide +kernel
theorem rebase {p : Program} {l : Launch} {e : Env} {R : Room} {s s0 : State} {vm : Vm} {m : MethodId} {args : Array Value} {below : List Frame} {meth : Method} {c : Code} {T : State} {locs : List Loc} {cells slots : Nat} (X : Stand p l e R s0 m args below meth c T locs cells slots) (h : s0 = s.setVm vm := by rfl) : Stand p l e R (s.setVm vm) m args below meth c T locs cells slots := h ▸ X
theorem d3_9 : decode jdk_42_method_3_code 9 = .ok (.return_, 1) := by decide +kernel
set_option maxRecDepth 65536 in
set_option maxHeartbeats 40000000 in
theorem rm_s1 (l : Launch) (Z : State) (a0 : Array Value) (hw : ∀ d ∈ tables_1, d.before a0 Z = true) (ws : List Jvm.Cond) (a1 : Addr) (a2 : Addr) (kc : ClassId) (h0 : Heap) (n0 : Nat) (Z0 : n0 ≤ h0.size) (hEL : EW Z a0 own_EL) (F_value_a1 : Fld Z h0 a1 "java/lang/String" "value" "[B" .null) (F_coder_a1 : Fld Z h0 a1 "java/lang/String" "coder" "B" (.int (0 : Int32))) (E_a1 : Exa Z h0 a1 "java/lang/String") (g_a1 : n0 ≤ a1) (V_a2 : Arv Z h0 a2 kc .char (0 : Int32) [] (.int (0 : Int32))) :
    MetFree l (⟨"java/lang/String", "<init>", "([C)V"⟩ : MethodName) (head1 (Jvm.Cond.code (⟨"java/lang/String", "<init>", "([C)V"⟩ : MethodName) jdk_42_method_3_code 2 none :: ws) ({ frames := 2, cells := 4, slots := 8, locals := 29 } : Room)) (fun a U => a = #[(.ref a1), (.ref a2)] ∧ Z.Warmed39 U.vm ∧ U.heap = h0 ∧ CHv Z own_EL U.vm h0) (fun _ _ _ _ _ => True) (fun _ U o U' => ∃ v L, o = .returned v ∧ Q_rm_s1 Z a1 a2 kc h0 n0 v U'.heap L ∧ CHr Z own_EL U.vm U.heap U'.vm U'.heap ∧ ReturnedEndW U o U' L ({ frames := 2, cells := 4, slots := 8, locals := 29 } : Room).cells ({ frames := 2, cells := 4, slots := 8, locals := 29 } : Room).slots) := by
  refine MetFree.of_bodySF (plainFor_of_name pn_3) hisR ?_
  intro p e s m args below meth c s₁ Bd hml0 hP hK
  obtain ⟨rfl, hZ, hh, hCH⟩ := hP
  have hx := Bd.exec
  have hby := Bd.bytes
  have hml : c.maxLocals = 2 := hml0
  have hown : s.vm.findClass "java/lang/String" = some m.cls := findClass_of_methodNamed Bd.named
  have hnm := (name_of_methodNamed Bd.named Bd.method).1
  have X0 : Stand p l e ({ frames := 2, cells := 4, slots := 8, locals := 29 } : Room) s m #[(.ref a1), (.ref a2)] below meth c s₁ [] 0 0 := Stand.of_body Bd
  have e0 : s₁.heap = h0 := by rw [← hh, Bd.state]; rfl
  have N0 := Fr.nil n0
  have pre0 : ∀ t, Steps p.tables e below (s₁.setTop (mkF m 0 #[.val (.ref a1), .val (.ref a2)] [])) t → Steps p.tables e below (s₁.setTop (entryFrame m #[(.ref a1), (.ref a2)] 2)) t := fun t kt => castTop (ef_rm_s1 m a1 a2) kt
  have C0 : CHr Z own_EL s.vm h0 s.vm h0 := CHr.refl hCH
  have sf0_a1 : Safe Z own_EL s.vm h0 a1 := own_safe hZ.alike E_a1 F_value_a1
  have ne_a1_a2 : a1 ≠ a2 := by
    obtain ⟨cA, AA, -⟩ := id V_a2
    exact ne_arr E_a1 (hw _ (List.mem_of_getElem? (i := 9) rfl)) AA
  obtain ⟨cl1, Ar1, aq1, aS1, aN1, aH1, aG1⟩ := id V_a2
  have pre_3 : ∀ t, Steps p.tables e below (s₁.setTop (mkF m 6 #[.val (.ref a1), .val (.ref a2)] [.null, (.int (0 : Int32)), (.int (0 : Int32)), (.ref a2), (.ref a1)])) t → Steps p.tables e below (s₁.setTop (entryFrame m #[(.ref a1), (.ref a2)] 2)) t := by
    intro t kt
    refine pre0 _ ?_
    show Steps p.tables e below (s₁.setTop (mkF m 0 #[.val (.ref a1), .val (.ref a2)] [])) _
    refine XS.aloadN X0.here hx rfl (hb hby d3_0) rfl rfl ?_
    show Steps p.tables e below (s₁.setTop (mkF m 1 #[.val (.ref a1), .val (.ref a2)] [(.ref a1)])) _
    refine XS.aloadN X0.here hx rfl (hb hby d3_1) rfl rfl ?_
    show Steps p.tables e below (s₁.setTop (mkF m 2 #[.val (.ref a1), .val (.ref a2)] [(.ref a2), (.ref a1)])) _
    refine XS.iconst X0.here hx rfl (hb hby d3_2) ?_
    show Steps p.tables e below (s₁.setTop (mkF m 3 #[.val (.ref a1), .val (.ref a2)] [(.int (0 : Int32)), (.ref a2), (.ref a1)])) _
    refine XS.aloadN X0.here hx rfl (hb hby d3_3) rfl rfl ?_
    show Steps p.tables e below (s₁.setTop (mkF m 4 #[.val (.ref a1), .val (.ref a2)] [(.ref a2), (.int (0 : Int32)), (.ref a2), (.ref a1)])) _
    refine X0.arraylength hx (by rw [e0]; exact Ar1.1) (State.isArrayOf_alike hZ.alike Ar1.2.1) (g := (mkF m 4 #[.val (.ref a1), .val (.ref a2)] [(.ref a2), (.int (0 : Int32)), (.ref a2), (.ref a1)])) rfl rfl (hb hby d3_4) _ ?_
    rw [len_of aS1 aN1]
    show Steps p.tables e below (s₁.setTop (mkF m 5 #[.val (.ref a1), .val (.ref a2)] [(.int (0 : Int32)), (.int (0 : Int32)), (.ref a2), (.ref a1)])) _
    refine XS.aconstNull X0.here hx rfl (hb hby d3_5) ?_
    exact kt
  obtain ⟨_, _, ⟨T2, L2, k2, n2⟩, -, X2', hS2', hge2, ⟨Lc2, hQ2, l2, y2, z2, hC2⟩, st2⟩ := X0.specialBackS hx (y := (⟨"java/lang/String", "<init>", "([CIILjava/lang/Void;)V"⟩ : MethodName)) rfl hown (mvT hZ (hw _ (List.mem_of_getElem? (i := 15) rfl))) (mvT hZ (hw _ (List.mem_of_getElem? (i := 16) rfl))) (mvT hZ (hw _ (List.mem_of_getElem? (i := 18) rfl))) (by decide) (backOfSH (s := s) (vm0 := s.vm) (W := 0) (rm_s2 l Z a0 hw [] a1 a2 h0 n0 Z0 hEL F_value_a1 F_coder_a1 E_a1 g_a1) hZ (hw _ (List.mem_of_getElem? (i := 18) rfl)) (hw _ (List.mem_of_getElem? (i := 10) rfl)) (by decide) (by decide) hEL C0.1) (g := (mkF m 6 #[.val (.ref a1), .val (.ref a2)] [.null, (.int (0 : Int32)), (.int (0 : Int32)), (.ref a2), (.ref a1)])) rfl (by rw [hml]; rfl) (Steps.refl _) (a := a1) (argsL := [(.ref a2), (.int (0 : Int32)), (.int (0 : Int32)), .null]) (rest := []) (lenOf pd___CIILjava_lang_Void__V_1938 rfl) rfl (by show 2 * 0 + _ ≤ _; exact Nat.le_of_eq rfl) (hb hby d3_6) (fun _ _ => ⟨rfl, e0, (by decide : 0 + 4 ≤ _), (by decide : 0 + 8 ≤ _)⟩)
  dsimp only [Pt.U, Pt.locs, Pt.cells, Pt.slots] at X2' hS2' hge2 l2 y2 z2 st2 hQ2 hC2
  subst l2 y2 z2
  have hS2 : s.Since T2.vm T2.heap.size := hS2'
  have hZ : Z.Warmed39 (s.setVm T2.vm).vm := State.Warmed39.trans (t := s) hZ hS2'.1
  have hown : (s.setVm T2.vm).vm.findClass "java/lang/String" = some m.cls := by rw [show (s.setVm T2.vm).vm = T2.vm from rfl, hS2'.1.alike.findClass]; exact hown
  have X2 := rebase (vm := T2.vm) X2'
  have C4 : CHr Z own_EL s.vm h0 T2.vm T2.heap := C0.trans hC2
  have sf4_a1 : Safe Z own_EL T2.vm T2.heap a1 := hC2.safe F_coder_a1.lt sf0_a1
  obtain ⟨rfl, N2q, K2, fk2_0, fk2_1, t2, kb2, fk2_2, fk2_3⟩ := hQ2
  have f1 : n0 ≤ a1 := g_a1
  have f2 : Keep h0 T2.heap [a1] := (Keep.refl h0 [a1]).trans K2 (fun x hx => by cases List.mem_singleton.mp hx; exact Or.inl (by simp))
  have f3 : Arv Z T2.heap a2 kc .char (0 : Int32) [] (.int (0 : Int32)) := V_a2.keep K2 (by simp [(Ne.symm ne_a1_a2)])
  have Z2 : n0 ≤ T2.heap.size := Nat.le_trans Z0 K2.1
  have hk2 : T2.heap.size ≤ T2.heap.size := Nat.le_refl _
  have N2 := Fr.app N0 N2q
  obtain ⟨fs, hr, hrun, hended, hRW⟩ := X2.leaveW (s := s) hS2 hk2 (v := none) (fun _ => rfl) (hlocks := Bd.notSynchronized)
  refine ⟨_, _, pre_3 _ ?_, hrun, hended, _, _, rfl, ?_, (by show CHr Z own_EL s.vm s.heap T2.vm T2.heap; rw [hh]; exact C4.trans (CHv.at (s := s) (vm0 := T2.vm) X2 hZ hEL C4.1)), hRW.1, hRW.2.1, hRW.2.2.1, hRW.2.2.2.mono (by decide) (by decide)⟩
  · show Steps p.tables e below (s₁.setTop (mkF m 6 #[.val (.ref a1), .val (.ref a2)] [.null, (.int (0 : Int32)), (.int (0 : Int32)), (.ref a2), (.ref a1)])) _
    refine st2.trans ?_
    show Steps p.tables e below (T2.setTop (mkF m 9 #[.val (.ref a1), .val (.ref a2)] [])) _
    exact X2.returnOut hx Bd.returns (hb hby d3_9) hr
  · show Q_rm_s1 Z a1 a2 kc h0 n0 _ T2.heap _
    exact ⟨rfl, N2, f2, fk2_0, fk2_1, _, _, fk2_2, fk2_3⟩
theorem pn_1 : plainName "com/example/mended_hedge/mendedhedge/cli/CommandIsHelpPinLaw" = true := by first | (simp [plainName, overriddenIn]; done) | decide +kernel
theorem ef_rm_pk (m : MethodId) (x0 : Int32) (x1 : Int64) (x2 : Int32) (x3 : Int32) (x4 : Int32) (x5 : Int32) : entryFrame m #[(.int x0), (.long x1), (.int x2), (.int x3), (.int x4), (.int x5)] 7 = mkF m 0 #[.val (.int x0), .val (.long x1), .second, .val (.int x2), .val (.int x3), .val (.int x4), .val (.int x5)] [] := by first | (simp [entryFrame, mkF, argsToLocals, Value.category]; done) | rfl
def Q_rm_pk (Z : State) (p1 : Int32) (q2 : Int64) (p3 : Int32) (p4 : Int32) (p5 : Int32) (p6 : Int32) (h0 : Heap) (n0 : Nat) (v : Option Value) (h : Heap) (L : List Loc) : Prop := ∃ w : Int32, v = some (.int w) ∧ Fr n0 L ∧ h = h0 ∧ own_in w
theorem d1_0 : decode method_3_code 0 = .ok (.iload_n 0, 1) := by decide +kernel
theorem d1_1 : decode method_3_code 1 = .ok (.iconst 3, 1) := by decide +kernel
theorem d1_2 : decode method_3_code 2 = .ok (.iload_n 3, 1) := by decide +kernel
theorem d1_3 : decode method_3_code 3 = .ok (.iadd, 1) := by decide +kernel
theorem d1_4 : decode method_3_code 4 = .ok (.iushr, 1) := by decide +kernel
theorem d1_5 : decode method_3_code 5 = .ok (.iconst 1, 1) := by decide +kernel
theorem d1_6 : decode method_3_code 6 = .ok (.iand, 1) := by decide +kernel
theorem d1_7 : decode method_3_code 7 = .ok (.ifCond .eq 16, 3) := by decide +kernel
theorem d1_23 : decode method_3_code 23 = .ok (.lload_n 1, 1) := by decide +kernel
theorem d1_24 : decode method_3_code 24 = .ok (.bipush 8, 2) := by decide +kernel
theorem d1_26 : decode method_3_code 26 = .ok (.iload_n 3, 1) := by decide +kernel
theorem d1_27 : decode method_3_code 27 = .ok (.imul, 1) := by decide +kernel
theorem d1_28 : decode method_3_code 28 = .ok (.lushr, 1) := by decide +kernel
theorem d1_29 : decode method_3_code 29 = .ok (.ldc2_w 23, 3) := by decide +kernel
theorem d1_32 : decode method_3_code 32 = .ok (.land, 1) := by decide +kernel
theorem d1_33 : decode method_3_code 33 = .ok (.l2i, 1) := by decide +kernel
theorem d1_34 : decode method_3_code 34 = .ok (.i2c, 1) := by decide +kernel
theorem d1_35 : decode method_3_code 35 = .ok (.ireturn, 1) := by decide +kernel
theorem d1_10 : decode method_3_code 10 = .ok (.iload 6, 2) := by decide +kernel
theorem d1_12 : decode method_3_code 12 = .ok (.ifCond .eq 8, 3) := by decide +kernel
theorem d1_20 : decode method_3_code 20 = .ok (.iload 4, 2) := by decide +kernel
theorem d1_22 : decode method_3_code 22 = .ok (.ireturn, 1) := by decide +kernel
theorem d1_15 : decode method_3_code 15 = .ok (.iload 5, 2) := by decide +kernel
theorem d1_17 : decode method_3_code 17 = .ok (.goto 5, 3) := by decide +kernel
set_option maxRecDepth 65536 in
set_option maxHeartbeats 40000000 in
theorem rm_pk (l : Launch) (Z : State) (a0 : Array Value) (hw : ∀ d ∈ tables_1, d.before a0 Z = true) (ws : List Jvm.Cond) (p1 : Int32) (q2 : Int64) (p3 : Int32) (p4 : Int32) (p5 : Int32) (p6 : Int32) (h0 : Heap) (n0 : Nat) (Z0 : n0 ≤ h0.size) (hq4 : own_in p4) (hq5 : own_in p5) :
    MetFree l (⟨"com/example/mended_hedge/mendedhedge/cli/CommandIsHelpPinLaw", "pick", "(IJICCZ)C"⟩ : MethodName) (head1 (Jvm.Cond.code (⟨"com/example/mended_hedge/mendedhedge/cli/CommandIsHelpPinLaw", "pick", "(IJICCZ)C"⟩ : MethodName) method_3_code 7 (some .char) :: ws) ({ frames := 0, cells := 0, slots := 0, locals := 0 } : Room)) (fun a U => a = #[(.int p1), (.long q2), (.int p3), (.int p4), (.int p5), (.int p6)] ∧ Z.Warmed39 U.vm ∧ U.heap = h0) (fun _ _ _ _ _ => True) (fun _ U o U' => ∃ v L, o = .returned v ∧ Q_rm_pk Z p1 q2 p3 p4 p5 p6 h0 n0 v U'.heap L ∧ FrameEnd U o U' L ({ frames := 0, cells := 0, slots := 0, locals := 0 } : Room).cells ({ frames := 0, cells := 0, slots := 0, locals := 0 } : Room).slots) := by
  refine MetFree.of_bodySF (plainFor_of_name pn_1) hisR ?_
  intro p e s m args below meth c s₁ Bd hml0 hP hK
  obtain ⟨rfl, hZ, hh⟩ := hP
  have hx := Bd.exec
  have hby := Bd.bytes
  have hml : c.maxLocals = 7 := hml0
  have hown : s.vm.findClass "com/example/mended_hedge/mendedhedge/cli/CommandIsHelpPinLaw" = some m.cls := findClass_of_methodNamed Bd.named
  have hnm := (name_of_methodNamed Bd.named Bd.method).1
  have X0 : Stand p l e ({ frames := 0, cells := 0, slots := 0, locals := 0 } : Room) s m #[(.int p1), (.long q2), (.int p3), (.int p4), (.int p5), (.int p6)] below meth c s₁ [] 0 0 := Stand.of_body Bd
  have e0 : s₁.heap = h0 := by rw [← hh, Bd.state]; rfl
  have N0 := Fr.nil n0
  have pre0 : ∀ t, Steps p.tables e below (s₁.setTop (mkF m 0 #[.val (.int p1), .val (.long q2), .second, .val (.int p3), .val (.int p4), .val (.int p5), .val (.int p6)] [])) t → Steps p.tables e below (s₁.setTop (entryFrame m #[(.int p1), (.long q2), (.int p3), (.int p4), (.int p5), (.int p6)] 7)) t := fun t kt => castTop (ef_rm_pk m p1 q2 p3 p4 p5 p6) kt
  have pre_1 : ∀ t, Steps p.tables e below (s₁.setTop (mkF m 7 #[.val (.int p1), .val (.long q2), .second, .val (.int p3), .val (.int p4), .val (.int p5), .val (.int p6)] [(.int (((p1.toUInt32 >>> (((3 : Int32) + p3) &&& 31).toUInt32).toInt32) &&& (1 : Int32)))])) t → Steps p.tables e below (s₁.setTop (entryFrame m #[(.int p1), (.long q2), (.int p3), (.int p4), (.int p5), (.int p6)] 7)) t := by
    intro t kt
    refine pre0 _ ?_
    show Steps p.tables e below (s₁.setTop (mkF m 0 #[.val (.int p1), .val (.long q2), .second, .val (.int p3), .val (.int p4), .val (.int p5), .val (.int p6)] [])) _
    refine XS.iloadN X0.here hx rfl (hb hby d1_0) rfl ?_
    show Steps p.tables e below (s₁.setTop (mkF m 1 #[.val (.int p1), .val (.long q2), .second, .val (.int p3), .val (.int p4), .val (.int p5), .val (.int p6)] [(.int p1)])) _
    refine XS.iconst X0.here hx rfl (hb hby d1_1) ?_
    show Steps p.tables e below (s₁.setTop (mkF m 2 #[.val (.int p1), .val (.long q2), .second, .val (.int p3), .val (.int p4), .val (.int p5), .val (.int p6)] [(.int (3 : Int32)), (.int p1)])) _
    refine XS.iloadN X0.here hx rfl (hb hby d1_2) rfl ?_
    show Steps p.tables e below (s₁.setTop (mkF m 3 #[.val (.int p1), .val (.long q2), .second, .val (.int p3), .val (.int p4), .val (.int p5), .val (.int p6)] [(.int p3), (.int (3 : Int32)), (.int p1)])) _
    refine XS.iadd X0.here hx rfl (hb hby d1_3) rfl ?_
    show Steps p.tables e below (s₁.setTop (mkF m 4 #[.val (.int p1), .val (.long q2), .second, .val (.int p3), .val (.int p4), .val (.int p5), .val (.int p6)] [(.int ((3 : Int32) + p3)), (.int p1)])) _
    refine XS.iushr X0.here hx rfl (hb hby d1_4) rfl ?_
    show Steps p.tables e below (s₁.setTop (mkF m 5 #[.val (.int p1), .val (.long q2), .second, .val (.int p3), .val (.int p4), .val (.int p5), .val (.int p6)] [(.int ((p1.toUInt32 >>> (((3 : Int32) + p3) &&& 31).toUInt32).toInt32))])) _
    refine XS.iconst X0.here hx rfl (hb hby d1_5) ?_
    show Steps p.tables e below (s₁.setTop (mkF m 6 #[.val (.int p1), .val (.long q2), .second, .val (.int p3), .val (.int p4), .val (.int p5), .val (.int p6)] [(.int (1 : Int32)), (.int ((p1.toUInt32 >>> (((3 : Int32) + p3) &&& 31).toUInt32).toInt32))])) _
    refine XS.iand X0.here hx rfl (hb hby d1_6) rfl ?_
    exact kt
  by_cases hc7 : (((p1.toUInt32 >>> (((3 : Int32) + p3) &&& 31).toUInt32).toInt32) &&& (1 : Int32)) = (0 : Int32)
  · obtain ⟨fs, hr, hrun, hended, hW, hsame⟩ := X0.leave (v := some (.int (nar .char (((((q2.toUInt64 >>> (((8 : Int32) * p3) &&& 0x3f).toInt64.toUInt64).toInt64) &&& (255 : Int64)).toInt32).toUInt32.toUInt16.toUInt32.toInt32)))) (fun h => by rw [Bd.returns] at h; cases h) (hlocks := Bd.notSynchronized)
    refine ⟨_, _, pre_1 _ ?_, hrun, hended, _, _, rfl, ?_, ⟨_, rfl⟩, hW, hsame.mono (by decide) (by decide)⟩
    · show Steps p.tables e below (s₁.setTop (mkF m 7 #[.val (.int p1), .val (.long q2), .second, .val (.int p3), .val (.int p4), .val (.int p5), .val (.int p6)] [(.int (((p1.toUInt32 >>> (((3 : Int32) + p3) &&& 31).toUInt32).toInt32) &&& (1 : Int32)))])) _
      refine XS.ifYes X0.here hx rfl (pc0 := 7) (pc' := 23) rfl (hb hby d1_7) rfl ((if0 _ _).trans (teq hc7).1) (by decide) (by decide) ?_
      show Steps p.tables e below (s₁.setTop (mkF m 23 #[.val (.int p1), .val (.long q2), .second, .val (.int p3), .val (.int p4), .val (.int p5), .val (.int p6)] [])) _
      refine XS.lloadN X0.here hx rfl (hb hby d1_23) rfl ?_
      show Steps p.tables e below (s₁.setTop (mkF m 24 #[.val (.int p1), .val (.long q2), .second, .val (.int p3), .val (.int p4), .val (.int p5), .val (.int p6)] [(.long q2)])) _
      refine XS.bipush X0.here hx rfl (hb hby d1_24) ?_
      show Steps p.tables e below (s₁.setTop (mkF m 26 #[.val (.int p1), .val (.long q2), .second, .val (.int p3), .val (.int p4), .val (.int p5), .val (.int p6)] [(.int (8 : Int32)), (.long q2)])) _
      refine XS.iloadN X0.here hx rfl (hb hby d1_26) rfl ?_
      show Steps p.tables e below (s₁.setTop (mkF m 27 #[.val (.int p1), .val (.long q2), .second, .val (.int p3), .val (.int p4), .val (.int p5), .val (.int p6)] [(.int p3), (.int (8 : Int32)), (.long q2)])) _
      refine XS.imul X0.here hx rfl (hb hby d1_27) rfl ?_
      show Steps p.tables e below (s₁.setTop (mkF m 28 #[.val (.int p1), .val (.long q2), .second, .val (.int p3), .val (.int p4), .val (.int p5), .val (.int p6)] [(.int ((8 : Int32) * p3)), (.long q2)])) _
      refine XS.lushr X0.here hx rfl (hb hby d1_28) rfl ?_
      show Steps p.tables e below (s₁.setTop (mkF m 29 #[.val (.int p1), .val (.long q2), .second, .val (.int p3), .val (.int p4), .val (.int p5), .val (.int p6)] [(.long ((q2.toUInt64 >>> (((8 : Int32) * p3) &&& 0x3f).toInt64.toUInt64).toInt64))])) _
      refine X0.ldc2Long hx hown (mvT hZ (hw _ (List.mem_of_getElem? (i := 4) rfl))) (g := (mkF m 29 #[.val (.int p1), .val (.long q2), .second, .val (.int p3), .val (.int p4), .val (.int p5), .val (.int p6)] [(.long ((q2.toUInt64 >>> (((8 : Int32) * p3) &&& 0x3f).toInt64.toUInt64).toInt64))])) rfl (hb hby d1_29) _ ?_
      show Steps p.tables e below (s₁.setTop (mkF m 32 #[.val (.int p1), .val (.long q2), .second, .val (.int p3), .val (.int p4), .val (.int p5), .val (.int p6)] [(.long (255 : Int64)), (.long ((q2.toUInt64 >>> (((8 : Int32) * p3) &&& 0x3f).toInt64.toUInt64).toInt64))])) _
      refine XS.land X0.here hx rfl (hb hby d1_32) rfl ?_
      show Steps p.tables e below (s₁.setTop (mkF m 33 #[.val (.int p1), .val (.long q2), .second, .val (.int p3), .val (.int p4), .val (.int p5), .val (.int p6)] [(.long (((q2.toUInt64 >>> (((8 : Int32) * p3) &&& 0x3f).toInt64.toUInt64).toInt64) &&& (255 : Int64)))])) _
      refine XS.l2i X0.here hx rfl (hb hby d1_33) rfl ?_
      show Steps p.tables e below (s₁.setTop (mkF m 34 #[.val (.int p1), .val (.long q2), .second, .val (.int p3), .val (.int p4), .val (.int p5), .val (.int p6)] [(.int ((((q2.toUInt64 >>> (((8 : Int32) * p3) &&& 0x3f).toInt64.toUInt64).toInt64) &&& (255 : Int64)).toInt32))])) _
      refine XS.i2c X0.here hx rfl (hb hby d1_34) rfl ?_
      show Steps p.tables e below (s₁.setTop (mkF m 35 #[.val (.int p1), .val (.long q2), .second, .val (.int p3), .val (.int p4), .val (.int p5), .val (.int p6)] [(.int (((((q2.toUInt64 >>> (((8 : Int32) * p3) &&& 0x3f).toInt64.toUInt64).toInt64) &&& (255 : Int64)).toInt32).toUInt32.toUInt16.toUInt32.toInt32))])) _
      exact retN X0 hx (t := .char) Bd.returns (by simp) (hb hby d1_35) hr
    · show Q_rm_pk Z p1 q2 p3 p4 p5 p6 h0 n0 _ s₁.heap _
      rw [e0]
      exact ⟨_, rfl, N0, rfl, own_nc (own_b8 _)⟩
  · have pre_2 : ∀ t, Steps p.tables e below (s₁.setTop (mkF m 12 #[.val (.int p1), .val (.long q2), .second, .val (.int p3), .val (.int p4), .val (.int p5), .val (.int p6)] [(.int p6)])) t → Steps p.tables e below (s₁.setTop (entryFrame m #[(.int p1), (.long q2), (.int p3), (.int p4), (.int p5), (.int p6)] 7)) t := by
      intro t kt
      refine pre_1 _ ?_
      show Steps p.tables e below (s₁.setTop (mkF m 7 #[.val (.int p1), .val (.long q2), .second, .val (.int p3), .val (.int p4), .val (.int p5), .val (.int p6)] [(.int (((p1.toUInt32 >>> (((3 : Int32) + p3) &&& 31).toUInt32).toInt32) &&& (1 : Int32)))])) _
      refine XS.ifNo X0.here hx rfl (hb hby d1_7) rfl ((if0 _ _).trans (feq hc7).1) ?_
      show Steps p.tables e below (s₁.setTop (mkF m 10 #[.val (.int p1), .val (.long q2), .second, .val (.int p3), .val (.int p4), .val (.int p5), .val (.int p6)] [])) _
      refine XS.iload X0.here hx rfl (hb hby d1_10) rfl ?_
      exact kt
    by_cases hc12 : p6 = (0 : Int32)
    · obtain ⟨fs, hr, hrun, hended, hW, hsame⟩ := X0.leave (v := some (.int (nar .char p4))) (fun h => by rw [Bd.returns] at h; cases h) (hlocks := Bd.notSynchronized)
      refine ⟨_, _, pre_2 _ ?_, hrun, hended, _, _, rfl, ?_, ⟨_, rfl⟩, hW, hsame.mono (by decide) (by decide)⟩
      · show Steps p.tables e below (s₁.setTop (mkF m 12 #[.val (.int p1), .val (.long q2), .second, .val (.int p3), .val (.int p4), .val (.int p5), .val (.int p6)] [(.int p6)])) _
        refine XS.ifYes X0.here hx rfl (pc0 := 12) (pc' := 20) rfl (hb hby d1_12) rfl ((if0 _ _).trans (teq hc12).1) (by decide) (by decide) ?_
        show Steps p.tables e below (s₁.setTop (mkF m 20 #[.val (.int p1), .val (.long q2), .second, .val (.int p3), .val (.int p4), .val (.int p5), .val (.int p6)] [])) _
        refine XS.iload X0.here hx rfl (hb hby d1_20) rfl ?_
        show Steps p.tables e below (s₁.setTop (mkF m 22 #[.val (.int p1), .val (.long q2), .second, .val (.int p3), .val (.int p4), .val (.int p5), .val (.int p6)] [(.int p4)])) _
        exact retN X0 hx (t := .char) Bd.returns (by simp) (hb hby d1_22) hr
      · show Q_rm_pk Z p1 q2 p3 p4 p5 p6 h0 n0 _ s₁.heap _
        rw [e0]
        exact ⟨_, rfl, N0, rfl, own_nc hq4⟩
    · obtain ⟨fs, hr, hrun, hended, hW, hsame⟩ := X0.leave (v := some (.int (nar .char p5))) (fun h => by rw [Bd.returns] at h; cases h) (hlocks := Bd.notSynchronized)
      refine ⟨_, _, pre_2 _ ?_, hrun, hended, _, _, rfl, ?_, ⟨_, rfl⟩, hW, hsame.mono (by decide) (by decide)⟩
      · show Steps p.tables e below (s₁.setTop (mkF m 12 #[.val (.int p1), .val (.long q2), .second, .val (.int p3), .val (.int p4), .val (.int p5), .val (.int p6)] [(.int p6)])) _
        refine XS.ifNo X0.here hx rfl (hb hby d1_12) rfl ((if0 _ _).trans (feq hc12).1) ?_
        show Steps p.tables e below (s₁.setTop (mkF m 15 #[.val (.int p1), .val (.long q2), .second, .val (.int p3), .val (.int p4), .val (.int p5), .val (.int p6)] [])) _
        refine XS.iload X0.here hx rfl (hb hby d1_15) rfl ?_
        show Steps p.tables e below (s₁.setTop (mkF m 17 #[.val (.int p1), .val (.long q2), .second, .val (.int p3), .val (.int p4), .val (.int p5), .val (.int p6)] [(.int p5)])) _
        refine XS.goto X0.here hx rfl (pc0 := 17) (pc' := 22) rfl (hb hby d1_17) (by decide) (by decide) ?_
        show Steps p.tables e below (s₁.setTop (mkF m 22 #[.val (.int p1), .val (.long q2), .second, .val (.int p3), .val (.int p4), .val (.int p5), .val (.int p6)] [(.int p5)])) _
        exact retN X0 hx (t := .char) Bd.returns (by simp) (hb hby d1_22) hr
      · show Q_rm_pk Z p1 q2 p3 p4 p5 p6 h0 n0 _ s₁.heap _
        rw [e0]
        exact ⟨_, rfl, N0, rfl, own_nc hq5⟩
theorem pn_2 : plainName "com/example/mended_hedge/mendedhedge/cli/CommandIsHelpPinLaw" = true := by first | (simp [plainName, overriddenIn]; done) | decide +kernel
theorem ef_rm_mk (m : MethodId) (x0 : Int32) (x1 : Int32) (x2 : Int32) (x3 : Int32) (x4 : Int32) (x5 : Int32) (x6 : Int32) (x7 : Int32) : entryFrame m #[(.int x0), (.int x1), (.int x2), (.int x3), (.int x4), (.int x5), (.int x6), (.int x7)] 8 = mkF m 0 #[.val (.int x0), .val (.int x1), .val (.int x2), .val (.int x3), .val (.int x4), .val (.int x5), .val (.int x6), .val (.int x7)] [] := by first | (simp [entryFrame, mkF, argsToLocals, Value.category]; done) | rfl
def Q_rm_mk (Z : State) (p1 : Int32) (p2 : Int32) (p3 : Int32) (p4 : Int32) (p5 : Int32) (p6 : Int32) (p7 : Int32) (p8 : Int32) (cz : Int32) (h0 : Heap) (n0 : Nat) (v : Option Value) (h : Heap) (L : List Loc) : Prop := ∃ (b t : Addr) (kb : ClassId), v = some (.ref b) ∧ Fr n0 L ∧ Keep h0 h [] ∧ Exa Z h b "java/lang/String" ∧ Fld Z h b "java/lang/String" "coder" "B" (.int (0 : Int32)) ∧ Fld Z h b "java/lang/String" "value" "[B" (.ref t) ∧ Arv Z h t kb .byte (Int32.ofNat (own_cs p1 p2 p3 p4 p5 p6 p7 p8).length) (((own_cs p1 p2 p3 p4 p5 p6 p7 p8).map (fun c => c.toInt8.toInt32)).map Value.int) (.int 0)
theorem d2_0 : decode method_4_code 0 = .ok (.iload_n 0, 1) := by decide +kernel
theorem d2_1 : decode method_4_code 1 = .ok (.ifCond .ne 14, 3) := by decide +kernel
theorem d2_4 : decode method_4_code 4 = .ok (.new 25, 3) := by decide +kernel
theorem d2_7 : decode method_4_code 7 = .ok (.dup, 1) := by decide +kernel
theorem d2_8 : decode method_4_code 8 = .ok (.iconst 0, 1) := by decide +kernel
theorem d2_9 : decode method_4_code 9 = .ok (.newarray .char, 2) := by decide +kernel
theorem pd___C_V_325 : parseMethodDescriptor "([C)V" = some ⟨[(.array .char)], none⟩ := by decide +kernel
theorem d2_11 : decode method_4_code 11 = .ok (.invokespecial 27, 3) := by decide +kernel
theorem d2_14 : decode method_4_code 14 = .ok (.areturn, 1) := by decide +kernel
theorem d2_15 : decode method_4_code 15 = .ok (.iload_n 0, 1) := by decide +kernel
theorem d2_16 : decode method_4_code 16 = .ok (.iconst 1, 1) := by decide +kernel
theorem d2_17 : decode method_4_code 17 = .ok (.if_icmp .ne 18, 3) := by decide +kernel
theorem d2_20 : decode method_4_code 20 = .ok (.new 25, 3) := by decide +kernel
theorem d2_23 : decode method_4_code 23 = .ok (.dup, 1) := by decide +kernel
theorem d2_24 : decode method_4_code 24 = .ok (.iconst 1, 1) := by decide +kernel
theorem d2_25 : decode method_4_code 25 = .ok (.newarray .char, 2) := by decide +kernel
theorem d2_27 : decode method_4_code 27 = .ok (.dup, 1) := by decide +kernel
theorem d2_28 : decode method_4_code 28 = .ok (.iconst 0, 1) := by decide +kernel
theorem d2_29 : decode method_4_code 29 = .ok (.iload_n 1, 1) := by decide +kernel
theorem d2_30 : decode method_4_code 30 = .ok (.castore, 1) := by decide +kernel
theorem d2_31 : decode method_4_code 31 = .ok (.invokespecial 27, 3) := by decide +kernel
theorem d2_34 : decode method_4_code 34 = .ok (.areturn, 1) := by decide +kernel
theorem d2_35 : decode method_4_code 35 = .ok (.iload_n 0, 1) := by decide +kernel
theorem d2_36 : decode method_4_code 36 = .ok (.iconst 2, 1) := by decide +kernel
theorem d2_37 : decode method_4_code 37 = .ok (.if_icmp .ne 22, 3) := by decide +kernel
theorem d2_40 : decode method_4_code 40 = .ok (.new 25, 3) := by decide +kernel
theorem d2_43 : decode method_4_code 43 = .ok (.dup, 1) := by decide +kernel
theorem d2_44 : decode method_4_code 44 = .ok (.iconst 2, 1) := by decide +kernel
theorem d2_45 : decode method_4_code 45 = .ok (.newarray .char, 2) := by decide +kernel
theorem d2_47 : decode method_4_code 47 = .ok (.dup, 1) := by decide +kernel
theorem d2_48 : decode method_4_code 48 = .ok (.iconst 0, 1) := by decide +kernel
theorem d2_49 : decode method_4_code 49 = .ok (.iload_n 1, 1) := by decide +kernel
theorem d2_50 : decode method_4_code 50 = .ok (.castore, 1) := by decide +kernel
theorem d2_51 : decode method_4_code 51 = .ok (.dup, 1) := by decide +kernel
theorem d2_52 : decode method_4_code 52 = .ok (.iconst 1, 1) := by decide +kernel
theorem d2_53 : decode method_4_code 53 = .ok (.iload_n 2, 1) := by decide +kernel
theorem d2_54 : decode method_4_code 54 = .ok (.castore, 1) := by decide +kernel
theorem d2_55 : decode method_4_code 55 = .ok (.invokespecial 27, 3) := by decide +kernel
theorem d2_58 : decode method_4_code 58 = .ok (.areturn, 1) := by decide +kernel
theorem d2_59 : decode method_4_code 59 = .ok (.iload_n 0, 1) := by decide +kernel
theorem d2_60 : decode method_4_code 60 = .ok (.iconst 3, 1) := by decide +kernel
theorem d2_61 : decode method_4_code 61 = .ok (.if_icmp .ne 26, 3) := by decide +kernel
theorem d2_64 : decode method_4_code 64 = .ok (.new 25, 3) := by decide +kernel
theorem d2_67 : decode method_4_code 67 = .ok (.dup, 1) := by decide +kernel
theorem d2_68 : decode method_4_code 68 = .ok (.iconst 3, 1) := by decide +kernel
theorem d2_69 : decode method_4_code 69 = .ok (.newarray .char, 2) := by decide +kernel
theorem d2_71 : decode method_4_code 71 = .ok (.dup, 1) := by decide +kernel
theorem d2_72 : decode method_4_code 72 = .ok (.iconst 0, 1) := by decide +kernel
theorem d2_73 : decode method_4_code 73 = .ok (.iload_n 1, 1) := by decide +kernel
theorem d2_74 : decode method_4_code 74 = .ok (.castore, 1) := by decide +kernel
theorem d2_75 : decode method_4_code 75 = .ok (.dup, 1) := by decide +kernel
theorem d2_76 : decode method_4_code 76 = .ok (.iconst 1, 1) := by decide +kernel
theorem d2_77 : decode method_4_code 77 = .ok (.iload_n 2, 1) := by decide +kernel
theorem d2_78 : decode method_4_code 78 = .ok (.castore, 1) := by decide +kernel
theorem d2_79 : decode method_4_code 79 = .ok (.dup, 1) := by decide +kernel
theorem d2_80 : decode method_4_code 80 = .ok (.iconst 2, 1) := by decide +kernel
theorem d2_81 : decode method_4_code 81 = .ok (.iload_n 3, 1) := by decide +kernel
theorem d2_82 : decode method_4_code 82 = .ok (.castore, 1) := by decide +kernel
theorem d2_83 : decode method_4_code 83 = .ok (.invokespecial 27, 3) := by decide +kernel
theorem d2_86 : decode method_4_code 86 = .ok (.areturn, 1) := by decide +kernel
theorem d2_87 : decode method_4_code 87 = .ok (.iload_n 0, 1) := by decide +kernel
theorem d2_88 : decode method_4_code 88 = .ok (.iconst 4, 1) := by decide +kernel
theorem d2_89 : decode method_4_code 89 = .ok (.if_icmp .ne 31, 3) := by decide +kernel
theorem d2_92 : decode method_4_code 92 = .ok (.new 25, 3) := by decide +kernel
theorem d2_95 : decode method_4_code 95 = .ok (.dup, 1) := by decide +kernel
theorem d2_96 : decode method_4_code 96 = .ok (.iconst 4, 1) := by decide +kernel
theorem d2_97 : decode method_4_code 97 = .ok (.newarray .char, 2) := by decide +kernel
theorem d2_99 : decode method_4_code 99 = .ok (.dup, 1) := by decide +kernel
theorem d2_100 : decode method_4_code 100 = .ok (.iconst 0, 1) := by decide +kernel
theorem d2_101 : decode method_4_code 101 = .ok (.iload_n 1, 1) := by decide +kernel
theorem d2_102 : decode method_4_code 102 = .ok (.castore, 1) := by decide +kernel
theorem d2_103 : decode method_4_code 103 = .ok (.dup, 1) := by decide +kernel
theorem d2_104 : decode method_4_code 104 = .ok (.iconst 1, 1) := by decide +kernel
theorem d2_105 : decode method_4_code 105 = .ok (.iload_n 2, 1) := by decide +kernel
theorem d2_106 : decode method_4_code 106 = .ok (.castore, 1) := by decide +kernel
theorem d2_107 : decode method_4_code 107 = .ok (.dup, 1) := by decide +kernel
theorem d2_108 : decode method_4_code 108 = .ok (.iconst 2, 1) := by decide +kernel
theorem d2_109 : decode method_4_code 109 = .ok (.iload_n 3, 1) := by decide +kernel
theorem d2_110 : decode method_4_code 110 = .ok (.castore, 1) := by decide +kernel
theorem d2_111 : decode method_4_code 111 = .ok (.dup, 1) := by decide +kernel
theorem d2_112 : decode method_4_code 112 = .ok (.iconst 3, 1) := by decide +kernel
theorem d2_113 : decode method_4_code 113 = .ok (.iload 4, 2) := by decide +kernel
theorem d2_115 : decode method_4_code 115 = .ok (.castore, 1) := by decide +kernel
theorem d2_116 : decode method_4_code 116 = .ok (.invokespecial 27, 3) := by decide +kernel
theorem d2_119 : decode method_4_code 119 = .ok (.areturn, 1) := by decide +kernel
theorem d2_120 : decode method_4_code 120 = .ok (.iload_n 0, 1) := by decide +kernel
theorem d2_121 : decode method_4_code 121 = .ok (.iconst 5, 1) := by decide +kernel
theorem d2_122 : decode method_4_code 122 = .ok (.if_icmp .ne 36, 3) := by decide +kernel
theorem d2_125 : decode method_4_code 125 = .ok (.new 25, 3) := by decide +kernel
theorem d2_128 : decode method_4_code 128 = .ok (.dup, 1) := by decide +kernel
theorem d2_129 : decode method_4_code 129 = .ok (.iconst 5, 1) := by decide +kernel
theorem d2_130 : decode method_4_code 130 = .ok (.newarray .char, 2) := by decide +kernel
theorem d2_132 : decode method_4_code 132 = .ok (.dup, 1) := by decide +kernel
theorem d2_133 : decode method_4_code 133 = .ok (.iconst 0, 1) := by decide +kernel
theorem d2_134 : decode method_4_code 134 = .ok (.iload_n 1, 1) := by decide +kernel
theorem d2_135 : decode method_4_code 135 = .ok (.castore, 1) := by decide +kernel
theorem d2_136 : decode method_4_code 136 = .ok (.dup, 1) := by decide +kernel
theorem d2_137 : decode method_4_code 137 = .ok (.iconst 1, 1) := by decide +kernel
theorem d2_138 : decode method_4_code 138 = .ok (.iload_n 2, 1) := by decide +kernel
theorem d2_139 : decode method_4_code 139 = .ok (.castore, 1) := by decide +kernel
theorem d2_140 : decode method_4_code 140 = .ok (.dup, 1) := by decide +kernel
theorem d2_141 : decode method_4_code 141 = .ok (.iconst 2, 1) := by decide +kernel
theorem d2_142 : decode method_4_code 142 = .ok (.iload_n 3, 1) := by decide +kernel
theorem d2_143 : decode method_4_code 143 = .ok (.castore, 1) := by decide +kernel
theorem d2_144 : decode method_4_code 144 = .ok (.dup, 1) := by decide +kernel
theorem d2_145 : decode method_4_code 145 = .ok (.iconst 3, 1) := by decide +kernel
theorem d2_146 : decode method_4_code 146 = .ok (.iload 4, 2) := by decide +kernel
theorem d2_148 : decode method_4_code 148 = .ok (.castore, 1) := by decide +kernel
theorem d2_149 : decode method_4_code 149 = .ok (.dup, 1) := by decide +kernel
theorem d2_150 : decode method_4_code 150 = .ok (.iconst 4, 1) := by decide +kernel
theorem d2_151 : decode method_4_code 151 = .ok (.iload 5, 2) := by decide +kernel
theorem d2_153 : decode method_4_code 153 = .ok (.castore, 1) := by decide +kernel
theorem d2_154 : decode method_4_code 154 = .ok (.invokespecial 27, 3) := by decide +kernel
theorem d2_157 : decode method_4_code 157 = .ok (.areturn, 1) := by decide +kernel
theorem d2_158 : decode method_4_code 158 = .ok (.iload_n 0, 1) := by decide +kernel
theorem d2_159 : decode method_4_code 159 = .ok (.bipush 6, 2) := by decide +kernel
theorem d2_161 : decode method_4_code 161 = .ok (.if_icmp .ne 42, 3) := by decide +kernel
theorem d2_164 : decode method_4_code 164 = .ok (.new 25, 3) := by decide +kernel
theorem d2_167 : decode method_4_code 167 = .ok (.dup, 1) := by decide +kernel
theorem d2_168 : decode method_4_code 168 = .ok (.bipush 6, 2) := by decide +kernel
theorem d2_170 : decode method_4_code 170 = .ok (.newarray .char, 2) := by decide +kernel
theorem d2_172 : decode method_4_code 172 = .ok (.dup, 1) := by decide +kernel
theorem d2_173 : decode method_4_code 173 = .ok (.iconst 0, 1) := by decide +kernel
theorem d2_174 : decode method_4_code 174 = .ok (.iload_n 1, 1) := by decide +kernel
theorem d2_175 : decode method_4_code 175 = .ok (.castore, 1) := by decide +kernel
theorem d2_176 : decode method_4_code 176 = .ok (.dup, 1) := by decide +kernel
theorem d2_177 : decode method_4_code 177 = .ok (.iconst 1, 1) := by decide +kernel
theorem d2_178 : decode method_4_code 178 = .ok (.iload_n 2, 1) := by decide +kernel
theorem d2_179 : decode method_4_code 179 = .ok (.castore, 1) := by decide +kernel
theorem d2_180 : decode method_4_code 180 = .ok (.dup, 1) := by decide +kernel
theorem d2_181 : decode method_4_code 181 = .ok (.iconst 2, 1) := by decide +kernel
theorem d2_182 : decode method_4_code 182 = .ok (.iload_n 3, 1) := by decide +kernel
theorem d2_183 : decode method_4_code 183 = .ok (.castore, 1) := by decide +kernel
theorem d2_184 : decode method_4_code 184 = .ok (.dup, 1) := by decide +kernel
theorem d2_185 : decode method_4_code 185 = .ok (.iconst 3, 1) := by decide +kernel
theorem d2_186 : decode method_4_code 186 = .ok (.iload 4, 2) := by decide +kernel
theorem d2_188 : decode method_4_code 188 = .ok (.castore, 1) := by decide +kernel
theorem d2_189 : decode method_4_code 189 = .ok (.dup, 1) := by decide +kernel
theorem d2_190 : decode method_4_code 190 = .ok (.iconst 4, 1) := by decide +kernel
theorem d2_191 : decode method_4_code 191 = .ok (.iload 5, 2) := by decide +kernel
theorem d2_193 : decode method_4_code 193 = .ok (.castore, 1) := by decide +kernel
theorem d2_194 : decode method_4_code 194 = .ok (.dup, 1) := by decide +kernel
theorem d2_195 : decode method_4_code 195 = .ok (.iconst 5, 1) := by decide +kernel
theorem d2_196 : decode method_4_code 196 = .ok (.iload 6, 2) := by decide +kernel
theorem d2_198 : decode method_4_code 198 = .ok (.castore, 1) := by decide +kernel
theorem d2_199 : decode method_4_code 199 = .ok (.invokespecial 27, 3) := by decide +kernel
theorem d2_202 : decode method_4_code 202 = .ok (.areturn, 1) := by decide +kernel
theorem d2_203 : decode method_4_code 203 = .ok (.new 25, 3) := by decide +kernel
theorem d2_206 : decode method_4_code 206 = .ok (.dup, 1) := by decide +kernel
theorem d2_207 : decode method_4_code 207 = .ok (.bipush 7, 2) := by decide +kernel
theorem d2_209 : decode method_4_code 209 = .ok (.newarray .char, 2) := by decide +kernel
theorem d2_211 : decode method_4_code 211 = .ok (.dup, 1) := by decide +kernel
theorem d2_212 : decode method_4_code 212 = .ok (.iconst 0, 1) := by decide +kernel
theorem d2_213 : decode method_4_code 213 = .ok (.iload_n 1, 1) := by decide +kernel
theorem d2_214 : decode method_4_code 214 = .ok (.castore, 1) := by decide +kernel
theorem d2_215 : decode method_4_code 215 = .ok (.dup, 1) := by decide +kernel
theorem d2_216 : decode method_4_code 216 = .ok (.iconst 1, 1) := by decide +kernel
theorem d2_217 : decode method_4_code 217 = .ok (.iload_n 2, 1) := by decide +kernel
theorem d2_218 : decode method_4_code 218 = .ok (.castore, 1) := by decide +kernel
theorem d2_219 : decode method_4_code 219 = .ok (.dup, 1) := by decide +kernel
theorem d2_220 : decode method_4_code 220 = .ok (.iconst 2, 1) := by decide +kernel
theorem d2_221 : decode method_4_code 221 = .ok (.iload_n 3, 1) := by decide +kernel
theorem d2_222 : decode method_4_code 222 = .ok (.castore, 1) := by decide +kernel
theorem d2_223 : decode method_4_code 223 = .ok (.dup, 1) := by decide +kernel
theorem d2_224 : decode method_4_code 224 = .ok (.iconst 3, 1) := by decide +kernel
theorem d2_225 : decode method_4_code 225 = .ok (.iload 4, 2) := by decide +kernel
theorem d2_227 : decode method_4_code 227 = .ok (.castore, 1) := by decide +kernel
theorem d2_228 : decode method_4_code 228 = .ok (.dup, 1) := by decide +kernel
theorem d2_229 : decode method_4_code 229 = .ok (.iconst 4, 1) := by decide +kernel
theorem d2_230 : decode method_4_code 230 = .ok (.iload 5, 2) := by decide +kernel
theorem d2_232 : decode method_4_code 232 = .ok (.castore, 1) := by decide +kernel
theorem d2_233 : decode method_4_code 233 = .ok (.dup, 1) := by decide +kernel
theorem d2_234 : decode method_4_code 234 = .ok (.iconst 5, 1) := by decide +kernel
theorem d2_235 : decode method_4_code 235 = .ok (.iload 6, 2) := by decide +kernel
theorem d2_237 : decode method_4_code 237 = .ok (.castore, 1) := by decide +kernel
theorem d2_238 : decode method_4_code 238 = .ok (.dup, 1) := by decide +kernel
theorem d2_239 : decode method_4_code 239 = .ok (.bipush 6, 2) := by decide +kernel
theorem d2_241 : decode method_4_code 241 = .ok (.iload 7, 2) := by decide +kernel
theorem d2_243 : decode method_4_code 243 = .ok (.castore, 1) := by decide +kernel
theorem d2_244 : decode method_4_code 244 = .ok (.invokespecial 27, 3) := by decide +kernel
theorem d2_247 : decode method_4_code 247 = .ok (.areturn, 1) := by decide +kernel
set_option maxRecDepth 65536 in
set_option maxHeartbeats 40000000 in
theorem rm_mk (l : Launch) (Z : State) (a0 : Array Value) (hw : ∀ d ∈ tables_1, d.before a0 Z = true) (ws : List Jvm.Cond) (p1 : Int32) (p2 : Int32) (p3 : Int32) (p4 : Int32) (p5 : Int32) (p6 : Int32) (p7 : Int32) (p8 : Int32) (cz : Int32) (h0 : Heap) (n0 : Nat) (Z0 : n0 ≤ h0.size) (hEL : EW Z a0 own_EL) (S_CS : Sta Z h0 "java/lang/String" "COMPACT_STRINGS" "Z" (.int cz)) (hcs : ¬ cz = (0 : Int32)) (hp2 : own_in p2) (hp3 : own_in p3) (hp4 : own_in p4) (hp5 : own_in p5) (hp6 : own_in p6) (hp7 : own_in p7) (hp8 : own_in p8) :
    MetFree l (⟨"com/example/mended_hedge/mendedhedge/cli/CommandIsHelpPinLaw", "make", "(ICCCCCCC)Ljava/lang/String;"⟩ : MethodName) (head1 (Jvm.Cond.code (⟨"com/example/mended_hedge/mendedhedge/cli/CommandIsHelpPinLaw", "make", "(ICCCCCCC)Ljava/lang/String;"⟩ : MethodName) method_4_code 8 (some (.object "java/lang/String")) :: ws) ({ frames := 4, cells := 6, slots := 18, locals := 66 } : Room)) (fun a U => a = #[(.int p1), (.int p2), (.int p3), (.int p4), (.int p5), (.int p6), (.int p7), (.int p8)] ∧ Z.Warmed39 U.vm ∧ U.heap = h0 ∧ CHv Z own_EL U.vm h0) (fun _ _ _ _ _ => True) (fun _ U o U' => ∃ v L, o = .returned v ∧ Q_rm_mk Z p1 p2 p3 p4 p5 p6 p7 p8 cz h0 n0 v U'.heap L ∧ CHr Z own_EL U.vm U.heap U'.vm U'.heap ∧ ReturnedEndW U o U' L ({ frames := 4, cells := 6, slots := 18, locals := 66 } : Room).cells ({ frames := 4, cells := 6, slots := 18, locals := 66 } : Room).slots) := by
  refine MetFree.of_bodySF (plainFor_of_name pn_2) hisR ?_
  intro p e s m args below meth c s₁ Bd hml0 hP hK
  obtain ⟨rfl, hZ, hh, hCH⟩ := hP
  have hx := Bd.exec
  have hby := Bd.bytes
  have hml : c.maxLocals = 8 := hml0
  have hown : s.vm.findClass "com/example/mended_hedge/mendedhedge/cli/CommandIsHelpPinLaw" = some m.cls := findClass_of_methodNamed Bd.named
  have hnm := (name_of_methodNamed Bd.named Bd.method).1
  have X0 : Stand p l e ({ frames := 4, cells := 6, slots := 18, locals := 66 } : Room) s m #[(.int p1), (.int p2), (.int p3), (.int p4), (.int p5), (.int p6), (.int p7), (.int p8)] below meth c s₁ [] 0 0 := Stand.of_body Bd
  have e0 : s₁.heap = h0 := by rw [← hh, Bd.state]; rfl
  have N0 := Fr.nil n0
  have pre0 : ∀ t, Steps p.tables e below (s₁.setTop (mkF m 0 #[.val (.int p1), .val (.int p2), .val (.int p3), .val (.int p4), .val (.int p5), .val (.int p6), .val (.int p7), .val (.int p8)] [])) t → Steps p.tables e below (s₁.setTop (entryFrame m #[(.int p1), (.int p2), (.int p3), (.int p4), (.int p5), (.int p6), (.int p7), (.int p8)] 8)) t := fun t kt => castTop (ef_rm_mk m p1 p2 p3 p4 p5 p6 p7 p8) kt
  have C0 : CHr Z own_EL s.vm h0 s.vm h0 := CHr.refl hCH
  have pre_1 : ∀ t, Steps p.tables e below (s₁.setTop (mkF m 1 #[.val (.int p1), .val (.int p2), .val (.int p3), .val (.int p4), .val (.int p5), .val (.int p6), .val (.int p7), .val (.int p8)] [(.int p1)])) t → Steps p.tables e below (s₁.setTop (entryFrame m #[(.int p1), (.int p2), (.int p3), (.int p4), (.int p5), (.int p6), (.int p7), (.int p8)] 8)) t := by
    intro t kt
    refine pre0 _ ?_
    show Steps p.tables e below (s₁.setTop (mkF m 0 #[.val (.int p1), .val (.int p2), .val (.int p3), .val (.int p4), .val (.int p5), .val (.int p6), .val (.int p7), .val (.int p8)] [])) _
    refine XS.iloadN X0.here hx rfl (hb hby d2_0) rfl ?_
    exact kt
  by_cases hc1 : p1 = (0 : Int32)
  · obtain ⟨T2, h2, X2, e2, E2, A2, D2, -, st2⟩ := newO X0 hx hZ hown (hw _ (List.mem_of_getElem? (i := 8) rfl)) (hw _ (List.mem_of_getElem? (i := 9) rfl)) (hw _ (List.mem_of_getElem? (i := 10) rfl)) e0 (g := (mkF m 4 #[.val (.int p1), .val (.int p2), .val (.int p3), .val (.int p4), .val (.int p5), .val (.int p6), .val (.int p7), .val (.int p8)] [])) rfl (hb hby d2_4) (by decide) (by decide)
    obtain ⟨b2, g2⟩ : ∃ z, z = h0.size := ⟨_, rfl⟩
    rw [← g2] at A2 D2 st2
    have sz_b2 : h0.size ≤ b2 := Nat.le_trans (Keep.refl h0 []).1 (Nat.le_of_eq g2.symm)
    have f1 : Sta Z h2 "java/lang/String" "COMPACT_STRINGS" "Z" (.int cz) := S_CS.ext E2
    have f2 : Keep h0 h2 [] := (Keep.refl h0 []).ext E2
    have C3 : CHr Z own_EL s.vm h0 s.vm h2 := C0.trans (CHr.ext E2 C0.1)
    have sf3_b2 : Safe Z own_EL s.vm h2 b2 := Safe.ext E2 C0.1 (Safe.new (Nat.le_of_eq g2.symm))
    have g_b2 : n0 ≤ b2 := Nat.le_trans Z0 (Nat.le_of_eq g2.symm)
    have Z2 : n0 ≤ h2.size := Nat.le_trans Z0 E2.1
    have F_value_b2 : Fld Z h2 b2 "java/lang/String" "value" "[B" .null := D2 (Or.inr (hw _ (List.mem_of_getElem? (i := 24) rfl))) (ty := (.array .byte)) (by decide)
    have F_coder_b2 : Fld Z h2 b2 "java/lang/String" "coder" "B" (.int (0 : Int32)) := D2 (Or.inr (hw _ (List.mem_of_getElem? (i := 25) rfl))) (ty := .byte) (by decide)
    obtain ⟨T4, h4, k4, X4, e4, E4, A4, st4⟩ := newP X2 hx hZ (hw _ (List.mem_of_getElem? (i := 11) rfl)) e2 (g := (mkF m 9 #[.val (.int p1), .val (.int p2), .val (.int p3), .val (.int p4), .val (.int p5), .val (.int p6), .val (.int p7), .val (.int p8)] [(.int (0 : Int32)), (.ref b2), (.ref b2)])) rfl (hb hby d2_9) rfl (by decide) (cap := 0) (by decide) (by decide) (by decide) (by decide)
    obtain ⟨b4, g4⟩ : ∃ z, z = h2.size := ⟨_, rfl⟩
    rw [← g4] at A4 st4
    have sz_b4 : h0.size ≤ b4 := Nat.le_trans f2.1 (Nat.le_of_eq g4.symm)
    have ne_b2_b4 : b2 ≠ b4 := Nat.ne_of_lt (Nat.lt_of_lt_of_le A2.lt (Nat.le_of_eq g4.symm))
    have f3 : Sta Z h4 "java/lang/String" "COMPACT_STRINGS" "Z" (.int cz) := f1.ext E4
    have f4 : Keep h0 h4 [] := f2.ext E4
    have f5 : n0 ≤ b2 := g_b2
    have f6 : Exa Z h4 b2 "java/lang/String" := A2.ext E4
    have f7 : Fld Z h4 b2 "java/lang/String" "value" "[B" .null := F_value_b2.ext E4
    have f8 : Fld Z h4 b2 "java/lang/String" "coder" "B" (.int (0 : Int32)) := F_coder_b2.ext E4
    have C5 : CHr Z own_EL s.vm h0 s.vm h4 := C3.trans (CHr.ext E4 C3.1)
    have sf5_b2 : Safe Z own_EL s.vm h4 b2 := Safe.ext E4 C3.1 sf3_b2
    have sf5_b4 : Safe Z own_EL s.vm h4 b4 := Safe.ext E4 C3.1 (Safe.new (Nat.le_of_eq g4.symm))
    have g_b4 : n0 ≤ b4 := Nat.le_trans Z2 (Nat.le_of_eq g4.symm)
    have Z4 : n0 ≤ h4.size := Nat.le_trans Z2 E4.1
    have V_b4 : Arv Z h4 b4 k4 .char (0 : Int32) [] (.int (0 : Int32)) := Arv.new A4 (by decide)
    have pre_7 : ∀ t, Steps p.tables e below (T4.setTop (mkF m 11 #[.val (.int p1), .val (.int p2), .val (.int p3), .val (.int p4), .val (.int p5), .val (.int p6), .val (.int p7), .val (.int p8)] [(.ref b4), (.ref b2), (.ref b2)])) t → Steps p.tables e below (s₁.setTop (entryFrame m #[(.int p1), (.int p2), (.int p3), (.int p4), (.int p5), (.int p6), (.int p7), (.int p8)] 8)) t := by
      intro t kt
      refine pre_1 _ ?_
      show Steps p.tables e below (s₁.setTop (mkF m 1 #[.val (.int p1), .val (.int p2), .val (.int p3), .val (.int p4), .val (.int p5), .val (.int p6), .val (.int p7), .val (.int p8)] [(.int p1)])) _
      refine XS.ifNo X0.here hx rfl (hb hby d2_1) rfl ((if0 _ _).trans (teq hc1).2) ?_
      show Steps p.tables e below (s₁.setTop (mkF m 4 #[.val (.int p1), .val (.int p2), .val (.int p3), .val (.int p4), .val (.int p5), .val (.int p6), .val (.int p7), .val (.int p8)] [])) _
      refine st2 _ ?_
      show Steps p.tables e below (T2.setTop (mkF m 7 #[.val (.int p1), .val (.int p2), .val (.int p3), .val (.int p4), .val (.int p5), .val (.int p6), .val (.int p7), .val (.int p8)] [(.ref b2)])) _
      refine XS.dup X2.here hx rfl (hb hby d2_7) rfl rfl ?_
      show Steps p.tables e below (T2.setTop (mkF m 8 #[.val (.int p1), .val (.int p2), .val (.int p3), .val (.int p4), .val (.int p5), .val (.int p6), .val (.int p7), .val (.int p8)] [(.ref b2), (.ref b2)])) _
      refine XS.iconst X2.here hx rfl (hb hby d2_8) ?_
      show Steps p.tables e below (T2.setTop (mkF m 9 #[.val (.int p1), .val (.int p2), .val (.int p3), .val (.int p4), .val (.int p5), .val (.int p6), .val (.int p7), .val (.int p8)] [(.int (0 : Int32)), (.ref b2), (.ref b2)])) _
      refine st4 _ ?_
      exact kt
    obtain ⟨_, _, ⟨T6, L6, k6, n6⟩, -, X6', hS6', hge6, ⟨Lc6, hQ6, l6, y6, z6, hC6⟩, st6⟩ := X4.specialBackS hx (y := (⟨"java/lang/String", "<init>", "([C)V"⟩ : MethodName)) rfl hown (mvT hZ (hw _ (List.mem_of_getElem? (i := 12) rfl))) (mvT hZ (hw _ (List.mem_of_getElem? (i := 13) rfl))) (mvT hZ (hw _ (List.mem_of_getElem? (i := 14) rfl))) (by decide) (backOfSH (s := s) (vm0 := s.vm) (W := 1) (rm_s1 l Z a0 hw [] b2 b4 k4 h4 n0 Z4 hEL f7 f8 f6 f5 V_b4) hZ (hw _ (List.mem_of_getElem? (i := 14) rfl)) (hw _ (List.mem_of_getElem? (i := 10) rfl)) (by decide) (by decide) hEL C5.1) (g := (mkF m 11 #[.val (.int p1), .val (.int p2), .val (.int p3), .val (.int p4), .val (.int p5), .val (.int p6), .val (.int p7), .val (.int p8)] [(.ref b4), (.ref b2), (.ref b2)])) rfl (by rw [hml]; rfl) (Steps.refl _) (a := b2) (argsL := [(.ref b4)]) (rest := [(.ref b2)]) (lenOf pd___C_V_325 rfl) rfl (by show 2 * 0 + _ ≤ _; exact Nat.le_of_eq rfl) (hb hby d2_11) (fun _ _ => ⟨rfl, e4, (by decide : 2 + 4 ≤ _), (by decide : 4 + 8 ≤ _)⟩)
    dsimp only [Pt.U, Pt.locs, Pt.cells, Pt.slots] at X6' hS6' hge6 l6 y6 z6 st6 hQ6 hC6
    subst l6 y6 z6
    have hS6 : s.Since T6.vm T6.heap.size := hS6'
    have hZ : Z.Warmed39 (s.setVm T6.vm).vm := State.Warmed39.trans (t := s) hZ hS6'.1
    have hown : (s.setVm T6.vm).vm.findClass "com/example/mended_hedge/mendedhedge/cli/CommandIsHelpPinLaw" = some m.cls := by rw [show (s.setVm T6.vm).vm = T6.vm from rfl, hS6'.1.alike.findClass]; exact hown
    have X6 := rebase (vm := T6.vm) X6'
    have C8 : CHr Z own_EL s.vm h0 T6.vm T6.heap := C5.trans hC6
    have sf8_b2 : Safe Z own_EL T6.vm T6.heap b2 := hC6.safe f8.lt sf5_b2
    have sf8_b4 : Safe Z own_EL T6.vm T6.heap b4 := hC6.safe V_b4.lt sf5_b4
    obtain ⟨rfl, N6q, K6, fk6_0, fk6_1, t6, kb6, fk6_2, fk6_3⟩ := hQ6
    have f9 : Keep h0 T6.heap [] := f4.trans K6 (fun x hx => by cases List.mem_singleton.mp hx; exact Or.inr sz_b2)
    have f10 : n0 ≤ b2 := f5
    have f11 : n0 ≤ b4 := g_b4
    have f12 : Arv Z T6.heap b4 k4 .char (0 : Int32) [] (.int (0 : Int32)) := V_b4.keep K6 (by simp [(Ne.symm ne_b2_b4)])
    have Z6 : n0 ≤ T6.heap.size := Nat.le_trans Z4 K6.1
    have hk6 : T6.heap.size ≤ T6.heap.size := Nat.le_refl _
    have N6 := Fr.app N0 N6q
    obtain ⟨fs, hr, hrun, hended, hRW⟩ := X6.leaveW (s := s) hS6 hk6 (v := some (.ref b2)) (fun h => by rw [Bd.returns] at h; cases h) (hlocks := Bd.notSynchronized)
    refine ⟨_, _, pre_7 _ ?_, hrun, hended, _, _, rfl, ?_, (by show CHr Z own_EL s.vm s.heap T6.vm T6.heap; rw [hh]; exact C8.trans (CHv.at (s := s) (vm0 := T6.vm) X6 hZ hEL C8.1)), hRW.1, hRW.2.1, hRW.2.2.1, hRW.2.2.2.mono (by decide) (by decide)⟩
    · show Steps p.tables e below (T4.setTop (mkF m 11 #[.val (.int p1), .val (.int p2), .val (.int p3), .val (.int p4), .val (.int p5), .val (.int p6), .val (.int p7), .val (.int p8)] [(.ref b4), (.ref b2), (.ref b2)])) _
      refine st6.trans ?_
      show Steps p.tables e below (T6.setTop (mkF m 14 #[.val (.int p1), .val (.int p2), .val (.int p3), .val (.int p4), .val (.int p5), .val (.int p6), .val (.int p7), .val (.int p8)] [(.ref b2)])) _
      exact X6.areturnOut hx rfl Bd.returns rfl (hb hby d2_14) hr
    · show Q_rm_mk Z p1 p2 p3 p4 p5 p6 p7 p8 cz h0 n0 _ T6.heap _
      have eL : (own_cs p1 p2 p3 p4 p5 p6 p7 p8) = [] := by rw [own_cs, if_pos hc1]
      refine ⟨b2, t6, kb6, rfl, N6, f9, fk6_0, fk6_1, fk6_2, ?_⟩
      rw [eL]
      exact fk6_3
  · have pre_9 : ∀ t, Steps p.tables e below (s₁.setTop (mkF m 17 #[.val (.int p1), .val (.int p2), .val (.int p3), .val (.int p4), .val (.int p5), .val (.int p6), .val (.int p7), .val (.int p8)] [(.int (1 : Int32)), (.int p1)])) t → Steps p.tables e below (s₁.setTop (entryFrame m #[(.int p1), (.int p2), (.int p3), (.int p4), (.int p5), (.int p6), (.int p7), (.int p8)] 8)) t := by
      intro t kt
      refine pre_1 _ ?_
      show Steps p.tables e below (s₁.setTop (mkF m 1 #[.val (.int p1), .val (.int p2), .val (.int p3), .val (.int p4), .val (.int p5), .val (.int p6), .val (.int p7), .val (.int p8)] [(.int p1)])) _
      refine XS.ifYes X0.here hx rfl (pc0 := 1) (pc' := 15) rfl (hb hby d2_1) rfl ((if0 _ _).trans (feq hc1).2) (by decide) (by decide) ?_
      show Steps p.tables e below (s₁.setTop (mkF m 15 #[.val (.int p1), .val (.int p2), .val (.int p3), .val (.int p4), .val (.int p5), .val (.int p6), .val (.int p7), .val (.int p8)] [])) _
      refine XS.iloadN X0.here hx rfl (hb hby d2_15) rfl ?_
      show Steps p.tables e below (s₁.setTop (mkF m 16 #[.val (.int p1), .val (.int p2), .val (.int p3), .val (.int p4), .val (.int p5), .val (.int p6), .val (.int p7), .val (.int p8)] [(.int p1)])) _
      refine XS.iconst X0.here hx rfl (hb hby d2_16) ?_
      exact kt
    by_cases hc17 : p1 = (1 : Int32)
    · obtain ⟨T10, h10, X10, e10, E10, A10, D10, -, st10⟩ := newO X0 hx hZ hown (hw _ (List.mem_of_getElem? (i := 8) rfl)) (hw _ (List.mem_of_getElem? (i := 9) rfl)) (hw _ (List.mem_of_getElem? (i := 10) rfl)) e0 (g := (mkF m 20 #[.val (.int p1), .val (.int p2), .val (.int p3), .val (.int p4), .val (.int p5), .val (.int p6), .val (.int p7), .val (.int p8)] [])) rfl (hb hby d2_20) (by decide) (by decide)
      obtain ⟨b10, g10⟩ : ∃ z, z = h0.size := ⟨_, rfl⟩
      rw [← g10] at A10 D10 st10
      have sz_b10 : h0.size ≤ b10 := Nat.le_trans (Keep.refl h0 []).1 (Nat.le_of_eq g10.symm)
      have f13 : Sta Z h10 "java/lang/String" "COMPACT_STRINGS" "Z" (.int cz) := S_CS.ext E10
      have f14 : Keep h0 h10 [] := (Keep.refl h0 []).ext E10
      have C11 : CHr Z own_EL s.vm h0 s.vm h10 := C0.trans (CHr.ext E10 C0.1)
      have sf11_b10 : Safe Z own_EL s.vm h10 b10 := Safe.ext E10 C0.1 (Safe.new (Nat.le_of_eq g10.symm))
      have g_b10 : n0 ≤ b10 := Nat.le_trans Z0 (Nat.le_of_eq g10.symm)
      have Z10 : n0 ≤ h10.size := Nat.le_trans Z0 E10.1
      have F_value_b10 : Fld Z h10 b10 "java/lang/String" "value" "[B" .null := D10 (Or.inr (hw _ (List.mem_of_getElem? (i := 24) rfl))) (ty := (.array .byte)) (by decide)
      have F_coder_b10 : Fld Z h10 b10 "java/lang/String" "coder" "B" (.int (0 : Int32)) := D10 (Or.inr (hw _ (List.mem_of_getElem? (i := 25) rfl))) (ty := .byte) (by decide)
      obtain ⟨T12, h12, k12, X12, e12, E12, A12, st12⟩ := newP X10 hx hZ (hw _ (List.mem_of_getElem? (i := 11) rfl)) e10 (g := (mkF m 25 #[.val (.int p1), .val (.int p2), .val (.int p3), .val (.int p4), .val (.int p5), .val (.int p6), .val (.int p7), .val (.int p8)] [(.int (1 : Int32)), (.ref b10), (.ref b10)])) rfl (hb hby d2_25) rfl (by decide) (cap := 1) (by decide) (by decide) (by decide) (by decide)
      obtain ⟨b12, g12⟩ : ∃ z, z = h10.size := ⟨_, rfl⟩
      rw [← g12] at A12 st12
      have sz_b12 : h0.size ≤ b12 := Nat.le_trans f14.1 (Nat.le_of_eq g12.symm)
      have ne_b10_b12 : b10 ≠ b12 := Nat.ne_of_lt (Nat.lt_of_lt_of_le A10.lt (Nat.le_of_eq g12.symm))
      have f15 : Sta Z h12 "java/lang/String" "COMPACT_STRINGS" "Z" (.int cz) := f13.ext E12
      have f16 : Keep h0 h12 [] := f14.ext E12
      have f17 : n0 ≤ b10 := g_b10
      have f18 : Exa Z h12 b10 "java/lang/String" := A10.ext E12
      have f19 : Fld Z h12 b10 "java/lang/String" "value" "[B" .null := F_value_b10.ext E12
      have f20 : Fld Z h12 b10 "java/lang/String" "coder" "B" (.int (0 : Int32)) := F_coder_b10.ext E12
      have C13 : CHr Z own_EL s.vm h0 s.vm h12 := C11.trans (CHr.ext E12 C11.1)
      have sf13_b10 : Safe Z own_EL s.vm h12 b10 := Safe.ext E12 C11.1 sf11_b10
      have sf13_b12 : Safe Z own_EL s.vm h12 b12 := Safe.ext E12 C11.1 (Safe.new (Nat.le_of_eq g12.symm))
      have g_b12 : n0 ≤ b12 := Nat.le_trans Z10 (Nat.le_of_eq g12.symm)
      have Z12 : n0 ≤ h12.size := Nat.le_trans Z10 E12.1
      have V_b12 : Arv Z h12 b12 k12 .char (1 : Int32) [(.int (0 : Int32))] (.int (0 : Int32)) := (Arv.new A12 (by decide)).pad (pad_rep [] (.int (0 : Int32)) 1)
      obtain ⟨cl14, Ar14, aq14, aS14, aN14, aH14, aG14⟩ := V_b12
      have hin14 : ¬ ((0 : Int32) < 0 ∨ cl14.slots.size ≤ ((0 : Int32)).toNatClampNeg) := inb_of aS14 ⟨by decide, by decide⟩
      obtain ⟨T15, h15, X15, e15, W15, st15⟩ := stC X12 hx hZ e12 Ar14 (j := (0 : Int32)) hin14 (g := (mkF m 30 #[.val (.int p1), .val (.int p2), .val (.int p3), .val (.int p4), .val (.int p5), .val (.int p6), .val (.int p7), .val (.int p8)] [(.int p2), (.int (0 : Int32)), (.ref b12), (.ref b12), (.ref b10), (.ref b10)])) rfl rfl (hb hby d2_30)
      have V_b12_15 : Arv Z h15 b12 k12 .char (1 : Int32) [(.int (nar .char p2))] (.int (0 : Int32)) := Arv.set Ar14 aq14 aS14 aN14 aH14 aG14 (fits_nar_char _) W15 0 rfl (Nat.le_of_ble_eq_true rfl)
      have f21 : Sta Z h15 "java/lang/String" "COMPACT_STRINGS" "Z" (.int cz) := f15.wr W15
      have f22 : Keep h0 h15 [] := f16.wr W15 (Or.inr sz_b12)
      have f23 : n0 ≤ b10 := f17
      have f24 : Exa Z h15 b10 "java/lang/String" := f18.wr W15
      have f25 : Fld Z h15 b10 "java/lang/String" "value" "[B" .null := f19.other W15 (Or.inl ne_b10_b12)
      have f26 : Fld Z h15 b10 "java/lang/String" "coder" "B" (.int (0 : Int32)) := f20.other W15 (Or.inl ne_b10_b12)
      have f27 : n0 ≤ b12 := g_b12
      have C16 : CHr Z own_EL s.vm h0 s.vm h15 := C13.trans (CHr.wr W15 sf13_b12 C13.1)
      have sf16_b10 : Safe Z own_EL s.vm h15 b10 := Safe.wr W15 sf13_b12 C13.1 sf13_b10
      have sf16_b12 : Safe Z own_EL s.vm h15 b12 := Safe.wr W15 sf13_b12 C13.1 sf13_b12
      have N15 := Fr.snoc X15 N0 f27
      have Z15 : n0 ≤ h15.size := by rw [W15.size]; exact Z12
      obtain ⟨_, _, ⟨T17, L17, k17, n17⟩, -, X17, ⟨Lc17, hQ17, l17, y17, z17⟩, st17⟩ := X15.specialBack hx (y := (⟨"java/lang/String", "<init>", "([C)V"⟩ : MethodName)) rfl hown (mvT hZ (hw _ (List.mem_of_getElem? (i := 12) rfl))) (mvT hZ (hw _ (List.mem_of_getElem? (i := 13) rfl))) (mvT hZ (hw _ (List.mem_of_getElem? (i := 14) rfl))) (by decide) (StrChars.Road.backV (W := 1) hZ (fun d hd => hw d (own_words d hd)) (kI := 4) (hw _ (List.mem_of_getElem? (i := 9) rfl)) (cs := [(nar .char p2)]) (bs := [(nar .char p2).toInt8.toInt32]) (n := 1) f23 Z15 f24 f25 f26 V_b12_15 f21 hcs rfl rfl (by decide) (by decide) (List.forall_mem_cons.mpr ⟨own_nc hp2, (fun _ h => nomatch h)⟩) rfl (by decide) (by decide)) (g := (mkF m 31 #[.val (.int p1), .val (.int p2), .val (.int p3), .val (.int p4), .val (.int p5), .val (.int p6), .val (.int p7), .val (.int p8)] [(.ref b12), (.ref b10), (.ref b10)])) rfl (by rw [hml]; rfl) (Steps.refl _) (a := b10) (argsL := [(.ref b12)]) (rest := [(.ref b10)]) (lenOf pd___C_V_325 rfl) rfl (by show 2 * 0 + _ ≤ _; exact Nat.le_of_eq rfl) (hb hby d2_31) (fun _ _ => ⟨rfl, e15, (by decide : 2 + 1 ≤ _), (by decide : 5 + 1 ≤ _)⟩)
      dsimp only [Pt.U, Pt.locs, Pt.cells, Pt.slots] at X17 l17 y17 z17 st17 hQ17
      subst l17 y17 z17
      obtain ⟨rfl, N17q, K17, fk17_0, fk17_1, t17, kb17, -, -, -, fk17_2, fk17_3⟩ := hQ17
      have f28 : Keep h0 T17.heap [] := f22.trans K17 (fun x hx => by cases List.mem_singleton.mp hx; exact Or.inr sz_b10)
      have f29 : n0 ≤ b10 := f23
      have f30 : n0 ≤ b12 := f27
      have f31 : Arv Z T17.heap b12 k12 .char (1 : Int32) [(.int (nar .char p2))] (.int (0 : Int32)) := V_b12_15.keep K17 (by simp [(Ne.symm ne_b10_b12)])
      have C18 : CHr Z own_EL s.vm h0 s.vm T17.heap := C16.trans (CHr.keep K17 (sfS sf16_b10 sf0) C16.1)
      have sf18_b10 : Safe Z own_EL s.vm T17.heap b10 := Safe.keep K17 (sfS sf16_b10 sf0) C16.1 sf16_b10
      have sf18_b12 : Safe Z own_EL s.vm T17.heap b12 := Safe.keep K17 (sfS sf16_b10 sf0) C16.1 sf16_b12
      have Z17 : n0 ≤ T17.heap.size := Nat.le_trans Z15 K17.1
      have N17 := Fr.app N15 N17q
      obtain ⟨fs, hr, hrun, hended, hW, hsame⟩ := X17.leave (v := some (.ref b10)) (fun h => by rw [Bd.returns] at h; cases h) (hlocks := Bd.notSynchronized)
      refine ⟨_, _, pre_9 _ ?_, hrun, hended, _, _, rfl, ?_, (by show CHr Z own_EL s.vm s.heap T17.vm T17.heap; rw [hh]; exact C18.trans (CHv.at (s := s) (vm0 := s.vm) X17 hZ hEL C18.1)), ReturnedEndW.of_narrow ⟨_, rfl⟩ hW (hsame.mono (by decide) (by decide))⟩
      · show Steps p.tables e below (s₁.setTop (mkF m 17 #[.val (.int p1), .val (.int p2), .val (.int p3), .val (.int p4), .val (.int p5), .val (.int p6), .val (.int p7), .val (.int p8)] [(.int (1 : Int32)), (.int p1)])) _
        refine XS.icmpNo X0.here hx rfl (hb hby d2_17) rfl (teq hc17).2 ?_
        show Steps p.tables e below (s₁.setTop (mkF m 20 #[.val (.int p1), .val (.int p2), .val (.int p3), .val (.int p4), .val (.int p5), .val (.int p6), .val (.int p7), .val (.int p8)] [])) _
        refine st10 _ ?_
        show Steps p.tables e below (T10.setTop (mkF m 23 #[.val (.int p1), .val (.int p2), .val (.int p3), .val (.int p4), .val (.int p5), .val (.int p6), .val (.int p7), .val (.int p8)] [(.ref b10)])) _
        refine XS.dup X10.here hx rfl (hb hby d2_23) rfl rfl ?_
        show Steps p.tables e below (T10.setTop (mkF m 24 #[.val (.int p1), .val (.int p2), .val (.int p3), .val (.int p4), .val (.int p5), .val (.int p6), .val (.int p7), .val (.int p8)] [(.ref b10), (.ref b10)])) _
        refine XS.iconst X10.here hx rfl (hb hby d2_24) ?_
        show Steps p.tables e below (T10.setTop (mkF m 25 #[.val (.int p1), .val (.int p2), .val (.int p3), .val (.int p4), .val (.int p5), .val (.int p6), .val (.int p7), .val (.int p8)] [(.int (1 : Int32)), (.ref b10), (.ref b10)])) _
        refine st12 _ ?_
        show Steps p.tables e below (T12.setTop (mkF m 27 #[.val (.int p1), .val (.int p2), .val (.int p3), .val (.int p4), .val (.int p5), .val (.int p6), .val (.int p7), .val (.int p8)] [(.ref b12), (.ref b10), (.ref b10)])) _
        refine XS.dup X12.here hx rfl (hb hby d2_27) rfl rfl ?_
        show Steps p.tables e below (T12.setTop (mkF m 28 #[.val (.int p1), .val (.int p2), .val (.int p3), .val (.int p4), .val (.int p5), .val (.int p6), .val (.int p7), .val (.int p8)] [(.ref b12), (.ref b12), (.ref b10), (.ref b10)])) _
        refine XS.iconst X12.here hx rfl (hb hby d2_28) ?_
        show Steps p.tables e below (T12.setTop (mkF m 29 #[.val (.int p1), .val (.int p2), .val (.int p3), .val (.int p4), .val (.int p5), .val (.int p6), .val (.int p7), .val (.int p8)] [(.int (0 : Int32)), (.ref b12), (.ref b12), (.ref b10), (.ref b10)])) _
        refine XS.iloadN X12.here hx rfl (hb hby d2_29) rfl ?_
        show Steps p.tables e below (T12.setTop (mkF m 30 #[.val (.int p1), .val (.int p2), .val (.int p3), .val (.int p4), .val (.int p5), .val (.int p6), .val (.int p7), .val (.int p8)] [(.int p2), (.int (0 : Int32)), (.ref b12), (.ref b12), (.ref b10), (.ref b10)])) _
        refine st15 _ ?_
        show Steps p.tables e below (T15.setTop (mkF m 31 #[.val (.int p1), .val (.int p2), .val (.int p3), .val (.int p4), .val (.int p5), .val (.int p6), .val (.int p7), .val (.int p8)] [(.ref b12), (.ref b10), (.ref b10)])) _
        refine st17.trans ?_
        show Steps p.tables e below (T17.setTop (mkF m 34 #[.val (.int p1), .val (.int p2), .val (.int p3), .val (.int p4), .val (.int p5), .val (.int p6), .val (.int p7), .val (.int p8)] [(.ref b10)])) _
        exact X17.areturnOut hx rfl Bd.returns rfl (hb hby d2_34) hr
      · show Q_rm_mk Z p1 p2 p3 p4 p5 p6 p7 p8 cz h0 n0 _ T17.heap _
        have eL : (own_cs p1 p2 p3 p4 p5 p6 p7 p8) = [nar .char p2] := by rw [own_cs, if_neg hc1, if_pos hc17]
        refine ⟨b10, t17, kb17, rfl, N17, f28, fk17_0, fk17_1, fk17_2, ?_⟩
        rw [eL]
        exact fk17_3
    · have pre_19 : ∀ t, Steps p.tables e below (s₁.setTop (mkF m 37 #[.val (.int p1), .val (.int p2), .val (.int p3), .val (.int p4), .val (.int p5), .val (.int p6), .val (.int p7), .val (.int p8)] [(.int (2 : Int32)), (.int p1)])) t → Steps p.tables e below (s₁.setTop (entryFrame m #[(.int p1), (.int p2), (.int p3), (.int p4), (.int p5), (.int p6), (.int p7), (.int p8)] 8)) t := by
        intro t kt
        refine pre_9 _ ?_
        show Steps p.tables e below (s₁.setTop (mkF m 17 #[.val (.int p1), .val (.int p2), .val (.int p3), .val (.int p4), .val (.int p5), .val (.int p6), .val (.int p7), .val (.int p8)] [(.int (1 : Int32)), (.int p1)])) _
        refine XS.icmpYes X0.here hx rfl (pc0 := 17) (pc' := 35) rfl (hb hby d2_17) rfl (feq hc17).2 (by decide) (by decide) ?_
        show Steps p.tables e below (s₁.setTop (mkF m 35 #[.val (.int p1), .val (.int p2), .val (.int p3), .val (.int p4), .val (.int p5), .val (.int p6), .val (.int p7), .val (.int p8)] [])) _
        refine XS.iloadN X0.here hx rfl (hb hby d2_35) rfl ?_
        show Steps p.tables e below (s₁.setTop (mkF m 36 #[.val (.int p1), .val (.int p2), .val (.int p3), .val (.int p4), .val (.int p5), .val (.int p6), .val (.int p7), .val (.int p8)] [(.int p1)])) _
        refine XS.iconst X0.here hx rfl (hb hby d2_36) ?_
        exact kt
      by_cases hc37 : p1 = (2 : Int32)
      · obtain ⟨T20, h20, X20, e20, E20, A20, D20, -, st20⟩ := newO X0 hx hZ hown (hw _ (List.mem_of_getElem? (i := 8) rfl)) (hw _ (List.mem_of_getElem? (i := 9) rfl)) (hw _ (List.mem_of_getElem? (i := 10) rfl)) e0 (g := (mkF m 40 #[.val (.int p1), .val (.int p2), .val (.int p3), .val (.int p4), .val (.int p5), .val (.int p6), .val (.int p7), .val (.int p8)] [])) rfl (hb hby d2_40) (by decide) (by decide)
        obtain ⟨b20, g20⟩ : ∃ z, z = h0.size := ⟨_, rfl⟩
        rw [← g20] at A20 D20 st20
        have sz_b20 : h0.size ≤ b20 := Nat.le_trans (Keep.refl h0 []).1 (Nat.le_of_eq g20.symm)
        have f32 : Sta Z h20 "java/lang/String" "COMPACT_STRINGS" "Z" (.int cz) := S_CS.ext E20
        have f33 : Keep h0 h20 [] := (Keep.refl h0 []).ext E20
        have C21 : CHr Z own_EL s.vm h0 s.vm h20 := C0.trans (CHr.ext E20 C0.1)
        have sf21_b20 : Safe Z own_EL s.vm h20 b20 := Safe.ext E20 C0.1 (Safe.new (Nat.le_of_eq g20.symm))
        have g_b20 : n0 ≤ b20 := Nat.le_trans Z0 (Nat.le_of_eq g20.symm)
        have Z20 : n0 ≤ h20.size := Nat.le_trans Z0 E20.1
        have F_value_b20 : Fld Z h20 b20 "java/lang/String" "value" "[B" .null := D20 (Or.inr (hw _ (List.mem_of_getElem? (i := 24) rfl))) (ty := (.array .byte)) (by decide)
        have F_coder_b20 : Fld Z h20 b20 "java/lang/String" "coder" "B" (.int (0 : Int32)) := D20 (Or.inr (hw _ (List.mem_of_getElem? (i := 25) rfl))) (ty := .byte) (by decide)
        obtain ⟨T22, h22, k22, X22, e22, E22, A22, st22⟩ := newP X20 hx hZ (hw _ (List.mem_of_getElem? (i := 11) rfl)) e20 (g := (mkF m 45 #[.val (.int p1), .val (.int p2), .val (.int p3), .val (.int p4), .val (.int p5), .val (.int p6), .val (.int p7), .val (.int p8)] [(.int (2 : Int32)), (.ref b20), (.ref b20)])) rfl (hb hby d2_45) rfl (by decide) (cap := 2) (by decide) (by decide) (by decide) (by decide)
        obtain ⟨b22, g22⟩ : ∃ z, z = h20.size := ⟨_, rfl⟩
        rw [← g22] at A22 st22
        have sz_b22 : h0.size ≤ b22 := Nat.le_trans f33.1 (Nat.le_of_eq g22.symm)
        have ne_b20_b22 : b20 ≠ b22 := Nat.ne_of_lt (Nat.lt_of_lt_of_le A20.lt (Nat.le_of_eq g22.symm))
        have f34 : Sta Z h22 "java/lang/String" "COMPACT_STRINGS" "Z" (.int cz) := f32.ext E22
        have f35 : Keep h0 h22 [] := f33.ext E22
        have f36 : n0 ≤ b20 := g_b20
        have f37 : Exa Z h22 b20 "java/lang/String" := A20.ext E22
        have f38 : Fld Z h22 b20 "java/lang/String" "value" "[B" .null := F_value_b20.ext E22
        have f39 : Fld Z h22 b20 "java/lang/String" "coder" "B" (.int (0 : Int32)) := F_coder_b20.ext E22
        have C23 : CHr Z own_EL s.vm h0 s.vm h22 := C21.trans (CHr.ext E22 C21.1)
        have sf23_b20 : Safe Z own_EL s.vm h22 b20 := Safe.ext E22 C21.1 sf21_b20
        have sf23_b22 : Safe Z own_EL s.vm h22 b22 := Safe.ext E22 C21.1 (Safe.new (Nat.le_of_eq g22.symm))
        have g_b22 : n0 ≤ b22 := Nat.le_trans Z20 (Nat.le_of_eq g22.symm)
        have Z22 : n0 ≤ h22.size := Nat.le_trans Z20 E22.1
        have V_b22 : Arv Z h22 b22 k22 .char (2 : Int32) [(.int (0 : Int32)), (.int (0 : Int32))] (.int (0 : Int32)) := (Arv.new A22 (by decide)).pad (pad_rep [] (.int (0 : Int32)) 2)
        obtain ⟨cl24, Ar24, aq24, aS24, aN24, aH24, aG24⟩ := V_b22
        have hin24 : ¬ ((0 : Int32) < 0 ∨ cl24.slots.size ≤ ((0 : Int32)).toNatClampNeg) := inb_of aS24 ⟨by decide, by decide⟩
        obtain ⟨T25, h25, X25, e25, W25, st25⟩ := stC X22 hx hZ e22 Ar24 (j := (0 : Int32)) hin24 (g := (mkF m 50 #[.val (.int p1), .val (.int p2), .val (.int p3), .val (.int p4), .val (.int p5), .val (.int p6), .val (.int p7), .val (.int p8)] [(.int p2), (.int (0 : Int32)), (.ref b22), (.ref b22), (.ref b20), (.ref b20)])) rfl rfl (hb hby d2_50)
        have V_b22_25 : Arv Z h25 b22 k22 .char (2 : Int32) [(.int (nar .char p2)), (.int (0 : Int32))] (.int (0 : Int32)) := Arv.set Ar24 aq24 aS24 aN24 aH24 aG24 (fits_nar_char _) W25 0 rfl (Nat.le_of_ble_eq_true rfl)
        have f40 : Sta Z h25 "java/lang/String" "COMPACT_STRINGS" "Z" (.int cz) := f34.wr W25
        have f41 : Keep h0 h25 [] := f35.wr W25 (Or.inr sz_b22)
        have f42 : n0 ≤ b20 := f36
        have f43 : Exa Z h25 b20 "java/lang/String" := f37.wr W25
        have f44 : Fld Z h25 b20 "java/lang/String" "value" "[B" .null := f38.other W25 (Or.inl ne_b20_b22)
        have f45 : Fld Z h25 b20 "java/lang/String" "coder" "B" (.int (0 : Int32)) := f39.other W25 (Or.inl ne_b20_b22)
        have f46 : n0 ≤ b22 := g_b22
        have C26 : CHr Z own_EL s.vm h0 s.vm h25 := C23.trans (CHr.wr W25 sf23_b22 C23.1)
        have sf26_b20 : Safe Z own_EL s.vm h25 b20 := Safe.wr W25 sf23_b22 C23.1 sf23_b20
        have sf26_b22 : Safe Z own_EL s.vm h25 b22 := Safe.wr W25 sf23_b22 C23.1 sf23_b22
        have N25 := Fr.snoc X25 N0 f46
        have Z25 : n0 ≤ h25.size := by rw [W25.size]; exact Z22
        obtain ⟨cl27, Ar27, aq27, aS27, aN27, aH27, aG27⟩ := V_b22_25
        have hin27 : ¬ ((1 : Int32) < 0 ∨ cl27.slots.size ≤ ((1 : Int32)).toNatClampNeg) := inb_of aS27 ⟨by decide, by decide⟩
        obtain ⟨T28, h28, X28, e28, W28, st28⟩ := stC X25 hx hZ e25 Ar27 (j := (1 : Int32)) hin27 (g := (mkF m 54 #[.val (.int p1), .val (.int p2), .val (.int p3), .val (.int p4), .val (.int p5), .val (.int p6), .val (.int p7), .val (.int p8)] [(.int p3), (.int (1 : Int32)), (.ref b22), (.ref b22), (.ref b20), (.ref b20)])) rfl rfl (hb hby d2_54)
        have V_b22_28 : Arv Z h28 b22 k22 .char (2 : Int32) [(.int (nar .char p2)), (.int (nar .char p3))] (.int (0 : Int32)) := Arv.set Ar27 aq27 aS27 aN27 aH27 aG27 (fits_nar_char _) W28 1 rfl (Nat.le_of_ble_eq_true rfl)
        have f47 : Sta Z h28 "java/lang/String" "COMPACT_STRINGS" "Z" (.int cz) := f40.wr W28
        have f48 : Keep h0 h28 [] := f41.wr W28 (Or.inr sz_b22)
        have f49 : n0 ≤ b20 := f42
        have f50 : Exa Z h28 b20 "java/lang/String" := f43.wr W28
        have f51 : Fld Z h28 b20 "java/lang/String" "value" "[B" .null := f44.other W28 (Or.inl ne_b20_b22)
        have f52 : Fld Z h28 b20 "java/lang/String" "coder" "B" (.int (0 : Int32)) := f45.other W28 (Or.inl ne_b20_b22)
        have f53 : n0 ≤ b22 := f46
        have C29 : CHr Z own_EL s.vm h0 s.vm h28 := C26.trans (CHr.wr W28 sf26_b22 C26.1)
        have sf29_b20 : Safe Z own_EL s.vm h28 b20 := Safe.wr W28 sf26_b22 C26.1 sf26_b20
        have sf29_b22 : Safe Z own_EL s.vm h28 b22 := Safe.wr W28 sf26_b22 C26.1 sf26_b22
        have N28 := Fr.snoc X28 N25 f53
        have Z28 : n0 ≤ h28.size := by rw [W28.size]; exact Z25
        obtain ⟨_, _, ⟨T30, L30, k30, n30⟩, -, X30, ⟨Lc30, hQ30, l30, y30, z30⟩, st30⟩ := X28.specialBack hx (y := (⟨"java/lang/String", "<init>", "([C)V"⟩ : MethodName)) rfl hown (mvT hZ (hw _ (List.mem_of_getElem? (i := 12) rfl))) (mvT hZ (hw _ (List.mem_of_getElem? (i := 13) rfl))) (mvT hZ (hw _ (List.mem_of_getElem? (i := 14) rfl))) (by decide) (StrChars.Road.backV (W := 1) hZ (fun d hd => hw d (own_words d hd)) (kI := 4) (hw _ (List.mem_of_getElem? (i := 9) rfl)) (cs := [(nar .char p2), (nar .char p3)]) (bs := [(nar .char p2).toInt8.toInt32, (nar .char p3).toInt8.toInt32]) (n := 2) f49 Z28 f50 f51 f52 V_b22_28 f47 hcs rfl rfl (by decide) (by decide) (List.forall_mem_cons.mpr ⟨own_nc hp2, (List.forall_mem_cons.mpr ⟨own_nc hp3, (fun _ h => nomatch h)⟩)⟩) rfl (by decide) (by decide)) (g := (mkF m 55 #[.val (.int p1), .val (.int p2), .val (.int p3), .val (.int p4), .val (.int p5), .val (.int p6), .val (.int p7), .val (.int p8)] [(.ref b22), (.ref b20), (.ref b20)])) rfl (by rw [hml]; rfl) (Steps.refl _) (a := b20) (argsL := [(.ref b22)]) (rest := [(.ref b20)]) (lenOf pd___C_V_325 rfl) rfl (by show 2 * 0 + _ ≤ _; exact Nat.le_of_eq rfl) (hb hby d2_55) (fun _ _ => ⟨rfl, e28, (by decide : 2 + 1 ≤ _), (by decide : 6 + 2 ≤ _)⟩)
        dsimp only [Pt.U, Pt.locs, Pt.cells, Pt.slots] at X30 l30 y30 z30 st30 hQ30
        subst l30 y30 z30
        obtain ⟨rfl, N30q, K30, fk30_0, fk30_1, t30, kb30, -, -, -, fk30_2, fk30_3⟩ := hQ30
        have f54 : Keep h0 T30.heap [] := f48.trans K30 (fun x hx => by cases List.mem_singleton.mp hx; exact Or.inr sz_b20)
        have f55 : n0 ≤ b20 := f49
        have f56 : n0 ≤ b22 := f53
        have f57 : Arv Z T30.heap b22 k22 .char (2 : Int32) [(.int (nar .char p2)), (.int (nar .char p3))] (.int (0 : Int32)) := V_b22_28.keep K30 (by simp [(Ne.symm ne_b20_b22)])
        have C31 : CHr Z own_EL s.vm h0 s.vm T30.heap := C29.trans (CHr.keep K30 (sfS sf29_b20 sf0) C29.1)
        have sf31_b20 : Safe Z own_EL s.vm T30.heap b20 := Safe.keep K30 (sfS sf29_b20 sf0) C29.1 sf29_b20
        have sf31_b22 : Safe Z own_EL s.vm T30.heap b22 := Safe.keep K30 (sfS sf29_b20 sf0) C29.1 sf29_b22
        have Z30 : n0 ≤ T30.heap.size := Nat.le_trans Z28 K30.1
        have N30 := Fr.app N28 N30q
        obtain ⟨fs, hr, hrun, hended, hW, hsame⟩ := X30.leave (v := some (.ref b20)) (fun h => by rw [Bd.returns] at h; cases h) (hlocks := Bd.notSynchronized)
        refine ⟨_, _, pre_19 _ ?_, hrun, hended, _, _, rfl, ?_, (by show CHr Z own_EL s.vm s.heap T30.vm T30.heap; rw [hh]; exact C31.trans (CHv.at (s := s) (vm0 := s.vm) X30 hZ hEL C31.1)), ReturnedEndW.of_narrow ⟨_, rfl⟩ hW (hsame.mono (by decide) (by decide))⟩
        · show Steps p.tables e below (s₁.setTop (mkF m 37 #[.val (.int p1), .val (.int p2), .val (.int p3), .val (.int p4), .val (.int p5), .val (.int p6), .val (.int p7), .val (.int p8)] [(.int (2 : Int32)), (.int p1)])) _
          refine XS.icmpNo X0.here hx rfl (hb hby d2_37) rfl (teq hc37).2 ?_
          show Steps p.tables e below (s₁.setTop (mkF m 40 #[.val (.int p1), .val (.int p2), .val (.int p3), .val (.int p4), .val (.int p5), .val (.int p6), .val (.int p7), .val (.int p8)] [])) _
          refine st20 _ ?_
          show Steps p.tables e below (T20.setTop (mkF m 43 #[.val (.int p1), .val (.int p2), .val (.int p3), .val (.int p4), .val (.int p5), .val (.int p6), .val (.int p7), .val (.int p8)] [(.ref b20)])) _
          refine XS.dup X20.here hx rfl (hb hby d2_43) rfl rfl ?_
          show Steps p.tables e below (T20.setTop (mkF m 44 #[.val (.int p1), .val (.int p2), .val (.int p3), .val (.int p4), .val (.int p5), .val (.int p6), .val (.int p7), .val (.int p8)] [(.ref b20), (.ref b20)])) _
          refine XS.iconst X20.here hx rfl (hb hby d2_44) ?_
          show Steps p.tables e below (T20.setTop (mkF m 45 #[.val (.int p1), .val (.int p2), .val (.int p3), .val (.int p4), .val (.int p5), .val (.int p6), .val (.int p7), .val (.int p8)] [(.int (2 : Int32)), (.ref b20), (.ref b20)])) _
          refine st22 _ ?_
          show Steps p.tables e below (T22.setTop (mkF m 47 #[.val (.int p1), .val (.int p2), .val (.int p3), .val (.int p4), .val (.int p5), .val (.int p6), .val (.int p7), .val (.int p8)] [(.ref b22), (.ref b20), (.ref b20)])) _
          refine XS.dup X22.here hx rfl (hb hby d2_47) rfl rfl ?_
          show Steps p.tables e below (T22.setTop (mkF m 48 #[.val (.int p1), .val (.int p2), .val (.int p3), .val (.int p4), .val (.int p5), .val (.int p6), .val (.int p7), .val (.int p8)] [(.ref b22), (.ref b22), (.ref b20), (.ref b20)])) _
          refine XS.iconst X22.here hx rfl (hb hby d2_48) ?_
          show Steps p.tables e below (T22.setTop (mkF m 49 #[.val (.int p1), .val (.int p2), .val (.int p3), .val (.int p4), .val (.int p5), .val (.int p6), .val (.int p7), .val (.int p8)] [(.int (0 : Int32)), (.ref b22), (.ref b22), (.ref b20), (.ref b20)])) _
          refine XS.iloadN X22.here hx rfl (hb hby d2_49) rfl ?_
          show Steps p.tables e below (T22.setTop (mkF m 50 #[.val (.int p1), .val (.int p2), .val (.int p3), .val (.int p4), .val (.int p5), .val (.int p6), .val (.int p7), .val (.int p8)] [(.int p2), (.int (0 : Int32)), (.ref b22), (.ref b22), (.ref b20), (.ref b20)])) _
          refine st25 _ ?_
          show Steps p.tables e below (T25.setTop (mkF m 51 #[.val (.int p1), .val (.int p2), .val (.int p3), .val (.int p4), .val (.int p5), .val (.int p6), .val (.int p7), .val (.int p8)] [(.ref b22), (.ref b20), (.ref b20)])) _
          refine XS.dup X25.here hx rfl (hb hby d2_51) rfl rfl ?_
          show Steps p.tables e below (T25.setTop (mkF m 52 #[.val (.int p1), .val (.int p2), .val (.int p3), .val (.int p4), .val (.int p5), .val (.int p6), .val (.int p7), .val (.int p8)] [(.ref b22), (.ref b22), (.ref b20), (.ref b20)])) _
          refine XS.iconst X25.here hx rfl (hb hby d2_52) ?_
          show Steps p.tables e below (T25.setTop (mkF m 53 #[.val (.int p1), .val (.int p2), .val (.int p3), .val (.int p4), .val (.int p5), .val (.int p6), .val (.int p7), .val (.int p8)] [(.int (1 : Int32)), (.ref b22), (.ref b22), (.ref b20), (.ref b20)])) _
          refine XS.iloadN X25.here hx rfl (hb hby d2_53) rfl ?_
          show Steps p.tables e below (T25.setTop (mkF m 54 #[.val (.int p1), .val (.int p2), .val (.int p3), .val (.int p4), .val (.int p5), .val (.int p6), .val (.int p7), .val (.int p8)] [(.int p3), (.int (1 : Int32)), (.ref b22), (.ref b22), (.ref b20), (.ref b20)])) _
          refine st28 _ ?_
          show Steps p.tables e below (T28.setTop (mkF m 55 #[.val (.int p1), .val (.int p2), .val (.int p3), .val (.int p4), .val (.int p5), .val (.int p6), .val (.int p7), .val (.int p8)] [(.ref b22), (.ref b20), (.ref b20)])) _
          refine st30.trans ?_
          show Steps p.tables e below (T30.setTop (mkF m 58 #[.val (.int p1), .val (.int p2), .val (.int p3), .val (.int p4), .val (.int p5), .val (.int p6), .val (.int p7), .val (.int p8)] [(.ref b20)])) _
          exact X30.areturnOut hx rfl Bd.returns rfl (hb hby d2_58) hr
        · show Q_rm_mk Z p1 p2 p3 p4 p5 p6 p7 p8 cz h0 n0 _ T30.heap _
          have eL : (own_cs p1 p2 p3 p4 p5 p6 p7 p8) = [nar .char p2, nar .char p3] := by rw [own_cs, if_neg hc1, if_neg hc17, if_pos hc37]
          refine ⟨b20, t30, kb30, rfl, N30, f54, fk30_0, fk30_1, fk30_2, ?_⟩
          rw [eL]
          exact fk30_3
      · have pre_32 : ∀ t, Steps p.tables e below (s₁.setTop (mkF m 61 #[.val (.int p1), .val (.int p2), .val (.int p3), .val (.int p4), .val (.int p5), .val (.int p6), .val (.int p7), .val (.int p8)] [(.int (3 : Int32)), (.int p1)])) t → Steps p.tables e below (s₁.setTop (entryFrame m #[(.int p1), (.int p2), (.int p3), (.int p4), (.int p5), (.int p6), (.int p7), (.int p8)] 8)) t := by
          intro t kt
          refine pre_19 _ ?_
          show Steps p.tables e below (s₁.setTop (mkF m 37 #[.val (.int p1), .val (.int p2), .val (.int p3), .val (.int p4), .val (.int p5), .val (.int p6), .val (.int p7), .val (.int p8)] [(.int (2 : Int32)), (.int p1)])) _
          refine XS.icmpYes X0.here hx rfl (pc0 := 37) (pc' := 59) rfl (hb hby d2_37) rfl (feq hc37).2 (by decide) (by decide) ?_
          show Steps p.tables e below (s₁.setTop (mkF m 59 #[.val (.int p1), .val (.int p2), .val (.int p3), .val (.int p4), .val (.int p5), .val (.int p6), .val (.int p7), .val (.int p8)] [])) _
          refine XS.iloadN X0.here hx rfl (hb hby d2_59) rfl ?_
          show Steps p.tables e below (s₁.setTop (mkF m 60 #[.val (.int p1), .val (.int p2), .val (.int p3), .val (.int p4), .val (.int p5), .val (.int p6), .val (.int p7), .val (.int p8)] [(.int p1)])) _
          refine XS.iconst X0.here hx rfl (hb hby d2_60) ?_
          exact kt
        by_cases hc61 : p1 = (3 : Int32)
        · obtain ⟨T33, h33, X33, e33, E33, A33, D33, -, st33⟩ := newO X0 hx hZ hown (hw _ (List.mem_of_getElem? (i := 8) rfl)) (hw _ (List.mem_of_getElem? (i := 9) rfl)) (hw _ (List.mem_of_getElem? (i := 10) rfl)) e0 (g := (mkF m 64 #[.val (.int p1), .val (.int p2), .val (.int p3), .val (.int p4), .val (.int p5), .val (.int p6), .val (.int p7), .val (.int p8)] [])) rfl (hb hby d2_64) (by decide) (by decide)
          obtain ⟨b33, g33⟩ : ∃ z, z = h0.size := ⟨_, rfl⟩
          rw [← g33] at A33 D33 st33
          have sz_b33 : h0.size ≤ b33 := Nat.le_trans (Keep.refl h0 []).1 (Nat.le_of_eq g33.symm)
          have f58 : Sta Z h33 "java/lang/String" "COMPACT_STRINGS" "Z" (.int cz) := S_CS.ext E33
          have f59 : Keep h0 h33 [] := (Keep.refl h0 []).ext E33
          have C34 : CHr Z own_EL s.vm h0 s.vm h33 := C0.trans (CHr.ext E33 C0.1)
          have sf34_b33 : Safe Z own_EL s.vm h33 b33 := Safe.ext E33 C0.1 (Safe.new (Nat.le_of_eq g33.symm))
          have g_b33 : n0 ≤ b33 := Nat.le_trans Z0 (Nat.le_of_eq g33.symm)
          have Z33 : n0 ≤ h33.size := Nat.le_trans Z0 E33.1
          have F_value_b33 : Fld Z h33 b33 "java/lang/String" "value" "[B" .null := D33 (Or.inr (hw _ (List.mem_of_getElem? (i := 24) rfl))) (ty := (.array .byte)) (by decide)
          have F_coder_b33 : Fld Z h33 b33 "java/lang/String" "coder" "B" (.int (0 : Int32)) := D33 (Or.inr (hw _ (List.mem_of_getElem? (i := 25) rfl))) (ty := .byte) (by decide)
          obtain ⟨T35, h35, k35, X35, e35, E35, A35, st35⟩ := newP X33 hx hZ (hw _ (List.mem_of_getElem? (i := 11) rfl)) e33 (g := (mkF m 69 #[.val (.int p1), .val (.int p2), .val (.int p3), .val (.int p4), .val (.int p5), .val (.int p6), .val (.int p7), .val (.int p8)] [(.int (3 : Int32)), (.ref b33), (.ref b33)])) rfl (hb hby d2_69) rfl (by decide) (cap := 3) (by decide) (by decide) (by decide) (by decide)
          obtain ⟨b35, g35⟩ : ∃ z, z = h33.size := ⟨_, rfl⟩
          rw [← g35] at A35 st35
          have sz_b35 : h0.size ≤ b35 := Nat.le_trans f59.1 (Nat.le_of_eq g35.symm)
          have ne_b33_b35 : b33 ≠ b35 := Nat.ne_of_lt (Nat.lt_of_lt_of_le A33.lt (Nat.le_of_eq g35.symm))
          have f60 : Sta Z h35 "java/lang/String" "COMPACT_STRINGS" "Z" (.int cz) := f58.ext E35
          have f61 : Keep h0 h35 [] := f59.ext E35
          have f62 : n0 ≤ b33 := g_b33
          have f63 : Exa Z h35 b33 "java/lang/String" := A33.ext E35
          have f64 : Fld Z h35 b33 "java/lang/String" "value" "[B" .null := F_value_b33.ext E35
          have f65 : Fld Z h35 b33 "java/lang/String" "coder" "B" (.int (0 : Int32)) := F_coder_b33.ext E35
          have C36 : CHr Z own_EL s.vm h0 s.vm h35 := C34.trans (CHr.ext E35 C34.1)
          have sf36_b33 : Safe Z own_EL s.vm h35 b33 := Safe.ext E35 C34.1 sf34_b33
          have sf36_b35 : Safe Z own_EL s.vm h35 b35 := Safe.ext E35 C34.1 (Safe.new (Nat.le_of_eq g35.symm))
          have g_b35 : n0 ≤ b35 := Nat.le_trans Z33 (Nat.le_of_eq g35.symm)
          have Z35 : n0 ≤ h35.size := Nat.le_trans Z33 E35.1
          have V_b35 : Arv Z h35 b35 k35 .char (3 : Int32) [(.int (0 : Int32)), (.int (0 : Int32)), (.int (0 : Int32))] (.int (0 : Int32)) := (Arv.new A35 (by decide)).pad (pad_rep [] (.int (0 : Int32)) 3)
          obtain ⟨cl37, Ar37, aq37, aS37, aN37, aH37, aG37⟩ := V_b35
          have hin37 : ¬ ((0 : Int32) < 0 ∨ cl37.slots.size ≤ ((0 : Int32)).toNatClampNeg) := inb_of aS37 ⟨by decide, by decide⟩
          obtain ⟨T38, h38, X38, e38, W38, st38⟩ := stC X35 hx hZ e35 Ar37 (j := (0 : Int32)) hin37 (g := (mkF m 74 #[.val (.int p1), .val (.int p2), .val (.int p3), .val (.int p4), .val (.int p5), .val (.int p6), .val (.int p7), .val (.int p8)] [(.int p2), (.int (0 : Int32)), (.ref b35), (.ref b35), (.ref b33), (.ref b33)])) rfl rfl (hb hby d2_74)
          have V_b35_38 : Arv Z h38 b35 k35 .char (3 : Int32) [(.int (nar .char p2)), (.int (0 : Int32)), (.int (0 : Int32))] (.int (0 : Int32)) := Arv.set Ar37 aq37 aS37 aN37 aH37 aG37 (fits_nar_char _) W38 0 rfl (Nat.le_of_ble_eq_true rfl)
          have f66 : Sta Z h38 "java/lang/String" "COMPACT_STRINGS" "Z" (.int cz) := f60.wr W38
          have f67 : Keep h0 h38 [] := f61.wr W38 (Or.inr sz_b35)
          have f68 : n0 ≤ b33 := f62
          have f69 : Exa Z h38 b33 "java/lang/String" := f63.wr W38
          have f70 : Fld Z h38 b33 "java/lang/String" "value" "[B" .null := f64.other W38 (Or.inl ne_b33_b35)
          have f71 : Fld Z h38 b33 "java/lang/String" "coder" "B" (.int (0 : Int32)) := f65.other W38 (Or.inl ne_b33_b35)
          have f72 : n0 ≤ b35 := g_b35
          have C39 : CHr Z own_EL s.vm h0 s.vm h38 := C36.trans (CHr.wr W38 sf36_b35 C36.1)
          have sf39_b33 : Safe Z own_EL s.vm h38 b33 := Safe.wr W38 sf36_b35 C36.1 sf36_b33
          have sf39_b35 : Safe Z own_EL s.vm h38 b35 := Safe.wr W38 sf36_b35 C36.1 sf36_b35
          have N38 := Fr.snoc X38 N0 f72
          have Z38 : n0 ≤ h38.size := by rw [W38.size]; exact Z35
          obtain ⟨cl40, Ar40, aq40, aS40, aN40, aH40, aG40⟩ := V_b35_38
          have hin40 : ¬ ((1 : Int32) < 0 ∨ cl40.slots.size ≤ ((1 : Int32)).toNatClampNeg) := inb_of aS40 ⟨by decide, by decide⟩
          obtain ⟨T41, h41, X41, e41, W41, st41⟩ := stC X38 hx hZ e38 Ar40 (j := (1 : Int32)) hin40 (g := (mkF m 78 #[.val (.int p1), .val (.int p2), .val (.int p3), .val (.int p4), .val (.int p5), .val (.int p6), .val (.int p7), .val (.int p8)] [(.int p3), (.int (1 : Int32)), (.ref b35), (.ref b35), (.ref b33), (.ref b33)])) rfl rfl (hb hby d2_78)
          have V_b35_41 : Arv Z h41 b35 k35 .char (3 : Int32) [(.int (nar .char p2)), (.int (nar .char p3)), (.int (0 : Int32))] (.int (0 : Int32)) := Arv.set Ar40 aq40 aS40 aN40 aH40 aG40 (fits_nar_char _) W41 1 rfl (Nat.le_of_ble_eq_true rfl)
          have f73 : Sta Z h41 "java/lang/String" "COMPACT_STRINGS" "Z" (.int cz) := f66.wr W41
          have f74 : Keep h0 h41 [] := f67.wr W41 (Or.inr sz_b35)
          have f75 : n0 ≤ b33 := f68
          have f76 : Exa Z h41 b33 "java/lang/String" := f69.wr W41
          have f77 : Fld Z h41 b33 "java/lang/String" "value" "[B" .null := f70.other W41 (Or.inl ne_b33_b35)
          have f78 : Fld Z h41 b33 "java/lang/String" "coder" "B" (.int (0 : Int32)) := f71.other W41 (Or.inl ne_b33_b35)
          have f79 : n0 ≤ b35 := f72
          have C42 : CHr Z own_EL s.vm h0 s.vm h41 := C39.trans (CHr.wr W41 sf39_b35 C39.1)
          have sf42_b33 : Safe Z own_EL s.vm h41 b33 := Safe.wr W41 sf39_b35 C39.1 sf39_b33
          have sf42_b35 : Safe Z own_EL s.vm h41 b35 := Safe.wr W41 sf39_b35 C39.1 sf39_b35
          have N41 := Fr.snoc X41 N38 f79
          have Z41 : n0 ≤ h41.size := by rw [W41.size]; exact Z38
          obtain ⟨cl43, Ar43, aq43, aS43, aN43, aH43, aG43⟩ := V_b35_41
          have hin43 : ¬ ((2 : Int32) < 0 ∨ cl43.slots.size ≤ ((2 : Int32)).toNatClampNeg) := inb_of aS43 ⟨by decide, by decide⟩
          obtain ⟨T44, h44, X44, e44, W44, st44⟩ := stC X41 hx hZ e41 Ar43 (j := (2 : Int32)) hin43 (g := (mkF m 82 #[.val (.int p1), .val (.int p2), .val (.int p3), .val (.int p4), .val (.int p5), .val (.int p6), .val (.int p7), .val (.int p8)] [(.int p4), (.int (2 : Int32)), (.ref b35), (.ref b35), (.ref b33), (.ref b33)])) rfl rfl (hb hby d2_82)
          have V_b35_44 : Arv Z h44 b35 k35 .char (3 : Int32) [(.int (nar .char p2)), (.int (nar .char p3)), (.int (nar .char p4))] (.int (0 : Int32)) := Arv.set Ar43 aq43 aS43 aN43 aH43 aG43 (fits_nar_char _) W44 2 rfl (Nat.le_of_ble_eq_true rfl)
          have f80 : Sta Z h44 "java/lang/String" "COMPACT_STRINGS" "Z" (.int cz) := f73.wr W44
          have f81 : Keep h0 h44 [] := f74.wr W44 (Or.inr sz_b35)
          have f82 : n0 ≤ b33 := f75
          have f83 : Exa Z h44 b33 "java/lang/String" := f76.wr W44
          have f84 : Fld Z h44 b33 "java/lang/String" "value" "[B" .null := f77.other W44 (Or.inl ne_b33_b35)
          have f85 : Fld Z h44 b33 "java/lang/String" "coder" "B" (.int (0 : Int32)) := f78.other W44 (Or.inl ne_b33_b35)
          have f86 : n0 ≤ b35 := f79
          have C45 : CHr Z own_EL s.vm h0 s.vm h44 := C42.trans (CHr.wr W44 sf42_b35 C42.1)
          have sf45_b33 : Safe Z own_EL s.vm h44 b33 := Safe.wr W44 sf42_b35 C42.1 sf42_b33
          have sf45_b35 : Safe Z own_EL s.vm h44 b35 := Safe.wr W44 sf42_b35 C42.1 sf42_b35
          have N44 := Fr.snoc X44 N41 f86
          have Z44 : n0 ≤ h44.size := by rw [W44.size]; exact Z41
          obtain ⟨_, _, ⟨T46, L46, k46, n46⟩, -, X46, ⟨Lc46, hQ46, l46, y46, z46⟩, st46⟩ := X44.specialBack hx (y := (⟨"java/lang/String", "<init>", "([C)V"⟩ : MethodName)) rfl hown (mvT hZ (hw _ (List.mem_of_getElem? (i := 12) rfl))) (mvT hZ (hw _ (List.mem_of_getElem? (i := 13) rfl))) (mvT hZ (hw _ (List.mem_of_getElem? (i := 14) rfl))) (by decide) (StrChars.Road.backV (W := 1) hZ (fun d hd => hw d (own_words d hd)) (kI := 4) (hw _ (List.mem_of_getElem? (i := 9) rfl)) (cs := [(nar .char p2), (nar .char p3), (nar .char p4)]) (bs := [(nar .char p2).toInt8.toInt32, (nar .char p3).toInt8.toInt32, (nar .char p4).toInt8.toInt32]) (n := 3) f82 Z44 f83 f84 f85 V_b35_44 f80 hcs rfl rfl (by decide) (by decide) (List.forall_mem_cons.mpr ⟨own_nc hp2, (List.forall_mem_cons.mpr ⟨own_nc hp3, (List.forall_mem_cons.mpr ⟨own_nc hp4, (fun _ h => nomatch h)⟩)⟩)⟩) rfl (by decide) (by decide)) (g := (mkF m 83 #[.val (.int p1), .val (.int p2), .val (.int p3), .val (.int p4), .val (.int p5), .val (.int p6), .val (.int p7), .val (.int p8)] [(.ref b35), (.ref b33), (.ref b33)])) rfl (by rw [hml]; rfl) (Steps.refl _) (a := b33) (argsL := [(.ref b35)]) (rest := [(.ref b33)]) (lenOf pd___C_V_325 rfl) rfl (by show 2 * 0 + _ ≤ _; exact Nat.le_of_eq rfl) (hb hby d2_83) (fun _ _ => ⟨rfl, e44, (by decide : 2 + 1 ≤ _), (by decide : 7 + 3 ≤ _)⟩)
          dsimp only [Pt.U, Pt.locs, Pt.cells, Pt.slots] at X46 l46 y46 z46 st46 hQ46
          subst l46 y46 z46
          obtain ⟨rfl, N46q, K46, fk46_0, fk46_1, t46, kb46, -, -, -, fk46_2, fk46_3⟩ := hQ46
          have f87 : Keep h0 T46.heap [] := f81.trans K46 (fun x hx => by cases List.mem_singleton.mp hx; exact Or.inr sz_b33)
          have f88 : n0 ≤ b33 := f82
          have f89 : n0 ≤ b35 := f86
          have f90 : Arv Z T46.heap b35 k35 .char (3 : Int32) [(.int (nar .char p2)), (.int (nar .char p3)), (.int (nar .char p4))] (.int (0 : Int32)) := V_b35_44.keep K46 (by simp [(Ne.symm ne_b33_b35)])
          have C47 : CHr Z own_EL s.vm h0 s.vm T46.heap := C45.trans (CHr.keep K46 (sfS sf45_b33 sf0) C45.1)
          have sf47_b33 : Safe Z own_EL s.vm T46.heap b33 := Safe.keep K46 (sfS sf45_b33 sf0) C45.1 sf45_b33
          have sf47_b35 : Safe Z own_EL s.vm T46.heap b35 := Safe.keep K46 (sfS sf45_b33 sf0) C45.1 sf45_b35
          have Z46 : n0 ≤ T46.heap.size := Nat.le_trans Z44 K46.1
          have N46 := Fr.app N44 N46q
          obtain ⟨fs, hr, hrun, hended, hW, hsame⟩ := X46.leave (v := some (.ref b33)) (fun h => by rw [Bd.returns] at h; cases h) (hlocks := Bd.notSynchronized)
          refine ⟨_, _, pre_32 _ ?_, hrun, hended, _, _, rfl, ?_, (by show CHr Z own_EL s.vm s.heap T46.vm T46.heap; rw [hh]; exact C47.trans (CHv.at (s := s) (vm0 := s.vm) X46 hZ hEL C47.1)), ReturnedEndW.of_narrow ⟨_, rfl⟩ hW (hsame.mono (by decide) (by decide))⟩
          · show Steps p.tables e below (s₁.setTop (mkF m 61 #[.val (.int p1), .val (.int p2), .val (.int p3), .val (.int p4), .val (.int p5), .val (.int p6), .val (.int p7), .val (.int p8)] [(.int (3 : Int32)), (.int p1)])) _
            refine XS.icmpNo X0.here hx rfl (hb hby d2_61) rfl (teq hc61).2 ?_
            show Steps p.tables e below (s₁.setTop (mkF m 64 #[.val (.int p1), .val (.int p2), .val (.int p3), .val (.int p4), .val (.int p5), .val (.int p6), .val (.int p7), .val (.int p8)] [])) _
            refine st33 _ ?_
            show Steps p.tables e below (T33.setTop (mkF m 67 #[.val (.int p1), .val (.int p2), .val (.int p3), .val (.int p4), .val (.int p5), .val (.int p6), .val (.int p7), .val (.int p8)] [(.ref b33)])) _
            refine XS.dup X33.here hx rfl (hb hby d2_67) rfl rfl ?_
            show Steps p.tables e below (T33.setTop (mkF m 68 #[.val (.int p1), .val (.int p2), .val (.int p3), .val (.int p4), .val (.int p5), .val (.int p6), .val (.int p7), .val (.int p8)] [(.ref b33), (.ref b33)])) _
            refine XS.iconst X33.here hx rfl (hb hby d2_68) ?_
            show Steps p.tables e below (T33.setTop (mkF m 69 #[.val (.int p1), .val (.int p2), .val (.int p3), .val (.int p4), .val (.int p5), .val (.int p6), .val (.int p7), .val (.int p8)] [(.int (3 : Int32)), (.ref b33), (.ref b33)])) _
            refine st35 _ ?_
            show Steps p.tables e below (T35.setTop (mkF m 71 #[.val (.int p1), .val (.int p2), .val (.int p3), .val (.int p4), .val (.int p5), .val (.int p6), .val (.int p7), .val (.int p8)] [(.ref b35), (.ref b33), (.ref b33)])) _
            refine XS.dup X35.here hx rfl (hb hby d2_71) rfl rfl ?_
            show Steps p.tables e below (T35.setTop (mkF m 72 #[.val (.int p1), .val (.int p2), .val (.int p3), .val (.int p4), .val (.int p5), .val (.int p6), .val (.int p7), .val (.int p8)] [(.ref b35), (.ref b35), (.ref b33), (.ref b33)])) _
            refine XS.iconst X35.here hx rfl (hb hby d2_72) ?_
            show Steps p.tables e below (T35.setTop (mkF m 73 #[.val (.int p1), .val (.int p2), .val (.int p3), .val (.int p4), .val (.int p5), .val (.int p6), .val (.int p7), .val (.int p8)] [(.int (0 : Int32)), (.ref b35), (.ref b35), (.ref b33), (.ref b33)])) _
            refine XS.iloadN X35.here hx rfl (hb hby d2_73) rfl ?_
            show Steps p.tables e below (T35.setTop (mkF m 74 #[.val (.int p1), .val (.int p2), .val (.int p3), .val (.int p4), .val (.int p5), .val (.int p6), .val (.int p7), .val (.int p8)] [(.int p2), (.int (0 : Int32)), (.ref b35), (.ref b35), (.ref b33), (.ref b33)])) _
            refine st38 _ ?_
            show Steps p.tables e below (T38.setTop (mkF m 75 #[.val (.int p1), .val (.int p2), .val (.int p3), .val (.int p4), .val (.int p5), .val (.int p6), .val (.int p7), .val (.int p8)] [(.ref b35), (.ref b33), (.ref b33)])) _
            refine XS.dup X38.here hx rfl (hb hby d2_75) rfl rfl ?_
            show Steps p.tables e below (T38.setTop (mkF m 76 #[.val (.int p1), .val (.int p2), .val (.int p3), .val (.int p4), .val (.int p5), .val (.int p6), .val (.int p7), .val (.int p8)] [(.ref b35), (.ref b35), (.ref b33), (.ref b33)])) _
            refine XS.iconst X38.here hx rfl (hb hby d2_76) ?_
            show Steps p.tables e below (T38.setTop (mkF m 77 #[.val (.int p1), .val (.int p2), .val (.int p3), .val (.int p4), .val (.int p5), .val (.int p6), .val (.int p7), .val (.int p8)] [(.int (1 : Int32)), (.ref b35), (.ref b35), (.ref b33), (.ref b33)])) _
            refine XS.iloadN X38.here hx rfl (hb hby d2_77) rfl ?_
            show Steps p.tables e below (T38.setTop (mkF m 78 #[.val (.int p1), .val (.int p2), .val (.int p3), .val (.int p4), .val (.int p5), .val (.int p6), .val (.int p7), .val (.int p8)] [(.int p3), (.int (1 : Int32)), (.ref b35), (.ref b35), (.ref b33), (.ref b33)])) _
            refine st41 _ ?_
            show Steps p.tables e below (T41.setTop (mkF m 79 #[.val (.int p1), .val (.int p2), .val (.int p3), .val (.int p4), .val (.int p5), .val (.int p6), .val (.int p7), .val (.int p8)] [(.ref b35), (.ref b33), (.ref b33)])) _
            refine XS.dup X41.here hx rfl (hb hby d2_79) rfl rfl ?_
            show Steps p.tables e below (T41.setTop (mkF m 80 #[.val (.int p1), .val (.int p2), .val (.int p3), .val (.int p4), .val (.int p5), .val (.int p6), .val (.int p7), .val (.int p8)] [(.ref b35), (.ref b35), (.ref b33), (.ref b33)])) _
            refine XS.iconst X41.here hx rfl (hb hby d2_80) ?_
            show Steps p.tables e below (T41.setTop (mkF m 81 #[.val (.int p1), .val (.int p2), .val (.int p3), .val (.int p4), .val (.int p5), .val (.int p6), .val (.int p7), .val (.int p8)] [(.int (2 : Int32)), (.ref b35), (.ref b35), (.ref b33), (.ref b33)])) _
            refine XS.iloadN X41.here hx rfl (hb hby d2_81) rfl ?_
            show Steps p.tables e below (T41.setTop (mkF m 82 #[.val (.int p1), .val (.int p2), .val (.int p3), .val (.int p4), .val (.int p5), .val (.int p6), .val (.int p7), .val (.int p8)] [(.int p4), (.int (2 : Int32)), (.ref b35), (.ref b35), (.ref b33), (.ref b33)])) _
            refine st44 _ ?_
            show Steps p.tables e below (T44.setTop (mkF m 83 #[.val (.int p1), .val (.int p2), .val (.int p3), .val (.int p4), .val (.int p5), .val (.int p6), .val (.int p7), .val (.int p8)] [(.ref b35), (.ref b33), (.ref b33)])) _
            refine st46.trans ?_
            show Steps p.tables e below (T46.setTop (mkF m 86 #[.val (.int p1), .val (.int p2), .val (.int p3), .val (.int p4), .val (.int p5), .val (.int p6), .val (.int p7), .val (.int p8)] [(.ref b33)])) _
            exact X46.areturnOut hx rfl Bd.returns rfl (hb hby d2_86) hr
          · show Q_rm_mk Z p1 p2 p3 p4 p5 p6 p7 p8 cz h0 n0 _ T46.heap _
            have eL : (own_cs p1 p2 p3 p4 p5 p6 p7 p8) = [nar .char p2, nar .char p3, nar .char p4] := by rw [own_cs, if_neg hc1, if_neg hc17, if_neg hc37, if_pos hc61]
            refine ⟨b33, t46, kb46, rfl, N46, f87, fk46_0, fk46_1, fk46_2, ?_⟩
            rw [eL]
            exact fk46_3
        · have pre_48 : ∀ t, Steps p.tables e below (s₁.setTop (mkF m 89 #[.val (.int p1), .val (.int p2), .val (.int p3), .val (.int p4), .val (.int p5), .val (.int p6), .val (.int p7), .val (.int p8)] [(.int (4 : Int32)), (.int p1)])) t → Steps p.tables e below (s₁.setTop (entryFrame m #[(.int p1), (.int p2), (.int p3), (.int p4), (.int p5), (.int p6), (.int p7), (.int p8)] 8)) t := by
            intro t kt
            refine pre_32 _ ?_
            show Steps p.tables e below (s₁.setTop (mkF m 61 #[.val (.int p1), .val (.int p2), .val (.int p3), .val (.int p4), .val (.int p5), .val (.int p6), .val (.int p7), .val (.int p8)] [(.int (3 : Int32)), (.int p1)])) _
            refine XS.icmpYes X0.here hx rfl (pc0 := 61) (pc' := 87) rfl (hb hby d2_61) rfl (feq hc61).2 (by decide) (by decide) ?_
            show Steps p.tables e below (s₁.setTop (mkF m 87 #[.val (.int p1), .val (.int p2), .val (.int p3), .val (.int p4), .val (.int p5), .val (.int p6), .val (.int p7), .val (.int p8)] [])) _
            refine XS.iloadN X0.here hx rfl (hb hby d2_87) rfl ?_
            show Steps p.tables e below (s₁.setTop (mkF m 88 #[.val (.int p1), .val (.int p2), .val (.int p3), .val (.int p4), .val (.int p5), .val (.int p6), .val (.int p7), .val (.int p8)] [(.int p1)])) _
            refine XS.iconst X0.here hx rfl (hb hby d2_88) ?_
            exact kt
          by_cases hc89 : p1 = (4 : Int32)
          · obtain ⟨T49, h49, X49, e49, E49, A49, D49, -, st49⟩ := newO X0 hx hZ hown (hw _ (List.mem_of_getElem? (i := 8) rfl)) (hw _ (List.mem_of_getElem? (i := 9) rfl)) (hw _ (List.mem_of_getElem? (i := 10) rfl)) e0 (g := (mkF m 92 #[.val (.int p1), .val (.int p2), .val (.int p3), .val (.int p4), .val (.int p5), .val (.int p6), .val (.int p7), .val (.int p8)] [])) rfl (hb hby d2_92) (by decide) (by decide)
            obtain ⟨b49, g49⟩ : ∃ z, z = h0.size := ⟨_, rfl⟩
            rw [← g49] at A49 D49 st49
            have sz_b49 : h0.size ≤ b49 := Nat.le_trans (Keep.refl h0 []).1 (Nat.le_of_eq g49.symm)
            have f91 : Sta Z h49 "java/lang/String" "COMPACT_STRINGS" "Z" (.int cz) := S_CS.ext E49
            have f92 : Keep h0 h49 [] := (Keep.refl h0 []).ext E49
            have C50 : CHr Z own_EL s.vm h0 s.vm h49 := C0.trans (CHr.ext E49 C0.1)
            have sf50_b49 : Safe Z own_EL s.vm h49 b49 := Safe.ext E49 C0.1 (Safe.new (Nat.le_of_eq g49.symm))
            have g_b49 : n0 ≤ b49 := Nat.le_trans Z0 (Nat.le_of_eq g49.symm)
            have Z49 : n0 ≤ h49.size := Nat.le_trans Z0 E49.1
            have F_value_b49 : Fld Z h49 b49 "java/lang/String" "value" "[B" .null := D49 (Or.inr (hw _ (List.mem_of_getElem? (i := 24) rfl))) (ty := (.array .byte)) (by decide)
            have F_coder_b49 : Fld Z h49 b49 "java/lang/String" "coder" "B" (.int (0 : Int32)) := D49 (Or.inr (hw _ (List.mem_of_getElem? (i := 25) rfl))) (ty := .byte) (by decide)
            obtain ⟨T51, h51, k51, X51, e51, E51, A51, st51⟩ := newP X49 hx hZ (hw _ (List.mem_of_getElem? (i := 11) rfl)) e49 (g := (mkF m 97 #[.val (.int p1), .val (.int p2), .val (.int p3), .val (.int p4), .val (.int p5), .val (.int p6), .val (.int p7), .val (.int p8)] [(.int (4 : Int32)), (.ref b49), (.ref b49)])) rfl (hb hby d2_97) rfl (by decide) (cap := 4) (by decide) (by decide) (by decide) (by decide)
            obtain ⟨b51, g51⟩ : ∃ z, z = h49.size := ⟨_, rfl⟩
            rw [← g51] at A51 st51
            have sz_b51 : h0.size ≤ b51 := Nat.le_trans f92.1 (Nat.le_of_eq g51.symm)
            have ne_b49_b51 : b49 ≠ b51 := Nat.ne_of_lt (Nat.lt_of_lt_of_le A49.lt (Nat.le_of_eq g51.symm))
            have f93 : Sta Z h51 "java/lang/String" "COMPACT_STRINGS" "Z" (.int cz) := f91.ext E51
            have f94 : Keep h0 h51 [] := f92.ext E51
            have f95 : n0 ≤ b49 := g_b49
            have f96 : Exa Z h51 b49 "java/lang/String" := A49.ext E51
            have f97 : Fld Z h51 b49 "java/lang/String" "value" "[B" .null := F_value_b49.ext E51
            have f98 : Fld Z h51 b49 "java/lang/String" "coder" "B" (.int (0 : Int32)) := F_coder_b49.ext E51
            have C52 : CHr Z own_EL s.vm h0 s.vm h51 := C50.trans (CHr.ext E51 C50.1)
            have sf52_b49 : Safe Z own_EL s.vm h51 b49 := Safe.ext E51 C50.1 sf50_b49
            have sf52_b51 : Safe Z own_EL s.vm h51 b51 := Safe.ext E51 C50.1 (Safe.new (Nat.le_of_eq g51.symm))
            have g_b51 : n0 ≤ b51 := Nat.le_trans Z49 (Nat.le_of_eq g51.symm)
            have Z51 : n0 ≤ h51.size := Nat.le_trans Z49 E51.1
            have V_b51 : Arv Z h51 b51 k51 .char (4 : Int32) [(.int (0 : Int32)), (.int (0 : Int32)), (.int (0 : Int32)), (.int (0 : Int32))] (.int (0 : Int32)) := (Arv.new A51 (by decide)).pad (pad_rep [] (.int (0 : Int32)) 4)
            obtain ⟨cl53, Ar53, aq53, aS53, aN53, aH53, aG53⟩ := V_b51
            have hin53 : ¬ ((0 : Int32) < 0 ∨ cl53.slots.size ≤ ((0 : Int32)).toNatClampNeg) := inb_of aS53 ⟨by decide, by decide⟩
            obtain ⟨T54, h54, X54, e54, W54, st54⟩ := stC X51 hx hZ e51 Ar53 (j := (0 : Int32)) hin53 (g := (mkF m 102 #[.val (.int p1), .val (.int p2), .val (.int p3), .val (.int p4), .val (.int p5), .val (.int p6), .val (.int p7), .val (.int p8)] [(.int p2), (.int (0 : Int32)), (.ref b51), (.ref b51), (.ref b49), (.ref b49)])) rfl rfl (hb hby d2_102)
            have V_b51_54 : Arv Z h54 b51 k51 .char (4 : Int32) [(.int (nar .char p2)), (.int (0 : Int32)), (.int (0 : Int32)), (.int (0 : Int32))] (.int (0 : Int32)) := Arv.set Ar53 aq53 aS53 aN53 aH53 aG53 (fits_nar_char _) W54 0 rfl (Nat.le_of_ble_eq_true rfl)
            have f99 : Sta Z h54 "java/lang/String" "COMPACT_STRINGS" "Z" (.int cz) := f93.wr W54
            have f100 : Keep h0 h54 [] := f94.wr W54 (Or.inr sz_b51)
            have f101 : n0 ≤ b49 := f95
            have f102 : Exa Z h54 b49 "java/lang/String" := f96.wr W54
            have f103 : Fld Z h54 b49 "java/lang/String" "value" "[B" .null := f97.other W54 (Or.inl ne_b49_b51)
            have f104 : Fld Z h54 b49 "java/lang/String" "coder" "B" (.int (0 : Int32)) := f98.other W54 (Or.inl ne_b49_b51)
            have f105 : n0 ≤ b51 := g_b51
            have C55 : CHr Z own_EL s.vm h0 s.vm h54 := C52.trans (CHr.wr W54 sf52_b51 C52.1)
            have sf55_b49 : Safe Z own_EL s.vm h54 b49 := Safe.wr W54 sf52_b51 C52.1 sf52_b49
            have sf55_b51 : Safe Z own_EL s.vm h54 b51 := Safe.wr W54 sf52_b51 C52.1 sf52_b51
            have N54 := Fr.snoc X54 N0 f105
            have Z54 : n0 ≤ h54.size := by rw [W54.size]; exact Z51
            obtain ⟨cl56, Ar56, aq56, aS56, aN56, aH56, aG56⟩ := V_b51_54
            have hin56 : ¬ ((1 : Int32) < 0 ∨ cl56.slots.size ≤ ((1 : Int32)).toNatClampNeg) := inb_of aS56 ⟨by decide, by decide⟩
            obtain ⟨T57, h57, X57, e57, W57, st57⟩ := stC X54 hx hZ e54 Ar56 (j := (1 : Int32)) hin56 (g := (mkF m 106 #[.val (.int p1), .val (.int p2), .val (.int p3), .val (.int p4), .val (.int p5), .val (.int p6), .val (.int p7), .val (.int p8)] [(.int p3), (.int (1 : Int32)), (.ref b51), (.ref b51), (.ref b49), (.ref b49)])) rfl rfl (hb hby d2_106)
            have V_b51_57 : Arv Z h57 b51 k51 .char (4 : Int32) [(.int (nar .char p2)), (.int (nar .char p3)), (.int (0 : Int32)), (.int (0 : Int32))] (.int (0 : Int32)) := Arv.set Ar56 aq56 aS56 aN56 aH56 aG56 (fits_nar_char _) W57 1 rfl (Nat.le_of_ble_eq_true rfl)
            have f106 : Sta Z h57 "java/lang/String" "COMPACT_STRINGS" "Z" (.int cz) := f99.wr W57
            have f107 : Keep h0 h57 [] := f100.wr W57 (Or.inr sz_b51)
            have f108 : n0 ≤ b49 := f101
            have f109 : Exa Z h57 b49 "java/lang/String" := f102.wr W57
            have f110 : Fld Z h57 b49 "java/lang/String" "value" "[B" .null := f103.other W57 (Or.inl ne_b49_b51)
            have f111 : Fld Z h57 b49 "java/lang/String" "coder" "B" (.int (0 : Int32)) := f104.other W57 (Or.inl ne_b49_b51)
            have f112 : n0 ≤ b51 := f105
            have C58 : CHr Z own_EL s.vm h0 s.vm h57 := C55.trans (CHr.wr W57 sf55_b51 C55.1)
            have sf58_b49 : Safe Z own_EL s.vm h57 b49 := Safe.wr W57 sf55_b51 C55.1 sf55_b49
            have sf58_b51 : Safe Z own_EL s.vm h57 b51 := Safe.wr W57 sf55_b51 C55.1 sf55_b51
            have N57 := Fr.snoc X57 N54 f112
            have Z57 : n0 ≤ h57.size := by rw [W57.size]; exact Z54
            obtain ⟨cl59, Ar59, aq59, aS59, aN59, aH59, aG59⟩ := V_b51_57
            have hin59 : ¬ ((2 : Int32) < 0 ∨ cl59.slots.size ≤ ((2 : Int32)).toNatClampNeg) := inb_of aS59 ⟨by decide, by decide⟩
            obtain ⟨T60, h60, X60, e60, W60, st60⟩ := stC X57 hx hZ e57 Ar59 (j := (2 : Int32)) hin59 (g := (mkF m 110 #[.val (.int p1), .val (.int p2), .val (.int p3), .val (.int p4), .val (.int p5), .val (.int p6), .val (.int p7), .val (.int p8)] [(.int p4), (.int (2 : Int32)), (.ref b51), (.ref b51), (.ref b49), (.ref b49)])) rfl rfl (hb hby d2_110)
            have V_b51_60 : Arv Z h60 b51 k51 .char (4 : Int32) [(.int (nar .char p2)), (.int (nar .char p3)), (.int (nar .char p4)), (.int (0 : Int32))] (.int (0 : Int32)) := Arv.set Ar59 aq59 aS59 aN59 aH59 aG59 (fits_nar_char _) W60 2 rfl (Nat.le_of_ble_eq_true rfl)
            have f113 : Sta Z h60 "java/lang/String" "COMPACT_STRINGS" "Z" (.int cz) := f106.wr W60
            have f114 : Keep h0 h60 [] := f107.wr W60 (Or.inr sz_b51)
            have f115 : n0 ≤ b49 := f108
            have f116 : Exa Z h60 b49 "java/lang/String" := f109.wr W60
            have f117 : Fld Z h60 b49 "java/lang/String" "value" "[B" .null := f110.other W60 (Or.inl ne_b49_b51)
            have f118 : Fld Z h60 b49 "java/lang/String" "coder" "B" (.int (0 : Int32)) := f111.other W60 (Or.inl ne_b49_b51)
            have f119 : n0 ≤ b51 := f112
            have C61 : CHr Z own_EL s.vm h0 s.vm h60 := C58.trans (CHr.wr W60 sf58_b51 C58.1)
            have sf61_b49 : Safe Z own_EL s.vm h60 b49 := Safe.wr W60 sf58_b51 C58.1 sf58_b49
            have sf61_b51 : Safe Z own_EL s.vm h60 b51 := Safe.wr W60 sf58_b51 C58.1 sf58_b51
            have N60 := Fr.snoc X60 N57 f119
            have Z60 : n0 ≤ h60.size := by rw [W60.size]; exact Z57
            obtain ⟨cl62, Ar62, aq62, aS62, aN62, aH62, aG62⟩ := V_b51_60
            have hin62 : ¬ ((3 : Int32) < 0 ∨ cl62.slots.size ≤ ((3 : Int32)).toNatClampNeg) := inb_of aS62 ⟨by decide, by decide⟩
            obtain ⟨T63, h63, X63, e63, W63, st63⟩ := stC X60 hx hZ e60 Ar62 (j := (3 : Int32)) hin62 (g := (mkF m 115 #[.val (.int p1), .val (.int p2), .val (.int p3), .val (.int p4), .val (.int p5), .val (.int p6), .val (.int p7), .val (.int p8)] [(.int p5), (.int (3 : Int32)), (.ref b51), (.ref b51), (.ref b49), (.ref b49)])) rfl rfl (hb hby d2_115)
            have V_b51_63 : Arv Z h63 b51 k51 .char (4 : Int32) [(.int (nar .char p2)), (.int (nar .char p3)), (.int (nar .char p4)), (.int (nar .char p5))] (.int (0 : Int32)) := Arv.set Ar62 aq62 aS62 aN62 aH62 aG62 (fits_nar_char _) W63 3 rfl (Nat.le_of_ble_eq_true rfl)
            have f120 : Sta Z h63 "java/lang/String" "COMPACT_STRINGS" "Z" (.int cz) := f113.wr W63
            have f121 : Keep h0 h63 [] := f114.wr W63 (Or.inr sz_b51)
            have f122 : n0 ≤ b49 := f115
            have f123 : Exa Z h63 b49 "java/lang/String" := f116.wr W63
            have f124 : Fld Z h63 b49 "java/lang/String" "value" "[B" .null := f117.other W63 (Or.inl ne_b49_b51)
            have f125 : Fld Z h63 b49 "java/lang/String" "coder" "B" (.int (0 : Int32)) := f118.other W63 (Or.inl ne_b49_b51)
            have f126 : n0 ≤ b51 := f119
            have C64 : CHr Z own_EL s.vm h0 s.vm h63 := C61.trans (CHr.wr W63 sf61_b51 C61.1)
            have sf64_b49 : Safe Z own_EL s.vm h63 b49 := Safe.wr W63 sf61_b51 C61.1 sf61_b49
            have sf64_b51 : Safe Z own_EL s.vm h63 b51 := Safe.wr W63 sf61_b51 C61.1 sf61_b51
            have N63 := Fr.snoc X63 N60 f126
            have Z63 : n0 ≤ h63.size := by rw [W63.size]; exact Z60
            obtain ⟨_, _, ⟨T65, L65, k65, n65⟩, -, X65, ⟨Lc65, hQ65, l65, y65, z65⟩, st65⟩ := X63.specialBack hx (y := (⟨"java/lang/String", "<init>", "([C)V"⟩ : MethodName)) rfl hown (mvT hZ (hw _ (List.mem_of_getElem? (i := 12) rfl))) (mvT hZ (hw _ (List.mem_of_getElem? (i := 13) rfl))) (mvT hZ (hw _ (List.mem_of_getElem? (i := 14) rfl))) (by decide) (StrChars.Road.backV (W := 1) hZ (fun d hd => hw d (own_words d hd)) (kI := 4) (hw _ (List.mem_of_getElem? (i := 9) rfl)) (cs := [(nar .char p2), (nar .char p3), (nar .char p4), (nar .char p5)]) (bs := [(nar .char p2).toInt8.toInt32, (nar .char p3).toInt8.toInt32, (nar .char p4).toInt8.toInt32, (nar .char p5).toInt8.toInt32]) (n := 4) f122 Z63 f123 f124 f125 V_b51_63 f120 hcs rfl rfl (by decide) (by decide) (List.forall_mem_cons.mpr ⟨own_nc hp2, (List.forall_mem_cons.mpr ⟨own_nc hp3, (List.forall_mem_cons.mpr ⟨own_nc hp4, (List.forall_mem_cons.mpr ⟨own_nc hp5, (fun _ h => nomatch h)⟩)⟩)⟩)⟩) rfl (by decide) (by decide)) (g := (mkF m 116 #[.val (.int p1), .val (.int p2), .val (.int p3), .val (.int p4), .val (.int p5), .val (.int p6), .val (.int p7), .val (.int p8)] [(.ref b51), (.ref b49), (.ref b49)])) rfl (by rw [hml]; rfl) (Steps.refl _) (a := b49) (argsL := [(.ref b51)]) (rest := [(.ref b49)]) (lenOf pd___C_V_325 rfl) rfl (by show 2 * 0 + _ ≤ _; exact Nat.le_of_eq rfl) (hb hby d2_116) (fun _ _ => ⟨rfl, e63, (by decide : 2 + 1 ≤ _), (by decide : 8 + 4 ≤ _)⟩)
            dsimp only [Pt.U, Pt.locs, Pt.cells, Pt.slots] at X65 l65 y65 z65 st65 hQ65
            subst l65 y65 z65
            obtain ⟨rfl, N65q, K65, fk65_0, fk65_1, t65, kb65, -, -, -, fk65_2, fk65_3⟩ := hQ65
            have f127 : Keep h0 T65.heap [] := f121.trans K65 (fun x hx => by cases List.mem_singleton.mp hx; exact Or.inr sz_b49)
            have f128 : n0 ≤ b49 := f122
            have f129 : n0 ≤ b51 := f126
            have f130 : Arv Z T65.heap b51 k51 .char (4 : Int32) [(.int (nar .char p2)), (.int (nar .char p3)), (.int (nar .char p4)), (.int (nar .char p5))] (.int (0 : Int32)) := V_b51_63.keep K65 (by simp [(Ne.symm ne_b49_b51)])
            have C66 : CHr Z own_EL s.vm h0 s.vm T65.heap := C64.trans (CHr.keep K65 (sfS sf64_b49 sf0) C64.1)
            have sf66_b49 : Safe Z own_EL s.vm T65.heap b49 := Safe.keep K65 (sfS sf64_b49 sf0) C64.1 sf64_b49
            have sf66_b51 : Safe Z own_EL s.vm T65.heap b51 := Safe.keep K65 (sfS sf64_b49 sf0) C64.1 sf64_b51
            have Z65 : n0 ≤ T65.heap.size := Nat.le_trans Z63 K65.1
            have N65 := Fr.app N63 N65q
            obtain ⟨fs, hr, hrun, hended, hW, hsame⟩ := X65.leave (v := some (.ref b49)) (fun h => by rw [Bd.returns] at h; cases h) (hlocks := Bd.notSynchronized)
            refine ⟨_, _, pre_48 _ ?_, hrun, hended, _, _, rfl, ?_, (by show CHr Z own_EL s.vm s.heap T65.vm T65.heap; rw [hh]; exact C66.trans (CHv.at (s := s) (vm0 := s.vm) X65 hZ hEL C66.1)), ReturnedEndW.of_narrow ⟨_, rfl⟩ hW (hsame.mono (by decide) (by decide))⟩
            · show Steps p.tables e below (s₁.setTop (mkF m 89 #[.val (.int p1), .val (.int p2), .val (.int p3), .val (.int p4), .val (.int p5), .val (.int p6), .val (.int p7), .val (.int p8)] [(.int (4 : Int32)), (.int p1)])) _
              refine XS.icmpNo X0.here hx rfl (hb hby d2_89) rfl (teq hc89).2 ?_
              show Steps p.tables e below (s₁.setTop (mkF m 92 #[.val (.int p1), .val (.int p2), .val (.int p3), .val (.int p4), .val (.int p5), .val (.int p6), .val (.int p7), .val (.int p8)] [])) _
              refine st49 _ ?_
              show Steps p.tables e below (T49.setTop (mkF m 95 #[.val (.int p1), .val (.int p2), .val (.int p3), .val (.int p4), .val (.int p5), .val (.int p6), .val (.int p7), .val (.int p8)] [(.ref b49)])) _
              refine XS.dup X49.here hx rfl (hb hby d2_95) rfl rfl ?_
              show Steps p.tables e below (T49.setTop (mkF m 96 #[.val (.int p1), .val (.int p2), .val (.int p3), .val (.int p4), .val (.int p5), .val (.int p6), .val (.int p7), .val (.int p8)] [(.ref b49), (.ref b49)])) _
              refine XS.iconst X49.here hx rfl (hb hby d2_96) ?_
              show Steps p.tables e below (T49.setTop (mkF m 97 #[.val (.int p1), .val (.int p2), .val (.int p3), .val (.int p4), .val (.int p5), .val (.int p6), .val (.int p7), .val (.int p8)] [(.int (4 : Int32)), (.ref b49), (.ref b49)])) _
              refine st51 _ ?_
              show Steps p.tables e below (T51.setTop (mkF m 99 #[.val (.int p1), .val (.int p2), .val (.int p3), .val (.int p4), .val (.int p5), .val (.int p6), .val (.int p7), .val (.int p8)] [(.ref b51), (.ref b49), (.ref b49)])) _
              refine XS.dup X51.here hx rfl (hb hby d2_99) rfl rfl ?_
              show Steps p.tables e below (T51.setTop (mkF m 100 #[.val (.int p1), .val (.int p2), .val (.int p3), .val (.int p4), .val (.int p5), .val (.int p6), .val (.int p7), .val (.int p8)] [(.ref b51), (.ref b51), (.ref b49), (.ref b49)])) _
              refine XS.iconst X51.here hx rfl (hb hby d2_100) ?_
              show Steps p.tables e below (T51.setTop (mkF m 101 #[.val (.int p1), .val (.int p2), .val (.int p3), .val (.int p4), .val (.int p5), .val (.int p6), .val (.int p7), .val (.int p8)] [(.int (0 : Int32)), (.ref b51), (.ref b51), (.ref b49), (.ref b49)])) _
              refine XS.iloadN X51.here hx rfl (hb hby d2_101) rfl ?_
              show Steps p.tables e below (T51.setTop (mkF m 102 #[.val (.int p1), .val (.int p2), .val (.int p3), .val (.int p4), .val (.int p5), .val (.int p6), .val (.int p7), .val (.int p8)] [(.int p2), (.int (0 : Int32)), (.ref b51), (.ref b51), (.ref b49), (.ref b49)])) _
              refine st54 _ ?_
              show Steps p.tables e below (T54.setTop (mkF m 103 #[.val (.int p1), .val (.int p2), .val (.int p3), .val (.int p4), .val (.int p5), .val (.int p6), .val (.int p7), .val (.int p8)] [(.ref b51), (.ref b49), (.ref b49)])) _
              refine XS.dup X54.here hx rfl (hb hby d2_103) rfl rfl ?_
              show Steps p.tables e below (T54.setTop (mkF m 104 #[.val (.int p1), .val (.int p2), .val (.int p3), .val (.int p4), .val (.int p5), .val (.int p6), .val (.int p7), .val (.int p8)] [(.ref b51), (.ref b51), (.ref b49), (.ref b49)])) _
              refine XS.iconst X54.here hx rfl (hb hby d2_104) ?_
              show Steps p.tables e below (T54.setTop (mkF m 105 #[.val (.int p1), .val (.int p2), .val (.int p3), .val (.int p4), .val (.int p5), .val (.int p6), .val (.int p7), .val (.int p8)] [(.int (1 : Int32)), (.ref b51), (.ref b51), (.ref b49), (.ref b49)])) _
              refine XS.iloadN X54.here hx rfl (hb hby d2_105) rfl ?_
              show Steps p.tables e below (T54.setTop (mkF m 106 #[.val (.int p1), .val (.int p2), .val (.int p3), .val (.int p4), .val (.int p5), .val (.int p6), .val (.int p7), .val (.int p8)] [(.int p3), (.int (1 : Int32)), (.ref b51), (.ref b51), (.ref b49), (.ref b49)])) _
              refine st57 _ ?_
              show Steps p.tables e below (T57.setTop (mkF m 107 #[.val (.int p1), .val (.int p2), .val (.int p3), .val (.int p4), .val (.int p5), .val (.int p6), .val (.int p7), .val (.int p8)] [(.ref b51), (.ref b49), (.ref b49)])) _
              refine XS.dup X57.here hx rfl (hb hby d2_107) rfl rfl ?_
              show Steps p.tables e below (T57.setTop (mkF m 108 #[.val (.int p1), .val (.int p2), .val (.int p3), .val (.int p4), .val (.int p5), .val (.int p6), .val (.int p7), .val (.int p8)] [(.ref b51), (.ref b51), (.ref b49), (.ref b49)])) _
              refine XS.iconst X57.here hx rfl (hb hby d2_108) ?_
              show Steps p.tables e below (T57.setTop (mkF m 109 #[.val (.int p1), .val (.int p2), .val (.int p3), .val (.int p4), .val (.int p5), .val (.int p6), .val (.int p7), .val (.int p8)] [(.int (2 : Int32)), (.ref b51), (.ref b51), (.ref b49), (.ref b49)])) _
              refine XS.iloadN X57.here hx rfl (hb hby d2_109) rfl ?_
              show Steps p.tables e below (T57.setTop (mkF m 110 #[.val (.int p1), .val (.int p2), .val (.int p3), .val (.int p4), .val (.int p5), .val (.int p6), .val (.int p7), .val (.int p8)] [(.int p4), (.int (2 : Int32)), (.ref b51), (.ref b51), (.ref b49), (.ref b49)])) _
              refine st60 _ ?_
              show Steps p.tables e below (T60.setTop (mkF m 111 #[.val (.int p1), .val (.int p2), .val (.int p3), .val (.int p4), .val (.int p5), .val (.int p6), .val (.int p7), .val (.int p8)] [(.ref b51), (.ref b49), (.ref b49)])) _
              refine XS.dup X60.here hx rfl (hb hby d2_111) rfl rfl ?_
              show Steps p.tables e below (T60.setTop (mkF m 112 #[.val (.int p1), .val (.int p2), .val (.int p3), .val (.int p4), .val (.int p5), .val (.int p6), .val (.int p7), .val (.int p8)] [(.ref b51), (.ref b51), (.ref b49), (.ref b49)])) _
              refine XS.iconst X60.here hx rfl (hb hby d2_112) ?_
              show Steps p.tables e below (T60.setTop (mkF m 113 #[.val (.int p1), .val (.int p2), .val (.int p3), .val (.int p4), .val (.int p5), .val (.int p6), .val (.int p7), .val (.int p8)] [(.int (3 : Int32)), (.ref b51), (.ref b51), (.ref b49), (.ref b49)])) _
              refine XS.iload X60.here hx rfl (hb hby d2_113) rfl ?_
              show Steps p.tables e below (T60.setTop (mkF m 115 #[.val (.int p1), .val (.int p2), .val (.int p3), .val (.int p4), .val (.int p5), .val (.int p6), .val (.int p7), .val (.int p8)] [(.int p5), (.int (3 : Int32)), (.ref b51), (.ref b51), (.ref b49), (.ref b49)])) _
              refine st63 _ ?_
              show Steps p.tables e below (T63.setTop (mkF m 116 #[.val (.int p1), .val (.int p2), .val (.int p3), .val (.int p4), .val (.int p5), .val (.int p6), .val (.int p7), .val (.int p8)] [(.ref b51), (.ref b49), (.ref b49)])) _
              refine st65.trans ?_
              show Steps p.tables e below (T65.setTop (mkF m 119 #[.val (.int p1), .val (.int p2), .val (.int p3), .val (.int p4), .val (.int p5), .val (.int p6), .val (.int p7), .val (.int p8)] [(.ref b49)])) _
              exact X65.areturnOut hx rfl Bd.returns rfl (hb hby d2_119) hr
            · show Q_rm_mk Z p1 p2 p3 p4 p5 p6 p7 p8 cz h0 n0 _ T65.heap _
              have eL : (own_cs p1 p2 p3 p4 p5 p6 p7 p8) = [nar .char p2, nar .char p3, nar .char p4, nar .char p5] := by rw [own_cs, if_neg hc1, if_neg hc17, if_neg hc37, if_neg hc61, if_pos hc89]
              refine ⟨b49, t65, kb65, rfl, N65, f127, fk65_0, fk65_1, fk65_2, ?_⟩
              rw [eL]
              exact fk65_3
          · have pre_67 : ∀ t, Steps p.tables e below (s₁.setTop (mkF m 122 #[.val (.int p1), .val (.int p2), .val (.int p3), .val (.int p4), .val (.int p5), .val (.int p6), .val (.int p7), .val (.int p8)] [(.int (5 : Int32)), (.int p1)])) t → Steps p.tables e below (s₁.setTop (entryFrame m #[(.int p1), (.int p2), (.int p3), (.int p4), (.int p5), (.int p6), (.int p7), (.int p8)] 8)) t := by
              intro t kt
              refine pre_48 _ ?_
              show Steps p.tables e below (s₁.setTop (mkF m 89 #[.val (.int p1), .val (.int p2), .val (.int p3), .val (.int p4), .val (.int p5), .val (.int p6), .val (.int p7), .val (.int p8)] [(.int (4 : Int32)), (.int p1)])) _
              refine XS.icmpYes X0.here hx rfl (pc0 := 89) (pc' := 120) rfl (hb hby d2_89) rfl (feq hc89).2 (by decide) (by decide) ?_
              show Steps p.tables e below (s₁.setTop (mkF m 120 #[.val (.int p1), .val (.int p2), .val (.int p3), .val (.int p4), .val (.int p5), .val (.int p6), .val (.int p7), .val (.int p8)] [])) _
              refine XS.iloadN X0.here hx rfl (hb hby d2_120) rfl ?_
              show Steps p.tables e below (s₁.setTop (mkF m 121 #[.val (.int p1), .val (.int p2), .val (.int p3), .val (.int p4), .val (.int p5), .val (.int p6), .val (.int p7), .val (.int p8)] [(.int p1)])) _
              refine XS.iconst X0.here hx rfl (hb hby d2_121) ?_
              exact kt
            by_cases hc122 : p1 = (5 : Int32)
            · obtain ⟨T68, h68, X68, e68, E68, A68, D68, -, st68⟩ := newO X0 hx hZ hown (hw _ (List.mem_of_getElem? (i := 8) rfl)) (hw _ (List.mem_of_getElem? (i := 9) rfl)) (hw _ (List.mem_of_getElem? (i := 10) rfl)) e0 (g := (mkF m 125 #[.val (.int p1), .val (.int p2), .val (.int p3), .val (.int p4), .val (.int p5), .val (.int p6), .val (.int p7), .val (.int p8)] [])) rfl (hb hby d2_125) (by decide) (by decide)
              obtain ⟨b68, g68⟩ : ∃ z, z = h0.size := ⟨_, rfl⟩
              rw [← g68] at A68 D68 st68
              have sz_b68 : h0.size ≤ b68 := Nat.le_trans (Keep.refl h0 []).1 (Nat.le_of_eq g68.symm)
              have f131 : Sta Z h68 "java/lang/String" "COMPACT_STRINGS" "Z" (.int cz) := S_CS.ext E68
              have f132 : Keep h0 h68 [] := (Keep.refl h0 []).ext E68
              have C69 : CHr Z own_EL s.vm h0 s.vm h68 := C0.trans (CHr.ext E68 C0.1)
              have sf69_b68 : Safe Z own_EL s.vm h68 b68 := Safe.ext E68 C0.1 (Safe.new (Nat.le_of_eq g68.symm))
              have g_b68 : n0 ≤ b68 := Nat.le_trans Z0 (Nat.le_of_eq g68.symm)
              have Z68 : n0 ≤ h68.size := Nat.le_trans Z0 E68.1
              have F_value_b68 : Fld Z h68 b68 "java/lang/String" "value" "[B" .null := D68 (Or.inr (hw _ (List.mem_of_getElem? (i := 24) rfl))) (ty := (.array .byte)) (by decide)
              have F_coder_b68 : Fld Z h68 b68 "java/lang/String" "coder" "B" (.int (0 : Int32)) := D68 (Or.inr (hw _ (List.mem_of_getElem? (i := 25) rfl))) (ty := .byte) (by decide)
              obtain ⟨T70, h70, k70, X70, e70, E70, A70, st70⟩ := newP X68 hx hZ (hw _ (List.mem_of_getElem? (i := 11) rfl)) e68 (g := (mkF m 130 #[.val (.int p1), .val (.int p2), .val (.int p3), .val (.int p4), .val (.int p5), .val (.int p6), .val (.int p7), .val (.int p8)] [(.int (5 : Int32)), (.ref b68), (.ref b68)])) rfl (hb hby d2_130) rfl (by decide) (cap := 5) (by decide) (by decide) (by decide) (by decide)
              obtain ⟨b70, g70⟩ : ∃ z, z = h68.size := ⟨_, rfl⟩
              rw [← g70] at A70 st70
              have sz_b70 : h0.size ≤ b70 := Nat.le_trans f132.1 (Nat.le_of_eq g70.symm)
              have ne_b68_b70 : b68 ≠ b70 := Nat.ne_of_lt (Nat.lt_of_lt_of_le A68.lt (Nat.le_of_eq g70.symm))
              have f133 : Sta Z h70 "java/lang/String" "COMPACT_STRINGS" "Z" (.int cz) := f131.ext E70
              have f134 : Keep h0 h70 [] := f132.ext E70
              have f135 : n0 ≤ b68 := g_b68
              have f136 : Exa Z h70 b68 "java/lang/String" := A68.ext E70
              have f137 : Fld Z h70 b68 "java/lang/String" "value" "[B" .null := F_value_b68.ext E70
              have f138 : Fld Z h70 b68 "java/lang/String" "coder" "B" (.int (0 : Int32)) := F_coder_b68.ext E70
              have C71 : CHr Z own_EL s.vm h0 s.vm h70 := C69.trans (CHr.ext E70 C69.1)
              have sf71_b68 : Safe Z own_EL s.vm h70 b68 := Safe.ext E70 C69.1 sf69_b68
              have sf71_b70 : Safe Z own_EL s.vm h70 b70 := Safe.ext E70 C69.1 (Safe.new (Nat.le_of_eq g70.symm))
              have g_b70 : n0 ≤ b70 := Nat.le_trans Z68 (Nat.le_of_eq g70.symm)
              have Z70 : n0 ≤ h70.size := Nat.le_trans Z68 E70.1
              have V_b70 : Arv Z h70 b70 k70 .char (5 : Int32) [(.int (0 : Int32)), (.int (0 : Int32)), (.int (0 : Int32)), (.int (0 : Int32)), (.int (0 : Int32))] (.int (0 : Int32)) := (Arv.new A70 (by decide)).pad (pad_rep [] (.int (0 : Int32)) 5)
              obtain ⟨cl72, Ar72, aq72, aS72, aN72, aH72, aG72⟩ := V_b70
              have hin72 : ¬ ((0 : Int32) < 0 ∨ cl72.slots.size ≤ ((0 : Int32)).toNatClampNeg) := inb_of aS72 ⟨by decide, by decide⟩
              obtain ⟨T73, h73, X73, e73, W73, st73⟩ := stC X70 hx hZ e70 Ar72 (j := (0 : Int32)) hin72 (g := (mkF m 135 #[.val (.int p1), .val (.int p2), .val (.int p3), .val (.int p4), .val (.int p5), .val (.int p6), .val (.int p7), .val (.int p8)] [(.int p2), (.int (0 : Int32)), (.ref b70), (.ref b70), (.ref b68), (.ref b68)])) rfl rfl (hb hby d2_135)
              have V_b70_73 : Arv Z h73 b70 k70 .char (5 : Int32) [(.int (nar .char p2)), (.int (0 : Int32)), (.int (0 : Int32)), (.int (0 : Int32)), (.int (0 : Int32))] (.int (0 : Int32)) := Arv.set Ar72 aq72 aS72 aN72 aH72 aG72 (fits_nar_char _) W73 0 rfl (Nat.le_of_ble_eq_true rfl)
              have f139 : Sta Z h73 "java/lang/String" "COMPACT_STRINGS" "Z" (.int cz) := f133.wr W73
              have f140 : Keep h0 h73 [] := f134.wr W73 (Or.inr sz_b70)
              have f141 : n0 ≤ b68 := f135
              have f142 : Exa Z h73 b68 "java/lang/String" := f136.wr W73
              have f143 : Fld Z h73 b68 "java/lang/String" "value" "[B" .null := f137.other W73 (Or.inl ne_b68_b70)
              have f144 : Fld Z h73 b68 "java/lang/String" "coder" "B" (.int (0 : Int32)) := f138.other W73 (Or.inl ne_b68_b70)
              have f145 : n0 ≤ b70 := g_b70
              have C74 : CHr Z own_EL s.vm h0 s.vm h73 := C71.trans (CHr.wr W73 sf71_b70 C71.1)
              have sf74_b68 : Safe Z own_EL s.vm h73 b68 := Safe.wr W73 sf71_b70 C71.1 sf71_b68
              have sf74_b70 : Safe Z own_EL s.vm h73 b70 := Safe.wr W73 sf71_b70 C71.1 sf71_b70
              have N73 := Fr.snoc X73 N0 f145
              have Z73 : n0 ≤ h73.size := by rw [W73.size]; exact Z70
              obtain ⟨cl75, Ar75, aq75, aS75, aN75, aH75, aG75⟩ := V_b70_73
              have hin75 : ¬ ((1 : Int32) < 0 ∨ cl75.slots.size ≤ ((1 : Int32)).toNatClampNeg) := inb_of aS75 ⟨by decide, by decide⟩
              obtain ⟨T76, h76, X76, e76, W76, st76⟩ := stC X73 hx hZ e73 Ar75 (j := (1 : Int32)) hin75 (g := (mkF m 139 #[.val (.int p1), .val (.int p2), .val (.int p3), .val (.int p4), .val (.int p5), .val (.int p6), .val (.int p7), .val (.int p8)] [(.int p3), (.int (1 : Int32)), (.ref b70), (.ref b70), (.ref b68), (.ref b68)])) rfl rfl (hb hby d2_139)
              have V_b70_76 : Arv Z h76 b70 k70 .char (5 : Int32) [(.int (nar .char p2)), (.int (nar .char p3)), (.int (0 : Int32)), (.int (0 : Int32)), (.int (0 : Int32))] (.int (0 : Int32)) := Arv.set Ar75 aq75 aS75 aN75 aH75 aG75 (fits_nar_char _) W76 1 rfl (Nat.le_of_ble_eq_true rfl)
              have f146 : Sta Z h76 "java/lang/String" "COMPACT_STRINGS" "Z" (.int cz) := f139.wr W76
              have f147 : Keep h0 h76 [] := f140.wr W76 (Or.inr sz_b70)
              have f148 : n0 ≤ b68 := f141
              have f149 : Exa Z h76 b68 "java/lang/String" := f142.wr W76
              have f150 : Fld Z h76 b68 "java/lang/String" "value" "[B" .null := f143.other W76 (Or.inl ne_b68_b70)
              have f151 : Fld Z h76 b68 "java/lang/String" "coder" "B" (.int (0 : Int32)) := f144.other W76 (Or.inl ne_b68_b70)
              have f152 : n0 ≤ b70 := f145
              have C77 : CHr Z own_EL s.vm h0 s.vm h76 := C74.trans (CHr.wr W76 sf74_b70 C74.1)
              have sf77_b68 : Safe Z own_EL s.vm h76 b68 := Safe.wr W76 sf74_b70 C74.1 sf74_b68
              have sf77_b70 : Safe Z own_EL s.vm h76 b70 := Safe.wr W76 sf74_b70 C74.1 sf74_b70
              have N76 := Fr.snoc X76 N73 f152
              have Z76 : n0 ≤ h76.size := by rw [W76.size]; exact Z73
              obtain ⟨cl78, Ar78, aq78, aS78, aN78, aH78, aG78⟩ := V_b70_76
              have hin78 : ¬ ((2 : Int32) < 0 ∨ cl78.slots.size ≤ ((2 : Int32)).toNatClampNeg) := inb_of aS78 ⟨by decide, by decide⟩
              obtain ⟨T79, h79, X79, e79, W79, st79⟩ := stC X76 hx hZ e76 Ar78 (j := (2 : Int32)) hin78 (g := (mkF m 143 #[.val (.int p1), .val (.int p2), .val (.int p3), .val (.int p4), .val (.int p5), .val (.int p6), .val (.int p7), .val (.int p8)] [(.int p4), (.int (2 : Int32)), (.ref b70), (.ref b70), (.ref b68), (.ref b68)])) rfl rfl (hb hby d2_143)
              have V_b70_79 : Arv Z h79 b70 k70 .char (5 : Int32) [(.int (nar .char p2)), (.int (nar .char p3)), (.int (nar .char p4)), (.int (0 : Int32)), (.int (0 : Int32))] (.int (0 : Int32)) := Arv.set Ar78 aq78 aS78 aN78 aH78 aG78 (fits_nar_char _) W79 2 rfl (Nat.le_of_ble_eq_true rfl)
              have f153 : Sta Z h79 "java/lang/String" "COMPACT_STRINGS" "Z" (.int cz) := f146.wr W79
              have f154 : Keep h0 h79 [] := f147.wr W79 (Or.inr sz_b70)
              have f155 : n0 ≤ b68 := f148
              have f156 : Exa Z h79 b68 "java/lang/String" := f149.wr W79
              have f157 : Fld Z h79 b68 "java/lang/String" "value" "[B" .null := f150.other W79 (Or.inl ne_b68_b70)
              have f158 : Fld Z h79 b68 "java/lang/String" "coder" "B" (.int (0 : Int32)) := f151.other W79 (Or.inl ne_b68_b70)
              have f159 : n0 ≤ b70 := f152
              have C80 : CHr Z own_EL s.vm h0 s.vm h79 := C77.trans (CHr.wr W79 sf77_b70 C77.1)
              have sf80_b68 : Safe Z own_EL s.vm h79 b68 := Safe.wr W79 sf77_b70 C77.1 sf77_b68
              have sf80_b70 : Safe Z own_EL s.vm h79 b70 := Safe.wr W79 sf77_b70 C77.1 sf77_b70
              have N79 := Fr.snoc X79 N76 f159
              have Z79 : n0 ≤ h79.size := by rw [W79.size]; exact Z76
              obtain ⟨cl81, Ar81, aq81, aS81, aN81, aH81, aG81⟩ := V_b70_79
              have hin81 : ¬ ((3 : Int32) < 0 ∨ cl81.slots.size ≤ ((3 : Int32)).toNatClampNeg) := inb_of aS81 ⟨by decide, by decide⟩
              obtain ⟨T82, h82, X82, e82, W82, st82⟩ := stC X79 hx hZ e79 Ar81 (j := (3 : Int32)) hin81 (g := (mkF m 148 #[.val (.int p1), .val (.int p2), .val (.int p3), .val (.int p4), .val (.int p5), .val (.int p6), .val (.int p7), .val (.int p8)] [(.int p5), (.int (3 : Int32)), (.ref b70), (.ref b70), (.ref b68), (.ref b68)])) rfl rfl (hb hby d2_148)
              have V_b70_82 : Arv Z h82 b70 k70 .char (5 : Int32) [(.int (nar .char p2)), (.int (nar .char p3)), (.int (nar .char p4)), (.int (nar .char p5)), (.int (0 : Int32))] (.int (0 : Int32)) := Arv.set Ar81 aq81 aS81 aN81 aH81 aG81 (fits_nar_char _) W82 3 rfl (Nat.le_of_ble_eq_true rfl)
              have f160 : Sta Z h82 "java/lang/String" "COMPACT_STRINGS" "Z" (.int cz) := f153.wr W82
              have f161 : Keep h0 h82 [] := f154.wr W82 (Or.inr sz_b70)
              have f162 : n0 ≤ b68 := f155
              have f163 : Exa Z h82 b68 "java/lang/String" := f156.wr W82
              have f164 : Fld Z h82 b68 "java/lang/String" "value" "[B" .null := f157.other W82 (Or.inl ne_b68_b70)
              have f165 : Fld Z h82 b68 "java/lang/String" "coder" "B" (.int (0 : Int32)) := f158.other W82 (Or.inl ne_b68_b70)
              have f166 : n0 ≤ b70 := f159
              have C83 : CHr Z own_EL s.vm h0 s.vm h82 := C80.trans (CHr.wr W82 sf80_b70 C80.1)
              have sf83_b68 : Safe Z own_EL s.vm h82 b68 := Safe.wr W82 sf80_b70 C80.1 sf80_b68
              have sf83_b70 : Safe Z own_EL s.vm h82 b70 := Safe.wr W82 sf80_b70 C80.1 sf80_b70
              have N82 := Fr.snoc X82 N79 f166
              have Z82 : n0 ≤ h82.size := by rw [W82.size]; exact Z79
              obtain ⟨cl84, Ar84, aq84, aS84, aN84, aH84, aG84⟩ := V_b70_82
              have hin84 : ¬ ((4 : Int32) < 0 ∨ cl84.slots.size ≤ ((4 : Int32)).toNatClampNeg) := inb_of aS84 ⟨by decide, by decide⟩
              obtain ⟨T85, h85, X85, e85, W85, st85⟩ := stC X82 hx hZ e82 Ar84 (j := (4 : Int32)) hin84 (g := (mkF m 153 #[.val (.int p1), .val (.int p2), .val (.int p3), .val (.int p4), .val (.int p5), .val (.int p6), .val (.int p7), .val (.int p8)] [(.int p6), (.int (4 : Int32)), (.ref b70), (.ref b70), (.ref b68), (.ref b68)])) rfl rfl (hb hby d2_153)
              have V_b70_85 : Arv Z h85 b70 k70 .char (5 : Int32) [(.int (nar .char p2)), (.int (nar .char p3)), (.int (nar .char p4)), (.int (nar .char p5)), (.int (nar .char p6))] (.int (0 : Int32)) := Arv.set Ar84 aq84 aS84 aN84 aH84 aG84 (fits_nar_char _) W85 4 rfl (Nat.le_of_ble_eq_true rfl)
              have f167 : Sta Z h85 "java/lang/String" "COMPACT_STRINGS" "Z" (.int cz) := f160.wr W85
              have f168 : Keep h0 h85 [] := f161.wr W85 (Or.inr sz_b70)
              have f169 : n0 ≤ b68 := f162
              have f170 : Exa Z h85 b68 "java/lang/String" := f163.wr W85
              have f171 : Fld Z h85 b68 "java/lang/String" "value" "[B" .null := f164.other W85 (Or.inl ne_b68_b70)
              have f172 : Fld Z h85 b68 "java/lang/String" "coder" "B" (.int (0 : Int32)) := f165.other W85 (Or.inl ne_b68_b70)
              have f173 : n0 ≤ b70 := f166
              have C86 : CHr Z own_EL s.vm h0 s.vm h85 := C83.trans (CHr.wr W85 sf83_b70 C83.1)
              have sf86_b68 : Safe Z own_EL s.vm h85 b68 := Safe.wr W85 sf83_b70 C83.1 sf83_b68
              have sf86_b70 : Safe Z own_EL s.vm h85 b70 := Safe.wr W85 sf83_b70 C83.1 sf83_b70
              have N85 := Fr.snoc X85 N82 f173
              have Z85 : n0 ≤ h85.size := by rw [W85.size]; exact Z82
              obtain ⟨_, _, ⟨T87, L87, k87, n87⟩, -, X87, ⟨Lc87, hQ87, l87, y87, z87⟩, st87⟩ := X85.specialBack hx (y := (⟨"java/lang/String", "<init>", "([C)V"⟩ : MethodName)) rfl hown (mvT hZ (hw _ (List.mem_of_getElem? (i := 12) rfl))) (mvT hZ (hw _ (List.mem_of_getElem? (i := 13) rfl))) (mvT hZ (hw _ (List.mem_of_getElem? (i := 14) rfl))) (by decide) (StrChars.Road.backV (W := 1) hZ (fun d hd => hw d (own_words d hd)) (kI := 4) (hw _ (List.mem_of_getElem? (i := 9) rfl)) (cs := [(nar .char p2), (nar .char p3), (nar .char p4), (nar .char p5), (nar .char p6)]) (bs := [(nar .char p2).toInt8.toInt32, (nar .char p3).toInt8.toInt32, (nar .char p4).toInt8.toInt32, (nar .char p5).toInt8.toInt32, (nar .char p6).toInt8.toInt32]) (n := 5) f169 Z85 f170 f171 f172 V_b70_85 f167 hcs rfl rfl (by decide) (by decide) (List.forall_mem_cons.mpr ⟨own_nc hp2, (List.forall_mem_cons.mpr ⟨own_nc hp3, (List.forall_mem_cons.mpr ⟨own_nc hp4, (List.forall_mem_cons.mpr ⟨own_nc hp5, (List.forall_mem_cons.mpr ⟨own_nc hp6, (fun _ h => nomatch h)⟩)⟩)⟩)⟩)⟩) rfl (by decide) (by decide)) (g := (mkF m 154 #[.val (.int p1), .val (.int p2), .val (.int p3), .val (.int p4), .val (.int p5), .val (.int p6), .val (.int p7), .val (.int p8)] [(.ref b70), (.ref b68), (.ref b68)])) rfl (by rw [hml]; rfl) (Steps.refl _) (a := b68) (argsL := [(.ref b70)]) (rest := [(.ref b68)]) (lenOf pd___C_V_325 rfl) rfl (by show 2 * 0 + _ ≤ _; exact Nat.le_of_eq rfl) (hb hby d2_154) (fun _ _ => ⟨rfl, e85, (by decide : 2 + 1 ≤ _), (by decide : 9 + 5 ≤ _)⟩)
              dsimp only [Pt.U, Pt.locs, Pt.cells, Pt.slots] at X87 l87 y87 z87 st87 hQ87
              subst l87 y87 z87
              obtain ⟨rfl, N87q, K87, fk87_0, fk87_1, t87, kb87, -, -, -, fk87_2, fk87_3⟩ := hQ87
              have f174 : Keep h0 T87.heap [] := f168.trans K87 (fun x hx => by cases List.mem_singleton.mp hx; exact Or.inr sz_b68)
              have f175 : n0 ≤ b68 := f169
              have f176 : n0 ≤ b70 := f173
              have f177 : Arv Z T87.heap b70 k70 .char (5 : Int32) [(.int (nar .char p2)), (.int (nar .char p3)), (.int (nar .char p4)), (.int (nar .char p5)), (.int (nar .char p6))] (.int (0 : Int32)) := V_b70_85.keep K87 (by simp [(Ne.symm ne_b68_b70)])
              have C88 : CHr Z own_EL s.vm h0 s.vm T87.heap := C86.trans (CHr.keep K87 (sfS sf86_b68 sf0) C86.1)
              have sf88_b68 : Safe Z own_EL s.vm T87.heap b68 := Safe.keep K87 (sfS sf86_b68 sf0) C86.1 sf86_b68
              have sf88_b70 : Safe Z own_EL s.vm T87.heap b70 := Safe.keep K87 (sfS sf86_b68 sf0) C86.1 sf86_b70
              have Z87 : n0 ≤ T87.heap.size := Nat.le_trans Z85 K87.1
              have N87 := Fr.app N85 N87q
              obtain ⟨fs, hr, hrun, hended, hW, hsame⟩ := X87.leave (v := some (.ref b68)) (fun h => by rw [Bd.returns] at h; cases h) (hlocks := Bd.notSynchronized)
              refine ⟨_, _, pre_67 _ ?_, hrun, hended, _, _, rfl, ?_, (by show CHr Z own_EL s.vm s.heap T87.vm T87.heap; rw [hh]; exact C88.trans (CHv.at (s := s) (vm0 := s.vm) X87 hZ hEL C88.1)), ReturnedEndW.of_narrow ⟨_, rfl⟩ hW (hsame.mono (by decide) (by decide))⟩
              · show Steps p.tables e below (s₁.setTop (mkF m 122 #[.val (.int p1), .val (.int p2), .val (.int p3), .val (.int p4), .val (.int p5), .val (.int p6), .val (.int p7), .val (.int p8)] [(.int (5 : Int32)), (.int p1)])) _
                refine XS.icmpNo X0.here hx rfl (hb hby d2_122) rfl (teq hc122).2 ?_
                show Steps p.tables e below (s₁.setTop (mkF m 125 #[.val (.int p1), .val (.int p2), .val (.int p3), .val (.int p4), .val (.int p5), .val (.int p6), .val (.int p7), .val (.int p8)] [])) _
                refine st68 _ ?_
                show Steps p.tables e below (T68.setTop (mkF m 128 #[.val (.int p1), .val (.int p2), .val (.int p3), .val (.int p4), .val (.int p5), .val (.int p6), .val (.int p7), .val (.int p8)] [(.ref b68)])) _
                refine XS.dup X68.here hx rfl (hb hby d2_128) rfl rfl ?_
                show Steps p.tables e below (T68.setTop (mkF m 129 #[.val (.int p1), .val (.int p2), .val (.int p3), .val (.int p4), .val (.int p5), .val (.int p6), .val (.int p7), .val (.int p8)] [(.ref b68), (.ref b68)])) _
                refine XS.iconst X68.here hx rfl (hb hby d2_129) ?_
                show Steps p.tables e below (T68.setTop (mkF m 130 #[.val (.int p1), .val (.int p2), .val (.int p3), .val (.int p4), .val (.int p5), .val (.int p6), .val (.int p7), .val (.int p8)] [(.int (5 : Int32)), (.ref b68), (.ref b68)])) _
                refine st70 _ ?_
                show Steps p.tables e below (T70.setTop (mkF m 132 #[.val (.int p1), .val (.int p2), .val (.int p3), .val (.int p4), .val (.int p5), .val (.int p6), .val (.int p7), .val (.int p8)] [(.ref b70), (.ref b68), (.ref b68)])) _
                refine XS.dup X70.here hx rfl (hb hby d2_132) rfl rfl ?_
                show Steps p.tables e below (T70.setTop (mkF m 133 #[.val (.int p1), .val (.int p2), .val (.int p3), .val (.int p4), .val (.int p5), .val (.int p6), .val (.int p7), .val (.int p8)] [(.ref b70), (.ref b70), (.ref b68), (.ref b68)])) _
                refine XS.iconst X70.here hx rfl (hb hby d2_133) ?_
                show Steps p.tables e below (T70.setTop (mkF m 134 #[.val (.int p1), .val (.int p2), .val (.int p3), .val (.int p4), .val (.int p5), .val (.int p6), .val (.int p7), .val (.int p8)] [(.int (0 : Int32)), (.ref b70), (.ref b70), (.ref b68), (.ref b68)])) _
                refine XS.iloadN X70.here hx rfl (hb hby d2_134) rfl ?_
                show Steps p.tables e below (T70.setTop (mkF m 135 #[.val (.int p1), .val (.int p2), .val (.int p3), .val (.int p4), .val (.int p5), .val (.int p6), .val (.int p7), .val (.int p8)] [(.int p2), (.int (0 : Int32)), (.ref b70), (.ref b70), (.ref b68), (.ref b68)])) _
                refine st73 _ ?_
                show Steps p.tables e below (T73.setTop (mkF m 136 #[.val (.int p1), .val (.int p2), .val (.int p3), .val (.int p4), .val (.int p5), .val (.int p6), .val (.int p7), .val (.int p8)] [(.ref b70), (.ref b68), (.ref b68)])) _
                refine XS.dup X73.here hx rfl (hb hby d2_136) rfl rfl ?_
                show Steps p.tables e below (T73.setTop (mkF m 137 #[.val (.int p1), .val (.int p2), .val (.int p3), .val (.int p4), .val (.int p5), .val (.int p6), .val (.int p7), .val (.int p8)] [(.ref b70), (.ref b70), (.ref b68), (.ref b68)])) _
                refine XS.iconst X73.here hx rfl (hb hby d2_137) ?_
                show Steps p.tables e below (T73.setTop (mkF m 138 #[.val (.int p1), .val (.int p2), .val (.int p3), .val (.int p4), .val (.int p5), .val (.int p6), .val (.int p7), .val (.int p8)] [(.int (1 : Int32)), (.ref b70), (.ref b70), (.ref b68), (.ref b68)])) _
                refine XS.iloadN X73.here hx rfl (hb hby d2_138) rfl ?_
                show Steps p.tables e below (T73.setTop (mkF m 139 #[.val (.int p1), .val (.int p2), .val (.int p3), .val (.int p4), .val (.int p5), .val (.int p6), .val (.int p7), .val (.int p8)] [(.int p3), (.int (1 : Int32)), (.ref b70), (.ref b70), (.ref b68), (.ref b68)])) _
                refine st76 _ ?_
                show Steps p.tables e below (T76.setTop (mkF m 140 #[.val (.int p1), .val (.int p2), .val (.int p3), .val (.int p4), .val (.int p5), .val (.int p6), .val (.int p7), .val (.int p8)] [(.ref b70), (.ref b68), (.ref b68)])) _
                refine XS.dup X76.here hx rfl (hb hby d2_140) rfl rfl ?_
                show Steps p.tables e below (T76.setTop (mkF m 141 #[.val (.int p1), .val (.int p2), .val (.int p3), .val (.int p4), .val (.int p5), .val (.int p6), .val (.int p7), .val (.int p8)] [(.ref b70), (.ref b70), (.ref b68), (.ref b68)])) _
                refine XS.iconst X76.here hx rfl (hb hby d2_141) ?_
                show Steps p.tables e below (T76.setTop (mkF m 142 #[.val (.int p1), .val (.int p2), .val (.int p3), .val (.int p4), .val (.int p5), .val (.int p6), .val (.int p7), .val (.int p8)] [(.int (2 : Int32)), (.ref b70), (.ref b70), (.ref b68), (.ref b68)])) _
                refine XS.iloadN X76.here hx rfl (hb hby d2_142) rfl ?_
                show Steps p.tables e below (T76.setTop (mkF m 143 #[.val (.int p1), .val (.int p2), .val (.int p3), .val (.int p4), .val (.int p5), .val (.int p6), .val (.int p7), .val (.int p8)] [(.int p4), (.int (2 : Int32)), (.ref b70), (.ref b70), (.ref b68), (.ref b68)])) _
                refine st79 _ ?_
                show Steps p.tables e below (T79.setTop (mkF m 144 #[.val (.int p1), .val (.int p2), .val (.int p3), .val (.int p4), .val (.int p5), .val (.int p6), .val (.int p7), .val (.int p8)] [(.ref b70), (.ref b68), (.ref b68)])) _
                refine XS.dup X79.here hx rfl (hb hby d2_144) rfl rfl ?_
                show Steps p.tables e below (T79.setTop (mkF m 145 #[.val (.int p1), .val (.int p2), .val (.int p3), .val (.int p4), .val (.int p5), .val (.int p6), .val (.int p7), .val (.int p8)] [(.ref b70), (.ref b70), (.ref b68), (.ref b68)])) _
                refine XS.iconst X79.here hx rfl (hb hby d2_145) ?_
                show Steps p.tables e below (T79.setTop (mkF m 146 #[.val (.int p1), .val (.int p2), .val (.int p3), .val (.int p4), .val (.int p5), .val (.int p6), .val (.int p7), .val (.int p8)] [(.int (3 : Int32)), (.ref b70), (.ref b70), (.ref b68), (.ref b68)])) _
                refine XS.iload X79.here hx rfl (hb hby d2_146) rfl ?_
                show Steps p.tables e below (T79.setTop (mkF m 148 #[.val (.int p1), .val (.int p2), .val (.int p3), .val (.int p4), .val (.int p5), .val (.int p6), .val (.int p7), .val (.int p8)] [(.int p5), (.int (3 : Int32)), (.ref b70), (.ref b70), (.ref b68), (.ref b68)])) _
                refine st82 _ ?_
                show Steps p.tables e below (T82.setTop (mkF m 149 #[.val (.int p1), .val (.int p2), .val (.int p3), .val (.int p4), .val (.int p5), .val (.int p6), .val (.int p7), .val (.int p8)] [(.ref b70), (.ref b68), (.ref b68)])) _
                refine XS.dup X82.here hx rfl (hb hby d2_149) rfl rfl ?_
                show Steps p.tables e below (T82.setTop (mkF m 150 #[.val (.int p1), .val (.int p2), .val (.int p3), .val (.int p4), .val (.int p5), .val (.int p6), .val (.int p7), .val (.int p8)] [(.ref b70), (.ref b70), (.ref b68), (.ref b68)])) _
                refine XS.iconst X82.here hx rfl (hb hby d2_150) ?_
                show Steps p.tables e below (T82.setTop (mkF m 151 #[.val (.int p1), .val (.int p2), .val (.int p3), .val (.int p4), .val (.int p5), .val (.int p6), .val (.int p7), .val (.int p8)] [(.int (4 : Int32)), (.ref b70), (.ref b70), (.ref b68), (.ref b68)])) _
                refine XS.iload X82.here hx rfl (hb hby d2_151) rfl ?_
                show Steps p.tables e below (T82.setTop (mkF m 153 #[.val (.int p1), .val (.int p2), .val (.int p3), .val (.int p4), .val (.int p5), .val (.int p6), .val (.int p7), .val (.int p8)] [(.int p6), (.int (4 : Int32)), (.ref b70), (.ref b70), (.ref b68), (.ref b68)])) _
                refine st85 _ ?_
                show Steps p.tables e below (T85.setTop (mkF m 154 #[.val (.int p1), .val (.int p2), .val (.int p3), .val (.int p4), .val (.int p5), .val (.int p6), .val (.int p7), .val (.int p8)] [(.ref b70), (.ref b68), (.ref b68)])) _
                refine st87.trans ?_
                show Steps p.tables e below (T87.setTop (mkF m 157 #[.val (.int p1), .val (.int p2), .val (.int p3), .val (.int p4), .val (.int p5), .val (.int p6), .val (.int p7), .val (.int p8)] [(.ref b68)])) _
                exact X87.areturnOut hx rfl Bd.returns rfl (hb hby d2_157) hr
              · show Q_rm_mk Z p1 p2 p3 p4 p5 p6 p7 p8 cz h0 n0 _ T87.heap _
                have eL : (own_cs p1 p2 p3 p4 p5 p6 p7 p8) = [nar .char p2, nar .char p3, nar .char p4, nar .char p5, nar .char p6] := by rw [own_cs, if_neg hc1, if_neg hc17, if_neg hc37, if_neg hc61, if_neg hc89, if_pos hc122]
                refine ⟨b68, t87, kb87, rfl, N87, f174, fk87_0, fk87_1, fk87_2, ?_⟩
                rw [eL]
                exact fk87_3
            · have pre_89 : ∀ t, Steps p.tables e below (s₁.setTop (mkF m 161 #[.val (.int p1), .val (.int p2), .val (.int p3), .val (.int p4), .val (.int p5), .val (.int p6), .val (.int p7), .val (.int p8)] [(.int (6 : Int32)), (.int p1)])) t → Steps p.tables e below (s₁.setTop (entryFrame m #[(.int p1), (.int p2), (.int p3), (.int p4), (.int p5), (.int p6), (.int p7), (.int p8)] 8)) t := by
                intro t kt
                refine pre_67 _ ?_
                show Steps p.tables e below (s₁.setTop (mkF m 122 #[.val (.int p1), .val (.int p2), .val (.int p3), .val (.int p4), .val (.int p5), .val (.int p6), .val (.int p7), .val (.int p8)] [(.int (5 : Int32)), (.int p1)])) _
                refine XS.icmpYes X0.here hx rfl (pc0 := 122) (pc' := 158) rfl (hb hby d2_122) rfl (feq hc122).2 (by decide) (by decide) ?_
                show Steps p.tables e below (s₁.setTop (mkF m 158 #[.val (.int p1), .val (.int p2), .val (.int p3), .val (.int p4), .val (.int p5), .val (.int p6), .val (.int p7), .val (.int p8)] [])) _
                refine XS.iloadN X0.here hx rfl (hb hby d2_158) rfl ?_
                show Steps p.tables e below (s₁.setTop (mkF m 159 #[.val (.int p1), .val (.int p2), .val (.int p3), .val (.int p4), .val (.int p5), .val (.int p6), .val (.int p7), .val (.int p8)] [(.int p1)])) _
                refine XS.bipush X0.here hx rfl (hb hby d2_159) ?_
                exact kt
              by_cases hc161 : p1 = (6 : Int32)
              · obtain ⟨T90, h90, X90, e90, E90, A90, D90, -, st90⟩ := newO X0 hx hZ hown (hw _ (List.mem_of_getElem? (i := 8) rfl)) (hw _ (List.mem_of_getElem? (i := 9) rfl)) (hw _ (List.mem_of_getElem? (i := 10) rfl)) e0 (g := (mkF m 164 #[.val (.int p1), .val (.int p2), .val (.int p3), .val (.int p4), .val (.int p5), .val (.int p6), .val (.int p7), .val (.int p8)] [])) rfl (hb hby d2_164) (by decide) (by decide)
                obtain ⟨b90, g90⟩ : ∃ z, z = h0.size := ⟨_, rfl⟩
                rw [← g90] at A90 D90 st90
                have sz_b90 : h0.size ≤ b90 := Nat.le_trans (Keep.refl h0 []).1 (Nat.le_of_eq g90.symm)
                have f178 : Sta Z h90 "java/lang/String" "COMPACT_STRINGS" "Z" (.int cz) := S_CS.ext E90
                have f179 : Keep h0 h90 [] := (Keep.refl h0 []).ext E90
                have C91 : CHr Z own_EL s.vm h0 s.vm h90 := C0.trans (CHr.ext E90 C0.1)
                have sf91_b90 : Safe Z own_EL s.vm h90 b90 := Safe.ext E90 C0.1 (Safe.new (Nat.le_of_eq g90.symm))
                have g_b90 : n0 ≤ b90 := Nat.le_trans Z0 (Nat.le_of_eq g90.symm)
                have Z90 : n0 ≤ h90.size := Nat.le_trans Z0 E90.1
                have F_value_b90 : Fld Z h90 b90 "java/lang/String" "value" "[B" .null := D90 (Or.inr (hw _ (List.mem_of_getElem? (i := 24) rfl))) (ty := (.array .byte)) (by decide)
                have F_coder_b90 : Fld Z h90 b90 "java/lang/String" "coder" "B" (.int (0 : Int32)) := D90 (Or.inr (hw _ (List.mem_of_getElem? (i := 25) rfl))) (ty := .byte) (by decide)
                obtain ⟨T92, h92, k92, X92, e92, E92, A92, st92⟩ := newP X90 hx hZ (hw _ (List.mem_of_getElem? (i := 11) rfl)) e90 (g := (mkF m 170 #[.val (.int p1), .val (.int p2), .val (.int p3), .val (.int p4), .val (.int p5), .val (.int p6), .val (.int p7), .val (.int p8)] [(.int (6 : Int32)), (.ref b90), (.ref b90)])) rfl (hb hby d2_170) rfl (by decide) (cap := 6) (by decide) (by decide) (by decide) (by decide)
                obtain ⟨b92, g92⟩ : ∃ z, z = h90.size := ⟨_, rfl⟩
                rw [← g92] at A92 st92
                have sz_b92 : h0.size ≤ b92 := Nat.le_trans f179.1 (Nat.le_of_eq g92.symm)
                have ne_b90_b92 : b90 ≠ b92 := Nat.ne_of_lt (Nat.lt_of_lt_of_le A90.lt (Nat.le_of_eq g92.symm))
                have f180 : Sta Z h92 "java/lang/String" "COMPACT_STRINGS" "Z" (.int cz) := f178.ext E92
                have f181 : Keep h0 h92 [] := f179.ext E92
                have f182 : n0 ≤ b90 := g_b90
                have f183 : Exa Z h92 b90 "java/lang/String" := A90.ext E92
                have f184 : Fld Z h92 b90 "java/lang/String" "value" "[B" .null := F_value_b90.ext E92
                have f185 : Fld Z h92 b90 "java/lang/String" "coder" "B" (.int (0 : Int32)) := F_coder_b90.ext E92
                have C93 : CHr Z own_EL s.vm h0 s.vm h92 := C91.trans (CHr.ext E92 C91.1)
                have sf93_b90 : Safe Z own_EL s.vm h92 b90 := Safe.ext E92 C91.1 sf91_b90
                have sf93_b92 : Safe Z own_EL s.vm h92 b92 := Safe.ext E92 C91.1 (Safe.new (Nat.le_of_eq g92.symm))
                have g_b92 : n0 ≤ b92 := Nat.le_trans Z90 (Nat.le_of_eq g92.symm)
                have Z92 : n0 ≤ h92.size := Nat.le_trans Z90 E92.1
                have V_b92 : Arv Z h92 b92 k92 .char (6 : Int32) [(.int (0 : Int32)), (.int (0 : Int32)), (.int (0 : Int32)), (.int (0 : Int32)), (.int (0 : Int32)), (.int (0 : Int32))] (.int (0 : Int32)) := (Arv.new A92 (by decide)).pad (pad_rep [] (.int (0 : Int32)) 6)
                obtain ⟨cl94, Ar94, aq94, aS94, aN94, aH94, aG94⟩ := V_b92
                have hin94 : ¬ ((0 : Int32) < 0 ∨ cl94.slots.size ≤ ((0 : Int32)).toNatClampNeg) := inb_of aS94 ⟨by decide, by decide⟩
                obtain ⟨T95, h95, X95, e95, W95, st95⟩ := stC X92 hx hZ e92 Ar94 (j := (0 : Int32)) hin94 (g := (mkF m 175 #[.val (.int p1), .val (.int p2), .val (.int p3), .val (.int p4), .val (.int p5), .val (.int p6), .val (.int p7), .val (.int p8)] [(.int p2), (.int (0 : Int32)), (.ref b92), (.ref b92), (.ref b90), (.ref b90)])) rfl rfl (hb hby d2_175)
                have V_b92_95 : Arv Z h95 b92 k92 .char (6 : Int32) [(.int (nar .char p2)), (.int (0 : Int32)), (.int (0 : Int32)), (.int (0 : Int32)), (.int (0 : Int32)), (.int (0 : Int32))] (.int (0 : Int32)) := Arv.set Ar94 aq94 aS94 aN94 aH94 aG94 (fits_nar_char _) W95 0 rfl (Nat.le_of_ble_eq_true rfl)
                have f186 : Sta Z h95 "java/lang/String" "COMPACT_STRINGS" "Z" (.int cz) := f180.wr W95
                have f187 : Keep h0 h95 [] := f181.wr W95 (Or.inr sz_b92)
                have f188 : n0 ≤ b90 := f182
                have f189 : Exa Z h95 b90 "java/lang/String" := f183.wr W95
                have f190 : Fld Z h95 b90 "java/lang/String" "value" "[B" .null := f184.other W95 (Or.inl ne_b90_b92)
                have f191 : Fld Z h95 b90 "java/lang/String" "coder" "B" (.int (0 : Int32)) := f185.other W95 (Or.inl ne_b90_b92)
                have f192 : n0 ≤ b92 := g_b92
                have C96 : CHr Z own_EL s.vm h0 s.vm h95 := C93.trans (CHr.wr W95 sf93_b92 C93.1)
                have sf96_b90 : Safe Z own_EL s.vm h95 b90 := Safe.wr W95 sf93_b92 C93.1 sf93_b90
                have sf96_b92 : Safe Z own_EL s.vm h95 b92 := Safe.wr W95 sf93_b92 C93.1 sf93_b92
                have N95 := Fr.snoc X95 N0 f192
                have Z95 : n0 ≤ h95.size := by rw [W95.size]; exact Z92
                obtain ⟨cl97, Ar97, aq97, aS97, aN97, aH97, aG97⟩ := V_b92_95
                have hin97 : ¬ ((1 : Int32) < 0 ∨ cl97.slots.size ≤ ((1 : Int32)).toNatClampNeg) := inb_of aS97 ⟨by decide, by decide⟩
                obtain ⟨T98, h98, X98, e98, W98, st98⟩ := stC X95 hx hZ e95 Ar97 (j := (1 : Int32)) hin97 (g := (mkF m 179 #[.val (.int p1), .val (.int p2), .val (.int p3), .val (.int p4), .val (.int p5), .val (.int p6), .val (.int p7), .val (.int p8)] [(.int p3), (.int (1 : Int32)), (.ref b92), (.ref b92), (.ref b90), (.ref b90)])) rfl rfl (hb hby d2_179)
                have V_b92_98 : Arv Z h98 b92 k92 .char (6 : Int32) [(.int (nar .char p2)), (.int (nar .char p3)), (.int (0 : Int32)), (.int (0 : Int32)), (.int (0 : Int32)), (.int (0 : Int32))] (.int (0 : Int32)) := Arv.set Ar97 aq97 aS97 aN97 aH97 aG97 (fits_nar_char _) W98 1 rfl (Nat.le_of_ble_eq_true rfl)
                have f193 : Sta Z h98 "java/lang/String" "COMPACT_STRINGS" "Z" (.int cz) := f186.wr W98
                have f194 : Keep h0 h98 [] := f187.wr W98 (Or.inr sz_b92)
                have f195 : n0 ≤ b90 := f188
                have f196 : Exa Z h98 b90 "java/lang/String" := f189.wr W98
                have f197 : Fld Z h98 b90 "java/lang/String" "value" "[B" .null := f190.other W98 (Or.inl ne_b90_b92)
                have f198 : Fld Z h98 b90 "java/lang/String" "coder" "B" (.int (0 : Int32)) := f191.other W98 (Or.inl ne_b90_b92)
                have f199 : n0 ≤ b92 := f192
                have C99 : CHr Z own_EL s.vm h0 s.vm h98 := C96.trans (CHr.wr W98 sf96_b92 C96.1)
                have sf99_b90 : Safe Z own_EL s.vm h98 b90 := Safe.wr W98 sf96_b92 C96.1 sf96_b90
                have sf99_b92 : Safe Z own_EL s.vm h98 b92 := Safe.wr W98 sf96_b92 C96.1 sf96_b92
                have N98 := Fr.snoc X98 N95 f199
                have Z98 : n0 ≤ h98.size := by rw [W98.size]; exact Z95
                obtain ⟨cl100, Ar100, aq100, aS100, aN100, aH100, aG100⟩ := V_b92_98
                have hin100 : ¬ ((2 : Int32) < 0 ∨ cl100.slots.size ≤ ((2 : Int32)).toNatClampNeg) := inb_of aS100 ⟨by decide, by decide⟩
                obtain ⟨T101, h101, X101, e101, W101, st101⟩ := stC X98 hx hZ e98 Ar100 (j := (2 : Int32)) hin100 (g := (mkF m 183 #[.val (.int p1), .val (.int p2), .val (.int p3), .val (.int p4), .val (.int p5), .val (.int p6), .val (.int p7), .val (.int p8)] [(.int p4), (.int (2 : Int32)), (.ref b92), (.ref b92), (.ref b90), (.ref b90)])) rfl rfl (hb hby d2_183)
                have V_b92_101 : Arv Z h101 b92 k92 .char (6 : Int32) [(.int (nar .char p2)), (.int (nar .char p3)), (.int (nar .char p4)), (.int (0 : Int32)), (.int (0 : Int32)), (.int (0 : Int32))] (.int (0 : Int32)) := Arv.set Ar100 aq100 aS100 aN100 aH100 aG100 (fits_nar_char _) W101 2 rfl (Nat.le_of_ble_eq_true rfl)
                have f200 : Sta Z h101 "java/lang/String" "COMPACT_STRINGS" "Z" (.int cz) := f193.wr W101
                have f201 : Keep h0 h101 [] := f194.wr W101 (Or.inr sz_b92)
                have f202 : n0 ≤ b90 := f195
                have f203 : Exa Z h101 b90 "java/lang/String" := f196.wr W101
                have f204 : Fld Z h101 b90 "java/lang/String" "value" "[B" .null := f197.other W101 (Or.inl ne_b90_b92)
                have f205 : Fld Z h101 b90 "java/lang/String" "coder" "B" (.int (0 : Int32)) := f198.other W101 (Or.inl ne_b90_b92)
                have f206 : n0 ≤ b92 := f199
                have C102 : CHr Z own_EL s.vm h0 s.vm h101 := C99.trans (CHr.wr W101 sf99_b92 C99.1)
                have sf102_b90 : Safe Z own_EL s.vm h101 b90 := Safe.wr W101 sf99_b92 C99.1 sf99_b90
                have sf102_b92 : Safe Z own_EL s.vm h101 b92 := Safe.wr W101 sf99_b92 C99.1 sf99_b92
                have N101 := Fr.snoc X101 N98 f206
                have Z101 : n0 ≤ h101.size := by rw [W101.size]; exact Z98
                obtain ⟨cl103, Ar103, aq103, aS103, aN103, aH103, aG103⟩ := V_b92_101
                have hin103 : ¬ ((3 : Int32) < 0 ∨ cl103.slots.size ≤ ((3 : Int32)).toNatClampNeg) := inb_of aS103 ⟨by decide, by decide⟩
                obtain ⟨T104, h104, X104, e104, W104, st104⟩ := stC X101 hx hZ e101 Ar103 (j := (3 : Int32)) hin103 (g := (mkF m 188 #[.val (.int p1), .val (.int p2), .val (.int p3), .val (.int p4), .val (.int p5), .val (.int p6), .val (.int p7), .val (.int p8)] [(.int p5), (.int (3 : Int32)), (.ref b92), (.ref b92), (.ref b90), (.ref b90)])) rfl rfl (hb hby d2_188)
                have V_b92_104 : Arv Z h104 b92 k92 .char (6 : Int32) [(.int (nar .char p2)), (.int (nar .char p3)), (.int (nar .char p4)), (.int (nar .char p5)), (.int (0 : Int32)), (.int (0 : Int32))] (.int (0 : Int32)) := Arv.set Ar103 aq103 aS103 aN103 aH103 aG103 (fits_nar_char _) W104 3 rfl (Nat.le_of_ble_eq_true rfl)
                have f207 : Sta Z h104 "java/lang/String" "COMPACT_STRINGS" "Z" (.int cz) := f200.wr W104
                have f208 : Keep h0 h104 [] := f201.wr W104 (Or.inr sz_b92)
                have f209 : n0 ≤ b90 := f202
                have f210 : Exa Z h104 b90 "java/lang/String" := f203.wr W104
                have f211 : Fld Z h104 b90 "java/lang/String" "value" "[B" .null := f204.other W104 (Or.inl ne_b90_b92)
                have f212 : Fld Z h104 b90 "java/lang/String" "coder" "B" (.int (0 : Int32)) := f205.other W104 (Or.inl ne_b90_b92)
                have f213 : n0 ≤ b92 := f206
                have C105 : CHr Z own_EL s.vm h0 s.vm h104 := C102.trans (CHr.wr W104 sf102_b92 C102.1)
                have sf105_b90 : Safe Z own_EL s.vm h104 b90 := Safe.wr W104 sf102_b92 C102.1 sf102_b90
                have sf105_b92 : Safe Z own_EL s.vm h104 b92 := Safe.wr W104 sf102_b92 C102.1 sf102_b92
                have N104 := Fr.snoc X104 N101 f213
                have Z104 : n0 ≤ h104.size := by rw [W104.size]; exact Z101
                obtain ⟨cl106, Ar106, aq106, aS106, aN106, aH106, aG106⟩ := V_b92_104
                have hin106 : ¬ ((4 : Int32) < 0 ∨ cl106.slots.size ≤ ((4 : Int32)).toNatClampNeg) := inb_of aS106 ⟨by decide, by decide⟩
                obtain ⟨T107, h107, X107, e107, W107, st107⟩ := stC X104 hx hZ e104 Ar106 (j := (4 : Int32)) hin106 (g := (mkF m 193 #[.val (.int p1), .val (.int p2), .val (.int p3), .val (.int p4), .val (.int p5), .val (.int p6), .val (.int p7), .val (.int p8)] [(.int p6), (.int (4 : Int32)), (.ref b92), (.ref b92), (.ref b90), (.ref b90)])) rfl rfl (hb hby d2_193)
                have V_b92_107 : Arv Z h107 b92 k92 .char (6 : Int32) [(.int (nar .char p2)), (.int (nar .char p3)), (.int (nar .char p4)), (.int (nar .char p5)), (.int (nar .char p6)), (.int (0 : Int32))] (.int (0 : Int32)) := Arv.set Ar106 aq106 aS106 aN106 aH106 aG106 (fits_nar_char _) W107 4 rfl (Nat.le_of_ble_eq_true rfl)
                have f214 : Sta Z h107 "java/lang/String" "COMPACT_STRINGS" "Z" (.int cz) := f207.wr W107
                have f215 : Keep h0 h107 [] := f208.wr W107 (Or.inr sz_b92)
                have f216 : n0 ≤ b90 := f209
                have f217 : Exa Z h107 b90 "java/lang/String" := f210.wr W107
                have f218 : Fld Z h107 b90 "java/lang/String" "value" "[B" .null := f211.other W107 (Or.inl ne_b90_b92)
                have f219 : Fld Z h107 b90 "java/lang/String" "coder" "B" (.int (0 : Int32)) := f212.other W107 (Or.inl ne_b90_b92)
                have f220 : n0 ≤ b92 := f213
                have C108 : CHr Z own_EL s.vm h0 s.vm h107 := C105.trans (CHr.wr W107 sf105_b92 C105.1)
                have sf108_b90 : Safe Z own_EL s.vm h107 b90 := Safe.wr W107 sf105_b92 C105.1 sf105_b90
                have sf108_b92 : Safe Z own_EL s.vm h107 b92 := Safe.wr W107 sf105_b92 C105.1 sf105_b92
                have N107 := Fr.snoc X107 N104 f220
                have Z107 : n0 ≤ h107.size := by rw [W107.size]; exact Z104
                obtain ⟨cl109, Ar109, aq109, aS109, aN109, aH109, aG109⟩ := V_b92_107
                have hin109 : ¬ ((5 : Int32) < 0 ∨ cl109.slots.size ≤ ((5 : Int32)).toNatClampNeg) := inb_of aS109 ⟨by decide, by decide⟩
                obtain ⟨T110, h110, X110, e110, W110, st110⟩ := stC X107 hx hZ e107 Ar109 (j := (5 : Int32)) hin109 (g := (mkF m 198 #[.val (.int p1), .val (.int p2), .val (.int p3), .val (.int p4), .val (.int p5), .val (.int p6), .val (.int p7), .val (.int p8)] [(.int p7), (.int (5 : Int32)), (.ref b92), (.ref b92), (.ref b90), (.ref b90)])) rfl rfl (hb hby d2_198)
                have V_b92_110 : Arv Z h110 b92 k92 .char (6 : Int32) [(.int (nar .char p2)), (.int (nar .char p3)), (.int (nar .char p4)), (.int (nar .char p5)), (.int (nar .char p6)), (.int (nar .char p7))] (.int (0 : Int32)) := Arv.set Ar109 aq109 aS109 aN109 aH109 aG109 (fits_nar_char _) W110 5 rfl (Nat.le_of_ble_eq_true rfl)
                have f221 : Sta Z h110 "java/lang/String" "COMPACT_STRINGS" "Z" (.int cz) := f214.wr W110
                have f222 : Keep h0 h110 [] := f215.wr W110 (Or.inr sz_b92)
                have f223 : n0 ≤ b90 := f216
                have f224 : Exa Z h110 b90 "java/lang/String" := f217.wr W110
                have f225 : Fld Z h110 b90 "java/lang/String" "value" "[B" .null := f218.other W110 (Or.inl ne_b90_b92)
                have f226 : Fld Z h110 b90 "java/lang/String" "coder" "B" (.int (0 : Int32)) := f219.other W110 (Or.inl ne_b90_b92)
                have f227 : n0 ≤ b92 := f220
                have C111 : CHr Z own_EL s.vm h0 s.vm h110 := C108.trans (CHr.wr W110 sf108_b92 C108.1)
                have sf111_b90 : Safe Z own_EL s.vm h110 b90 := Safe.wr W110 sf108_b92 C108.1 sf108_b90
                have sf111_b92 : Safe Z own_EL s.vm h110 b92 := Safe.wr W110 sf108_b92 C108.1 sf108_b92
                have N110 := Fr.snoc X110 N107 f227
                have Z110 : n0 ≤ h110.size := by rw [W110.size]; exact Z107
                obtain ⟨_, _, ⟨T112, L112, k112, n112⟩, -, X112, ⟨Lc112, hQ112, l112, y112, z112⟩, st112⟩ := X110.specialBack hx (y := (⟨"java/lang/String", "<init>", "([C)V"⟩ : MethodName)) rfl hown (mvT hZ (hw _ (List.mem_of_getElem? (i := 12) rfl))) (mvT hZ (hw _ (List.mem_of_getElem? (i := 13) rfl))) (mvT hZ (hw _ (List.mem_of_getElem? (i := 14) rfl))) (by decide) (StrChars.Road.backV (W := 1) hZ (fun d hd => hw d (own_words d hd)) (kI := 4) (hw _ (List.mem_of_getElem? (i := 9) rfl)) (cs := [(nar .char p2), (nar .char p3), (nar .char p4), (nar .char p5), (nar .char p6), (nar .char p7)]) (bs := [(nar .char p2).toInt8.toInt32, (nar .char p3).toInt8.toInt32, (nar .char p4).toInt8.toInt32, (nar .char p5).toInt8.toInt32, (nar .char p6).toInt8.toInt32, (nar .char p7).toInt8.toInt32]) (n := 6) f223 Z110 f224 f225 f226 V_b92_110 f221 hcs rfl rfl (by decide) (by decide) (List.forall_mem_cons.mpr ⟨own_nc hp2, (List.forall_mem_cons.mpr ⟨own_nc hp3, (List.forall_mem_cons.mpr ⟨own_nc hp4, (List.forall_mem_cons.mpr ⟨own_nc hp5, (List.forall_mem_cons.mpr ⟨own_nc hp6, (List.forall_mem_cons.mpr ⟨own_nc hp7, (fun _ h => nomatch h)⟩)⟩)⟩)⟩)⟩)⟩) rfl (by decide) (by decide)) (g := (mkF m 199 #[.val (.int p1), .val (.int p2), .val (.int p3), .val (.int p4), .val (.int p5), .val (.int p6), .val (.int p7), .val (.int p8)] [(.ref b92), (.ref b90), (.ref b90)])) rfl (by rw [hml]; rfl) (Steps.refl _) (a := b90) (argsL := [(.ref b92)]) (rest := [(.ref b90)]) (lenOf pd___C_V_325 rfl) rfl (by show 2 * 0 + _ ≤ _; exact Nat.le_of_eq rfl) (hb hby d2_199) (fun _ _ => ⟨rfl, e110, (by decide : 2 + 1 ≤ _), (by decide : 10 + 6 ≤ _)⟩)
                dsimp only [Pt.U, Pt.locs, Pt.cells, Pt.slots] at X112 l112 y112 z112 st112 hQ112
                subst l112 y112 z112
                obtain ⟨rfl, N112q, K112, fk112_0, fk112_1, t112, kb112, -, -, -, fk112_2, fk112_3⟩ := hQ112
                have f228 : Keep h0 T112.heap [] := f222.trans K112 (fun x hx => by cases List.mem_singleton.mp hx; exact Or.inr sz_b90)
                have f229 : n0 ≤ b90 := f223
                have f230 : n0 ≤ b92 := f227
                have f231 : Arv Z T112.heap b92 k92 .char (6 : Int32) [(.int (nar .char p2)), (.int (nar .char p3)), (.int (nar .char p4)), (.int (nar .char p5)), (.int (nar .char p6)), (.int (nar .char p7))] (.int (0 : Int32)) := V_b92_110.keep K112 (by simp [(Ne.symm ne_b90_b92)])
                have C113 : CHr Z own_EL s.vm h0 s.vm T112.heap := C111.trans (CHr.keep K112 (sfS sf111_b90 sf0) C111.1)
                have sf113_b90 : Safe Z own_EL s.vm T112.heap b90 := Safe.keep K112 (sfS sf111_b90 sf0) C111.1 sf111_b90
                have sf113_b92 : Safe Z own_EL s.vm T112.heap b92 := Safe.keep K112 (sfS sf111_b90 sf0) C111.1 sf111_b92
                have Z112 : n0 ≤ T112.heap.size := Nat.le_trans Z110 K112.1
                have N112 := Fr.app N110 N112q
                obtain ⟨fs, hr, hrun, hended, hW, hsame⟩ := X112.leave (v := some (.ref b90)) (fun h => by rw [Bd.returns] at h; cases h) (hlocks := Bd.notSynchronized)
                refine ⟨_, _, pre_89 _ ?_, hrun, hended, _, _, rfl, ?_, (by show CHr Z own_EL s.vm s.heap T112.vm T112.heap; rw [hh]; exact C113.trans (CHv.at (s := s) (vm0 := s.vm) X112 hZ hEL C113.1)), ReturnedEndW.of_narrow ⟨_, rfl⟩ hW (hsame.mono (by decide) (by decide))⟩
                · show Steps p.tables e below (s₁.setTop (mkF m 161 #[.val (.int p1), .val (.int p2), .val (.int p3), .val (.int p4), .val (.int p5), .val (.int p6), .val (.int p7), .val (.int p8)] [(.int (6 : Int32)), (.int p1)])) _
                  refine XS.icmpNo X0.here hx rfl (hb hby d2_161) rfl (teq hc161).2 ?_
                  show Steps p.tables e below (s₁.setTop (mkF m 164 #[.val (.int p1), .val (.int p2), .val (.int p3), .val (.int p4), .val (.int p5), .val (.int p6), .val (.int p7), .val (.int p8)] [])) _
                  refine st90 _ ?_
                  show Steps p.tables e below (T90.setTop (mkF m 167 #[.val (.int p1), .val (.int p2), .val (.int p3), .val (.int p4), .val (.int p5), .val (.int p6), .val (.int p7), .val (.int p8)] [(.ref b90)])) _
                  refine XS.dup X90.here hx rfl (hb hby d2_167) rfl rfl ?_
                  show Steps p.tables e below (T90.setTop (mkF m 168 #[.val (.int p1), .val (.int p2), .val (.int p3), .val (.int p4), .val (.int p5), .val (.int p6), .val (.int p7), .val (.int p8)] [(.ref b90), (.ref b90)])) _
                  refine XS.bipush X90.here hx rfl (hb hby d2_168) ?_
                  show Steps p.tables e below (T90.setTop (mkF m 170 #[.val (.int p1), .val (.int p2), .val (.int p3), .val (.int p4), .val (.int p5), .val (.int p6), .val (.int p7), .val (.int p8)] [(.int (6 : Int32)), (.ref b90), (.ref b90)])) _
                  refine st92 _ ?_
                  show Steps p.tables e below (T92.setTop (mkF m 172 #[.val (.int p1), .val (.int p2), .val (.int p3), .val (.int p4), .val (.int p5), .val (.int p6), .val (.int p7), .val (.int p8)] [(.ref b92), (.ref b90), (.ref b90)])) _
                  refine XS.dup X92.here hx rfl (hb hby d2_172) rfl rfl ?_
                  show Steps p.tables e below (T92.setTop (mkF m 173 #[.val (.int p1), .val (.int p2), .val (.int p3), .val (.int p4), .val (.int p5), .val (.int p6), .val (.int p7), .val (.int p8)] [(.ref b92), (.ref b92), (.ref b90), (.ref b90)])) _
                  refine XS.iconst X92.here hx rfl (hb hby d2_173) ?_
                  show Steps p.tables e below (T92.setTop (mkF m 174 #[.val (.int p1), .val (.int p2), .val (.int p3), .val (.int p4), .val (.int p5), .val (.int p6), .val (.int p7), .val (.int p8)] [(.int (0 : Int32)), (.ref b92), (.ref b92), (.ref b90), (.ref b90)])) _
                  refine XS.iloadN X92.here hx rfl (hb hby d2_174) rfl ?_
                  show Steps p.tables e below (T92.setTop (mkF m 175 #[.val (.int p1), .val (.int p2), .val (.int p3), .val (.int p4), .val (.int p5), .val (.int p6), .val (.int p7), .val (.int p8)] [(.int p2), (.int (0 : Int32)), (.ref b92), (.ref b92), (.ref b90), (.ref b90)])) _
                  refine st95 _ ?_
                  show Steps p.tables e below (T95.setTop (mkF m 176 #[.val (.int p1), .val (.int p2), .val (.int p3), .val (.int p4), .val (.int p5), .val (.int p6), .val (.int p7), .val (.int p8)] [(.ref b92), (.ref b90), (.ref b90)])) _
                  refine XS.dup X95.here hx rfl (hb hby d2_176) rfl rfl ?_
                  show Steps p.tables e below (T95.setTop (mkF m 177 #[.val (.int p1), .val (.int p2), .val (.int p3), .val (.int p4), .val (.int p5), .val (.int p6), .val (.int p7), .val (.int p8)] [(.ref b92), (.ref b92), (.ref b90), (.ref b90)])) _
                  refine XS.iconst X95.here hx rfl (hb hby d2_177) ?_
                  show Steps p.tables e below (T95.setTop (mkF m 178 #[.val (.int p1), .val (.int p2), .val (.int p3), .val (.int p4), .val (.int p5), .val (.int p6), .val (.int p7), .val (.int p8)] [(.int (1 : Int32)), (.ref b92), (.ref b92), (.ref b90), (.ref b90)])) _
                  refine XS.iloadN X95.here hx rfl (hb hby d2_178) rfl ?_
                  show Steps p.tables e below (T95.setTop (mkF m 179 #[.val (.int p1), .val (.int p2), .val (.int p3), .val (.int p4), .val (.int p5), .val (.int p6), .val (.int p7), .val (.int p8)] [(.int p3), (.int (1 : Int32)), (.ref b92), (.ref b92), (.ref b90), (.ref b90)])) _
                  refine st98 _ ?_
                  show Steps p.tables e below (T98.setTop (mkF m 180 #[.val (.int p1), .val (.int p2), .val (.int p3), .val (.int p4), .val (.int p5), .val (.int p6), .val (.int p7), .val (.int p8)] [(.ref b92), (.ref b90), (.ref b90)])) _
                  refine XS.dup X98.here hx rfl (hb hby d2_180) rfl rfl ?_
                  show Steps p.tables e below (T98.setTop (mkF m 181 #[.val (.int p1), .val (.int p2), .val (.int p3), .val (.int p4), .val (.int p5), .val (.int p6), .val (.int p7), .val (.int p8)] [(.ref b92), (.ref b92), (.ref b90), (.ref b90)])) _
                  refine XS.iconst X98.here hx rfl (hb hby d2_181) ?_
                  show Steps p.tables e below (T98.setTop (mkF m 182 #[.val (.int p1), .val (.int p2), .val (.int p3), .val (.int p4), .val (.int p5), .val (.int p6), .val (.int p7), .val (.int p8)] [(.int (2 : Int32)), (.ref b92), (.ref b92), (.ref b90), (.ref b90)])) _
                  refine XS.iloadN X98.here hx rfl (hb hby d2_182) rfl ?_
                  show Steps p.tables e below (T98.setTop (mkF m 183 #[.val (.int p1), .val (.int p2), .val (.int p3), .val (.int p4), .val (.int p5), .val (.int p6), .val (.int p7), .val (.int p8)] [(.int p4), (.int (2 : Int32)), (.ref b92), (.ref b92), (.ref b90), (.ref b90)])) _
                  refine st101 _ ?_
                  show Steps p.tables e below (T101.setTop (mkF m 184 #[.val (.int p1), .val (.int p2), .val (.int p3), .val (.int p4), .val (.int p5), .val (.int p6), .val (.int p7), .val (.int p8)] [(.ref b92), (.ref b90), (.ref b90)])) _
                  refine XS.dup X101.here hx rfl (hb hby d2_184) rfl rfl ?_
                  show Steps p.tables e below (T101.setTop (mkF m 185 #[.val (.int p1), .val (.int p2), .val (.int p3), .val (.int p4), .val (.int p5), .val (.int p6), .val (.int p7), .val (.int p8)] [(.ref b92), (.ref b92), (.ref b90), (.ref b90)])) _
                  refine XS.iconst X101.here hx rfl (hb hby d2_185) ?_
                  show Steps p.tables e below (T101.setTop (mkF m 186 #[.val (.int p1), .val (.int p2), .val (.int p3), .val (.int p4), .val (.int p5), .val (.int p6), .val (.int p7), .val (.int p8)] [(.int (3 : Int32)), (.ref b92), (.ref b92), (.ref b90), (.ref b90)])) _
                  refine XS.iload X101.here hx rfl (hb hby d2_186) rfl ?_
                  show Steps p.tables e below (T101.setTop (mkF m 188 #[.val (.int p1), .val (.int p2), .val (.int p3), .val (.int p4), .val (.int p5), .val (.int p6), .val (.int p7), .val (.int p8)] [(.int p5), (.int (3 : Int32)), (.ref b92), (.ref b92), (.ref b90), (.ref b90)])) _
                  refine st104 _ ?_
                  show Steps p.tables e below (T104.setTop (mkF m 189 #[.val (.int p1), .val (.int p2), .val (.int p3), .val (.int p4), .val (.int p5), .val (.int p6), .val (.int p7), .val (.int p8)] [(.ref b92), (.ref b90), (.ref b90)])) _
                  refine XS.dup X104.here hx rfl (hb hby d2_189) rfl rfl ?_
                  show Steps p.tables e below (T104.setTop (mkF m 190 #[.val (.int p1), .val (.int p2), .val (.int p3), .val (.int p4), .val (.int p5), .val (.int p6), .val (.int p7), .val (.int p8)] [(.ref b92), (.ref b92), (.ref b90), (.ref b90)])) _
                  refine XS.iconst X104.here hx rfl (hb hby d2_190) ?_
                  show Steps p.tables e below (T104.setTop (mkF m 191 #[.val (.int p1), .val (.int p2), .val (.int p3), .val (.int p4), .val (.int p5), .val (.int p6), .val (.int p7), .val (.int p8)] [(.int (4 : Int32)), (.ref b92), (.ref b92), (.ref b90), (.ref b90)])) _
                  refine XS.iload X104.here hx rfl (hb hby d2_191) rfl ?_
                  show Steps p.tables e below (T104.setTop (mkF m 193 #[.val (.int p1), .val (.int p2), .val (.int p3), .val (.int p4), .val (.int p5), .val (.int p6), .val (.int p7), .val (.int p8)] [(.int p6), (.int (4 : Int32)), (.ref b92), (.ref b92), (.ref b90), (.ref b90)])) _
                  refine st107 _ ?_
                  show Steps p.tables e below (T107.setTop (mkF m 194 #[.val (.int p1), .val (.int p2), .val (.int p3), .val (.int p4), .val (.int p5), .val (.int p6), .val (.int p7), .val (.int p8)] [(.ref b92), (.ref b90), (.ref b90)])) _
                  refine XS.dup X107.here hx rfl (hb hby d2_194) rfl rfl ?_
                  show Steps p.tables e below (T107.setTop (mkF m 195 #[.val (.int p1), .val (.int p2), .val (.int p3), .val (.int p4), .val (.int p5), .val (.int p6), .val (.int p7), .val (.int p8)] [(.ref b92), (.ref b92), (.ref b90), (.ref b90)])) _
                  refine XS.iconst X107.here hx rfl (hb hby d2_195) ?_
                  show Steps p.tables e below (T107.setTop (mkF m 196 #[.val (.int p1), .val (.int p2), .val (.int p3), .val (.int p4), .val (.int p5), .val (.int p6), .val (.int p7), .val (.int p8)] [(.int (5 : Int32)), (.ref b92), (.ref b92), (.ref b90), (.ref b90)])) _
                  refine XS.iload X107.here hx rfl (hb hby d2_196) rfl ?_
                  show Steps p.tables e below (T107.setTop (mkF m 198 #[.val (.int p1), .val (.int p2), .val (.int p3), .val (.int p4), .val (.int p5), .val (.int p6), .val (.int p7), .val (.int p8)] [(.int p7), (.int (5 : Int32)), (.ref b92), (.ref b92), (.ref b90), (.ref b90)])) _
                  refine st110 _ ?_
                  show Steps p.tables e below (T110.setTop (mkF m 199 #[.val (.int p1), .val (.int p2), .val (.int p3), .val (.int p4), .val (.int p5), .val (.int p6), .val (.int p7), .val (.int p8)] [(.ref b92), (.ref b90), (.ref b90)])) _
                  refine st112.trans ?_
                  show Steps p.tables e below (T112.setTop (mkF m 202 #[.val (.int p1), .val (.int p2), .val (.int p3), .val (.int p4), .val (.int p5), .val (.int p6), .val (.int p7), .val (.int p8)] [(.ref b90)])) _
                  exact X112.areturnOut hx rfl Bd.returns rfl (hb hby d2_202) hr
                · show Q_rm_mk Z p1 p2 p3 p4 p5 p6 p7 p8 cz h0 n0 _ T112.heap _
                  have eL : (own_cs p1 p2 p3 p4 p5 p6 p7 p8) = [nar .char p2, nar .char p3, nar .char p4, nar .char p5, nar .char p6, nar .char p7] := by rw [own_cs, if_neg hc1, if_neg hc17, if_neg hc37, if_neg hc61, if_neg hc89, if_neg hc122, if_pos hc161]
                  refine ⟨b90, t112, kb112, rfl, N112, f228, fk112_0, fk112_1, fk112_2, ?_⟩
                  rw [eL]
                  exact fk112_3
              · obtain ⟨T114, h114, X114, e114, E114, A114, D114, -, st114⟩ := newO X0 hx hZ hown (hw _ (List.mem_of_getElem? (i := 8) rfl)) (hw _ (List.mem_of_getElem? (i := 9) rfl)) (hw _ (List.mem_of_getElem? (i := 10) rfl)) e0 (g := (mkF m 203 #[.val (.int p1), .val (.int p2), .val (.int p3), .val (.int p4), .val (.int p5), .val (.int p6), .val (.int p7), .val (.int p8)] [])) rfl (hb hby d2_203) (by decide) (by decide)
                obtain ⟨b114, g114⟩ : ∃ z, z = h0.size := ⟨_, rfl⟩
                rw [← g114] at A114 D114 st114
                have sz_b114 : h0.size ≤ b114 := Nat.le_trans (Keep.refl h0 []).1 (Nat.le_of_eq g114.symm)
                have f232 : Sta Z h114 "java/lang/String" "COMPACT_STRINGS" "Z" (.int cz) := S_CS.ext E114
                have f233 : Keep h0 h114 [] := (Keep.refl h0 []).ext E114
                have C115 : CHr Z own_EL s.vm h0 s.vm h114 := C0.trans (CHr.ext E114 C0.1)
                have sf115_b114 : Safe Z own_EL s.vm h114 b114 := Safe.ext E114 C0.1 (Safe.new (Nat.le_of_eq g114.symm))
                have g_b114 : n0 ≤ b114 := Nat.le_trans Z0 (Nat.le_of_eq g114.symm)
                have Z114 : n0 ≤ h114.size := Nat.le_trans Z0 E114.1
                have F_value_b114 : Fld Z h114 b114 "java/lang/String" "value" "[B" .null := D114 (Or.inr (hw _ (List.mem_of_getElem? (i := 24) rfl))) (ty := (.array .byte)) (by decide)
                have F_coder_b114 : Fld Z h114 b114 "java/lang/String" "coder" "B" (.int (0 : Int32)) := D114 (Or.inr (hw _ (List.mem_of_getElem? (i := 25) rfl))) (ty := .byte) (by decide)
                obtain ⟨T116, h116, k116, X116, e116, E116, A116, st116⟩ := newP X114 hx hZ (hw _ (List.mem_of_getElem? (i := 11) rfl)) e114 (g := (mkF m 209 #[.val (.int p1), .val (.int p2), .val (.int p3), .val (.int p4), .val (.int p5), .val (.int p6), .val (.int p7), .val (.int p8)] [(.int (7 : Int32)), (.ref b114), (.ref b114)])) rfl (hb hby d2_209) rfl (by decide) (cap := 7) (by decide) (by decide) (by decide) (by decide)
                obtain ⟨b116, g116⟩ : ∃ z, z = h114.size := ⟨_, rfl⟩
                rw [← g116] at A116 st116
                have sz_b116 : h0.size ≤ b116 := Nat.le_trans f233.1 (Nat.le_of_eq g116.symm)
                have ne_b114_b116 : b114 ≠ b116 := Nat.ne_of_lt (Nat.lt_of_lt_of_le A114.lt (Nat.le_of_eq g116.symm))
                have f234 : Sta Z h116 "java/lang/String" "COMPACT_STRINGS" "Z" (.int cz) := f232.ext E116
                have f235 : Keep h0 h116 [] := f233.ext E116
                have f236 : n0 ≤ b114 := g_b114
                have f237 : Exa Z h116 b114 "java/lang/String" := A114.ext E116
                have f238 : Fld Z h116 b114 "java/lang/String" "value" "[B" .null := F_value_b114.ext E116
                have f239 : Fld Z h116 b114 "java/lang/String" "coder" "B" (.int (0 : Int32)) := F_coder_b114.ext E116
                have C117 : CHr Z own_EL s.vm h0 s.vm h116 := C115.trans (CHr.ext E116 C115.1)
                have sf117_b114 : Safe Z own_EL s.vm h116 b114 := Safe.ext E116 C115.1 sf115_b114
                have sf117_b116 : Safe Z own_EL s.vm h116 b116 := Safe.ext E116 C115.1 (Safe.new (Nat.le_of_eq g116.symm))
                have g_b116 : n0 ≤ b116 := Nat.le_trans Z114 (Nat.le_of_eq g116.symm)
                have Z116 : n0 ≤ h116.size := Nat.le_trans Z114 E116.1
                have V_b116 : Arv Z h116 b116 k116 .char (7 : Int32) [(.int (0 : Int32)), (.int (0 : Int32)), (.int (0 : Int32)), (.int (0 : Int32)), (.int (0 : Int32)), (.int (0 : Int32)), (.int (0 : Int32))] (.int (0 : Int32)) := (Arv.new A116 (by decide)).pad (pad_rep [] (.int (0 : Int32)) 7)
                obtain ⟨cl118, Ar118, aq118, aS118, aN118, aH118, aG118⟩ := V_b116
                have hin118 : ¬ ((0 : Int32) < 0 ∨ cl118.slots.size ≤ ((0 : Int32)).toNatClampNeg) := inb_of aS118 ⟨by decide, by decide⟩
                obtain ⟨T119, h119, X119, e119, W119, st119⟩ := stC X116 hx hZ e116 Ar118 (j := (0 : Int32)) hin118 (g := (mkF m 214 #[.val (.int p1), .val (.int p2), .val (.int p3), .val (.int p4), .val (.int p5), .val (.int p6), .val (.int p7), .val (.int p8)] [(.int p2), (.int (0 : Int32)), (.ref b116), (.ref b116), (.ref b114), (.ref b114)])) rfl rfl (hb hby d2_214)
                have V_b116_119 : Arv Z h119 b116 k116 .char (7 : Int32) [(.int (nar .char p2)), (.int (0 : Int32)), (.int (0 : Int32)), (.int (0 : Int32)), (.int (0 : Int32)), (.int (0 : Int32)), (.int (0 : Int32))] (.int (0 : Int32)) := Arv.set Ar118 aq118 aS118 aN118 aH118 aG118 (fits_nar_char _) W119 0 rfl (Nat.le_of_ble_eq_true rfl)
                have f240 : Sta Z h119 "java/lang/String" "COMPACT_STRINGS" "Z" (.int cz) := f234.wr W119
                have f241 : Keep h0 h119 [] := f235.wr W119 (Or.inr sz_b116)
                have f242 : n0 ≤ b114 := f236
                have f243 : Exa Z h119 b114 "java/lang/String" := f237.wr W119
                have f244 : Fld Z h119 b114 "java/lang/String" "value" "[B" .null := f238.other W119 (Or.inl ne_b114_b116)
                have f245 : Fld Z h119 b114 "java/lang/String" "coder" "B" (.int (0 : Int32)) := f239.other W119 (Or.inl ne_b114_b116)
                have f246 : n0 ≤ b116 := g_b116
                have C120 : CHr Z own_EL s.vm h0 s.vm h119 := C117.trans (CHr.wr W119 sf117_b116 C117.1)
                have sf120_b114 : Safe Z own_EL s.vm h119 b114 := Safe.wr W119 sf117_b116 C117.1 sf117_b114
                have sf120_b116 : Safe Z own_EL s.vm h119 b116 := Safe.wr W119 sf117_b116 C117.1 sf117_b116
                have N119 := Fr.snoc X119 N0 f246
                have Z119 : n0 ≤ h119.size := by rw [W119.size]; exact Z116
                obtain ⟨cl121, Ar121, aq121, aS121, aN121, aH121, aG121⟩ := V_b116_119
                have hin121 : ¬ ((1 : Int32) < 0 ∨ cl121.slots.size ≤ ((1 : Int32)).toNatClampNeg) := inb_of aS121 ⟨by decide, by decide⟩
                obtain ⟨T122, h122, X122, e122, W122, st122⟩ := stC X119 hx hZ e119 Ar121 (j := (1 : Int32)) hin121 (g := (mkF m 218 #[.val (.int p1), .val (.int p2), .val (.int p3), .val (.int p4), .val (.int p5), .val (.int p6), .val (.int p7), .val (.int p8)] [(.int p3), (.int (1 : Int32)), (.ref b116), (.ref b116), (.ref b114), (.ref b114)])) rfl rfl (hb hby d2_218)
                have V_b116_122 : Arv Z h122 b116 k116 .char (7 : Int32) [(.int (nar .char p2)), (.int (nar .char p3)), (.int (0 : Int32)), (.int (0 : Int32)), (.int (0 : Int32)), (.int (0 : Int32)), (.int (0 : Int32))] (.int (0 : Int32)) := Arv.set Ar121 aq121 aS121 aN121 aH121 aG121 (fits_nar_char _) W122 1 rfl (Nat.le_of_ble_eq_true rfl)
                have f247 : Sta Z h122 "java/lang/String" "COMPACT_STRINGS" "Z" (.int cz) := f240.wr W122
                have f248 : Keep h0 h122 [] := f241.wr W122 (Or.inr sz_b116)
                have f249 : n0 ≤ b114 := f242
                have f250 : Exa Z h122 b114 "java/lang/String" := f243.wr W122
                have f251 : Fld Z h122 b114 "java/lang/String" "value" "[B" .null := f244.other W122 (Or.inl ne_b114_b116)
                have f252 : Fld Z h122 b114 "java/lang/String" "coder" "B" (.int (0 : Int32)) := f245.other W122 (Or.inl ne_b114_b116)
                have f253 : n0 ≤ b116 := f246
                have C123 : CHr Z own_EL s.vm h0 s.vm h122 := C120.trans (CHr.wr W122 sf120_b116 C120.1)
                have sf123_b114 : Safe Z own_EL s.vm h122 b114 := Safe.wr W122 sf120_b116 C120.1 sf120_b114
                have sf123_b116 : Safe Z own_EL s.vm h122 b116 := Safe.wr W122 sf120_b116 C120.1 sf120_b116
                have N122 := Fr.snoc X122 N119 f253
                have Z122 : n0 ≤ h122.size := by rw [W122.size]; exact Z119
                obtain ⟨cl124, Ar124, aq124, aS124, aN124, aH124, aG124⟩ := V_b116_122
                have hin124 : ¬ ((2 : Int32) < 0 ∨ cl124.slots.size ≤ ((2 : Int32)).toNatClampNeg) := inb_of aS124 ⟨by decide, by decide⟩
                obtain ⟨T125, h125, X125, e125, W125, st125⟩ := stC X122 hx hZ e122 Ar124 (j := (2 : Int32)) hin124 (g := (mkF m 222 #[.val (.int p1), .val (.int p2), .val (.int p3), .val (.int p4), .val (.int p5), .val (.int p6), .val (.int p7), .val (.int p8)] [(.int p4), (.int (2 : Int32)), (.ref b116), (.ref b116), (.ref b114), (.ref b114)])) rfl rfl (hb hby d2_222)
                have V_b116_125 : Arv Z h125 b116 k116 .char (7 : Int32) [(.int (nar .char p2)), (.int (nar .char p3)), (.int (nar .char p4)), (.int (0 : Int32)), (.int (0 : Int32)), (.int (0 : Int32)), (.int (0 : Int32))] (.int (0 : Int32)) := Arv.set Ar124 aq124 aS124 aN124 aH124 aG124 (fits_nar_char _) W125 2 rfl (Nat.le_of_ble_eq_true rfl)
                have f254 : Sta Z h125 "java/lang/String" "COMPACT_STRINGS" "Z" (.int cz) := f247.wr W125
                have f255 : Keep h0 h125 [] := f248.wr W125 (Or.inr sz_b116)
                have f256 : n0 ≤ b114 := f249
                have f257 : Exa Z h125 b114 "java/lang/String" := f250.wr W125
                have f258 : Fld Z h125 b114 "java/lang/String" "value" "[B" .null := f251.other W125 (Or.inl ne_b114_b116)
                have f259 : Fld Z h125 b114 "java/lang/String" "coder" "B" (.int (0 : Int32)) := f252.other W125 (Or.inl ne_b114_b116)
                have f260 : n0 ≤ b116 := f253
                have C126 : CHr Z own_EL s.vm h0 s.vm h125 := C123.trans (CHr.wr W125 sf123_b116 C123.1)
                have sf126_b114 : Safe Z own_EL s.vm h125 b114 := Safe.wr W125 sf123_b116 C123.1 sf123_b114
                have sf126_b116 : Safe Z own_EL s.vm h125 b116 := Safe.wr W125 sf123_b116 C123.1 sf123_b116
                have N125 := Fr.snoc X125 N122 f260
                have Z125 : n0 ≤ h125.size := by rw [W125.size]; exact Z122
                obtain ⟨cl127, Ar127, aq127, aS127, aN127, aH127, aG127⟩ := V_b116_125
                have hin127 : ¬ ((3 : Int32) < 0 ∨ cl127.slots.size ≤ ((3 : Int32)).toNatClampNeg) := inb_of aS127 ⟨by decide, by decide⟩
                obtain ⟨T128, h128, X128, e128, W128, st128⟩ := stC X125 hx hZ e125 Ar127 (j := (3 : Int32)) hin127 (g := (mkF m 227 #[.val (.int p1), .val (.int p2), .val (.int p3), .val (.int p4), .val (.int p5), .val (.int p6), .val (.int p7), .val (.int p8)] [(.int p5), (.int (3 : Int32)), (.ref b116), (.ref b116), (.ref b114), (.ref b114)])) rfl rfl (hb hby d2_227)
                have V_b116_128 : Arv Z h128 b116 k116 .char (7 : Int32) [(.int (nar .char p2)), (.int (nar .char p3)), (.int (nar .char p4)), (.int (nar .char p5)), (.int (0 : Int32)), (.int (0 : Int32)), (.int (0 : Int32))] (.int (0 : Int32)) := Arv.set Ar127 aq127 aS127 aN127 aH127 aG127 (fits_nar_char _) W128 3 rfl (Nat.le_of_ble_eq_true rfl)
                have f261 : Sta Z h128 "java/lang/String" "COMPACT_STRINGS" "Z" (.int cz) := f254.wr W128
                have f262 : Keep h0 h128 [] := f255.wr W128 (Or.inr sz_b116)
                have f263 : n0 ≤ b114 := f256
                have f264 : Exa Z h128 b114 "java/lang/String" := f257.wr W128
                have f265 : Fld Z h128 b114 "java/lang/String" "value" "[B" .null := f258.other W128 (Or.inl ne_b114_b116)
                have f266 : Fld Z h128 b114 "java/lang/String" "coder" "B" (.int (0 : Int32)) := f259.other W128 (Or.inl ne_b114_b116)
                have f267 : n0 ≤ b116 := f260
                have C129 : CHr Z own_EL s.vm h0 s.vm h128 := C126.trans (CHr.wr W128 sf126_b116 C126.1)
                have sf129_b114 : Safe Z own_EL s.vm h128 b114 := Safe.wr W128 sf126_b116 C126.1 sf126_b114
                have sf129_b116 : Safe Z own_EL s.vm h128 b116 := Safe.wr W128 sf126_b116 C126.1 sf126_b116
                have N128 := Fr.snoc X128 N125 f267
                have Z128 : n0 ≤ h128.size := by rw [W128.size]; exact Z125
                obtain ⟨cl130, Ar130, aq130, aS130, aN130, aH130, aG130⟩ := V_b116_128
                have hin130 : ¬ ((4 : Int32) < 0 ∨ cl130.slots.size ≤ ((4 : Int32)).toNatClampNeg) := inb_of aS130 ⟨by decide, by decide⟩
                obtain ⟨T131, h131, X131, e131, W131, st131⟩ := stC X128 hx hZ e128 Ar130 (j := (4 : Int32)) hin130 (g := (mkF m 232 #[.val (.int p1), .val (.int p2), .val (.int p3), .val (.int p4), .val (.int p5), .val (.int p6), .val (.int p7), .val (.int p8)] [(.int p6), (.int (4 : Int32)), (.ref b116), (.ref b116), (.ref b114), (.ref b114)])) rfl rfl (hb hby d2_232)
                have V_b116_131 : Arv Z h131 b116 k116 .char (7 : Int32) [(.int (nar .char p2)), (.int (nar .char p3)), (.int (nar .char p4)), (.int (nar .char p5)), (.int (nar .char p6)), (.int (0 : Int32)), (.int (0 : Int32))] (.int (0 : Int32)) := Arv.set Ar130 aq130 aS130 aN130 aH130 aG130 (fits_nar_char _) W131 4 rfl (Nat.le_of_ble_eq_true rfl)
                have f268 : Sta Z h131 "java/lang/String" "COMPACT_STRINGS" "Z" (.int cz) := f261.wr W131
                have f269 : Keep h0 h131 [] := f262.wr W131 (Or.inr sz_b116)
                have f270 : n0 ≤ b114 := f263
                have f271 : Exa Z h131 b114 "java/lang/String" := f264.wr W131
                have f272 : Fld Z h131 b114 "java/lang/String" "value" "[B" .null := f265.other W131 (Or.inl ne_b114_b116)
                have f273 : Fld Z h131 b114 "java/lang/String" "coder" "B" (.int (0 : Int32)) := f266.other W131 (Or.inl ne_b114_b116)
                have f274 : n0 ≤ b116 := f267
                have C132 : CHr Z own_EL s.vm h0 s.vm h131 := C129.trans (CHr.wr W131 sf129_b116 C129.1)
                have sf132_b114 : Safe Z own_EL s.vm h131 b114 := Safe.wr W131 sf129_b116 C129.1 sf129_b114
                have sf132_b116 : Safe Z own_EL s.vm h131 b116 := Safe.wr W131 sf129_b116 C129.1 sf129_b116
                have N131 := Fr.snoc X131 N128 f274
                have Z131 : n0 ≤ h131.size := by rw [W131.size]; exact Z128
                obtain ⟨cl133, Ar133, aq133, aS133, aN133, aH133, aG133⟩ := V_b116_131
                have hin133 : ¬ ((5 : Int32) < 0 ∨ cl133.slots.size ≤ ((5 : Int32)).toNatClampNeg) := inb_of aS133 ⟨by decide, by decide⟩
                obtain ⟨T134, h134, X134, e134, W134, st134⟩ := stC X131 hx hZ e131 Ar133 (j := (5 : Int32)) hin133 (g := (mkF m 237 #[.val (.int p1), .val (.int p2), .val (.int p3), .val (.int p4), .val (.int p5), .val (.int p6), .val (.int p7), .val (.int p8)] [(.int p7), (.int (5 : Int32)), (.ref b116), (.ref b116), (.ref b114), (.ref b114)])) rfl rfl (hb hby d2_237)
                have V_b116_134 : Arv Z h134 b116 k116 .char (7 : Int32) [(.int (nar .char p2)), (.int (nar .char p3)), (.int (nar .char p4)), (.int (nar .char p5)), (.int (nar .char p6)), (.int (nar .char p7)), (.int (0 : Int32))] (.int (0 : Int32)) := Arv.set Ar133 aq133 aS133 aN133 aH133 aG133 (fits_nar_char _) W134 5 rfl (Nat.le_of_ble_eq_true rfl)
                have f275 : Sta Z h134 "java/lang/String" "COMPACT_STRINGS" "Z" (.int cz) := f268.wr W134
                have f276 : Keep h0 h134 [] := f269.wr W134 (Or.inr sz_b116)
                have f277 : n0 ≤ b114 := f270
                have f278 : Exa Z h134 b114 "java/lang/String" := f271.wr W134
                have f279 : Fld Z h134 b114 "java/lang/String" "value" "[B" .null := f272.other W134 (Or.inl ne_b114_b116)
                have f280 : Fld Z h134 b114 "java/lang/String" "coder" "B" (.int (0 : Int32)) := f273.other W134 (Or.inl ne_b114_b116)
                have f281 : n0 ≤ b116 := f274
                have C135 : CHr Z own_EL s.vm h0 s.vm h134 := C132.trans (CHr.wr W134 sf132_b116 C132.1)
                have sf135_b114 : Safe Z own_EL s.vm h134 b114 := Safe.wr W134 sf132_b116 C132.1 sf132_b114
                have sf135_b116 : Safe Z own_EL s.vm h134 b116 := Safe.wr W134 sf132_b116 C132.1 sf132_b116
                have N134 := Fr.snoc X134 N131 f281
                have Z134 : n0 ≤ h134.size := by rw [W134.size]; exact Z131
                obtain ⟨cl136, Ar136, aq136, aS136, aN136, aH136, aG136⟩ := V_b116_134
                have hin136 : ¬ ((6 : Int32) < 0 ∨ cl136.slots.size ≤ ((6 : Int32)).toNatClampNeg) := inb_of aS136 ⟨by decide, by decide⟩
                obtain ⟨T137, h137, X137, e137, W137, st137⟩ := stC X134 hx hZ e134 Ar136 (j := (6 : Int32)) hin136 (g := (mkF m 243 #[.val (.int p1), .val (.int p2), .val (.int p3), .val (.int p4), .val (.int p5), .val (.int p6), .val (.int p7), .val (.int p8)] [(.int p8), (.int (6 : Int32)), (.ref b116), (.ref b116), (.ref b114), (.ref b114)])) rfl rfl (hb hby d2_243)
                have V_b116_137 : Arv Z h137 b116 k116 .char (7 : Int32) [(.int (nar .char p2)), (.int (nar .char p3)), (.int (nar .char p4)), (.int (nar .char p5)), (.int (nar .char p6)), (.int (nar .char p7)), (.int (nar .char p8))] (.int (0 : Int32)) := Arv.set Ar136 aq136 aS136 aN136 aH136 aG136 (fits_nar_char _) W137 6 rfl (Nat.le_of_ble_eq_true rfl)
                have f282 : Sta Z h137 "java/lang/String" "COMPACT_STRINGS" "Z" (.int cz) := f275.wr W137
                have f283 : Keep h0 h137 [] := f276.wr W137 (Or.inr sz_b116)
                have f284 : n0 ≤ b114 := f277
                have f285 : Exa Z h137 b114 "java/lang/String" := f278.wr W137
                have f286 : Fld Z h137 b114 "java/lang/String" "value" "[B" .null := f279.other W137 (Or.inl ne_b114_b116)
                have f287 : Fld Z h137 b114 "java/lang/String" "coder" "B" (.int (0 : Int32)) := f280.other W137 (Or.inl ne_b114_b116)
                have f288 : n0 ≤ b116 := f281
                have C138 : CHr Z own_EL s.vm h0 s.vm h137 := C135.trans (CHr.wr W137 sf135_b116 C135.1)
                have sf138_b114 : Safe Z own_EL s.vm h137 b114 := Safe.wr W137 sf135_b116 C135.1 sf135_b114
                have sf138_b116 : Safe Z own_EL s.vm h137 b116 := Safe.wr W137 sf135_b116 C135.1 sf135_b116
                have N137 := Fr.snoc X137 N134 f288
                have Z137 : n0 ≤ h137.size := by rw [W137.size]; exact Z134
                obtain ⟨_, _, ⟨T139, L139, k139, n139⟩, -, X139, ⟨Lc139, hQ139, l139, y139, z139⟩, st139⟩ := X137.specialBack hx (y := (⟨"java/lang/String", "<init>", "([C)V"⟩ : MethodName)) rfl hown (mvT hZ (hw _ (List.mem_of_getElem? (i := 12) rfl))) (mvT hZ (hw _ (List.mem_of_getElem? (i := 13) rfl))) (mvT hZ (hw _ (List.mem_of_getElem? (i := 14) rfl))) (by decide) (StrChars.Road.backV (W := 1) hZ (fun d hd => hw d (own_words d hd)) (kI := 4) (hw _ (List.mem_of_getElem? (i := 9) rfl)) (cs := [(nar .char p2), (nar .char p3), (nar .char p4), (nar .char p5), (nar .char p6), (nar .char p7), (nar .char p8)]) (bs := [(nar .char p2).toInt8.toInt32, (nar .char p3).toInt8.toInt32, (nar .char p4).toInt8.toInt32, (nar .char p5).toInt8.toInt32, (nar .char p6).toInt8.toInt32, (nar .char p7).toInt8.toInt32, (nar .char p8).toInt8.toInt32]) (n := 7) f284 Z137 f285 f286 f287 V_b116_137 f282 hcs rfl rfl (by decide) (by decide) (List.forall_mem_cons.mpr ⟨own_nc hp2, (List.forall_mem_cons.mpr ⟨own_nc hp3, (List.forall_mem_cons.mpr ⟨own_nc hp4, (List.forall_mem_cons.mpr ⟨own_nc hp5, (List.forall_mem_cons.mpr ⟨own_nc hp6, (List.forall_mem_cons.mpr ⟨own_nc hp7, (List.forall_mem_cons.mpr ⟨own_nc hp8, (fun _ h => nomatch h)⟩)⟩)⟩)⟩)⟩)⟩)⟩) rfl (by decide) (by decide)) (g := (mkF m 244 #[.val (.int p1), .val (.int p2), .val (.int p3), .val (.int p4), .val (.int p5), .val (.int p6), .val (.int p7), .val (.int p8)] [(.ref b116), (.ref b114), (.ref b114)])) rfl (by rw [hml]; rfl) (Steps.refl _) (a := b114) (argsL := [(.ref b116)]) (rest := [(.ref b114)]) (lenOf pd___C_V_325 rfl) rfl (by show 2 * 0 + _ ≤ _; exact Nat.le_of_eq rfl) (hb hby d2_244) (fun _ _ => ⟨rfl, e137, (by decide : 2 + 1 ≤ _), (by decide : 11 + 7 ≤ _)⟩)
                dsimp only [Pt.U, Pt.locs, Pt.cells, Pt.slots] at X139 l139 y139 z139 st139 hQ139
                subst l139 y139 z139
                obtain ⟨rfl, N139q, K139, fk139_0, fk139_1, t139, kb139, -, -, -, fk139_2, fk139_3⟩ := hQ139
                have f289 : Keep h0 T139.heap [] := f283.trans K139 (fun x hx => by cases List.mem_singleton.mp hx; exact Or.inr sz_b114)
                have f290 : n0 ≤ b114 := f284
                have f291 : n0 ≤ b116 := f288
                have f292 : Arv Z T139.heap b116 k116 .char (7 : Int32) [(.int (nar .char p2)), (.int (nar .char p3)), (.int (nar .char p4)), (.int (nar .char p5)), (.int (nar .char p6)), (.int (nar .char p7)), (.int (nar .char p8))] (.int (0 : Int32)) := V_b116_137.keep K139 (by simp [(Ne.symm ne_b114_b116)])
                have C140 : CHr Z own_EL s.vm h0 s.vm T139.heap := C138.trans (CHr.keep K139 (sfS sf138_b114 sf0) C138.1)
                have sf140_b114 : Safe Z own_EL s.vm T139.heap b114 := Safe.keep K139 (sfS sf138_b114 sf0) C138.1 sf138_b114
                have sf140_b116 : Safe Z own_EL s.vm T139.heap b116 := Safe.keep K139 (sfS sf138_b114 sf0) C138.1 sf138_b116
                have Z139 : n0 ≤ T139.heap.size := Nat.le_trans Z137 K139.1
                have N139 := Fr.app N137 N139q
                obtain ⟨fs, hr, hrun, hended, hW, hsame⟩ := X139.leave (v := some (.ref b114)) (fun h => by rw [Bd.returns] at h; cases h) (hlocks := Bd.notSynchronized)
                refine ⟨_, _, pre_89 _ ?_, hrun, hended, _, _, rfl, ?_, (by show CHr Z own_EL s.vm s.heap T139.vm T139.heap; rw [hh]; exact C140.trans (CHv.at (s := s) (vm0 := s.vm) X139 hZ hEL C140.1)), ReturnedEndW.of_narrow ⟨_, rfl⟩ hW (hsame.mono (by decide) (by decide))⟩
                · show Steps p.tables e below (s₁.setTop (mkF m 161 #[.val (.int p1), .val (.int p2), .val (.int p3), .val (.int p4), .val (.int p5), .val (.int p6), .val (.int p7), .val (.int p8)] [(.int (6 : Int32)), (.int p1)])) _
                  refine XS.icmpYes X0.here hx rfl (pc0 := 161) (pc' := 203) rfl (hb hby d2_161) rfl (feq hc161).2 (by decide) (by decide) ?_
                  show Steps p.tables e below (s₁.setTop (mkF m 203 #[.val (.int p1), .val (.int p2), .val (.int p3), .val (.int p4), .val (.int p5), .val (.int p6), .val (.int p7), .val (.int p8)] [])) _
                  refine st114 _ ?_
                  show Steps p.tables e below (T114.setTop (mkF m 206 #[.val (.int p1), .val (.int p2), .val (.int p3), .val (.int p4), .val (.int p5), .val (.int p6), .val (.int p7), .val (.int p8)] [(.ref b114)])) _
                  refine XS.dup X114.here hx rfl (hb hby d2_206) rfl rfl ?_
                  show Steps p.tables e below (T114.setTop (mkF m 207 #[.val (.int p1), .val (.int p2), .val (.int p3), .val (.int p4), .val (.int p5), .val (.int p6), .val (.int p7), .val (.int p8)] [(.ref b114), (.ref b114)])) _
                  refine XS.bipush X114.here hx rfl (hb hby d2_207) ?_
                  show Steps p.tables e below (T114.setTop (mkF m 209 #[.val (.int p1), .val (.int p2), .val (.int p3), .val (.int p4), .val (.int p5), .val (.int p6), .val (.int p7), .val (.int p8)] [(.int (7 : Int32)), (.ref b114), (.ref b114)])) _
                  refine st116 _ ?_
                  show Steps p.tables e below (T116.setTop (mkF m 211 #[.val (.int p1), .val (.int p2), .val (.int p3), .val (.int p4), .val (.int p5), .val (.int p6), .val (.int p7), .val (.int p8)] [(.ref b116), (.ref b114), (.ref b114)])) _
                  refine XS.dup X116.here hx rfl (hb hby d2_211) rfl rfl ?_
                  show Steps p.tables e below (T116.setTop (mkF m 212 #[.val (.int p1), .val (.int p2), .val (.int p3), .val (.int p4), .val (.int p5), .val (.int p6), .val (.int p7), .val (.int p8)] [(.ref b116), (.ref b116), (.ref b114), (.ref b114)])) _
                  refine XS.iconst X116.here hx rfl (hb hby d2_212) ?_
                  show Steps p.tables e below (T116.setTop (mkF m 213 #[.val (.int p1), .val (.int p2), .val (.int p3), .val (.int p4), .val (.int p5), .val (.int p6), .val (.int p7), .val (.int p8)] [(.int (0 : Int32)), (.ref b116), (.ref b116), (.ref b114), (.ref b114)])) _
                  refine XS.iloadN X116.here hx rfl (hb hby d2_213) rfl ?_
                  show Steps p.tables e below (T116.setTop (mkF m 214 #[.val (.int p1), .val (.int p2), .val (.int p3), .val (.int p4), .val (.int p5), .val (.int p6), .val (.int p7), .val (.int p8)] [(.int p2), (.int (0 : Int32)), (.ref b116), (.ref b116), (.ref b114), (.ref b114)])) _
                  refine st119 _ ?_
                  show Steps p.tables e below (T119.setTop (mkF m 215 #[.val (.int p1), .val (.int p2), .val (.int p3), .val (.int p4), .val (.int p5), .val (.int p6), .val (.int p7), .val (.int p8)] [(.ref b116), (.ref b114), (.ref b114)])) _
                  refine XS.dup X119.here hx rfl (hb hby d2_215) rfl rfl ?_
                  show Steps p.tables e below (T119.setTop (mkF m 216 #[.val (.int p1), .val (.int p2), .val (.int p3), .val (.int p4), .val (.int p5), .val (.int p6), .val (.int p7), .val (.int p8)] [(.ref b116), (.ref b116), (.ref b114), (.ref b114)])) _
                  refine XS.iconst X119.here hx rfl (hb hby d2_216) ?_
                  show Steps p.tables e below (T119.setTop (mkF m 217 #[.val (.int p1), .val (.int p2), .val (.int p3), .val (.int p4), .val (.int p5), .val (.int p6), .val (.int p7), .val (.int p8)] [(.int (1 : Int32)), (.ref b116), (.ref b116), (.ref b114), (.ref b114)])) _
                  refine XS.iloadN X119.here hx rfl (hb hby d2_217) rfl ?_
                  show Steps p.tables e below (T119.setTop (mkF m 218 #[.val (.int p1), .val (.int p2), .val (.int p3), .val (.int p4), .val (.int p5), .val (.int p6), .val (.int p7), .val (.int p8)] [(.int p3), (.int (1 : Int32)), (.ref b116), (.ref b116), (.ref b114), (.ref b114)])) _
                  refine st122 _ ?_
                  show Steps p.tables e below (T122.setTop (mkF m 219 #[.val (.int p1), .val (.int p2), .val (.int p3), .val (.int p4), .val (.int p5), .val (.int p6), .val (.int p7), .val (.int p8)] [(.ref b116), (.ref b114), (.ref b114)])) _
                  refine XS.dup X122.here hx rfl (hb hby d2_219) rfl rfl ?_
                  show Steps p.tables e below (T122.setTop (mkF m 220 #[.val (.int p1), .val (.int p2), .val (.int p3), .val (.int p4), .val (.int p5), .val (.int p6), .val (.int p7), .val (.int p8)] [(.ref b116), (.ref b116), (.ref b114), (.ref b114)])) _
                  refine XS.iconst X122.here hx rfl (hb hby d2_220) ?_
                  show Steps p.tables e below (T122.setTop (mkF m 221 #[.val (.int p1), .val (.int p2), .val (.int p3), .val (.int p4), .val (.int p5), .val (.int p6), .val (.int p7), .val (.int p8)] [(.int (2 : Int32)), (.ref b116), (.ref b116), (.ref b114), (.ref b114)])) _
                  refine XS.iloadN X122.here hx rfl (hb hby d2_221) rfl ?_
                  show Steps p.tables e below (T122.setTop (mkF m 222 #[.val (.int p1), .val (.int p2), .val (.int p3), .val (.int p4), .val (.int p5), .val (.int p6), .val (.int p7), .val (.int p8)] [(.int p4), (.int (2 : Int32)), (.ref b116), (.ref b116), (.ref b114), (.ref b114)])) _
                  refine st125 _ ?_
                  show Steps p.tables e below (T125.setTop (mkF m 223 #[.val (.int p1), .val (.int p2), .val (.int p3), .val (.int p4), .val (.int p5), .val (.int p6), .val (.int p7), .val (.int p8)] [(.ref b116), (.ref b114), (.ref b114)])) _
                  refine XS.dup X125.here hx rfl (hb hby d2_223) rfl rfl ?_
                  show Steps p.tables e below (T125.setTop (mkF m 224 #[.val (.int p1), .val (.int p2), .val (.int p3), .val (.int p4), .val (.int p5), .val (.int p6), .val (.int p7), .val (.int p8)] [(.ref b116), (.ref b116), (.ref b114), (.ref b114)])) _
                  refine XS.iconst X125.here hx rfl (hb hby d2_224) ?_
                  show Steps p.tables e below (T125.setTop (mkF m 225 #[.val (.int p1), .val (.int p2), .val (.int p3), .val (.int p4), .val (.int p5), .val (.int p6), .val (.int p7), .val (.int p8)] [(.int (3 : Int32)), (.ref b116), (.ref b116), (.ref b114), (.ref b114)])) _
                  refine XS.iload X125.here hx rfl (hb hby d2_225) rfl ?_
                  show Steps p.tables e below (T125.setTop (mkF m 227 #[.val (.int p1), .val (.int p2), .val (.int p3), .val (.int p4), .val (.int p5), .val (.int p6), .val (.int p7), .val (.int p8)] [(.int p5), (.int (3 : Int32)), (.ref b116), (.ref b116), (.ref b114), (.ref b114)])) _
                  refine st128 _ ?_
                  show Steps p.tables e below (T128.setTop (mkF m 228 #[.val (.int p1), .val (.int p2), .val (.int p3), .val (.int p4), .val (.int p5), .val (.int p6), .val (.int p7), .val (.int p8)] [(.ref b116), (.ref b114), (.ref b114)])) _
                  refine XS.dup X128.here hx rfl (hb hby d2_228) rfl rfl ?_
                  show Steps p.tables e below (T128.setTop (mkF m 229 #[.val (.int p1), .val (.int p2), .val (.int p3), .val (.int p4), .val (.int p5), .val (.int p6), .val (.int p7), .val (.int p8)] [(.ref b116), (.ref b116), (.ref b114), (.ref b114)])) _
                  refine XS.iconst X128.here hx rfl (hb hby d2_229) ?_
                  show Steps p.tables e below (T128.setTop (mkF m 230 #[.val (.int p1), .val (.int p2), .val (.int p3), .val (.int p4), .val (.int p5), .val (.int p6), .val (.int p7), .val (.int p8)] [(.int (4 : Int32)), (.ref b116), (.ref b116), (.ref b114), (.ref b114)])) _
                  refine XS.iload X128.here hx rfl (hb hby d2_230) rfl ?_
                  show Steps p.tables e below (T128.setTop (mkF m 232 #[.val (.int p1), .val (.int p2), .val (.int p3), .val (.int p4), .val (.int p5), .val (.int p6), .val (.int p7), .val (.int p8)] [(.int p6), (.int (4 : Int32)), (.ref b116), (.ref b116), (.ref b114), (.ref b114)])) _
                  refine st131 _ ?_
                  show Steps p.tables e below (T131.setTop (mkF m 233 #[.val (.int p1), .val (.int p2), .val (.int p3), .val (.int p4), .val (.int p5), .val (.int p6), .val (.int p7), .val (.int p8)] [(.ref b116), (.ref b114), (.ref b114)])) _
                  refine XS.dup X131.here hx rfl (hb hby d2_233) rfl rfl ?_
                  show Steps p.tables e below (T131.setTop (mkF m 234 #[.val (.int p1), .val (.int p2), .val (.int p3), .val (.int p4), .val (.int p5), .val (.int p6), .val (.int p7), .val (.int p8)] [(.ref b116), (.ref b116), (.ref b114), (.ref b114)])) _
                  refine XS.iconst X131.here hx rfl (hb hby d2_234) ?_
                  show Steps p.tables e below (T131.setTop (mkF m 235 #[.val (.int p1), .val (.int p2), .val (.int p3), .val (.int p4), .val (.int p5), .val (.int p6), .val (.int p7), .val (.int p8)] [(.int (5 : Int32)), (.ref b116), (.ref b116), (.ref b114), (.ref b114)])) _
                  refine XS.iload X131.here hx rfl (hb hby d2_235) rfl ?_
                  show Steps p.tables e below (T131.setTop (mkF m 237 #[.val (.int p1), .val (.int p2), .val (.int p3), .val (.int p4), .val (.int p5), .val (.int p6), .val (.int p7), .val (.int p8)] [(.int p7), (.int (5 : Int32)), (.ref b116), (.ref b116), (.ref b114), (.ref b114)])) _
                  refine st134 _ ?_
                  show Steps p.tables e below (T134.setTop (mkF m 238 #[.val (.int p1), .val (.int p2), .val (.int p3), .val (.int p4), .val (.int p5), .val (.int p6), .val (.int p7), .val (.int p8)] [(.ref b116), (.ref b114), (.ref b114)])) _
                  refine XS.dup X134.here hx rfl (hb hby d2_238) rfl rfl ?_
                  show Steps p.tables e below (T134.setTop (mkF m 239 #[.val (.int p1), .val (.int p2), .val (.int p3), .val (.int p4), .val (.int p5), .val (.int p6), .val (.int p7), .val (.int p8)] [(.ref b116), (.ref b116), (.ref b114), (.ref b114)])) _
                  refine XS.bipush X134.here hx rfl (hb hby d2_239) ?_
                  show Steps p.tables e below (T134.setTop (mkF m 241 #[.val (.int p1), .val (.int p2), .val (.int p3), .val (.int p4), .val (.int p5), .val (.int p6), .val (.int p7), .val (.int p8)] [(.int (6 : Int32)), (.ref b116), (.ref b116), (.ref b114), (.ref b114)])) _
                  refine XS.iload X134.here hx rfl (hb hby d2_241) rfl ?_
                  show Steps p.tables e below (T134.setTop (mkF m 243 #[.val (.int p1), .val (.int p2), .val (.int p3), .val (.int p4), .val (.int p5), .val (.int p6), .val (.int p7), .val (.int p8)] [(.int p8), (.int (6 : Int32)), (.ref b116), (.ref b116), (.ref b114), (.ref b114)])) _
                  refine st137 _ ?_
                  show Steps p.tables e below (T137.setTop (mkF m 244 #[.val (.int p1), .val (.int p2), .val (.int p3), .val (.int p4), .val (.int p5), .val (.int p6), .val (.int p7), .val (.int p8)] [(.ref b116), (.ref b114), (.ref b114)])) _
                  refine st139.trans ?_
                  show Steps p.tables e below (T139.setTop (mkF m 247 #[.val (.int p1), .val (.int p2), .val (.int p3), .val (.int p4), .val (.int p5), .val (.int p6), .val (.int p7), .val (.int p8)] [(.ref b114)])) _
                  exact X139.areturnOut hx rfl Bd.returns rfl (hb hby d2_247) hr
                · show Q_rm_mk Z p1 p2 p3 p4 p5 p6 p7 p8 cz h0 n0 _ T139.heap _
                  have eL : (own_cs p1 p2 p3 p4 p5 p6 p7 p8) = [nar .char p2, nar .char p3, nar .char p4, nar .char p5, nar .char p6, nar .char p7, nar .char p8] := by rw [own_cs, if_neg hc1, if_neg hc17, if_neg hc37, if_neg hc61, if_neg hc89, if_neg hc122, if_neg hc161]
                  refine ⟨b114, t139, kb139, rfl, N139, f289, fk139_0, fk139_1, fk139_2, ?_⟩
                  rw [eL]
                  exact fk139_3
theorem pn_6 : plainName "com/example/mended_hedge/mendedhedge/cli/Command" = true := by first | (simp [plainName, overriddenIn]; done) | decide +kernel
theorem ef_rm_ih (m : MethodId) (x0 : Addr) : entryFrame m #[(.ref x0)] 1 = mkF m 0 #[.val (.ref x0)] [] := by first | (simp [entryFrame, mkF, argsToLocals, Value.category]; done) | rfl
def Q_rm_ih (Z : State) (a1 : Addr) (t1 : Addr) (kb1 : ClassId) (cl : List Int32) (cz : Int32) (h0 : Heap) (n0 : Nat) (v : Option Value) (h : Heap) (L : List Loc) : Prop := v = some (.int (own_help cl)) ∧ Fr n0 L ∧ Keep h0 h []
theorem d6_0 : decode prog_2_method_14_code 0 = .ok (.aload_n 0, 1) := by decide +kernel
theorem d6_1 : decode prog_2_method_14_code 1 = .ok (.ldc 37, 2) := by decide +kernel
theorem pd__Ljava_lang_Object__Z_1835 : parseMethodDescriptor "(Ljava/lang/Object;)Z" = some ⟨[(.object "java/lang/Object")], some .boolean⟩ := by decide +kernel
theorem d6_3 : decode prog_2_method_14_code 3 = .ok (.invokevirtual 167, 3) := by decide +kernel
theorem d6_6 : decode prog_2_method_14_code 6 = .ok (.ifCond .ne 12, 3) := by decide +kernel
theorem d6_18 : decode prog_2_method_14_code 18 = .ok (.iconst 1, 1) := by decide +kernel
theorem d6_19 : decode prog_2_method_14_code 19 = .ok (.goto 4, 3) := by decide +kernel
theorem d6_23 : decode prog_2_method_14_code 23 = .ok (.ireturn, 1) := by decide +kernel
theorem d6_9 : decode prog_2_method_14_code 9 = .ok (.aload_n 0, 1) := by decide +kernel
theorem d6_10 : decode prog_2_method_14_code 10 = .ok (.ldc 35, 2) := by decide +kernel
theorem d6_12 : decode prog_2_method_14_code 12 = .ok (.invokevirtual 167, 3) := by decide +kernel
theorem d6_15 : decode prog_2_method_14_code 15 = .ok (.ifCond .eq 7, 3) := by decide +kernel
theorem d6_22 : decode prog_2_method_14_code 22 = .ok (.iconst 0, 1) := by decide +kernel
set_option maxRecDepth 65536 in
set_option maxHeartbeats 40000000 in
theorem rm_ih (l : Launch) (Z : State) (a0 : Array Value) (hw : ∀ d ∈ tables_1, d.before a0 Z = true) (ws : List Jvm.Cond) (a1 : Addr) (t1 : Addr) (kb1 : ClassId) (cl : List Int32) (cz : Int32) (h0 : Heap) (n0 : Nat) (Z0 : n0 ≤ h0.size) (hEL : EW Z a0 own_EL) (E_a1 : Exa Z h0 a1 "java/lang/String") (C_a1 : Fld Z h0 a1 "java/lang/String" "coder" "B" (.int (0 : Int32))) (F_a1 : Fld Z h0 a1 "java/lang/String" "value" "[B" (.ref t1)) (V_t1 : Arv Z h0 t1 kb1 .byte (Int32.ofNat cl.length) ((cl.map (fun c => c.toInt8.toInt32)).map Value.int) (.int 0)) (hp : ∀ c ∈ cl, ¬ c < 0 ∧ ¬ (255 : Int32) < c) (hl : cl.length ≤ 4000) (S_CS : Sta Z h0 "java/lang/String" "COMPACT_STRINGS" "Z" (.int cz)) (hcs : ¬ cz = (0 : Int32)) :
    MetFree l (⟨"com/example/mended_hedge/mendedhedge/cli/Command", "isHelp", "(Ljava/lang/String;)Z"⟩ : MethodName) (head1 (Jvm.Cond.code (⟨"com/example/mended_hedge/mendedhedge/cli/Command", "isHelp", "(Ljava/lang/String;)Z"⟩ : MethodName) prog_2_method_14_code 1 (some .boolean) :: ws) ({ frames := 2, cells := 4, slots := 40, locals := 28 } : Room)) (fun a U => a = #[(.ref a1)] ∧ Z.Warmed39 U.vm ∧ U.heap = h0 ∧ CHv Z own_EL U.vm h0) (fun _ _ _ _ _ => True) (fun _ U o U' => ∃ v L, o = .returned v ∧ Q_rm_ih Z a1 t1 kb1 cl cz h0 n0 v U'.heap L ∧ CHr Z own_EL U.vm U.heap U'.vm U'.heap ∧ ReturnedEndW U o U' L ({ frames := 2, cells := 4, slots := 40, locals := 28 } : Room).cells ({ frames := 2, cells := 4, slots := 40, locals := 28 } : Room).slots) := by
  refine MetFree.of_bodySF (plainFor_of_name pn_6) hisR ?_
  intro p e s m args below meth c s₁ Bd hml0 hP hK
  obtain ⟨rfl, hZ, hh, hCH⟩ := hP
  have hx := Bd.exec
  have hby := Bd.bytes
  have hml : c.maxLocals = 1 := hml0
  have hown : s.vm.findClass "com/example/mended_hedge/mendedhedge/cli/Command" = some m.cls := findClass_of_methodNamed Bd.named
  have hnm := (name_of_methodNamed Bd.named Bd.method).1
  have X0 : Stand p l e ({ frames := 2, cells := 4, slots := 40, locals := 28 } : Room) s m #[(.ref a1)] below meth c s₁ [] 0 0 := Stand.of_body Bd
  have e0 : s₁.heap = h0 := by rw [← hh, Bd.state]; rfl
  have N0 := Fr.nil n0
  have pre0 : ∀ t, Steps p.tables e below (s₁.setTop (mkF m 0 #[.val (.ref a1)] [])) t → Steps p.tables e below (s₁.setTop (entryFrame m #[(.ref a1)] 1)) t := fun t kt => castTop (ef_rm_ih m a1) kt
  have C0 : CHr Z own_EL s.vm h0 s.vm h0 := CHr.refl hCH
  have hcd : StrChars.Road.CodA cl 0 (Int32.ofNat cl.length) ((cl.map (fun c => c.toInt8.toInt32)).map Value.int) := StrChars.Road.codOf (n := cl.length) rfl (fun x hx => (hp x hx).2)
  have pre_1 : ∀ t, Steps p.tables e below (s₁.setTop (mkF m 1 #[.val (.ref a1)] [(.ref a1)])) t → Steps p.tables e below (s₁.setTop (entryFrame m #[(.ref a1)] 1)) t := by
    intro t kt
    refine pre0 _ ?_
    show Steps p.tables e below (s₁.setTop (mkF m 0 #[.val (.ref a1)] [])) _
    refine XS.aloadN X0.here hx rfl (hb hby d6_0) rfl rfl ?_
    exact kt
  obtain ⟨b2, T2, h2, k2, c2, kb2, X2, e2, E2, hS2, hk2, hZ, hown, Eb2, Fc2, Fv2, Vb2, -, -, hC2, -, hne2, st2⟩ := ldcCH (s := s) (vm0 := s.vm) (EL := own_EL) (vs := [(.int (45 : Int32)), (.int (45 : Int32)), (.int (104 : Int32)), (.int (101 : Int32)), (.int (108 : Int32)), (.int (112 : Int32))]) (z := (6 : Int32)) X0 hx hZ hown (hw _ (List.mem_of_getElem? (i := 34) rfl)) (fun a ha => hw a (own_sa a ha)) e0 ((State.WarmedH.refl s).since h0.size) (Nat.le_refl _) hEL (by simp [own_EL]) C0.1 (by decide) (by decide) (by decide) (g := (mkF m 1 #[.val (.ref a1)] [(.ref a1)])) rfl (hb hby d6_1) (n := 24) (by decide) (by decide) (by decide) (by decide)
  have f1 : Sta Z h2 "java/lang/String" "COMPACT_STRINGS" "Z" (.int cz) := S_CS.ext E2
  have f2 : Keep h0 h2 [] := (Keep.refl h0 []).ext E2
  have f3 : Exa Z h2 a1 "java/lang/String" := E_a1.ext E2
  have f4 : Fld Z h2 a1 "java/lang/String" "coder" "B" (.int (0 : Int32)) := C_a1.ext E2
  have f5 : Fld Z h2 a1 "java/lang/String" "value" "[B" (.ref t1) := F_a1.ext E2
  have f6 : Arv Z h2 t1 kb1 .byte (Int32.ofNat cl.length) ((cl.map (fun c => c.toInt8.toInt32)).map Value.int) (.int 0) := V_t1.ext E2
  have C3 : CHr Z own_EL s.vm h0 T2.vm h2 := C0.trans hC2
  have Z2 : n0 ≤ h2.size := Nat.le_trans Z0 E2.1
  have pre_4 : ∀ t, Steps p.tables e below (T2.setTop (mkF m 3 #[.val (.ref a1)] [(.ref b2), (.ref a1)])) t → Steps p.tables e below (s₁.setTop (entryFrame m #[(.ref a1)] 1)) t := by
    intro t kt
    refine pre_1 _ ?_
    show Steps p.tables e below (s₁.setTop (mkF m 1 #[.val (.ref a1)] [(.ref a1)])) _
    refine st2 _ ?_
    exact kt
  by_cases hd3 : cl = own_L1
  · obtain ⟨cq5, kq5, q5a, q5b, q5c⟩ := isOf hZ e2 f3
    obtain ⟨_, _, ⟨T5, L5, k5, n5⟩, -, X5, ⟨Lc5, hQ5, l5, y5, z5⟩, st5⟩ := X2.virtualBack hx (y := (⟨"java/lang/String", "equals", "(Ljava/lang/Object;)Z"⟩ : MethodName)) (z := (⟨"java/lang/String", "equals", "(Ljava/lang/Object;)Z"⟩ : MethodName)) hown (mvT hZ (hw _ (List.mem_of_getElem? (i := 35) rfl))) (mvT hZ (hw _ (List.mem_of_getElem? (i := 36) rfl))) (notFace_of_selects (args := #[]) (mvT hZ (hw _ (List.mem_of_getElem? (i := 38) rfl)))) (mvT hZ (hw _ (List.mem_of_getElem? (i := 38) rfl))) (mvT hZ (hw _ (List.mem_of_getElem? (i := 37) rfl))) (by decide) (StrChars.Road.eqW (W := 0) hZ (fun d hd => hw d (own_wordsEq d hd)) (kI := 4) (hw _ (List.mem_of_getElem? (i := 9) rfl)) f3 f5 f4 f6 hcd (own_up _ hp) hl Eb2 Fv2 Fc2 Vb2 (StrChars.Road.codOf (cs := own_L1) (n := 6) rfl (fun x hx => (own_L1r x hx).2)) (own_up _ own_L1r) (by decide) f1 hcs (by decide) (by decide)) q5a q5c (g := (mkF m 3 #[.val (.ref a1)] [(.ref b2), (.ref a1)])) rfl (by rw [hml]; rfl) (Steps.refl _) (argsL := [(.ref b2)]) (rest := []) (lenOf pd__Ljava_lang_Object__Z_1835 rfl) rfl (by show 2 * 0 + _ ≤ _; exact Nat.le_of_eq rfl) (hb hby d6_3) (fun _ _ => ⟨rfl, e2, (by decide : 2 + 0 ≤ _), (by decide : 28 + 0 ≤ _)⟩)
    dsimp only [Pt.U, Pt.locs, Pt.cells, Pt.slots] at X5 l5 y5 z5 st5 hQ5
    subst l5 y5 z5
    obtain ⟨hv5, rfl, e5⟩ := hQ5
    obtain rfl := (hv5.resolve_right (fun z => z.2 hd3)).1
    have N5q := Fr.nil n0
    have N5 := Fr.app N0 N5q
    obtain ⟨fs, hr, hrun, hended, hRW⟩ := X5.leaveW (s := s) hS2 (by rw [e5]; exact hk2) (v := some (.int (1 : Int32))) (fun h => by rw [Bd.returns] at h; cases h) (hlocks := Bd.notSynchronized)
    refine ⟨_, _, pre_4 _ ?_, hrun, hended, _, _, rfl, ?_, (by show CHr Z own_EL s.vm s.heap T5.vm T5.heap; rw [hh, e5]; exact C3.trans (CHv.at (s := s) (vm0 := T2.vm) X5 hZ hEL C3.1)), hRW.1, hRW.2.1, hRW.2.2.1, hRW.2.2.2.mono (by decide) (by decide)⟩
    · show Steps p.tables e below (T2.setTop (mkF m 3 #[.val (.ref a1)] [(.ref b2), (.ref a1)])) _
      refine st5.trans ?_
      show Steps p.tables e below (T5.setTop (mkF m 6 #[.val (.ref a1)] [(.int (1 : Int32))])) _
      refine XS.ifYes X5.here hx rfl (pc0 := 6) (pc' := 18) rfl (hb hby d6_6) rfl ((if0 _ _).trans (feq (by decide : ¬ ((1 : Int32) = (0 : Int32)))).2) (by decide) (by decide) ?_
      show Steps p.tables e below (T5.setTop (mkF m 18 #[.val (.ref a1)] [])) _
      refine XS.iconst X5.here hx rfl (hb hby d6_18) ?_
      show Steps p.tables e below (T5.setTop (mkF m 19 #[.val (.ref a1)] [(.int (1 : Int32))])) _
      refine XS.goto X5.here hx rfl (pc0 := 19) (pc' := 23) rfl (hb hby d6_19) (by decide) (by decide) ?_
      show Steps p.tables e below (T5.setTop (mkF m 23 #[.val (.ref a1)] [(.int (1 : Int32))])) _
      exact retN X5 hx (t := .boolean) Bd.returns (by simp) (hb hby d6_23) hr
    · show Q_rm_ih Z a1 t1 kb1 cl cz h0 n0 _ T5.heap _
      rw [e5]
      exact ⟨by rw [own_help, if_pos hd3], N5, f2⟩
  · obtain ⟨cq6, kq6, q6a, q6b, q6c⟩ := isOf hZ e2 f3
    obtain ⟨_, _, ⟨T6, L6, k6, n6⟩, -, X6, ⟨Lc6, hQ6, l6, y6, z6⟩, st6⟩ := X2.virtualBack hx (y := (⟨"java/lang/String", "equals", "(Ljava/lang/Object;)Z"⟩ : MethodName)) (z := (⟨"java/lang/String", "equals", "(Ljava/lang/Object;)Z"⟩ : MethodName)) hown (mvT hZ (hw _ (List.mem_of_getElem? (i := 35) rfl))) (mvT hZ (hw _ (List.mem_of_getElem? (i := 36) rfl))) (notFace_of_selects (args := #[]) (mvT hZ (hw _ (List.mem_of_getElem? (i := 38) rfl)))) (mvT hZ (hw _ (List.mem_of_getElem? (i := 38) rfl))) (mvT hZ (hw _ (List.mem_of_getElem? (i := 37) rfl))) (by decide) (StrChars.Road.eqW (W := 0) hZ (fun d hd => hw d (own_wordsEq d hd)) (kI := 4) (hw _ (List.mem_of_getElem? (i := 9) rfl)) f3 f5 f4 f6 hcd (own_up _ hp) hl Eb2 Fv2 Fc2 Vb2 (StrChars.Road.codOf (cs := own_L1) (n := 6) rfl (fun x hx => (own_L1r x hx).2)) (own_up _ own_L1r) (by decide) f1 hcs (by decide) (by decide)) q6a q6c (g := (mkF m 3 #[.val (.ref a1)] [(.ref b2), (.ref a1)])) rfl (by rw [hml]; rfl) (Steps.refl _) (argsL := [(.ref b2)]) (rest := []) (lenOf pd__Ljava_lang_Object__Z_1835 rfl) rfl (by show 2 * 0 + _ ≤ _; exact Nat.le_of_eq rfl) (hb hby d6_3) (fun _ _ => ⟨rfl, e2, (by decide : 2 + 0 ≤ _), (by decide : 28 + 0 ≤ _)⟩)
    dsimp only [Pt.U, Pt.locs, Pt.cells, Pt.slots] at X6 l6 y6 z6 st6 hQ6
    subst l6 y6 z6
    obtain ⟨hv6, rfl, e6⟩ := hQ6
    obtain rfl := (hv6.resolve_left (fun z => hd3 z.2)).1
    have N6q := Fr.nil n0
    have N6 := Fr.app N0 N6q
    have pre_7 : ∀ t, Steps p.tables e below (T6.setTop (mkF m 10 #[.val (.ref a1)] [(.ref a1)])) t → Steps p.tables e below (s₁.setTop (entryFrame m #[(.ref a1)] 1)) t := by
      intro t kt
      refine pre_4 _ ?_
      show Steps p.tables e below (T2.setTop (mkF m 3 #[.val (.ref a1)] [(.ref b2), (.ref a1)])) _
      refine st6.trans ?_
      show Steps p.tables e below (T6.setTop (mkF m 6 #[.val (.ref a1)] [(.int (0 : Int32))])) _
      refine XS.ifNo X6.here hx rfl (hb hby d6_6) rfl ((if0 _ _).trans (teq (by decide : (0 : Int32) = (0 : Int32))).2) ?_
      show Steps p.tables e below (T6.setTop (mkF m 9 #[.val (.ref a1)] [])) _
      refine XS.aloadN X6.here hx rfl (hb hby d6_9) rfl rfl ?_
      exact kt
    obtain ⟨b8, T8, h8, k8, c8, kb8, X8, e8, E8, hS8, hk8, hZ, hown, Eb8, Fc8, Fv8, Vb8, -, -, hC8, -, hne8, st8⟩ := ldcCH (s := s) (vm0 := T2.vm) (EL := own_EL) (vs := [(.int (45 : Int32)), (.int (104 : Int32))]) (z := (2 : Int32)) X6 hx hZ hown (hw _ (List.mem_of_getElem? (i := 46) rfl)) (fun a ha => hw a (own_sa a ha)) e6 hS2 hk2 hEL (by simp [own_EL]) C3.1 (by decide) (by decide) (by decide) (g := (mkF m 10 #[.val (.ref a1)] [(.ref a1)])) rfl (hb hby d6_10) (n := 8) (by decide) (by decide) (by decide) (by decide)
    have f7 : Sta Z h8 "java/lang/String" "COMPACT_STRINGS" "Z" (.int cz) := f1.ext E8
    have f8 : Keep h0 h8 [] := f2.ext E8
    have f9 : Exa Z h8 a1 "java/lang/String" := f3.ext E8
    have f10 : Fld Z h8 a1 "java/lang/String" "coder" "B" (.int (0 : Int32)) := f4.ext E8
    have f11 : Fld Z h8 a1 "java/lang/String" "value" "[B" (.ref t1) := f5.ext E8
    have f12 : Arv Z h8 t1 kb1 .byte (Int32.ofNat cl.length) ((cl.map (fun c => c.toInt8.toInt32)).map Value.int) (.int 0) := f6.ext E8
    have f13 : Exa Z h8 b2 "java/lang/String" := Eb2.ext E8
    have f14 : Fld Z h8 b2 "java/lang/String" "coder" "B" (.int (0 : Int32)) := Fc2.ext E8
    have f15 : Fld Z h8 b2 "java/lang/String" "value" "[B" (.ref c2) := Fv2.ext E8
    have f16 : Arv Z h8 c2 kb2 .byte (6 : Int32) [(.int (45 : Int32)), (.int (45 : Int32)), (.int (104 : Int32)), (.int (101 : Int32)), (.int (108 : Int32)), (.int (112 : Int32))] (.int 0) := Vb2.ext E8
    have C9 : CHr Z own_EL s.vm h0 T8.vm h8 := C3.trans hC8
    have Z8 : n0 ≤ h8.size := Nat.le_trans Z2 E8.1
    have pre_10 : ∀ t, Steps p.tables e below (T8.setTop (mkF m 12 #[.val (.ref a1)] [(.ref b8), (.ref a1)])) t → Steps p.tables e below (s₁.setTop (entryFrame m #[(.ref a1)] 1)) t := by
      intro t kt
      refine pre_7 _ ?_
      show Steps p.tables e below (T6.setTop (mkF m 10 #[.val (.ref a1)] [(.ref a1)])) _
      refine st8 _ ?_
      exact kt
    by_cases hd12 : cl = own_L2
    · obtain ⟨cq11, kq11, q11a, q11b, q11c⟩ := isOf hZ e8 f9
      obtain ⟨_, _, ⟨T11, L11, k11, n11⟩, -, X11, ⟨Lc11, hQ11, l11, y11, z11⟩, st11⟩ := X8.virtualBack hx (y := (⟨"java/lang/String", "equals", "(Ljava/lang/Object;)Z"⟩ : MethodName)) (z := (⟨"java/lang/String", "equals", "(Ljava/lang/Object;)Z"⟩ : MethodName)) hown (mvT hZ (hw _ (List.mem_of_getElem? (i := 35) rfl))) (mvT hZ (hw _ (List.mem_of_getElem? (i := 36) rfl))) (notFace_of_selects (args := #[]) (mvT hZ (hw _ (List.mem_of_getElem? (i := 38) rfl)))) (mvT hZ (hw _ (List.mem_of_getElem? (i := 38) rfl))) (mvT hZ (hw _ (List.mem_of_getElem? (i := 37) rfl))) (by decide) (StrChars.Road.eqW (W := 0) hZ (fun d hd => hw d (own_wordsEq d hd)) (kI := 4) (hw _ (List.mem_of_getElem? (i := 9) rfl)) f9 f11 f10 f12 hcd (own_up _ hp) hl Eb8 Fv8 Fc8 Vb8 (StrChars.Road.codOf (cs := own_L2) (n := 2) rfl (fun x hx => (own_L2r x hx).2)) (own_up _ own_L2r) (by decide) f7 hcs (by decide) (by decide)) q11a q11c (g := (mkF m 12 #[.val (.ref a1)] [(.ref b8), (.ref a1)])) rfl (by rw [hml]; rfl) (Steps.refl _) (argsL := [(.ref b8)]) (rest := []) (lenOf pd__Ljava_lang_Object__Z_1835 rfl) rfl (by show 2 * 0 + _ ≤ _; exact Nat.le_of_eq rfl) (hb hby d6_12) (fun _ _ => ⟨rfl, e8, (by decide : 4 + 0 ≤ _), (by decide : 40 + 0 ≤ _)⟩)
      dsimp only [Pt.U, Pt.locs, Pt.cells, Pt.slots] at X11 l11 y11 z11 st11 hQ11
      subst l11 y11 z11
      obtain ⟨hv11, rfl, e11⟩ := hQ11
      obtain rfl := (hv11.resolve_right (fun z => z.2 hd12)).1
      have N11q := Fr.nil n0
      have N11 := Fr.app N6 N11q
      obtain ⟨fs, hr, hrun, hended, hRW⟩ := X11.leaveW (s := s) hS8 (by rw [e11]; exact hk8) (v := some (.int (1 : Int32))) (fun h => by rw [Bd.returns] at h; cases h) (hlocks := Bd.notSynchronized)
      refine ⟨_, _, pre_10 _ ?_, hrun, hended, _, _, rfl, ?_, (by show CHr Z own_EL s.vm s.heap T11.vm T11.heap; rw [hh, e11]; exact C9.trans (CHv.at (s := s) (vm0 := T8.vm) X11 hZ hEL C9.1)), hRW.1, hRW.2.1, hRW.2.2.1, hRW.2.2.2.mono (by decide) (by decide)⟩
      · show Steps p.tables e below (T8.setTop (mkF m 12 #[.val (.ref a1)] [(.ref b8), (.ref a1)])) _
        refine st11.trans ?_
        show Steps p.tables e below (T11.setTop (mkF m 15 #[.val (.ref a1)] [(.int (1 : Int32))])) _
        refine XS.ifNo X11.here hx rfl (hb hby d6_15) rfl ((if0 _ _).trans (feq (by decide : ¬ ((1 : Int32) = (0 : Int32)))).1) ?_
        show Steps p.tables e below (T11.setTop (mkF m 18 #[.val (.ref a1)] [])) _
        refine XS.iconst X11.here hx rfl (hb hby d6_18) ?_
        show Steps p.tables e below (T11.setTop (mkF m 19 #[.val (.ref a1)] [(.int (1 : Int32))])) _
        refine XS.goto X11.here hx rfl (pc0 := 19) (pc' := 23) rfl (hb hby d6_19) (by decide) (by decide) ?_
        show Steps p.tables e below (T11.setTop (mkF m 23 #[.val (.ref a1)] [(.int (1 : Int32))])) _
        exact retN X11 hx (t := .boolean) Bd.returns (by simp) (hb hby d6_23) hr
      · show Q_rm_ih Z a1 t1 kb1 cl cz h0 n0 _ T11.heap _
        rw [e11]
        exact ⟨by rw [own_help, if_neg hd3, if_pos hd12], N11, f8⟩
    · obtain ⟨cq12, kq12, q12a, q12b, q12c⟩ := isOf hZ e8 f9
      obtain ⟨_, _, ⟨T12, L12, k12, n12⟩, -, X12, ⟨Lc12, hQ12, l12, y12, z12⟩, st12⟩ := X8.virtualBack hx (y := (⟨"java/lang/String", "equals", "(Ljava/lang/Object;)Z"⟩ : MethodName)) (z := (⟨"java/lang/String", "equals", "(Ljava/lang/Object;)Z"⟩ : MethodName)) hown (mvT hZ (hw _ (List.mem_of_getElem? (i := 35) rfl))) (mvT hZ (hw _ (List.mem_of_getElem? (i := 36) rfl))) (notFace_of_selects (args := #[]) (mvT hZ (hw _ (List.mem_of_getElem? (i := 38) rfl)))) (mvT hZ (hw _ (List.mem_of_getElem? (i := 38) rfl))) (mvT hZ (hw _ (List.mem_of_getElem? (i := 37) rfl))) (by decide) (StrChars.Road.eqW (W := 0) hZ (fun d hd => hw d (own_wordsEq d hd)) (kI := 4) (hw _ (List.mem_of_getElem? (i := 9) rfl)) f9 f11 f10 f12 hcd (own_up _ hp) hl Eb8 Fv8 Fc8 Vb8 (StrChars.Road.codOf (cs := own_L2) (n := 2) rfl (fun x hx => (own_L2r x hx).2)) (own_up _ own_L2r) (by decide) f7 hcs (by decide) (by decide)) q12a q12c (g := (mkF m 12 #[.val (.ref a1)] [(.ref b8), (.ref a1)])) rfl (by rw [hml]; rfl) (Steps.refl _) (argsL := [(.ref b8)]) (rest := []) (lenOf pd__Ljava_lang_Object__Z_1835 rfl) rfl (by show 2 * 0 + _ ≤ _; exact Nat.le_of_eq rfl) (hb hby d6_12) (fun _ _ => ⟨rfl, e8, (by decide : 4 + 0 ≤ _), (by decide : 40 + 0 ≤ _)⟩)
      dsimp only [Pt.U, Pt.locs, Pt.cells, Pt.slots] at X12 l12 y12 z12 st12 hQ12
      subst l12 y12 z12
      obtain ⟨hv12, rfl, e12⟩ := hQ12
      obtain rfl := (hv12.resolve_left (fun z => hd12 z.2)).1
      have N12q := Fr.nil n0
      have N12 := Fr.app N6 N12q
      obtain ⟨fs, hr, hrun, hended, hRW⟩ := X12.leaveW (s := s) hS8 (by rw [e12]; exact hk8) (v := some (.int (0 : Int32))) (fun h => by rw [Bd.returns] at h; cases h) (hlocks := Bd.notSynchronized)
      refine ⟨_, _, pre_10 _ ?_, hrun, hended, _, _, rfl, ?_, (by show CHr Z own_EL s.vm s.heap T12.vm T12.heap; rw [hh, e12]; exact C9.trans (CHv.at (s := s) (vm0 := T8.vm) X12 hZ hEL C9.1)), hRW.1, hRW.2.1, hRW.2.2.1, hRW.2.2.2.mono (by decide) (by decide)⟩
      · show Steps p.tables e below (T8.setTop (mkF m 12 #[.val (.ref a1)] [(.ref b8), (.ref a1)])) _
        refine st12.trans ?_
        show Steps p.tables e below (T12.setTop (mkF m 15 #[.val (.ref a1)] [(.int (0 : Int32))])) _
        refine XS.ifYes X12.here hx rfl (pc0 := 15) (pc' := 22) rfl (hb hby d6_15) rfl ((if0 _ _).trans (teq (by decide : (0 : Int32) = (0 : Int32))).1) (by decide) (by decide) ?_
        show Steps p.tables e below (T12.setTop (mkF m 22 #[.val (.ref a1)] [])) _
        refine XS.iconst X12.here hx rfl (hb hby d6_22) ?_
        show Steps p.tables e below (T12.setTop (mkF m 23 #[.val (.ref a1)] [(.int (0 : Int32))])) _
        exact retN X12 hx (t := .boolean) Bd.returns (by simp) (hb hby d6_23) hr
      · show Q_rm_ih Z a1 t1 kb1 cl cz h0 n0 _ T12.heap _
        rw [e12]
        exact ⟨by rw [own_help, if_neg hd3, if_neg hd12], N12, f8⟩
theorem pn_0 : plainName "com/example/mended_hedge/mendedhedge/cli/CommandIsHelpPinLaw" = true := by first | (simp [plainName, overriddenIn]; done) | decide +kernel
theorem ef_rm0 (m : MethodId) (x0 : Int32) (x1 : Int64) : entryFrame m #[(.int x0), (.long x1)] maxLocals = mkF m 0 #[.val (.int x0), .val (.long x1), .second, .unset, .unset, .unset, .unset, .unset, .unset, .unset, .unset, .unset, .unset, .unset, .unset, .unset] [] := by first | (simp [entryFrame, mkF, argsToLocals, Value.category, maxLocals]; done) | rfl
def Q_rm0 (Z : State) (p1 : Int32) (q2 : Int64) (cz : Int32) (h0 : Heap) (n0 : Nat) (v : Option Value) (h : Heap) (L : List Loc) : Prop := v = some (.int 1) ∧ Fr n0 L
theorem pd__IJICCZ_C_592 : parseMethodDescriptor "(IJICCZ)C" = some ⟨[.int, .long, .int, .char, .char, .boolean], some .char⟩ := by decide +kernel
theorem pd__ICCCCCCC_Ljava_lang_String__2319 : parseMethodDescriptor "(ICCCCCCC)Ljava/lang/String;" = some ⟨[.int, .char, .char, .char, .char, .char, .char, .char], some (.object "java/lang/String")⟩ := by decide +kernel
theorem own_sta {Z : State} {h h' : Heap} {C n d : String} {v : Value} (F : Sta Z h C n d v) (K : Keep h h' []) : Sta Z h' C n d v := by
  obtain ⟨cf, i, k, f, st, cell, h1, h2, h3, h4, h5, r⟩ := F
  exact ⟨cf, i, k, f, st, cell, h1, h2, h3, h4, K.2.1 st cell h5 (by simp), r⟩
theorem pd__Ljava_lang_String__Z_1867 : parseMethodDescriptor "(Ljava/lang/String;)Z" = some ⟨[(.object "java/lang/String")], some .boolean⟩ := by decide +kernel
set_option maxRecDepth 65536 in
set_option maxHeartbeats 40000000 in
theorem rm0 (l : Launch) (Z : State) (a0 : Array Value) (hw : ∀ d ∈ tables_1, d.before a0 Z = true) (ws : List Jvm.Cond) (p1 : Int32) (q2 : Int64) (cz : Int32) (h0 : Heap) (n0 : Nat) (Z0 : n0 ≤ h0.size) (hEL : EW Z a0 own_EL) (S_CS : Sta Z h0 "java/lang/String" "COMPACT_STRINGS" "Z" (.int cz)) (hcs : ¬ cz = (0 : Int32)) :
    MetFree l x (head1 (Jvm.Cond.code x code maxLocals ret :: ws) room_1) (fun a U => a = #[(.int p1), (.long q2)] ∧ Z.Warmed39 U.vm ∧ U.heap = h0 ∧ CHv Z own_EL U.vm h0) (fun _ _ _ _ _ => True) (fun _ U o U' => ∃ v L, o = .returned v ∧ Q_rm0 Z p1 q2 cz h0 n0 v U'.heap L ∧ CHr Z own_EL U.vm U.heap U'.vm U'.heap ∧ ReturnedEndW U o U' L room_1.cells room_1.slots) := by
  refine MetFree.of_bodySF (plainFor_of_name pn_0) hisR ?_
  intro p e s m args below meth c s₁ Bd hml0 hP hK
  obtain ⟨rfl, hZ, hh, hCH⟩ := hP
  have hx := Bd.exec
  have hby := Bd.bytes
  have hml : c.maxLocals = 16 := hml0
  have hown : s.vm.findClass "com/example/mended_hedge/mendedhedge/cli/CommandIsHelpPinLaw" = some m.cls := findClass_of_methodNamed Bd.named
  have hnm := (name_of_methodNamed Bd.named Bd.method).1
  have X0 : Stand p l e room_1 s m #[(.int p1), (.long q2)] below meth c s₁ [] 0 0 := Stand.of_body Bd
  have e0 : s₁.heap = h0 := by rw [← hh, Bd.state]; rfl
  have N0 := Fr.nil n0
  have pre0 : ∀ t, Steps p.tables e below (s₁.setTop (mkF m 0 #[.val (.int p1), .val (.long q2), .second, .unset, .unset, .unset, .unset, .unset, .unset, .unset, .unset, .unset, .unset, .unset, .unset, .unset] [])) t → Steps p.tables e below (s₁.setTop (entryFrame m #[(.int p1), (.long q2)] maxLocals)) t := fun t kt => castTop (ef_rm0 m p1 q2) kt
  have C0 : CHr Z own_EL s.vm h0 s.vm h0 := CHr.refl hCH
  have pre_1 : ∀ t, Steps p.tables e below (s₁.setTop (mkF m 19 #[.val (.int p1), .val (.long q2), .second, .val (.int (p1 &&& (7 : Int32))), .unset, .unset, .unset, .unset, .unset, .unset, .unset, .unset, .unset, .unset, .unset, .unset] [(.int (if (((p1.toUInt32 >>> ((10 : Int32) &&& 31).toUInt32).toInt32) &&& (1 : Int32)) = (0 : Int32) then (0 : Int32) else (1 : Int32)))])) t → Steps p.tables e below (s₁.setTop (entryFrame m #[(.int p1), (.long q2)] maxLocals)) t := by
    intro t kt
    refine pre0 _ ?_
    show Steps p.tables e below (s₁.setTop (mkF m 0 #[.val (.int p1), .val (.long q2), .second, .unset, .unset, .unset, .unset, .unset, .unset, .unset, .unset, .unset, .unset, .unset, .unset, .unset] [])) _
    refine XS.iloadN X0.here hx rfl (hb hby at_0) rfl ?_
    show Steps p.tables e below (s₁.setTop (mkF m 1 #[.val (.int p1), .val (.long q2), .second, .unset, .unset, .unset, .unset, .unset, .unset, .unset, .unset, .unset, .unset, .unset, .unset, .unset] [(.int p1)])) _
    refine XS.bipush X0.here hx rfl (hb hby at_1) ?_
    show Steps p.tables e below (s₁.setTop (mkF m 3 #[.val (.int p1), .val (.long q2), .second, .unset, .unset, .unset, .unset, .unset, .unset, .unset, .unset, .unset, .unset, .unset, .unset, .unset] [(.int (7 : Int32)), (.int p1)])) _
    refine XS.iand X0.here hx rfl (hb hby at_3) rfl ?_
    show Steps p.tables e below (s₁.setTop (mkF m 4 #[.val (.int p1), .val (.long q2), .second, .unset, .unset, .unset, .unset, .unset, .unset, .unset, .unset, .unset, .unset, .unset, .unset, .unset] [(.int (p1 &&& (7 : Int32)))])) _
    refine XS.istoreN X0.here hx rfl (hb hby at_4) rfl (l' := #[.val (.int p1), .val (.long q2), .second, .val (.int (p1 &&& (7 : Int32))), .unset, .unset, .unset, .unset, .unset, .unset, .unset, .unset, .unset, .unset, .unset, .unset]) rfl ?_
    show Steps p.tables e below (s₁.setTop (mkF m 5 #[.val (.int p1), .val (.long q2), .second, .val (.int (p1 &&& (7 : Int32))), .unset, .unset, .unset, .unset, .unset, .unset, .unset, .unset, .unset, .unset, .unset, .unset] [])) _
    refine XS.iloadN X0.here hx rfl (hb hby at_5) rfl ?_
    show Steps p.tables e below (s₁.setTop (mkF m 6 #[.val (.int p1), .val (.long q2), .second, .val (.int (p1 &&& (7 : Int32))), .unset, .unset, .unset, .unset, .unset, .unset, .unset, .unset, .unset, .unset, .unset, .unset] [(.int p1)])) _
    refine XS.bipush X0.here hx rfl (hb hby at_6) ?_
    show Steps p.tables e below (s₁.setTop (mkF m 8 #[.val (.int p1), .val (.long q2), .second, .val (.int (p1 &&& (7 : Int32))), .unset, .unset, .unset, .unset, .unset, .unset, .unset, .unset, .unset, .unset, .unset, .unset] [(.int (10 : Int32)), (.int p1)])) _
    refine XS.iushr X0.here hx rfl (hb hby at_8) rfl ?_
    show Steps p.tables e below (s₁.setTop (mkF m 9 #[.val (.int p1), .val (.long q2), .second, .val (.int (p1 &&& (7 : Int32))), .unset, .unset, .unset, .unset, .unset, .unset, .unset, .unset, .unset, .unset, .unset, .unset] [(.int ((p1.toUInt32 >>> ((10 : Int32) &&& 31).toUInt32).toInt32))])) _
    refine XS.iconst X0.here hx rfl (hb hby at_9) ?_
    show Steps p.tables e below (s₁.setTop (mkF m 10 #[.val (.int p1), .val (.long q2), .second, .val (.int (p1 &&& (7 : Int32))), .unset, .unset, .unset, .unset, .unset, .unset, .unset, .unset, .unset, .unset, .unset, .unset] [(.int (1 : Int32)), (.int ((p1.toUInt32 >>> ((10 : Int32) &&& 31).toUInt32).toInt32))])) _
    refine XS.iand X0.here hx rfl (hb hby at_10) rfl ?_
    show Steps p.tables e below (s₁.setTop (mkF m 11 #[.val (.int p1), .val (.long q2), .second, .val (.int (p1 &&& (7 : Int32))), .unset, .unset, .unset, .unset, .unset, .unset, .unset, .unset, .unset, .unset, .unset, .unset] [(.int (((p1.toUInt32 >>> ((10 : Int32) &&& 31).toUInt32).toInt32) &&& (1 : Int32)))])) _
    by_cases hc11 : (((p1.toUInt32 >>> ((10 : Int32) &&& 31).toUInt32).toInt32) &&& (1 : Int32)) = (0 : Int32)
    · rw [if_pos hc11] at kt
      refine XS.ifYes X0.here hx rfl (pc0 := 11) (pc' := 18) rfl (hb hby at_11) rfl ((if0 _ _).trans (teq hc11).1) (by decide) (by decide) ?_
      show Steps p.tables e below (s₁.setTop (mkF m 18 #[.val (.int p1), .val (.long q2), .second, .val (.int (p1 &&& (7 : Int32))), .unset, .unset, .unset, .unset, .unset, .unset, .unset, .unset, .unset, .unset, .unset, .unset] [])) _
      refine XS.iconst X0.here hx rfl (hb hby at_18) ?_
      exact kt
    · rw [if_neg hc11] at kt
      refine XS.ifNo X0.here hx rfl (hb hby at_11) rfl ((if0 _ _).trans (feq hc11).1) ?_
      show Steps p.tables e below (s₁.setTop (mkF m 14 #[.val (.int p1), .val (.long q2), .second, .val (.int (p1 &&& (7 : Int32))), .unset, .unset, .unset, .unset, .unset, .unset, .unset, .unset, .unset, .unset, .unset, .unset] [])) _
      refine XS.iconst X0.here hx rfl (hb hby at_14) ?_
      show Steps p.tables e below (s₁.setTop (mkF m 15 #[.val (.int p1), .val (.long q2), .second, .val (.int (p1 &&& (7 : Int32))), .unset, .unset, .unset, .unset, .unset, .unset, .unset, .unset, .unset, .unset, .unset, .unset] [(.int (1 : Int32))])) _
      refine XS.goto X0.here hx rfl (pc0 := 15) (pc' := 19) rfl (hb hby at_15) (by decide) (by decide) ?_
      exact kt
  obtain ⟨_, _, ⟨T2, L2, k2, n2⟩, -, X2, ⟨Lc2, hQ2, l2, y2, z2⟩, st2⟩ := Jvm.LawKit.callS X0 hx (y := (⟨"com/example/mended_hedge/mendedhedge/cli/CommandIsHelpPinLaw", "pick", "(IJICCZ)C"⟩ : MethodName)) hown (mvT hZ (hw _ (List.mem_of_getElem? (i := 0) rfl))) (mvT hZ (hw _ (List.mem_of_getElem? (i := 1) rfl))) (mvT hZ (hw _ (List.mem_of_getElem? (i := 2) rfl))) (mvT hZ (hw _ (List.mem_of_getElem? (i := 3) rfl))) (by decide) (backOf (W := 0) (rm_pk l Z a0 hw [] p1 q2 (0 : Int32) (45 : Int32) (45 : Int32) (if (((p1.toUInt32 >>> ((10 : Int32) &&& 31).toUInt32).toInt32) &&& (1 : Int32)) = (0 : Int32) then (0 : Int32) else (1 : Int32)) h0 n0 Z0 ⟨by decide, by decide⟩ ⟨by decide, by decide⟩) hZ (hw _ (List.mem_of_getElem? (i := 3) rfl)) (hw _ (List.mem_of_getElem? (i := 2) rfl)) (by decide) (by decide)) (g := (mkF m 30 #[.val (.int p1), .val (.long q2), .second, .val (.int (p1 &&& (7 : Int32))), .val (.int (if (((p1.toUInt32 >>> ((10 : Int32) &&& 31).toUInt32).toInt32) &&& (1 : Int32)) = (0 : Int32) then (0 : Int32) else (1 : Int32))), .unset, .unset, .unset, .unset, .unset, .unset, .unset, .unset, .unset, .unset, .unset] [(.int (if (((p1.toUInt32 >>> ((10 : Int32) &&& 31).toUInt32).toInt32) &&& (1 : Int32)) = (0 : Int32) then (0 : Int32) else (1 : Int32))), (.int (45 : Int32)), (.int (45 : Int32)), (.int (0 : Int32)), (.long q2), (.int p1)])) rfl (by rw [hml]; rfl) (argsL := [(.int p1), (.long q2), (.int (0 : Int32)), (.int (45 : Int32)), (.int (45 : Int32)), (.int (if (((p1.toUInt32 >>> ((10 : Int32) &&& 31).toUInt32).toInt32) &&& (1 : Int32)) = (0 : Int32) then (0 : Int32) else (1 : Int32)))]) (rest := []) (lenOf pd__IJICCZ_C_592 rfl) rfl (by show 2 * 0 + _ ≤ _; exact Nat.le_of_eq rfl) (hb hby at_30) (fun _ _ => ⟨rfl, e0, (by decide : 0 + 0 ≤ _), (by decide : 0 + 0 ≤ _)⟩)
  dsimp only [Pt.U, Pt.locs, Pt.cells, Pt.slots] at X2 l2 y2 z2 st2 hQ2
  subst l2 y2 z2
  obtain ⟨w0, rfl, N2q, e2, hw0⟩ := hQ2
  have N2 := Fr.app N0 N2q
  obtain ⟨_, _, ⟨T3, L3, k3, n3⟩, -, X3, ⟨Lc3, hQ3, l3, y3, z3⟩, st3⟩ := Jvm.LawKit.callS X2 hx (y := (⟨"com/example/mended_hedge/mendedhedge/cli/CommandIsHelpPinLaw", "pick", "(IJICCZ)C"⟩ : MethodName)) hown (mvT hZ (hw _ (List.mem_of_getElem? (i := 0) rfl))) (mvT hZ (hw _ (List.mem_of_getElem? (i := 1) rfl))) (mvT hZ (hw _ (List.mem_of_getElem? (i := 2) rfl))) (mvT hZ (hw _ (List.mem_of_getElem? (i := 3) rfl))) (by decide) (backOf (W := 0) (rm_pk l Z a0 hw [] p1 q2 (1 : Int32) (45 : Int32) (104 : Int32) (if (((p1.toUInt32 >>> ((10 : Int32) &&& 31).toUInt32).toInt32) &&& (1 : Int32)) = (0 : Int32) then (0 : Int32) else (1 : Int32)) h0 n0 Z0 ⟨by decide, by decide⟩ ⟨by decide, by decide⟩) hZ (hw _ (List.mem_of_getElem? (i := 3) rfl)) (hw _ (List.mem_of_getElem? (i := 2) rfl)) (by decide) (by decide)) (g := (mkF m 44 #[.val (.int p1), .val (.long q2), .second, .val (.int (p1 &&& (7 : Int32))), .val (.int (if (((p1.toUInt32 >>> ((10 : Int32) &&& 31).toUInt32).toInt32) &&& (1 : Int32)) = (0 : Int32) then (0 : Int32) else (1 : Int32))), .val (.int w0), .unset, .unset, .unset, .unset, .unset, .unset, .unset, .unset, .unset, .unset] [(.int (if (((p1.toUInt32 >>> ((10 : Int32) &&& 31).toUInt32).toInt32) &&& (1 : Int32)) = (0 : Int32) then (0 : Int32) else (1 : Int32))), (.int (104 : Int32)), (.int (45 : Int32)), (.int (1 : Int32)), (.long q2), (.int p1)])) rfl (by rw [hml]; rfl) (argsL := [(.int p1), (.long q2), (.int (1 : Int32)), (.int (45 : Int32)), (.int (104 : Int32)), (.int (if (((p1.toUInt32 >>> ((10 : Int32) &&& 31).toUInt32).toInt32) &&& (1 : Int32)) = (0 : Int32) then (0 : Int32) else (1 : Int32)))]) (rest := []) (lenOf pd__IJICCZ_C_592 rfl) rfl (by show 2 * 0 + _ ≤ _; exact Nat.le_of_eq rfl) (hb hby at_44) (fun _ _ => ⟨rfl, e2, (by decide : 0 + 0 ≤ _), (by decide : 0 + 0 ≤ _)⟩)
  dsimp only [Pt.U, Pt.locs, Pt.cells, Pt.slots] at X3 l3 y3 z3 st3 hQ3
  subst l3 y3 z3
  obtain ⟨w1, rfl, N3q, e3, hw1⟩ := hQ3
  have N3 := Fr.app N2 N3q
  obtain ⟨_, _, ⟨T4, L4, k4, n4⟩, -, X4, ⟨Lc4, hQ4, l4, y4, z4⟩, st4⟩ := Jvm.LawKit.callS X3 hx (y := (⟨"com/example/mended_hedge/mendedhedge/cli/CommandIsHelpPinLaw", "pick", "(IJICCZ)C"⟩ : MethodName)) hown (mvT hZ (hw _ (List.mem_of_getElem? (i := 0) rfl))) (mvT hZ (hw _ (List.mem_of_getElem? (i := 1) rfl))) (mvT hZ (hw _ (List.mem_of_getElem? (i := 2) rfl))) (mvT hZ (hw _ (List.mem_of_getElem? (i := 3) rfl))) (by decide) (backOf (W := 0) (rm_pk l Z a0 hw [] p1 q2 (2 : Int32) (104 : Int32) (120 : Int32) (if (((p1.toUInt32 >>> ((10 : Int32) &&& 31).toUInt32).toInt32) &&& (1 : Int32)) = (0 : Int32) then (0 : Int32) else (1 : Int32)) h0 n0 Z0 ⟨by decide, by decide⟩ ⟨by decide, by decide⟩) hZ (hw _ (List.mem_of_getElem? (i := 3) rfl)) (hw _ (List.mem_of_getElem? (i := 2) rfl)) (by decide) (by decide)) (g := (mkF m 58 #[.val (.int p1), .val (.long q2), .second, .val (.int (p1 &&& (7 : Int32))), .val (.int (if (((p1.toUInt32 >>> ((10 : Int32) &&& 31).toUInt32).toInt32) &&& (1 : Int32)) = (0 : Int32) then (0 : Int32) else (1 : Int32))), .val (.int w0), .val (.int w1), .unset, .unset, .unset, .unset, .unset, .unset, .unset, .unset, .unset] [(.int (if (((p1.toUInt32 >>> ((10 : Int32) &&& 31).toUInt32).toInt32) &&& (1 : Int32)) = (0 : Int32) then (0 : Int32) else (1 : Int32))), (.int (120 : Int32)), (.int (104 : Int32)), (.int (2 : Int32)), (.long q2), (.int p1)])) rfl (by rw [hml]; rfl) (argsL := [(.int p1), (.long q2), (.int (2 : Int32)), (.int (104 : Int32)), (.int (120 : Int32)), (.int (if (((p1.toUInt32 >>> ((10 : Int32) &&& 31).toUInt32).toInt32) &&& (1 : Int32)) = (0 : Int32) then (0 : Int32) else (1 : Int32)))]) (rest := []) (lenOf pd__IJICCZ_C_592 rfl) rfl (by show 2 * 0 + _ ≤ _; exact Nat.le_of_eq rfl) (hb hby at_58) (fun _ _ => ⟨rfl, e3, (by decide : 0 + 0 ≤ _), (by decide : 0 + 0 ≤ _)⟩)
  dsimp only [Pt.U, Pt.locs, Pt.cells, Pt.slots] at X4 l4 y4 z4 st4 hQ4
  subst l4 y4 z4
  obtain ⟨w2, rfl, N4q, e4, hw2⟩ := hQ4
  have N4 := Fr.app N3 N4q
  obtain ⟨_, _, ⟨T5, L5, k5, n5⟩, -, X5, ⟨Lc5, hQ5, l5, y5, z5⟩, st5⟩ := Jvm.LawKit.callS X4 hx (y := (⟨"com/example/mended_hedge/mendedhedge/cli/CommandIsHelpPinLaw", "pick", "(IJICCZ)C"⟩ : MethodName)) hown (mvT hZ (hw _ (List.mem_of_getElem? (i := 0) rfl))) (mvT hZ (hw _ (List.mem_of_getElem? (i := 1) rfl))) (mvT hZ (hw _ (List.mem_of_getElem? (i := 2) rfl))) (mvT hZ (hw _ (List.mem_of_getElem? (i := 3) rfl))) (by decide) (backOf (W := 0) (rm_pk l Z a0 hw [] p1 q2 (3 : Int32) (101 : Int32) (120 : Int32) (if (((p1.toUInt32 >>> ((10 : Int32) &&& 31).toUInt32).toInt32) &&& (1 : Int32)) = (0 : Int32) then (0 : Int32) else (1 : Int32)) h0 n0 Z0 ⟨by decide, by decide⟩ ⟨by decide, by decide⟩) hZ (hw _ (List.mem_of_getElem? (i := 3) rfl)) (hw _ (List.mem_of_getElem? (i := 2) rfl)) (by decide) (by decide)) (g := (mkF m 72 #[.val (.int p1), .val (.long q2), .second, .val (.int (p1 &&& (7 : Int32))), .val (.int (if (((p1.toUInt32 >>> ((10 : Int32) &&& 31).toUInt32).toInt32) &&& (1 : Int32)) = (0 : Int32) then (0 : Int32) else (1 : Int32))), .val (.int w0), .val (.int w1), .val (.int w2), .unset, .unset, .unset, .unset, .unset, .unset, .unset, .unset] [(.int (if (((p1.toUInt32 >>> ((10 : Int32) &&& 31).toUInt32).toInt32) &&& (1 : Int32)) = (0 : Int32) then (0 : Int32) else (1 : Int32))), (.int (120 : Int32)), (.int (101 : Int32)), (.int (3 : Int32)), (.long q2), (.int p1)])) rfl (by rw [hml]; rfl) (argsL := [(.int p1), (.long q2), (.int (3 : Int32)), (.int (101 : Int32)), (.int (120 : Int32)), (.int (if (((p1.toUInt32 >>> ((10 : Int32) &&& 31).toUInt32).toInt32) &&& (1 : Int32)) = (0 : Int32) then (0 : Int32) else (1 : Int32)))]) (rest := []) (lenOf pd__IJICCZ_C_592 rfl) rfl (by show 2 * 0 + _ ≤ _; exact Nat.le_of_eq rfl) (hb hby at_72) (fun _ _ => ⟨rfl, e4, (by decide : 0 + 0 ≤ _), (by decide : 0 + 0 ≤ _)⟩)
  dsimp only [Pt.U, Pt.locs, Pt.cells, Pt.slots] at X5 l5 y5 z5 st5 hQ5
  subst l5 y5 z5
  obtain ⟨w3, rfl, N5q, e5, hw3⟩ := hQ5
  have N5 := Fr.app N4 N5q
  obtain ⟨_, _, ⟨T6, L6, k6, n6⟩, -, X6, ⟨Lc6, hQ6, l6, y6, z6⟩, st6⟩ := Jvm.LawKit.callS X5 hx (y := (⟨"com/example/mended_hedge/mendedhedge/cli/CommandIsHelpPinLaw", "pick", "(IJICCZ)C"⟩ : MethodName)) hown (mvT hZ (hw _ (List.mem_of_getElem? (i := 0) rfl))) (mvT hZ (hw _ (List.mem_of_getElem? (i := 1) rfl))) (mvT hZ (hw _ (List.mem_of_getElem? (i := 2) rfl))) (mvT hZ (hw _ (List.mem_of_getElem? (i := 3) rfl))) (by decide) (backOf (W := 0) (rm_pk l Z a0 hw [] p1 q2 (4 : Int32) (108 : Int32) (120 : Int32) (if (((p1.toUInt32 >>> ((10 : Int32) &&& 31).toUInt32).toInt32) &&& (1 : Int32)) = (0 : Int32) then (0 : Int32) else (1 : Int32)) h0 n0 Z0 ⟨by decide, by decide⟩ ⟨by decide, by decide⟩) hZ (hw _ (List.mem_of_getElem? (i := 3) rfl)) (hw _ (List.mem_of_getElem? (i := 2) rfl)) (by decide) (by decide)) (g := (mkF m 86 #[.val (.int p1), .val (.long q2), .second, .val (.int (p1 &&& (7 : Int32))), .val (.int (if (((p1.toUInt32 >>> ((10 : Int32) &&& 31).toUInt32).toInt32) &&& (1 : Int32)) = (0 : Int32) then (0 : Int32) else (1 : Int32))), .val (.int w0), .val (.int w1), .val (.int w2), .val (.int w3), .unset, .unset, .unset, .unset, .unset, .unset, .unset] [(.int (if (((p1.toUInt32 >>> ((10 : Int32) &&& 31).toUInt32).toInt32) &&& (1 : Int32)) = (0 : Int32) then (0 : Int32) else (1 : Int32))), (.int (120 : Int32)), (.int (108 : Int32)), (.int (4 : Int32)), (.long q2), (.int p1)])) rfl (by rw [hml]; rfl) (argsL := [(.int p1), (.long q2), (.int (4 : Int32)), (.int (108 : Int32)), (.int (120 : Int32)), (.int (if (((p1.toUInt32 >>> ((10 : Int32) &&& 31).toUInt32).toInt32) &&& (1 : Int32)) = (0 : Int32) then (0 : Int32) else (1 : Int32)))]) (rest := []) (lenOf pd__IJICCZ_C_592 rfl) rfl (by show 2 * 0 + _ ≤ _; exact Nat.le_of_eq rfl) (hb hby at_86) (fun _ _ => ⟨rfl, e5, (by decide : 0 + 0 ≤ _), (by decide : 0 + 0 ≤ _)⟩)
  dsimp only [Pt.U, Pt.locs, Pt.cells, Pt.slots] at X6 l6 y6 z6 st6 hQ6
  subst l6 y6 z6
  obtain ⟨w4, rfl, N6q, e6, hw4⟩ := hQ6
  have N6 := Fr.app N5 N6q
  obtain ⟨_, _, ⟨T7, L7, k7, n7⟩, -, X7, ⟨Lc7, hQ7, l7, y7, z7⟩, st7⟩ := Jvm.LawKit.callS X6 hx (y := (⟨"com/example/mended_hedge/mendedhedge/cli/CommandIsHelpPinLaw", "pick", "(IJICCZ)C"⟩ : MethodName)) hown (mvT hZ (hw _ (List.mem_of_getElem? (i := 0) rfl))) (mvT hZ (hw _ (List.mem_of_getElem? (i := 1) rfl))) (mvT hZ (hw _ (List.mem_of_getElem? (i := 2) rfl))) (mvT hZ (hw _ (List.mem_of_getElem? (i := 3) rfl))) (by decide) (backOf (W := 0) (rm_pk l Z a0 hw [] p1 q2 (5 : Int32) (112 : Int32) (120 : Int32) (if (((p1.toUInt32 >>> ((10 : Int32) &&& 31).toUInt32).toInt32) &&& (1 : Int32)) = (0 : Int32) then (0 : Int32) else (1 : Int32)) h0 n0 Z0 ⟨by decide, by decide⟩ ⟨by decide, by decide⟩) hZ (hw _ (List.mem_of_getElem? (i := 3) rfl)) (hw _ (List.mem_of_getElem? (i := 2) rfl)) (by decide) (by decide)) (g := (mkF m 100 #[.val (.int p1), .val (.long q2), .second, .val (.int (p1 &&& (7 : Int32))), .val (.int (if (((p1.toUInt32 >>> ((10 : Int32) &&& 31).toUInt32).toInt32) &&& (1 : Int32)) = (0 : Int32) then (0 : Int32) else (1 : Int32))), .val (.int w0), .val (.int w1), .val (.int w2), .val (.int w3), .val (.int w4), .unset, .unset, .unset, .unset, .unset, .unset] [(.int (if (((p1.toUInt32 >>> ((10 : Int32) &&& 31).toUInt32).toInt32) &&& (1 : Int32)) = (0 : Int32) then (0 : Int32) else (1 : Int32))), (.int (120 : Int32)), (.int (112 : Int32)), (.int (5 : Int32)), (.long q2), (.int p1)])) rfl (by rw [hml]; rfl) (argsL := [(.int p1), (.long q2), (.int (5 : Int32)), (.int (112 : Int32)), (.int (120 : Int32)), (.int (if (((p1.toUInt32 >>> ((10 : Int32) &&& 31).toUInt32).toInt32) &&& (1 : Int32)) = (0 : Int32) then (0 : Int32) else (1 : Int32)))]) (rest := []) (lenOf pd__IJICCZ_C_592 rfl) rfl (by show 2 * 0 + _ ≤ _; exact Nat.le_of_eq rfl) (hb hby at_100) (fun _ _ => ⟨rfl, e6, (by decide : 0 + 0 ≤ _), (by decide : 0 + 0 ≤ _)⟩)
  dsimp only [Pt.U, Pt.locs, Pt.cells, Pt.slots] at X7 l7 y7 z7 st7 hQ7
  subst l7 y7 z7
  obtain ⟨w5, rfl, N7q, e7, hw5⟩ := hQ7
  have N7 := Fr.app N6 N7q
  obtain ⟨_, _, ⟨T8, L8, k8, n8⟩, -, X8, ⟨Lc8, hQ8, l8, y8, z8⟩, st8⟩ := Jvm.LawKit.callS X7 hx (y := (⟨"com/example/mended_hedge/mendedhedge/cli/CommandIsHelpPinLaw", "pick", "(IJICCZ)C"⟩ : MethodName)) hown (mvT hZ (hw _ (List.mem_of_getElem? (i := 0) rfl))) (mvT hZ (hw _ (List.mem_of_getElem? (i := 1) rfl))) (mvT hZ (hw _ (List.mem_of_getElem? (i := 2) rfl))) (mvT hZ (hw _ (List.mem_of_getElem? (i := 3) rfl))) (by decide) (backOf (W := 0) (rm_pk l Z a0 hw [] p1 q2 (6 : Int32) (120 : Int32) (120 : Int32) (if (((p1.toUInt32 >>> ((10 : Int32) &&& 31).toUInt32).toInt32) &&& (1 : Int32)) = (0 : Int32) then (0 : Int32) else (1 : Int32)) h0 n0 Z0 ⟨by decide, by decide⟩ ⟨by decide, by decide⟩) hZ (hw _ (List.mem_of_getElem? (i := 3) rfl)) (hw _ (List.mem_of_getElem? (i := 2) rfl)) (by decide) (by decide)) (g := (mkF m 115 #[.val (.int p1), .val (.long q2), .second, .val (.int (p1 &&& (7 : Int32))), .val (.int (if (((p1.toUInt32 >>> ((10 : Int32) &&& 31).toUInt32).toInt32) &&& (1 : Int32)) = (0 : Int32) then (0 : Int32) else (1 : Int32))), .val (.int w0), .val (.int w1), .val (.int w2), .val (.int w3), .val (.int w4), .val (.int w5), .unset, .unset, .unset, .unset, .unset] [(.int (if (((p1.toUInt32 >>> ((10 : Int32) &&& 31).toUInt32).toInt32) &&& (1 : Int32)) = (0 : Int32) then (0 : Int32) else (1 : Int32))), (.int (120 : Int32)), (.int (120 : Int32)), (.int (6 : Int32)), (.long q2), (.int p1)])) rfl (by rw [hml]; rfl) (argsL := [(.int p1), (.long q2), (.int (6 : Int32)), (.int (120 : Int32)), (.int (120 : Int32)), (.int (if (((p1.toUInt32 >>> ((10 : Int32) &&& 31).toUInt32).toInt32) &&& (1 : Int32)) = (0 : Int32) then (0 : Int32) else (1 : Int32)))]) (rest := []) (lenOf pd__IJICCZ_C_592 rfl) rfl (by show 2 * 0 + _ ≤ _; exact Nat.le_of_eq rfl) (hb hby at_115) (fun _ _ => ⟨rfl, e7, (by decide : 0 + 0 ≤ _), (by decide : 0 + 0 ≤ _)⟩)
  dsimp only [Pt.U, Pt.locs, Pt.cells, Pt.slots] at X8 l8 y8 z8 st8 hQ8
  subst l8 y8 z8
  obtain ⟨w6, rfl, N8q, e8, hw6⟩ := hQ8
  have N8 := Fr.app N7 N8q
  have pre_10 : ∀ t, Steps p.tables e below (T8.setTop (mkF m 135 #[.val (.int p1), .val (.long q2), .second, .val (.int (p1 &&& (7 : Int32))), .val (.int (if (((p1.toUInt32 >>> ((10 : Int32) &&& 31).toUInt32).toInt32) &&& (1 : Int32)) = (0 : Int32) then (0 : Int32) else (1 : Int32))), .val (.int w0), .val (.int w1), .val (.int w2), .val (.int w3), .val (.int w4), .val (.int w5), .val (.int w6), .unset, .unset, .unset, .unset] [(.int w6), (.int w5), (.int w4), (.int w3), (.int w2), (.int w1), (.int w0), (.int (p1 &&& (7 : Int32)))])) t → Steps p.tables e below (s₁.setTop (entryFrame m #[(.int p1), (.long q2)] maxLocals)) t := by
    intro t kt
    refine pre_1 _ ?_
    show Steps p.tables e below (s₁.setTop (mkF m 19 #[.val (.int p1), .val (.long q2), .second, .val (.int (p1 &&& (7 : Int32))), .unset, .unset, .unset, .unset, .unset, .unset, .unset, .unset, .unset, .unset, .unset, .unset] [(.int (if (((p1.toUInt32 >>> ((10 : Int32) &&& 31).toUInt32).toInt32) &&& (1 : Int32)) = (0 : Int32) then (0 : Int32) else (1 : Int32)))])) _
    refine XS.istore X0.here hx rfl (hb hby at_19) rfl (l' := #[.val (.int p1), .val (.long q2), .second, .val (.int (p1 &&& (7 : Int32))), .val (.int (if (((p1.toUInt32 >>> ((10 : Int32) &&& 31).toUInt32).toInt32) &&& (1 : Int32)) = (0 : Int32) then (0 : Int32) else (1 : Int32))), .unset, .unset, .unset, .unset, .unset, .unset, .unset, .unset, .unset, .unset, .unset]) rfl ?_
    show Steps p.tables e below (s₁.setTop (mkF m 21 #[.val (.int p1), .val (.long q2), .second, .val (.int (p1 &&& (7 : Int32))), .val (.int (if (((p1.toUInt32 >>> ((10 : Int32) &&& 31).toUInt32).toInt32) &&& (1 : Int32)) = (0 : Int32) then (0 : Int32) else (1 : Int32))), .unset, .unset, .unset, .unset, .unset, .unset, .unset, .unset, .unset, .unset, .unset] [])) _
    refine XS.iloadN X0.here hx rfl (hb hby at_21) rfl ?_
    show Steps p.tables e below (s₁.setTop (mkF m 22 #[.val (.int p1), .val (.long q2), .second, .val (.int (p1 &&& (7 : Int32))), .val (.int (if (((p1.toUInt32 >>> ((10 : Int32) &&& 31).toUInt32).toInt32) &&& (1 : Int32)) = (0 : Int32) then (0 : Int32) else (1 : Int32))), .unset, .unset, .unset, .unset, .unset, .unset, .unset, .unset, .unset, .unset, .unset] [(.int p1)])) _
    refine XS.lloadN X0.here hx rfl (hb hby at_22) rfl ?_
    show Steps p.tables e below (s₁.setTop (mkF m 23 #[.val (.int p1), .val (.long q2), .second, .val (.int (p1 &&& (7 : Int32))), .val (.int (if (((p1.toUInt32 >>> ((10 : Int32) &&& 31).toUInt32).toInt32) &&& (1 : Int32)) = (0 : Int32) then (0 : Int32) else (1 : Int32))), .unset, .unset, .unset, .unset, .unset, .unset, .unset, .unset, .unset, .unset, .unset] [(.long q2), (.int p1)])) _
    refine XS.iconst X0.here hx rfl (hb hby at_23) ?_
    show Steps p.tables e below (s₁.setTop (mkF m 24 #[.val (.int p1), .val (.long q2), .second, .val (.int (p1 &&& (7 : Int32))), .val (.int (if (((p1.toUInt32 >>> ((10 : Int32) &&& 31).toUInt32).toInt32) &&& (1 : Int32)) = (0 : Int32) then (0 : Int32) else (1 : Int32))), .unset, .unset, .unset, .unset, .unset, .unset, .unset, .unset, .unset, .unset, .unset] [(.int (0 : Int32)), (.long q2), (.int p1)])) _
    refine XS.bipush X0.here hx rfl (hb hby at_24) ?_
    show Steps p.tables e below (s₁.setTop (mkF m 26 #[.val (.int p1), .val (.long q2), .second, .val (.int (p1 &&& (7 : Int32))), .val (.int (if (((p1.toUInt32 >>> ((10 : Int32) &&& 31).toUInt32).toInt32) &&& (1 : Int32)) = (0 : Int32) then (0 : Int32) else (1 : Int32))), .unset, .unset, .unset, .unset, .unset, .unset, .unset, .unset, .unset, .unset, .unset] [(.int (45 : Int32)), (.int (0 : Int32)), (.long q2), (.int p1)])) _
    refine XS.bipush X0.here hx rfl (hb hby at_26) ?_
    show Steps p.tables e below (s₁.setTop (mkF m 28 #[.val (.int p1), .val (.long q2), .second, .val (.int (p1 &&& (7 : Int32))), .val (.int (if (((p1.toUInt32 >>> ((10 : Int32) &&& 31).toUInt32).toInt32) &&& (1 : Int32)) = (0 : Int32) then (0 : Int32) else (1 : Int32))), .unset, .unset, .unset, .unset, .unset, .unset, .unset, .unset, .unset, .unset, .unset] [(.int (45 : Int32)), (.int (45 : Int32)), (.int (0 : Int32)), (.long q2), (.int p1)])) _
    refine XS.iload X0.here hx rfl (hb hby at_28) rfl ?_
    show Steps p.tables e below (s₁.setTop (mkF m 30 #[.val (.int p1), .val (.long q2), .second, .val (.int (p1 &&& (7 : Int32))), .val (.int (if (((p1.toUInt32 >>> ((10 : Int32) &&& 31).toUInt32).toInt32) &&& (1 : Int32)) = (0 : Int32) then (0 : Int32) else (1 : Int32))), .unset, .unset, .unset, .unset, .unset, .unset, .unset, .unset, .unset, .unset, .unset] [(.int (if (((p1.toUInt32 >>> ((10 : Int32) &&& 31).toUInt32).toInt32) &&& (1 : Int32)) = (0 : Int32) then (0 : Int32) else (1 : Int32))), (.int (45 : Int32)), (.int (45 : Int32)), (.int (0 : Int32)), (.long q2), (.int p1)])) _
    refine st2 _ ?_
    show Steps p.tables e below (T2.setTop (mkF m 33 #[.val (.int p1), .val (.long q2), .second, .val (.int (p1 &&& (7 : Int32))), .val (.int (if (((p1.toUInt32 >>> ((10 : Int32) &&& 31).toUInt32).toInt32) &&& (1 : Int32)) = (0 : Int32) then (0 : Int32) else (1 : Int32))), .unset, .unset, .unset, .unset, .unset, .unset, .unset, .unset, .unset, .unset, .unset] [(.int w0)])) _
    refine XS.istore X2.here hx rfl (hb hby at_33) rfl (l' := #[.val (.int p1), .val (.long q2), .second, .val (.int (p1 &&& (7 : Int32))), .val (.int (if (((p1.toUInt32 >>> ((10 : Int32) &&& 31).toUInt32).toInt32) &&& (1 : Int32)) = (0 : Int32) then (0 : Int32) else (1 : Int32))), .val (.int w0), .unset, .unset, .unset, .unset, .unset, .unset, .unset, .unset, .unset, .unset]) rfl ?_
    show Steps p.tables e below (T2.setTop (mkF m 35 #[.val (.int p1), .val (.long q2), .second, .val (.int (p1 &&& (7 : Int32))), .val (.int (if (((p1.toUInt32 >>> ((10 : Int32) &&& 31).toUInt32).toInt32) &&& (1 : Int32)) = (0 : Int32) then (0 : Int32) else (1 : Int32))), .val (.int w0), .unset, .unset, .unset, .unset, .unset, .unset, .unset, .unset, .unset, .unset] [])) _
    refine XS.iloadN X2.here hx rfl (hb hby at_35) rfl ?_
    show Steps p.tables e below (T2.setTop (mkF m 36 #[.val (.int p1), .val (.long q2), .second, .val (.int (p1 &&& (7 : Int32))), .val (.int (if (((p1.toUInt32 >>> ((10 : Int32) &&& 31).toUInt32).toInt32) &&& (1 : Int32)) = (0 : Int32) then (0 : Int32) else (1 : Int32))), .val (.int w0), .unset, .unset, .unset, .unset, .unset, .unset, .unset, .unset, .unset, .unset] [(.int p1)])) _
    refine XS.lloadN X2.here hx rfl (hb hby at_36) rfl ?_
    show Steps p.tables e below (T2.setTop (mkF m 37 #[.val (.int p1), .val (.long q2), .second, .val (.int (p1 &&& (7 : Int32))), .val (.int (if (((p1.toUInt32 >>> ((10 : Int32) &&& 31).toUInt32).toInt32) &&& (1 : Int32)) = (0 : Int32) then (0 : Int32) else (1 : Int32))), .val (.int w0), .unset, .unset, .unset, .unset, .unset, .unset, .unset, .unset, .unset, .unset] [(.long q2), (.int p1)])) _
    refine XS.iconst X2.here hx rfl (hb hby at_37) ?_
    show Steps p.tables e below (T2.setTop (mkF m 38 #[.val (.int p1), .val (.long q2), .second, .val (.int (p1 &&& (7 : Int32))), .val (.int (if (((p1.toUInt32 >>> ((10 : Int32) &&& 31).toUInt32).toInt32) &&& (1 : Int32)) = (0 : Int32) then (0 : Int32) else (1 : Int32))), .val (.int w0), .unset, .unset, .unset, .unset, .unset, .unset, .unset, .unset, .unset, .unset] [(.int (1 : Int32)), (.long q2), (.int p1)])) _
    refine XS.bipush X2.here hx rfl (hb hby at_38) ?_
    show Steps p.tables e below (T2.setTop (mkF m 40 #[.val (.int p1), .val (.long q2), .second, .val (.int (p1 &&& (7 : Int32))), .val (.int (if (((p1.toUInt32 >>> ((10 : Int32) &&& 31).toUInt32).toInt32) &&& (1 : Int32)) = (0 : Int32) then (0 : Int32) else (1 : Int32))), .val (.int w0), .unset, .unset, .unset, .unset, .unset, .unset, .unset, .unset, .unset, .unset] [(.int (45 : Int32)), (.int (1 : Int32)), (.long q2), (.int p1)])) _
    refine XS.bipush X2.here hx rfl (hb hby at_40) ?_
    show Steps p.tables e below (T2.setTop (mkF m 42 #[.val (.int p1), .val (.long q2), .second, .val (.int (p1 &&& (7 : Int32))), .val (.int (if (((p1.toUInt32 >>> ((10 : Int32) &&& 31).toUInt32).toInt32) &&& (1 : Int32)) = (0 : Int32) then (0 : Int32) else (1 : Int32))), .val (.int w0), .unset, .unset, .unset, .unset, .unset, .unset, .unset, .unset, .unset, .unset] [(.int (104 : Int32)), (.int (45 : Int32)), (.int (1 : Int32)), (.long q2), (.int p1)])) _
    refine XS.iload X2.here hx rfl (hb hby at_42) rfl ?_
    show Steps p.tables e below (T2.setTop (mkF m 44 #[.val (.int p1), .val (.long q2), .second, .val (.int (p1 &&& (7 : Int32))), .val (.int (if (((p1.toUInt32 >>> ((10 : Int32) &&& 31).toUInt32).toInt32) &&& (1 : Int32)) = (0 : Int32) then (0 : Int32) else (1 : Int32))), .val (.int w0), .unset, .unset, .unset, .unset, .unset, .unset, .unset, .unset, .unset, .unset] [(.int (if (((p1.toUInt32 >>> ((10 : Int32) &&& 31).toUInt32).toInt32) &&& (1 : Int32)) = (0 : Int32) then (0 : Int32) else (1 : Int32))), (.int (104 : Int32)), (.int (45 : Int32)), (.int (1 : Int32)), (.long q2), (.int p1)])) _
    refine st3 _ ?_
    show Steps p.tables e below (T3.setTop (mkF m 47 #[.val (.int p1), .val (.long q2), .second, .val (.int (p1 &&& (7 : Int32))), .val (.int (if (((p1.toUInt32 >>> ((10 : Int32) &&& 31).toUInt32).toInt32) &&& (1 : Int32)) = (0 : Int32) then (0 : Int32) else (1 : Int32))), .val (.int w0), .unset, .unset, .unset, .unset, .unset, .unset, .unset, .unset, .unset, .unset] [(.int w1)])) _
    refine XS.istore X3.here hx rfl (hb hby at_47) rfl (l' := #[.val (.int p1), .val (.long q2), .second, .val (.int (p1 &&& (7 : Int32))), .val (.int (if (((p1.toUInt32 >>> ((10 : Int32) &&& 31).toUInt32).toInt32) &&& (1 : Int32)) = (0 : Int32) then (0 : Int32) else (1 : Int32))), .val (.int w0), .val (.int w1), .unset, .unset, .unset, .unset, .unset, .unset, .unset, .unset, .unset]) rfl ?_
    show Steps p.tables e below (T3.setTop (mkF m 49 #[.val (.int p1), .val (.long q2), .second, .val (.int (p1 &&& (7 : Int32))), .val (.int (if (((p1.toUInt32 >>> ((10 : Int32) &&& 31).toUInt32).toInt32) &&& (1 : Int32)) = (0 : Int32) then (0 : Int32) else (1 : Int32))), .val (.int w0), .val (.int w1), .unset, .unset, .unset, .unset, .unset, .unset, .unset, .unset, .unset] [])) _
    refine XS.iloadN X3.here hx rfl (hb hby at_49) rfl ?_
    show Steps p.tables e below (T3.setTop (mkF m 50 #[.val (.int p1), .val (.long q2), .second, .val (.int (p1 &&& (7 : Int32))), .val (.int (if (((p1.toUInt32 >>> ((10 : Int32) &&& 31).toUInt32).toInt32) &&& (1 : Int32)) = (0 : Int32) then (0 : Int32) else (1 : Int32))), .val (.int w0), .val (.int w1), .unset, .unset, .unset, .unset, .unset, .unset, .unset, .unset, .unset] [(.int p1)])) _
    refine XS.lloadN X3.here hx rfl (hb hby at_50) rfl ?_
    show Steps p.tables e below (T3.setTop (mkF m 51 #[.val (.int p1), .val (.long q2), .second, .val (.int (p1 &&& (7 : Int32))), .val (.int (if (((p1.toUInt32 >>> ((10 : Int32) &&& 31).toUInt32).toInt32) &&& (1 : Int32)) = (0 : Int32) then (0 : Int32) else (1 : Int32))), .val (.int w0), .val (.int w1), .unset, .unset, .unset, .unset, .unset, .unset, .unset, .unset, .unset] [(.long q2), (.int p1)])) _
    refine XS.iconst X3.here hx rfl (hb hby at_51) ?_
    show Steps p.tables e below (T3.setTop (mkF m 52 #[.val (.int p1), .val (.long q2), .second, .val (.int (p1 &&& (7 : Int32))), .val (.int (if (((p1.toUInt32 >>> ((10 : Int32) &&& 31).toUInt32).toInt32) &&& (1 : Int32)) = (0 : Int32) then (0 : Int32) else (1 : Int32))), .val (.int w0), .val (.int w1), .unset, .unset, .unset, .unset, .unset, .unset, .unset, .unset, .unset] [(.int (2 : Int32)), (.long q2), (.int p1)])) _
    refine XS.bipush X3.here hx rfl (hb hby at_52) ?_
    show Steps p.tables e below (T3.setTop (mkF m 54 #[.val (.int p1), .val (.long q2), .second, .val (.int (p1 &&& (7 : Int32))), .val (.int (if (((p1.toUInt32 >>> ((10 : Int32) &&& 31).toUInt32).toInt32) &&& (1 : Int32)) = (0 : Int32) then (0 : Int32) else (1 : Int32))), .val (.int w0), .val (.int w1), .unset, .unset, .unset, .unset, .unset, .unset, .unset, .unset, .unset] [(.int (104 : Int32)), (.int (2 : Int32)), (.long q2), (.int p1)])) _
    refine XS.bipush X3.here hx rfl (hb hby at_54) ?_
    show Steps p.tables e below (T3.setTop (mkF m 56 #[.val (.int p1), .val (.long q2), .second, .val (.int (p1 &&& (7 : Int32))), .val (.int (if (((p1.toUInt32 >>> ((10 : Int32) &&& 31).toUInt32).toInt32) &&& (1 : Int32)) = (0 : Int32) then (0 : Int32) else (1 : Int32))), .val (.int w0), .val (.int w1), .unset, .unset, .unset, .unset, .unset, .unset, .unset, .unset, .unset] [(.int (120 : Int32)), (.int (104 : Int32)), (.int (2 : Int32)), (.long q2), (.int p1)])) _
    refine XS.iload X3.here hx rfl (hb hby at_56) rfl ?_
    show Steps p.tables e below (T3.setTop (mkF m 58 #[.val (.int p1), .val (.long q2), .second, .val (.int (p1 &&& (7 : Int32))), .val (.int (if (((p1.toUInt32 >>> ((10 : Int32) &&& 31).toUInt32).toInt32) &&& (1 : Int32)) = (0 : Int32) then (0 : Int32) else (1 : Int32))), .val (.int w0), .val (.int w1), .unset, .unset, .unset, .unset, .unset, .unset, .unset, .unset, .unset] [(.int (if (((p1.toUInt32 >>> ((10 : Int32) &&& 31).toUInt32).toInt32) &&& (1 : Int32)) = (0 : Int32) then (0 : Int32) else (1 : Int32))), (.int (120 : Int32)), (.int (104 : Int32)), (.int (2 : Int32)), (.long q2), (.int p1)])) _
    refine st4 _ ?_
    show Steps p.tables e below (T4.setTop (mkF m 61 #[.val (.int p1), .val (.long q2), .second, .val (.int (p1 &&& (7 : Int32))), .val (.int (if (((p1.toUInt32 >>> ((10 : Int32) &&& 31).toUInt32).toInt32) &&& (1 : Int32)) = (0 : Int32) then (0 : Int32) else (1 : Int32))), .val (.int w0), .val (.int w1), .unset, .unset, .unset, .unset, .unset, .unset, .unset, .unset, .unset] [(.int w2)])) _
    refine XS.istore X4.here hx rfl (hb hby at_61) rfl (l' := #[.val (.int p1), .val (.long q2), .second, .val (.int (p1 &&& (7 : Int32))), .val (.int (if (((p1.toUInt32 >>> ((10 : Int32) &&& 31).toUInt32).toInt32) &&& (1 : Int32)) = (0 : Int32) then (0 : Int32) else (1 : Int32))), .val (.int w0), .val (.int w1), .val (.int w2), .unset, .unset, .unset, .unset, .unset, .unset, .unset, .unset]) rfl ?_
    show Steps p.tables e below (T4.setTop (mkF m 63 #[.val (.int p1), .val (.long q2), .second, .val (.int (p1 &&& (7 : Int32))), .val (.int (if (((p1.toUInt32 >>> ((10 : Int32) &&& 31).toUInt32).toInt32) &&& (1 : Int32)) = (0 : Int32) then (0 : Int32) else (1 : Int32))), .val (.int w0), .val (.int w1), .val (.int w2), .unset, .unset, .unset, .unset, .unset, .unset, .unset, .unset] [])) _
    refine XS.iloadN X4.here hx rfl (hb hby at_63) rfl ?_
    show Steps p.tables e below (T4.setTop (mkF m 64 #[.val (.int p1), .val (.long q2), .second, .val (.int (p1 &&& (7 : Int32))), .val (.int (if (((p1.toUInt32 >>> ((10 : Int32) &&& 31).toUInt32).toInt32) &&& (1 : Int32)) = (0 : Int32) then (0 : Int32) else (1 : Int32))), .val (.int w0), .val (.int w1), .val (.int w2), .unset, .unset, .unset, .unset, .unset, .unset, .unset, .unset] [(.int p1)])) _
    refine XS.lloadN X4.here hx rfl (hb hby at_64) rfl ?_
    show Steps p.tables e below (T4.setTop (mkF m 65 #[.val (.int p1), .val (.long q2), .second, .val (.int (p1 &&& (7 : Int32))), .val (.int (if (((p1.toUInt32 >>> ((10 : Int32) &&& 31).toUInt32).toInt32) &&& (1 : Int32)) = (0 : Int32) then (0 : Int32) else (1 : Int32))), .val (.int w0), .val (.int w1), .val (.int w2), .unset, .unset, .unset, .unset, .unset, .unset, .unset, .unset] [(.long q2), (.int p1)])) _
    refine XS.iconst X4.here hx rfl (hb hby at_65) ?_
    show Steps p.tables e below (T4.setTop (mkF m 66 #[.val (.int p1), .val (.long q2), .second, .val (.int (p1 &&& (7 : Int32))), .val (.int (if (((p1.toUInt32 >>> ((10 : Int32) &&& 31).toUInt32).toInt32) &&& (1 : Int32)) = (0 : Int32) then (0 : Int32) else (1 : Int32))), .val (.int w0), .val (.int w1), .val (.int w2), .unset, .unset, .unset, .unset, .unset, .unset, .unset, .unset] [(.int (3 : Int32)), (.long q2), (.int p1)])) _
    refine XS.bipush X4.here hx rfl (hb hby at_66) ?_
    show Steps p.tables e below (T4.setTop (mkF m 68 #[.val (.int p1), .val (.long q2), .second, .val (.int (p1 &&& (7 : Int32))), .val (.int (if (((p1.toUInt32 >>> ((10 : Int32) &&& 31).toUInt32).toInt32) &&& (1 : Int32)) = (0 : Int32) then (0 : Int32) else (1 : Int32))), .val (.int w0), .val (.int w1), .val (.int w2), .unset, .unset, .unset, .unset, .unset, .unset, .unset, .unset] [(.int (101 : Int32)), (.int (3 : Int32)), (.long q2), (.int p1)])) _
    refine XS.bipush X4.here hx rfl (hb hby at_68) ?_
    show Steps p.tables e below (T4.setTop (mkF m 70 #[.val (.int p1), .val (.long q2), .second, .val (.int (p1 &&& (7 : Int32))), .val (.int (if (((p1.toUInt32 >>> ((10 : Int32) &&& 31).toUInt32).toInt32) &&& (1 : Int32)) = (0 : Int32) then (0 : Int32) else (1 : Int32))), .val (.int w0), .val (.int w1), .val (.int w2), .unset, .unset, .unset, .unset, .unset, .unset, .unset, .unset] [(.int (120 : Int32)), (.int (101 : Int32)), (.int (3 : Int32)), (.long q2), (.int p1)])) _
    refine XS.iload X4.here hx rfl (hb hby at_70) rfl ?_
    show Steps p.tables e below (T4.setTop (mkF m 72 #[.val (.int p1), .val (.long q2), .second, .val (.int (p1 &&& (7 : Int32))), .val (.int (if (((p1.toUInt32 >>> ((10 : Int32) &&& 31).toUInt32).toInt32) &&& (1 : Int32)) = (0 : Int32) then (0 : Int32) else (1 : Int32))), .val (.int w0), .val (.int w1), .val (.int w2), .unset, .unset, .unset, .unset, .unset, .unset, .unset, .unset] [(.int (if (((p1.toUInt32 >>> ((10 : Int32) &&& 31).toUInt32).toInt32) &&& (1 : Int32)) = (0 : Int32) then (0 : Int32) else (1 : Int32))), (.int (120 : Int32)), (.int (101 : Int32)), (.int (3 : Int32)), (.long q2), (.int p1)])) _
    refine st5 _ ?_
    show Steps p.tables e below (T5.setTop (mkF m 75 #[.val (.int p1), .val (.long q2), .second, .val (.int (p1 &&& (7 : Int32))), .val (.int (if (((p1.toUInt32 >>> ((10 : Int32) &&& 31).toUInt32).toInt32) &&& (1 : Int32)) = (0 : Int32) then (0 : Int32) else (1 : Int32))), .val (.int w0), .val (.int w1), .val (.int w2), .unset, .unset, .unset, .unset, .unset, .unset, .unset, .unset] [(.int w3)])) _
    refine XS.istore X5.here hx rfl (hb hby at_75) rfl (l' := #[.val (.int p1), .val (.long q2), .second, .val (.int (p1 &&& (7 : Int32))), .val (.int (if (((p1.toUInt32 >>> ((10 : Int32) &&& 31).toUInt32).toInt32) &&& (1 : Int32)) = (0 : Int32) then (0 : Int32) else (1 : Int32))), .val (.int w0), .val (.int w1), .val (.int w2), .val (.int w3), .unset, .unset, .unset, .unset, .unset, .unset, .unset]) rfl ?_
    show Steps p.tables e below (T5.setTop (mkF m 77 #[.val (.int p1), .val (.long q2), .second, .val (.int (p1 &&& (7 : Int32))), .val (.int (if (((p1.toUInt32 >>> ((10 : Int32) &&& 31).toUInt32).toInt32) &&& (1 : Int32)) = (0 : Int32) then (0 : Int32) else (1 : Int32))), .val (.int w0), .val (.int w1), .val (.int w2), .val (.int w3), .unset, .unset, .unset, .unset, .unset, .unset, .unset] [])) _
    refine XS.iloadN X5.here hx rfl (hb hby at_77) rfl ?_
    show Steps p.tables e below (T5.setTop (mkF m 78 #[.val (.int p1), .val (.long q2), .second, .val (.int (p1 &&& (7 : Int32))), .val (.int (if (((p1.toUInt32 >>> ((10 : Int32) &&& 31).toUInt32).toInt32) &&& (1 : Int32)) = (0 : Int32) then (0 : Int32) else (1 : Int32))), .val (.int w0), .val (.int w1), .val (.int w2), .val (.int w3), .unset, .unset, .unset, .unset, .unset, .unset, .unset] [(.int p1)])) _
    refine XS.lloadN X5.here hx rfl (hb hby at_78) rfl ?_
    show Steps p.tables e below (T5.setTop (mkF m 79 #[.val (.int p1), .val (.long q2), .second, .val (.int (p1 &&& (7 : Int32))), .val (.int (if (((p1.toUInt32 >>> ((10 : Int32) &&& 31).toUInt32).toInt32) &&& (1 : Int32)) = (0 : Int32) then (0 : Int32) else (1 : Int32))), .val (.int w0), .val (.int w1), .val (.int w2), .val (.int w3), .unset, .unset, .unset, .unset, .unset, .unset, .unset] [(.long q2), (.int p1)])) _
    refine XS.iconst X5.here hx rfl (hb hby at_79) ?_
    show Steps p.tables e below (T5.setTop (mkF m 80 #[.val (.int p1), .val (.long q2), .second, .val (.int (p1 &&& (7 : Int32))), .val (.int (if (((p1.toUInt32 >>> ((10 : Int32) &&& 31).toUInt32).toInt32) &&& (1 : Int32)) = (0 : Int32) then (0 : Int32) else (1 : Int32))), .val (.int w0), .val (.int w1), .val (.int w2), .val (.int w3), .unset, .unset, .unset, .unset, .unset, .unset, .unset] [(.int (4 : Int32)), (.long q2), (.int p1)])) _
    refine XS.bipush X5.here hx rfl (hb hby at_80) ?_
    show Steps p.tables e below (T5.setTop (mkF m 82 #[.val (.int p1), .val (.long q2), .second, .val (.int (p1 &&& (7 : Int32))), .val (.int (if (((p1.toUInt32 >>> ((10 : Int32) &&& 31).toUInt32).toInt32) &&& (1 : Int32)) = (0 : Int32) then (0 : Int32) else (1 : Int32))), .val (.int w0), .val (.int w1), .val (.int w2), .val (.int w3), .unset, .unset, .unset, .unset, .unset, .unset, .unset] [(.int (108 : Int32)), (.int (4 : Int32)), (.long q2), (.int p1)])) _
    refine XS.bipush X5.here hx rfl (hb hby at_82) ?_
    show Steps p.tables e below (T5.setTop (mkF m 84 #[.val (.int p1), .val (.long q2), .second, .val (.int (p1 &&& (7 : Int32))), .val (.int (if (((p1.toUInt32 >>> ((10 : Int32) &&& 31).toUInt32).toInt32) &&& (1 : Int32)) = (0 : Int32) then (0 : Int32) else (1 : Int32))), .val (.int w0), .val (.int w1), .val (.int w2), .val (.int w3), .unset, .unset, .unset, .unset, .unset, .unset, .unset] [(.int (120 : Int32)), (.int (108 : Int32)), (.int (4 : Int32)), (.long q2), (.int p1)])) _
    refine XS.iload X5.here hx rfl (hb hby at_84) rfl ?_
    show Steps p.tables e below (T5.setTop (mkF m 86 #[.val (.int p1), .val (.long q2), .second, .val (.int (p1 &&& (7 : Int32))), .val (.int (if (((p1.toUInt32 >>> ((10 : Int32) &&& 31).toUInt32).toInt32) &&& (1 : Int32)) = (0 : Int32) then (0 : Int32) else (1 : Int32))), .val (.int w0), .val (.int w1), .val (.int w2), .val (.int w3), .unset, .unset, .unset, .unset, .unset, .unset, .unset] [(.int (if (((p1.toUInt32 >>> ((10 : Int32) &&& 31).toUInt32).toInt32) &&& (1 : Int32)) = (0 : Int32) then (0 : Int32) else (1 : Int32))), (.int (120 : Int32)), (.int (108 : Int32)), (.int (4 : Int32)), (.long q2), (.int p1)])) _
    refine st6 _ ?_
    show Steps p.tables e below (T6.setTop (mkF m 89 #[.val (.int p1), .val (.long q2), .second, .val (.int (p1 &&& (7 : Int32))), .val (.int (if (((p1.toUInt32 >>> ((10 : Int32) &&& 31).toUInt32).toInt32) &&& (1 : Int32)) = (0 : Int32) then (0 : Int32) else (1 : Int32))), .val (.int w0), .val (.int w1), .val (.int w2), .val (.int w3), .unset, .unset, .unset, .unset, .unset, .unset, .unset] [(.int w4)])) _
    refine XS.istore X6.here hx rfl (hb hby at_89) rfl (l' := #[.val (.int p1), .val (.long q2), .second, .val (.int (p1 &&& (7 : Int32))), .val (.int (if (((p1.toUInt32 >>> ((10 : Int32) &&& 31).toUInt32).toInt32) &&& (1 : Int32)) = (0 : Int32) then (0 : Int32) else (1 : Int32))), .val (.int w0), .val (.int w1), .val (.int w2), .val (.int w3), .val (.int w4), .unset, .unset, .unset, .unset, .unset, .unset]) rfl ?_
    show Steps p.tables e below (T6.setTop (mkF m 91 #[.val (.int p1), .val (.long q2), .second, .val (.int (p1 &&& (7 : Int32))), .val (.int (if (((p1.toUInt32 >>> ((10 : Int32) &&& 31).toUInt32).toInt32) &&& (1 : Int32)) = (0 : Int32) then (0 : Int32) else (1 : Int32))), .val (.int w0), .val (.int w1), .val (.int w2), .val (.int w3), .val (.int w4), .unset, .unset, .unset, .unset, .unset, .unset] [])) _
    refine XS.iloadN X6.here hx rfl (hb hby at_91) rfl ?_
    show Steps p.tables e below (T6.setTop (mkF m 92 #[.val (.int p1), .val (.long q2), .second, .val (.int (p1 &&& (7 : Int32))), .val (.int (if (((p1.toUInt32 >>> ((10 : Int32) &&& 31).toUInt32).toInt32) &&& (1 : Int32)) = (0 : Int32) then (0 : Int32) else (1 : Int32))), .val (.int w0), .val (.int w1), .val (.int w2), .val (.int w3), .val (.int w4), .unset, .unset, .unset, .unset, .unset, .unset] [(.int p1)])) _
    refine XS.lloadN X6.here hx rfl (hb hby at_92) rfl ?_
    show Steps p.tables e below (T6.setTop (mkF m 93 #[.val (.int p1), .val (.long q2), .second, .val (.int (p1 &&& (7 : Int32))), .val (.int (if (((p1.toUInt32 >>> ((10 : Int32) &&& 31).toUInt32).toInt32) &&& (1 : Int32)) = (0 : Int32) then (0 : Int32) else (1 : Int32))), .val (.int w0), .val (.int w1), .val (.int w2), .val (.int w3), .val (.int w4), .unset, .unset, .unset, .unset, .unset, .unset] [(.long q2), (.int p1)])) _
    refine XS.iconst X6.here hx rfl (hb hby at_93) ?_
    show Steps p.tables e below (T6.setTop (mkF m 94 #[.val (.int p1), .val (.long q2), .second, .val (.int (p1 &&& (7 : Int32))), .val (.int (if (((p1.toUInt32 >>> ((10 : Int32) &&& 31).toUInt32).toInt32) &&& (1 : Int32)) = (0 : Int32) then (0 : Int32) else (1 : Int32))), .val (.int w0), .val (.int w1), .val (.int w2), .val (.int w3), .val (.int w4), .unset, .unset, .unset, .unset, .unset, .unset] [(.int (5 : Int32)), (.long q2), (.int p1)])) _
    refine XS.bipush X6.here hx rfl (hb hby at_94) ?_
    show Steps p.tables e below (T6.setTop (mkF m 96 #[.val (.int p1), .val (.long q2), .second, .val (.int (p1 &&& (7 : Int32))), .val (.int (if (((p1.toUInt32 >>> ((10 : Int32) &&& 31).toUInt32).toInt32) &&& (1 : Int32)) = (0 : Int32) then (0 : Int32) else (1 : Int32))), .val (.int w0), .val (.int w1), .val (.int w2), .val (.int w3), .val (.int w4), .unset, .unset, .unset, .unset, .unset, .unset] [(.int (112 : Int32)), (.int (5 : Int32)), (.long q2), (.int p1)])) _
    refine XS.bipush X6.here hx rfl (hb hby at_96) ?_
    show Steps p.tables e below (T6.setTop (mkF m 98 #[.val (.int p1), .val (.long q2), .second, .val (.int (p1 &&& (7 : Int32))), .val (.int (if (((p1.toUInt32 >>> ((10 : Int32) &&& 31).toUInt32).toInt32) &&& (1 : Int32)) = (0 : Int32) then (0 : Int32) else (1 : Int32))), .val (.int w0), .val (.int w1), .val (.int w2), .val (.int w3), .val (.int w4), .unset, .unset, .unset, .unset, .unset, .unset] [(.int (120 : Int32)), (.int (112 : Int32)), (.int (5 : Int32)), (.long q2), (.int p1)])) _
    refine XS.iload X6.here hx rfl (hb hby at_98) rfl ?_
    show Steps p.tables e below (T6.setTop (mkF m 100 #[.val (.int p1), .val (.long q2), .second, .val (.int (p1 &&& (7 : Int32))), .val (.int (if (((p1.toUInt32 >>> ((10 : Int32) &&& 31).toUInt32).toInt32) &&& (1 : Int32)) = (0 : Int32) then (0 : Int32) else (1 : Int32))), .val (.int w0), .val (.int w1), .val (.int w2), .val (.int w3), .val (.int w4), .unset, .unset, .unset, .unset, .unset, .unset] [(.int (if (((p1.toUInt32 >>> ((10 : Int32) &&& 31).toUInt32).toInt32) &&& (1 : Int32)) = (0 : Int32) then (0 : Int32) else (1 : Int32))), (.int (120 : Int32)), (.int (112 : Int32)), (.int (5 : Int32)), (.long q2), (.int p1)])) _
    refine st7 _ ?_
    show Steps p.tables e below (T7.setTop (mkF m 103 #[.val (.int p1), .val (.long q2), .second, .val (.int (p1 &&& (7 : Int32))), .val (.int (if (((p1.toUInt32 >>> ((10 : Int32) &&& 31).toUInt32).toInt32) &&& (1 : Int32)) = (0 : Int32) then (0 : Int32) else (1 : Int32))), .val (.int w0), .val (.int w1), .val (.int w2), .val (.int w3), .val (.int w4), .unset, .unset, .unset, .unset, .unset, .unset] [(.int w5)])) _
    refine XS.istore X7.here hx rfl (hb hby at_103) rfl (l' := #[.val (.int p1), .val (.long q2), .second, .val (.int (p1 &&& (7 : Int32))), .val (.int (if (((p1.toUInt32 >>> ((10 : Int32) &&& 31).toUInt32).toInt32) &&& (1 : Int32)) = (0 : Int32) then (0 : Int32) else (1 : Int32))), .val (.int w0), .val (.int w1), .val (.int w2), .val (.int w3), .val (.int w4), .val (.int w5), .unset, .unset, .unset, .unset, .unset]) rfl ?_
    show Steps p.tables e below (T7.setTop (mkF m 105 #[.val (.int p1), .val (.long q2), .second, .val (.int (p1 &&& (7 : Int32))), .val (.int (if (((p1.toUInt32 >>> ((10 : Int32) &&& 31).toUInt32).toInt32) &&& (1 : Int32)) = (0 : Int32) then (0 : Int32) else (1 : Int32))), .val (.int w0), .val (.int w1), .val (.int w2), .val (.int w3), .val (.int w4), .val (.int w5), .unset, .unset, .unset, .unset, .unset] [])) _
    refine XS.iloadN X7.here hx rfl (hb hby at_105) rfl ?_
    show Steps p.tables e below (T7.setTop (mkF m 106 #[.val (.int p1), .val (.long q2), .second, .val (.int (p1 &&& (7 : Int32))), .val (.int (if (((p1.toUInt32 >>> ((10 : Int32) &&& 31).toUInt32).toInt32) &&& (1 : Int32)) = (0 : Int32) then (0 : Int32) else (1 : Int32))), .val (.int w0), .val (.int w1), .val (.int w2), .val (.int w3), .val (.int w4), .val (.int w5), .unset, .unset, .unset, .unset, .unset] [(.int p1)])) _
    refine XS.lloadN X7.here hx rfl (hb hby at_106) rfl ?_
    show Steps p.tables e below (T7.setTop (mkF m 107 #[.val (.int p1), .val (.long q2), .second, .val (.int (p1 &&& (7 : Int32))), .val (.int (if (((p1.toUInt32 >>> ((10 : Int32) &&& 31).toUInt32).toInt32) &&& (1 : Int32)) = (0 : Int32) then (0 : Int32) else (1 : Int32))), .val (.int w0), .val (.int w1), .val (.int w2), .val (.int w3), .val (.int w4), .val (.int w5), .unset, .unset, .unset, .unset, .unset] [(.long q2), (.int p1)])) _
    refine XS.bipush X7.here hx rfl (hb hby at_107) ?_
    show Steps p.tables e below (T7.setTop (mkF m 109 #[.val (.int p1), .val (.long q2), .second, .val (.int (p1 &&& (7 : Int32))), .val (.int (if (((p1.toUInt32 >>> ((10 : Int32) &&& 31).toUInt32).toInt32) &&& (1 : Int32)) = (0 : Int32) then (0 : Int32) else (1 : Int32))), .val (.int w0), .val (.int w1), .val (.int w2), .val (.int w3), .val (.int w4), .val (.int w5), .unset, .unset, .unset, .unset, .unset] [(.int (6 : Int32)), (.long q2), (.int p1)])) _
    refine XS.bipush X7.here hx rfl (hb hby at_109) ?_
    show Steps p.tables e below (T7.setTop (mkF m 111 #[.val (.int p1), .val (.long q2), .second, .val (.int (p1 &&& (7 : Int32))), .val (.int (if (((p1.toUInt32 >>> ((10 : Int32) &&& 31).toUInt32).toInt32) &&& (1 : Int32)) = (0 : Int32) then (0 : Int32) else (1 : Int32))), .val (.int w0), .val (.int w1), .val (.int w2), .val (.int w3), .val (.int w4), .val (.int w5), .unset, .unset, .unset, .unset, .unset] [(.int (120 : Int32)), (.int (6 : Int32)), (.long q2), (.int p1)])) _
    refine XS.bipush X7.here hx rfl (hb hby at_111) ?_
    show Steps p.tables e below (T7.setTop (mkF m 113 #[.val (.int p1), .val (.long q2), .second, .val (.int (p1 &&& (7 : Int32))), .val (.int (if (((p1.toUInt32 >>> ((10 : Int32) &&& 31).toUInt32).toInt32) &&& (1 : Int32)) = (0 : Int32) then (0 : Int32) else (1 : Int32))), .val (.int w0), .val (.int w1), .val (.int w2), .val (.int w3), .val (.int w4), .val (.int w5), .unset, .unset, .unset, .unset, .unset] [(.int (120 : Int32)), (.int (120 : Int32)), (.int (6 : Int32)), (.long q2), (.int p1)])) _
    refine XS.iload X7.here hx rfl (hb hby at_113) rfl ?_
    show Steps p.tables e below (T7.setTop (mkF m 115 #[.val (.int p1), .val (.long q2), .second, .val (.int (p1 &&& (7 : Int32))), .val (.int (if (((p1.toUInt32 >>> ((10 : Int32) &&& 31).toUInt32).toInt32) &&& (1 : Int32)) = (0 : Int32) then (0 : Int32) else (1 : Int32))), .val (.int w0), .val (.int w1), .val (.int w2), .val (.int w3), .val (.int w4), .val (.int w5), .unset, .unset, .unset, .unset, .unset] [(.int (if (((p1.toUInt32 >>> ((10 : Int32) &&& 31).toUInt32).toInt32) &&& (1 : Int32)) = (0 : Int32) then (0 : Int32) else (1 : Int32))), (.int (120 : Int32)), (.int (120 : Int32)), (.int (6 : Int32)), (.long q2), (.int p1)])) _
    refine st8 _ ?_
    show Steps p.tables e below (T8.setTop (mkF m 118 #[.val (.int p1), .val (.long q2), .second, .val (.int (p1 &&& (7 : Int32))), .val (.int (if (((p1.toUInt32 >>> ((10 : Int32) &&& 31).toUInt32).toInt32) &&& (1 : Int32)) = (0 : Int32) then (0 : Int32) else (1 : Int32))), .val (.int w0), .val (.int w1), .val (.int w2), .val (.int w3), .val (.int w4), .val (.int w5), .unset, .unset, .unset, .unset, .unset] [(.int w6)])) _
    refine XS.istore X8.here hx rfl (hb hby at_118) rfl (l' := #[.val (.int p1), .val (.long q2), .second, .val (.int (p1 &&& (7 : Int32))), .val (.int (if (((p1.toUInt32 >>> ((10 : Int32) &&& 31).toUInt32).toInt32) &&& (1 : Int32)) = (0 : Int32) then (0 : Int32) else (1 : Int32))), .val (.int w0), .val (.int w1), .val (.int w2), .val (.int w3), .val (.int w4), .val (.int w5), .val (.int w6), .unset, .unset, .unset, .unset]) rfl ?_
    show Steps p.tables e below (T8.setTop (mkF m 120 #[.val (.int p1), .val (.long q2), .second, .val (.int (p1 &&& (7 : Int32))), .val (.int (if (((p1.toUInt32 >>> ((10 : Int32) &&& 31).toUInt32).toInt32) &&& (1 : Int32)) = (0 : Int32) then (0 : Int32) else (1 : Int32))), .val (.int w0), .val (.int w1), .val (.int w2), .val (.int w3), .val (.int w4), .val (.int w5), .val (.int w6), .unset, .unset, .unset, .unset] [])) _
    refine XS.iloadN X8.here hx rfl (hb hby at_120) rfl ?_
    show Steps p.tables e below (T8.setTop (mkF m 121 #[.val (.int p1), .val (.long q2), .second, .val (.int (p1 &&& (7 : Int32))), .val (.int (if (((p1.toUInt32 >>> ((10 : Int32) &&& 31).toUInt32).toInt32) &&& (1 : Int32)) = (0 : Int32) then (0 : Int32) else (1 : Int32))), .val (.int w0), .val (.int w1), .val (.int w2), .val (.int w3), .val (.int w4), .val (.int w5), .val (.int w6), .unset, .unset, .unset, .unset] [(.int (p1 &&& (7 : Int32)))])) _
    refine XS.iload X8.here hx rfl (hb hby at_121) rfl ?_
    show Steps p.tables e below (T8.setTop (mkF m 123 #[.val (.int p1), .val (.long q2), .second, .val (.int (p1 &&& (7 : Int32))), .val (.int (if (((p1.toUInt32 >>> ((10 : Int32) &&& 31).toUInt32).toInt32) &&& (1 : Int32)) = (0 : Int32) then (0 : Int32) else (1 : Int32))), .val (.int w0), .val (.int w1), .val (.int w2), .val (.int w3), .val (.int w4), .val (.int w5), .val (.int w6), .unset, .unset, .unset, .unset] [(.int w0), (.int (p1 &&& (7 : Int32)))])) _
    refine XS.iload X8.here hx rfl (hb hby at_123) rfl ?_
    show Steps p.tables e below (T8.setTop (mkF m 125 #[.val (.int p1), .val (.long q2), .second, .val (.int (p1 &&& (7 : Int32))), .val (.int (if (((p1.toUInt32 >>> ((10 : Int32) &&& 31).toUInt32).toInt32) &&& (1 : Int32)) = (0 : Int32) then (0 : Int32) else (1 : Int32))), .val (.int w0), .val (.int w1), .val (.int w2), .val (.int w3), .val (.int w4), .val (.int w5), .val (.int w6), .unset, .unset, .unset, .unset] [(.int w1), (.int w0), (.int (p1 &&& (7 : Int32)))])) _
    refine XS.iload X8.here hx rfl (hb hby at_125) rfl ?_
    show Steps p.tables e below (T8.setTop (mkF m 127 #[.val (.int p1), .val (.long q2), .second, .val (.int (p1 &&& (7 : Int32))), .val (.int (if (((p1.toUInt32 >>> ((10 : Int32) &&& 31).toUInt32).toInt32) &&& (1 : Int32)) = (0 : Int32) then (0 : Int32) else (1 : Int32))), .val (.int w0), .val (.int w1), .val (.int w2), .val (.int w3), .val (.int w4), .val (.int w5), .val (.int w6), .unset, .unset, .unset, .unset] [(.int w2), (.int w1), (.int w0), (.int (p1 &&& (7 : Int32)))])) _
    refine XS.iload X8.here hx rfl (hb hby at_127) rfl ?_
    show Steps p.tables e below (T8.setTop (mkF m 129 #[.val (.int p1), .val (.long q2), .second, .val (.int (p1 &&& (7 : Int32))), .val (.int (if (((p1.toUInt32 >>> ((10 : Int32) &&& 31).toUInt32).toInt32) &&& (1 : Int32)) = (0 : Int32) then (0 : Int32) else (1 : Int32))), .val (.int w0), .val (.int w1), .val (.int w2), .val (.int w3), .val (.int w4), .val (.int w5), .val (.int w6), .unset, .unset, .unset, .unset] [(.int w3), (.int w2), (.int w1), (.int w0), (.int (p1 &&& (7 : Int32)))])) _
    refine XS.iload X8.here hx rfl (hb hby at_129) rfl ?_
    show Steps p.tables e below (T8.setTop (mkF m 131 #[.val (.int p1), .val (.long q2), .second, .val (.int (p1 &&& (7 : Int32))), .val (.int (if (((p1.toUInt32 >>> ((10 : Int32) &&& 31).toUInt32).toInt32) &&& (1 : Int32)) = (0 : Int32) then (0 : Int32) else (1 : Int32))), .val (.int w0), .val (.int w1), .val (.int w2), .val (.int w3), .val (.int w4), .val (.int w5), .val (.int w6), .unset, .unset, .unset, .unset] [(.int w4), (.int w3), (.int w2), (.int w1), (.int w0), (.int (p1 &&& (7 : Int32)))])) _
    refine XS.iload X8.here hx rfl (hb hby at_131) rfl ?_
    show Steps p.tables e below (T8.setTop (mkF m 133 #[.val (.int p1), .val (.long q2), .second, .val (.int (p1 &&& (7 : Int32))), .val (.int (if (((p1.toUInt32 >>> ((10 : Int32) &&& 31).toUInt32).toInt32) &&& (1 : Int32)) = (0 : Int32) then (0 : Int32) else (1 : Int32))), .val (.int w0), .val (.int w1), .val (.int w2), .val (.int w3), .val (.int w4), .val (.int w5), .val (.int w6), .unset, .unset, .unset, .unset] [(.int w5), (.int w4), (.int w3), (.int w2), (.int w1), (.int w0), (.int (p1 &&& (7 : Int32)))])) _
    refine XS.iload X8.here hx rfl (hb hby at_133) rfl ?_
    exact kt
  obtain ⟨_, _, ⟨T9, L9, k9, n9⟩, -, X9', hS9', hge9, ⟨Lc9, hQ9, l9, y9, z9, hC9⟩, st9⟩ := callSS X8 hx (y := (⟨"com/example/mended_hedge/mendedhedge/cli/CommandIsHelpPinLaw", "make", "(ICCCCCCC)Ljava/lang/String;"⟩ : MethodName)) hown (mvT hZ (hw _ (List.mem_of_getElem? (i := 5) rfl))) (mvT hZ (hw _ (List.mem_of_getElem? (i := 6) rfl))) (mvT hZ (hw _ (List.mem_of_getElem? (i := 2) rfl))) (mvT hZ (hw _ (List.mem_of_getElem? (i := 7) rfl))) (by decide) (backOfSH (s := s) (vm0 := s.vm) (W := 0) (rm_mk l Z a0 hw [] (p1 &&& (7 : Int32)) w0 w1 w2 w3 w4 w5 w6 cz h0 n0 Z0 hEL S_CS hcs hw0 hw1 hw2 hw3 hw4 hw5 hw6) hZ (hw _ (List.mem_of_getElem? (i := 7) rfl)) (hw _ (List.mem_of_getElem? (i := 2) rfl)) (by decide) (by decide) hEL C0.1) (g := (mkF m 135 #[.val (.int p1), .val (.long q2), .second, .val (.int (p1 &&& (7 : Int32))), .val (.int (if (((p1.toUInt32 >>> ((10 : Int32) &&& 31).toUInt32).toInt32) &&& (1 : Int32)) = (0 : Int32) then (0 : Int32) else (1 : Int32))), .val (.int w0), .val (.int w1), .val (.int w2), .val (.int w3), .val (.int w4), .val (.int w5), .val (.int w6), .unset, .unset, .unset, .unset] [(.int w6), (.int w5), (.int w4), (.int w3), (.int w2), (.int w1), (.int w0), (.int (p1 &&& (7 : Int32)))])) rfl (by rw [hml]; rfl) (argsL := [(.int (p1 &&& (7 : Int32))), (.int w0), (.int w1), (.int w2), (.int w3), (.int w4), (.int w5), (.int w6)]) (rest := []) (lenOf pd__ICCCCCCC_Ljava_lang_String__2319 rfl) rfl (by show 2 * 0 + _ ≤ _; exact Nat.le_of_eq rfl) (hb hby at_135) (fun _ _ => ⟨rfl, e8, (by decide : 0 + 6 ≤ _), (by decide : 0 + 18 ≤ _)⟩)
  dsimp only [Pt.U, Pt.locs, Pt.cells, Pt.slots] at X9' hS9' hge9 l9 y9 z9 st9 hQ9 hC9
  subst l9 y9 z9
  have hS9 : s.Since T9.vm T9.heap.size := hS9'
  have hZ : Z.Warmed39 (s.setVm T9.vm).vm := State.Warmed39.trans (t := s) hZ hS9'.1
  have hown : (s.setVm T9.vm).vm.findClass "com/example/mended_hedge/mendedhedge/cli/CommandIsHelpPinLaw" = some m.cls := by rw [show (s.setVm T9.vm).vm = T9.vm from rfl, hS9'.1.alike.findClass]; exact hown
  have X9 := rebase (vm := T9.vm) X9'
  have C11 : CHr Z own_EL s.vm h0 T9.vm T9.heap := C0.trans hC9
  obtain ⟨sb9, st_9, sk9, rfl, N9q, K9, fk9_0, fk9_1, fk9_2, fk9_3⟩ := hQ9
  have f1 : Sta Z T9.heap "java/lang/String" "COMPACT_STRINGS" "Z" (.int cz) := own_sta S_CS K9
  have Z9 : n0 ≤ T9.heap.size := Nat.le_trans Z0 K9.1
  have hk9 : T9.heap.size ≤ T9.heap.size := Nat.le_refl _
  have N9 := Fr.app N8 N9q
  have pre_12 : ∀ t, Steps p.tables e below (T9.setTop (mkF m 164 #[.val (.int p1), .val (.long q2), .second, .val (.int (p1 &&& (7 : Int32))), .val (.int (if (((p1.toUInt32 >>> ((10 : Int32) &&& 31).toUInt32).toInt32) &&& (1 : Int32)) = (0 : Int32) then (0 : Int32) else (1 : Int32))), .val (.int w0), .val (.int w1), .val (.int w2), .val (.int w3), .val (.int w4), .val (.int w5), .val (.int w6), .val (.ref sb9), .unset, .unset, .unset] [(.int (own_short (p1 &&& (7 : Int32)) w0 w1))])) t → Steps p.tables e below (s₁.setTop (entryFrame m #[(.int p1), (.long q2)] maxLocals)) t := by
    intro t kt
    refine pre_10 _ ?_
    show Steps p.tables e below (T8.setTop (mkF m 135 #[.val (.int p1), .val (.long q2), .second, .val (.int (p1 &&& (7 : Int32))), .val (.int (if (((p1.toUInt32 >>> ((10 : Int32) &&& 31).toUInt32).toInt32) &&& (1 : Int32)) = (0 : Int32) then (0 : Int32) else (1 : Int32))), .val (.int w0), .val (.int w1), .val (.int w2), .val (.int w3), .val (.int w4), .val (.int w5), .val (.int w6), .unset, .unset, .unset, .unset] [(.int w6), (.int w5), (.int w4), (.int w3), (.int w2), (.int w1), (.int w0), (.int (p1 &&& (7 : Int32)))])) _
    refine st9.trans ?_
    show Steps p.tables e below (T9.setTop (mkF m 138 #[.val (.int p1), .val (.long q2), .second, .val (.int (p1 &&& (7 : Int32))), .val (.int (if (((p1.toUInt32 >>> ((10 : Int32) &&& 31).toUInt32).toInt32) &&& (1 : Int32)) = (0 : Int32) then (0 : Int32) else (1 : Int32))), .val (.int w0), .val (.int w1), .val (.int w2), .val (.int w3), .val (.int w4), .val (.int w5), .val (.int w6), .unset, .unset, .unset, .unset] [(.ref sb9)])) _
    refine XS.astore X9.here hx rfl (hb hby at_138) rfl rfl (l' := #[.val (.int p1), .val (.long q2), .second, .val (.int (p1 &&& (7 : Int32))), .val (.int (if (((p1.toUInt32 >>> ((10 : Int32) &&& 31).toUInt32).toInt32) &&& (1 : Int32)) = (0 : Int32) then (0 : Int32) else (1 : Int32))), .val (.int w0), .val (.int w1), .val (.int w2), .val (.int w3), .val (.int w4), .val (.int w5), .val (.int w6), .val (.ref sb9), .unset, .unset, .unset]) rfl ?_
    show Steps p.tables e below (T9.setTop (mkF m 140 #[.val (.int p1), .val (.long q2), .second, .val (.int (p1 &&& (7 : Int32))), .val (.int (if (((p1.toUInt32 >>> ((10 : Int32) &&& 31).toUInt32).toInt32) &&& (1 : Int32)) = (0 : Int32) then (0 : Int32) else (1 : Int32))), .val (.int w0), .val (.int w1), .val (.int w2), .val (.int w3), .val (.int w4), .val (.int w5), .val (.int w6), .val (.ref sb9), .unset, .unset, .unset] [])) _
    refine XS.iloadN X9.here hx rfl (hb hby at_140) rfl ?_
    show Steps p.tables e below (T9.setTop (mkF m 141 #[.val (.int p1), .val (.long q2), .second, .val (.int (p1 &&& (7 : Int32))), .val (.int (if (((p1.toUInt32 >>> ((10 : Int32) &&& 31).toUInt32).toInt32) &&& (1 : Int32)) = (0 : Int32) then (0 : Int32) else (1 : Int32))), .val (.int w0), .val (.int w1), .val (.int w2), .val (.int w3), .val (.int w4), .val (.int w5), .val (.int w6), .val (.ref sb9), .unset, .unset, .unset] [(.int (p1 &&& (7 : Int32)))])) _
    refine XS.iconst X9.here hx rfl (hb hby at_141) ?_
    show Steps p.tables e below (T9.setTop (mkF m 142 #[.val (.int p1), .val (.long q2), .second, .val (.int (p1 &&& (7 : Int32))), .val (.int (if (((p1.toUInt32 >>> ((10 : Int32) &&& 31).toUInt32).toInt32) &&& (1 : Int32)) = (0 : Int32) then (0 : Int32) else (1 : Int32))), .val (.int w0), .val (.int w1), .val (.int w2), .val (.int w3), .val (.int w4), .val (.int w5), .val (.int w6), .val (.ref sb9), .unset, .unset, .unset] [(.int (2 : Int32)), (.int (p1 &&& (7 : Int32)))])) _
    by_cases hc142 : (p1 &&& (7 : Int32)) = (2 : Int32)
    · refine XS.icmpNo X9.here hx rfl (hb hby at_142) rfl (teq hc142).2 ?_
      show Steps p.tables e below (T9.setTop (mkF m 145 #[.val (.int p1), .val (.long q2), .second, .val (.int (p1 &&& (7 : Int32))), .val (.int (if (((p1.toUInt32 >>> ((10 : Int32) &&& 31).toUInt32).toInt32) &&& (1 : Int32)) = (0 : Int32) then (0 : Int32) else (1 : Int32))), .val (.int w0), .val (.int w1), .val (.int w2), .val (.int w3), .val (.int w4), .val (.int w5), .val (.int w6), .val (.ref sb9), .unset, .unset, .unset] [])) _
      refine XS.iload X9.here hx rfl (hb hby at_145) rfl ?_
      show Steps p.tables e below (T9.setTop (mkF m 147 #[.val (.int p1), .val (.long q2), .second, .val (.int (p1 &&& (7 : Int32))), .val (.int (if (((p1.toUInt32 >>> ((10 : Int32) &&& 31).toUInt32).toInt32) &&& (1 : Int32)) = (0 : Int32) then (0 : Int32) else (1 : Int32))), .val (.int w0), .val (.int w1), .val (.int w2), .val (.int w3), .val (.int w4), .val (.int w5), .val (.int w6), .val (.ref sb9), .unset, .unset, .unset] [(.int w0)])) _
      refine XS.bipush X9.here hx rfl (hb hby at_147) ?_
      show Steps p.tables e below (T9.setTop (mkF m 149 #[.val (.int p1), .val (.long q2), .second, .val (.int (p1 &&& (7 : Int32))), .val (.int (if (((p1.toUInt32 >>> ((10 : Int32) &&& 31).toUInt32).toInt32) &&& (1 : Int32)) = (0 : Int32) then (0 : Int32) else (1 : Int32))), .val (.int w0), .val (.int w1), .val (.int w2), .val (.int w3), .val (.int w4), .val (.int w5), .val (.int w6), .val (.ref sb9), .unset, .unset, .unset] [(.int (45 : Int32)), (.int w0)])) _
      by_cases hc149 : w0 = (45 : Int32)
      · refine XS.icmpNo X9.here hx rfl (hb hby at_149) rfl (teq hc149).2 ?_
        show Steps p.tables e below (T9.setTop (mkF m 152 #[.val (.int p1), .val (.long q2), .second, .val (.int (p1 &&& (7 : Int32))), .val (.int (if (((p1.toUInt32 >>> ((10 : Int32) &&& 31).toUInt32).toInt32) &&& (1 : Int32)) = (0 : Int32) then (0 : Int32) else (1 : Int32))), .val (.int w0), .val (.int w1), .val (.int w2), .val (.int w3), .val (.int w4), .val (.int w5), .val (.int w6), .val (.ref sb9), .unset, .unset, .unset] [])) _
        refine XS.iload X9.here hx rfl (hb hby at_152) rfl ?_
        show Steps p.tables e below (T9.setTop (mkF m 154 #[.val (.int p1), .val (.long q2), .second, .val (.int (p1 &&& (7 : Int32))), .val (.int (if (((p1.toUInt32 >>> ((10 : Int32) &&& 31).toUInt32).toInt32) &&& (1 : Int32)) = (0 : Int32) then (0 : Int32) else (1 : Int32))), .val (.int w0), .val (.int w1), .val (.int w2), .val (.int w3), .val (.int w4), .val (.int w5), .val (.int w6), .val (.ref sb9), .unset, .unset, .unset] [(.int w1)])) _
        refine XS.bipush X9.here hx rfl (hb hby at_154) ?_
        show Steps p.tables e below (T9.setTop (mkF m 156 #[.val (.int p1), .val (.long q2), .second, .val (.int (p1 &&& (7 : Int32))), .val (.int (if (((p1.toUInt32 >>> ((10 : Int32) &&& 31).toUInt32).toInt32) &&& (1 : Int32)) = (0 : Int32) then (0 : Int32) else (1 : Int32))), .val (.int w0), .val (.int w1), .val (.int w2), .val (.int w3), .val (.int w4), .val (.int w5), .val (.int w6), .val (.ref sb9), .unset, .unset, .unset] [(.int (104 : Int32)), (.int w1)])) _
        by_cases hc156 : w1 = (104 : Int32)
        · refine XS.icmpNo X9.here hx rfl (hb hby at_156) rfl (teq hc156).2 ?_
          show Steps p.tables e below (T9.setTop (mkF m 159 #[.val (.int p1), .val (.long q2), .second, .val (.int (p1 &&& (7 : Int32))), .val (.int (if (((p1.toUInt32 >>> ((10 : Int32) &&& 31).toUInt32).toInt32) &&& (1 : Int32)) = (0 : Int32) then (0 : Int32) else (1 : Int32))), .val (.int w0), .val (.int w1), .val (.int w2), .val (.int w3), .val (.int w4), .val (.int w5), .val (.int w6), .val (.ref sb9), .unset, .unset, .unset] [])) _
          refine XS.iconst X9.here hx rfl (hb hby at_159) ?_
          show Steps p.tables e below (T9.setTop (mkF m 160 #[.val (.int p1), .val (.long q2), .second, .val (.int (p1 &&& (7 : Int32))), .val (.int (if (((p1.toUInt32 >>> ((10 : Int32) &&& 31).toUInt32).toInt32) &&& (1 : Int32)) = (0 : Int32) then (0 : Int32) else (1 : Int32))), .val (.int w0), .val (.int w1), .val (.int w2), .val (.int w3), .val (.int w4), .val (.int w5), .val (.int w6), .val (.ref sb9), .unset, .unset, .unset] [(.int (1 : Int32))])) _
          refine XS.goto X9.here hx rfl (pc0 := 160) (pc' := 164) rfl (hb hby at_160) (by decide) (by decide) ?_
          rw [show (own_short (p1 &&& (7 : Int32)) w0 w1) = (1 : Int32) from (by rw [own_short, if_pos hc142, if_pos hc149, if_pos hc156])] at kt
          exact kt
        · refine XS.icmpYes X9.here hx rfl (pc0 := 156) (pc' := 163) rfl (hb hby at_156) rfl (feq hc156).2 (by decide) (by decide) ?_
          show Steps p.tables e below (T9.setTop (mkF m 163 #[.val (.int p1), .val (.long q2), .second, .val (.int (p1 &&& (7 : Int32))), .val (.int (if (((p1.toUInt32 >>> ((10 : Int32) &&& 31).toUInt32).toInt32) &&& (1 : Int32)) = (0 : Int32) then (0 : Int32) else (1 : Int32))), .val (.int w0), .val (.int w1), .val (.int w2), .val (.int w3), .val (.int w4), .val (.int w5), .val (.int w6), .val (.ref sb9), .unset, .unset, .unset] [])) _
          refine XS.iconst X9.here hx rfl (hb hby at_163) ?_
          rw [show (own_short (p1 &&& (7 : Int32)) w0 w1) = (0 : Int32) from (by rw [own_short, if_pos hc142, if_pos hc149, if_neg hc156])] at kt
          exact kt
      · refine XS.icmpYes X9.here hx rfl (pc0 := 149) (pc' := 163) rfl (hb hby at_149) rfl (feq hc149).2 (by decide) (by decide) ?_
        show Steps p.tables e below (T9.setTop (mkF m 163 #[.val (.int p1), .val (.long q2), .second, .val (.int (p1 &&& (7 : Int32))), .val (.int (if (((p1.toUInt32 >>> ((10 : Int32) &&& 31).toUInt32).toInt32) &&& (1 : Int32)) = (0 : Int32) then (0 : Int32) else (1 : Int32))), .val (.int w0), .val (.int w1), .val (.int w2), .val (.int w3), .val (.int w4), .val (.int w5), .val (.int w6), .val (.ref sb9), .unset, .unset, .unset] [])) _
        refine XS.iconst X9.here hx rfl (hb hby at_163) ?_
        rw [show (own_short (p1 &&& (7 : Int32)) w0 w1) = (0 : Int32) from (by rw [own_short, if_pos hc142, if_neg hc149])] at kt
        exact kt
    · refine XS.icmpYes X9.here hx rfl (pc0 := 142) (pc' := 163) rfl (hb hby at_142) rfl (feq hc142).2 (by decide) (by decide) ?_
      show Steps p.tables e below (T9.setTop (mkF m 163 #[.val (.int p1), .val (.long q2), .second, .val (.int (p1 &&& (7 : Int32))), .val (.int (if (((p1.toUInt32 >>> ((10 : Int32) &&& 31).toUInt32).toInt32) &&& (1 : Int32)) = (0 : Int32) then (0 : Int32) else (1 : Int32))), .val (.int w0), .val (.int w1), .val (.int w2), .val (.int w3), .val (.int w4), .val (.int w5), .val (.int w6), .val (.ref sb9), .unset, .unset, .unset] [])) _
      refine XS.iconst X9.here hx rfl (hb hby at_163) ?_
      rw [show (own_short (p1 &&& (7 : Int32)) w0 w1) = (0 : Int32) from (by rw [own_short, if_neg hc142])] at kt
      exact kt
  have pre_13 : ∀ t, Steps p.tables e below (T9.setTop (mkF m 219 #[.val (.int p1), .val (.long q2), .second, .val (.int (p1 &&& (7 : Int32))), .val (.int (if (((p1.toUInt32 >>> ((10 : Int32) &&& 31).toUInt32).toInt32) &&& (1 : Int32)) = (0 : Int32) then (0 : Int32) else (1 : Int32))), .val (.int w0), .val (.int w1), .val (.int w2), .val (.int w3), .val (.int w4), .val (.int w5), .val (.int w6), .val (.ref sb9), .val (.int (own_short (p1 &&& (7 : Int32)) w0 w1)), .unset, .unset] [(.int (own_long (p1 &&& (7 : Int32)) w0 w1 w2 w3 w4 w5))])) t → Steps p.tables e below (s₁.setTop (entryFrame m #[(.int p1), (.long q2)] maxLocals)) t := by
    intro t kt
    refine pre_12 _ ?_
    show Steps p.tables e below (T9.setTop (mkF m 164 #[.val (.int p1), .val (.long q2), .second, .val (.int (p1 &&& (7 : Int32))), .val (.int (if (((p1.toUInt32 >>> ((10 : Int32) &&& 31).toUInt32).toInt32) &&& (1 : Int32)) = (0 : Int32) then (0 : Int32) else (1 : Int32))), .val (.int w0), .val (.int w1), .val (.int w2), .val (.int w3), .val (.int w4), .val (.int w5), .val (.int w6), .val (.ref sb9), .unset, .unset, .unset] [(.int (own_short (p1 &&& (7 : Int32)) w0 w1))])) _
    refine XS.istore X9.here hx rfl (hb hby at_164) rfl (l' := #[.val (.int p1), .val (.long q2), .second, .val (.int (p1 &&& (7 : Int32))), .val (.int (if (((p1.toUInt32 >>> ((10 : Int32) &&& 31).toUInt32).toInt32) &&& (1 : Int32)) = (0 : Int32) then (0 : Int32) else (1 : Int32))), .val (.int w0), .val (.int w1), .val (.int w2), .val (.int w3), .val (.int w4), .val (.int w5), .val (.int w6), .val (.ref sb9), .val (.int (own_short (p1 &&& (7 : Int32)) w0 w1)), .unset, .unset]) rfl ?_
    show Steps p.tables e below (T9.setTop (mkF m 166 #[.val (.int p1), .val (.long q2), .second, .val (.int (p1 &&& (7 : Int32))), .val (.int (if (((p1.toUInt32 >>> ((10 : Int32) &&& 31).toUInt32).toInt32) &&& (1 : Int32)) = (0 : Int32) then (0 : Int32) else (1 : Int32))), .val (.int w0), .val (.int w1), .val (.int w2), .val (.int w3), .val (.int w4), .val (.int w5), .val (.int w6), .val (.ref sb9), .val (.int (own_short (p1 &&& (7 : Int32)) w0 w1)), .unset, .unset] [])) _
    refine XS.iloadN X9.here hx rfl (hb hby at_166) rfl ?_
    show Steps p.tables e below (T9.setTop (mkF m 167 #[.val (.int p1), .val (.long q2), .second, .val (.int (p1 &&& (7 : Int32))), .val (.int (if (((p1.toUInt32 >>> ((10 : Int32) &&& 31).toUInt32).toInt32) &&& (1 : Int32)) = (0 : Int32) then (0 : Int32) else (1 : Int32))), .val (.int w0), .val (.int w1), .val (.int w2), .val (.int w3), .val (.int w4), .val (.int w5), .val (.int w6), .val (.ref sb9), .val (.int (own_short (p1 &&& (7 : Int32)) w0 w1)), .unset, .unset] [(.int (p1 &&& (7 : Int32)))])) _
    refine XS.bipush X9.here hx rfl (hb hby at_167) ?_
    show Steps p.tables e below (T9.setTop (mkF m 169 #[.val (.int p1), .val (.long q2), .second, .val (.int (p1 &&& (7 : Int32))), .val (.int (if (((p1.toUInt32 >>> ((10 : Int32) &&& 31).toUInt32).toInt32) &&& (1 : Int32)) = (0 : Int32) then (0 : Int32) else (1 : Int32))), .val (.int w0), .val (.int w1), .val (.int w2), .val (.int w3), .val (.int w4), .val (.int w5), .val (.int w6), .val (.ref sb9), .val (.int (own_short (p1 &&& (7 : Int32)) w0 w1)), .unset, .unset] [(.int (6 : Int32)), (.int (p1 &&& (7 : Int32)))])) _
    by_cases hc169 : (p1 &&& (7 : Int32)) = (6 : Int32)
    · refine XS.icmpNo X9.here hx rfl (hb hby at_169) rfl (teq hc169).2 ?_
      show Steps p.tables e below (T9.setTop (mkF m 172 #[.val (.int p1), .val (.long q2), .second, .val (.int (p1 &&& (7 : Int32))), .val (.int (if (((p1.toUInt32 >>> ((10 : Int32) &&& 31).toUInt32).toInt32) &&& (1 : Int32)) = (0 : Int32) then (0 : Int32) else (1 : Int32))), .val (.int w0), .val (.int w1), .val (.int w2), .val (.int w3), .val (.int w4), .val (.int w5), .val (.int w6), .val (.ref sb9), .val (.int (own_short (p1 &&& (7 : Int32)) w0 w1)), .unset, .unset] [])) _
      refine XS.iload X9.here hx rfl (hb hby at_172) rfl ?_
      show Steps p.tables e below (T9.setTop (mkF m 174 #[.val (.int p1), .val (.long q2), .second, .val (.int (p1 &&& (7 : Int32))), .val (.int (if (((p1.toUInt32 >>> ((10 : Int32) &&& 31).toUInt32).toInt32) &&& (1 : Int32)) = (0 : Int32) then (0 : Int32) else (1 : Int32))), .val (.int w0), .val (.int w1), .val (.int w2), .val (.int w3), .val (.int w4), .val (.int w5), .val (.int w6), .val (.ref sb9), .val (.int (own_short (p1 &&& (7 : Int32)) w0 w1)), .unset, .unset] [(.int w0)])) _
      refine XS.bipush X9.here hx rfl (hb hby at_174) ?_
      show Steps p.tables e below (T9.setTop (mkF m 176 #[.val (.int p1), .val (.long q2), .second, .val (.int (p1 &&& (7 : Int32))), .val (.int (if (((p1.toUInt32 >>> ((10 : Int32) &&& 31).toUInt32).toInt32) &&& (1 : Int32)) = (0 : Int32) then (0 : Int32) else (1 : Int32))), .val (.int w0), .val (.int w1), .val (.int w2), .val (.int w3), .val (.int w4), .val (.int w5), .val (.int w6), .val (.ref sb9), .val (.int (own_short (p1 &&& (7 : Int32)) w0 w1)), .unset, .unset] [(.int (45 : Int32)), (.int w0)])) _
      by_cases hc176 : w0 = (45 : Int32)
      · refine XS.icmpNo X9.here hx rfl (hb hby at_176) rfl (teq hc176).2 ?_
        show Steps p.tables e below (T9.setTop (mkF m 179 #[.val (.int p1), .val (.long q2), .second, .val (.int (p1 &&& (7 : Int32))), .val (.int (if (((p1.toUInt32 >>> ((10 : Int32) &&& 31).toUInt32).toInt32) &&& (1 : Int32)) = (0 : Int32) then (0 : Int32) else (1 : Int32))), .val (.int w0), .val (.int w1), .val (.int w2), .val (.int w3), .val (.int w4), .val (.int w5), .val (.int w6), .val (.ref sb9), .val (.int (own_short (p1 &&& (7 : Int32)) w0 w1)), .unset, .unset] [])) _
        refine XS.iload X9.here hx rfl (hb hby at_179) rfl ?_
        show Steps p.tables e below (T9.setTop (mkF m 181 #[.val (.int p1), .val (.long q2), .second, .val (.int (p1 &&& (7 : Int32))), .val (.int (if (((p1.toUInt32 >>> ((10 : Int32) &&& 31).toUInt32).toInt32) &&& (1 : Int32)) = (0 : Int32) then (0 : Int32) else (1 : Int32))), .val (.int w0), .val (.int w1), .val (.int w2), .val (.int w3), .val (.int w4), .val (.int w5), .val (.int w6), .val (.ref sb9), .val (.int (own_short (p1 &&& (7 : Int32)) w0 w1)), .unset, .unset] [(.int w1)])) _
        refine XS.bipush X9.here hx rfl (hb hby at_181) ?_
        show Steps p.tables e below (T9.setTop (mkF m 183 #[.val (.int p1), .val (.long q2), .second, .val (.int (p1 &&& (7 : Int32))), .val (.int (if (((p1.toUInt32 >>> ((10 : Int32) &&& 31).toUInt32).toInt32) &&& (1 : Int32)) = (0 : Int32) then (0 : Int32) else (1 : Int32))), .val (.int w0), .val (.int w1), .val (.int w2), .val (.int w3), .val (.int w4), .val (.int w5), .val (.int w6), .val (.ref sb9), .val (.int (own_short (p1 &&& (7 : Int32)) w0 w1)), .unset, .unset] [(.int (45 : Int32)), (.int w1)])) _
        by_cases hc183 : w1 = (45 : Int32)
        · refine XS.icmpNo X9.here hx rfl (hb hby at_183) rfl (teq hc183).2 ?_
          show Steps p.tables e below (T9.setTop (mkF m 186 #[.val (.int p1), .val (.long q2), .second, .val (.int (p1 &&& (7 : Int32))), .val (.int (if (((p1.toUInt32 >>> ((10 : Int32) &&& 31).toUInt32).toInt32) &&& (1 : Int32)) = (0 : Int32) then (0 : Int32) else (1 : Int32))), .val (.int w0), .val (.int w1), .val (.int w2), .val (.int w3), .val (.int w4), .val (.int w5), .val (.int w6), .val (.ref sb9), .val (.int (own_short (p1 &&& (7 : Int32)) w0 w1)), .unset, .unset] [])) _
          refine XS.iload X9.here hx rfl (hb hby at_186) rfl ?_
          show Steps p.tables e below (T9.setTop (mkF m 188 #[.val (.int p1), .val (.long q2), .second, .val (.int (p1 &&& (7 : Int32))), .val (.int (if (((p1.toUInt32 >>> ((10 : Int32) &&& 31).toUInt32).toInt32) &&& (1 : Int32)) = (0 : Int32) then (0 : Int32) else (1 : Int32))), .val (.int w0), .val (.int w1), .val (.int w2), .val (.int w3), .val (.int w4), .val (.int w5), .val (.int w6), .val (.ref sb9), .val (.int (own_short (p1 &&& (7 : Int32)) w0 w1)), .unset, .unset] [(.int w2)])) _
          refine XS.bipush X9.here hx rfl (hb hby at_188) ?_
          show Steps p.tables e below (T9.setTop (mkF m 190 #[.val (.int p1), .val (.long q2), .second, .val (.int (p1 &&& (7 : Int32))), .val (.int (if (((p1.toUInt32 >>> ((10 : Int32) &&& 31).toUInt32).toInt32) &&& (1 : Int32)) = (0 : Int32) then (0 : Int32) else (1 : Int32))), .val (.int w0), .val (.int w1), .val (.int w2), .val (.int w3), .val (.int w4), .val (.int w5), .val (.int w6), .val (.ref sb9), .val (.int (own_short (p1 &&& (7 : Int32)) w0 w1)), .unset, .unset] [(.int (104 : Int32)), (.int w2)])) _
          by_cases hc190 : w2 = (104 : Int32)
          · refine XS.icmpNo X9.here hx rfl (hb hby at_190) rfl (teq hc190).2 ?_
            show Steps p.tables e below (T9.setTop (mkF m 193 #[.val (.int p1), .val (.long q2), .second, .val (.int (p1 &&& (7 : Int32))), .val (.int (if (((p1.toUInt32 >>> ((10 : Int32) &&& 31).toUInt32).toInt32) &&& (1 : Int32)) = (0 : Int32) then (0 : Int32) else (1 : Int32))), .val (.int w0), .val (.int w1), .val (.int w2), .val (.int w3), .val (.int w4), .val (.int w5), .val (.int w6), .val (.ref sb9), .val (.int (own_short (p1 &&& (7 : Int32)) w0 w1)), .unset, .unset] [])) _
            refine XS.iload X9.here hx rfl (hb hby at_193) rfl ?_
            show Steps p.tables e below (T9.setTop (mkF m 195 #[.val (.int p1), .val (.long q2), .second, .val (.int (p1 &&& (7 : Int32))), .val (.int (if (((p1.toUInt32 >>> ((10 : Int32) &&& 31).toUInt32).toInt32) &&& (1 : Int32)) = (0 : Int32) then (0 : Int32) else (1 : Int32))), .val (.int w0), .val (.int w1), .val (.int w2), .val (.int w3), .val (.int w4), .val (.int w5), .val (.int w6), .val (.ref sb9), .val (.int (own_short (p1 &&& (7 : Int32)) w0 w1)), .unset, .unset] [(.int w3)])) _
            refine XS.bipush X9.here hx rfl (hb hby at_195) ?_
            show Steps p.tables e below (T9.setTop (mkF m 197 #[.val (.int p1), .val (.long q2), .second, .val (.int (p1 &&& (7 : Int32))), .val (.int (if (((p1.toUInt32 >>> ((10 : Int32) &&& 31).toUInt32).toInt32) &&& (1 : Int32)) = (0 : Int32) then (0 : Int32) else (1 : Int32))), .val (.int w0), .val (.int w1), .val (.int w2), .val (.int w3), .val (.int w4), .val (.int w5), .val (.int w6), .val (.ref sb9), .val (.int (own_short (p1 &&& (7 : Int32)) w0 w1)), .unset, .unset] [(.int (101 : Int32)), (.int w3)])) _
            by_cases hc197 : w3 = (101 : Int32)
            · refine XS.icmpNo X9.here hx rfl (hb hby at_197) rfl (teq hc197).2 ?_
              show Steps p.tables e below (T9.setTop (mkF m 200 #[.val (.int p1), .val (.long q2), .second, .val (.int (p1 &&& (7 : Int32))), .val (.int (if (((p1.toUInt32 >>> ((10 : Int32) &&& 31).toUInt32).toInt32) &&& (1 : Int32)) = (0 : Int32) then (0 : Int32) else (1 : Int32))), .val (.int w0), .val (.int w1), .val (.int w2), .val (.int w3), .val (.int w4), .val (.int w5), .val (.int w6), .val (.ref sb9), .val (.int (own_short (p1 &&& (7 : Int32)) w0 w1)), .unset, .unset] [])) _
              refine XS.iload X9.here hx rfl (hb hby at_200) rfl ?_
              show Steps p.tables e below (T9.setTop (mkF m 202 #[.val (.int p1), .val (.long q2), .second, .val (.int (p1 &&& (7 : Int32))), .val (.int (if (((p1.toUInt32 >>> ((10 : Int32) &&& 31).toUInt32).toInt32) &&& (1 : Int32)) = (0 : Int32) then (0 : Int32) else (1 : Int32))), .val (.int w0), .val (.int w1), .val (.int w2), .val (.int w3), .val (.int w4), .val (.int w5), .val (.int w6), .val (.ref sb9), .val (.int (own_short (p1 &&& (7 : Int32)) w0 w1)), .unset, .unset] [(.int w4)])) _
              refine XS.bipush X9.here hx rfl (hb hby at_202) ?_
              show Steps p.tables e below (T9.setTop (mkF m 204 #[.val (.int p1), .val (.long q2), .second, .val (.int (p1 &&& (7 : Int32))), .val (.int (if (((p1.toUInt32 >>> ((10 : Int32) &&& 31).toUInt32).toInt32) &&& (1 : Int32)) = (0 : Int32) then (0 : Int32) else (1 : Int32))), .val (.int w0), .val (.int w1), .val (.int w2), .val (.int w3), .val (.int w4), .val (.int w5), .val (.int w6), .val (.ref sb9), .val (.int (own_short (p1 &&& (7 : Int32)) w0 w1)), .unset, .unset] [(.int (108 : Int32)), (.int w4)])) _
              by_cases hc204 : w4 = (108 : Int32)
              · refine XS.icmpNo X9.here hx rfl (hb hby at_204) rfl (teq hc204).2 ?_
                show Steps p.tables e below (T9.setTop (mkF m 207 #[.val (.int p1), .val (.long q2), .second, .val (.int (p1 &&& (7 : Int32))), .val (.int (if (((p1.toUInt32 >>> ((10 : Int32) &&& 31).toUInt32).toInt32) &&& (1 : Int32)) = (0 : Int32) then (0 : Int32) else (1 : Int32))), .val (.int w0), .val (.int w1), .val (.int w2), .val (.int w3), .val (.int w4), .val (.int w5), .val (.int w6), .val (.ref sb9), .val (.int (own_short (p1 &&& (7 : Int32)) w0 w1)), .unset, .unset] [])) _
                refine XS.iload X9.here hx rfl (hb hby at_207) rfl ?_
                show Steps p.tables e below (T9.setTop (mkF m 209 #[.val (.int p1), .val (.long q2), .second, .val (.int (p1 &&& (7 : Int32))), .val (.int (if (((p1.toUInt32 >>> ((10 : Int32) &&& 31).toUInt32).toInt32) &&& (1 : Int32)) = (0 : Int32) then (0 : Int32) else (1 : Int32))), .val (.int w0), .val (.int w1), .val (.int w2), .val (.int w3), .val (.int w4), .val (.int w5), .val (.int w6), .val (.ref sb9), .val (.int (own_short (p1 &&& (7 : Int32)) w0 w1)), .unset, .unset] [(.int w5)])) _
                refine XS.bipush X9.here hx rfl (hb hby at_209) ?_
                show Steps p.tables e below (T9.setTop (mkF m 211 #[.val (.int p1), .val (.long q2), .second, .val (.int (p1 &&& (7 : Int32))), .val (.int (if (((p1.toUInt32 >>> ((10 : Int32) &&& 31).toUInt32).toInt32) &&& (1 : Int32)) = (0 : Int32) then (0 : Int32) else (1 : Int32))), .val (.int w0), .val (.int w1), .val (.int w2), .val (.int w3), .val (.int w4), .val (.int w5), .val (.int w6), .val (.ref sb9), .val (.int (own_short (p1 &&& (7 : Int32)) w0 w1)), .unset, .unset] [(.int (112 : Int32)), (.int w5)])) _
                by_cases hc211 : w5 = (112 : Int32)
                · refine XS.icmpNo X9.here hx rfl (hb hby at_211) rfl (teq hc211).2 ?_
                  show Steps p.tables e below (T9.setTop (mkF m 214 #[.val (.int p1), .val (.long q2), .second, .val (.int (p1 &&& (7 : Int32))), .val (.int (if (((p1.toUInt32 >>> ((10 : Int32) &&& 31).toUInt32).toInt32) &&& (1 : Int32)) = (0 : Int32) then (0 : Int32) else (1 : Int32))), .val (.int w0), .val (.int w1), .val (.int w2), .val (.int w3), .val (.int w4), .val (.int w5), .val (.int w6), .val (.ref sb9), .val (.int (own_short (p1 &&& (7 : Int32)) w0 w1)), .unset, .unset] [])) _
                  refine XS.iconst X9.here hx rfl (hb hby at_214) ?_
                  show Steps p.tables e below (T9.setTop (mkF m 215 #[.val (.int p1), .val (.long q2), .second, .val (.int (p1 &&& (7 : Int32))), .val (.int (if (((p1.toUInt32 >>> ((10 : Int32) &&& 31).toUInt32).toInt32) &&& (1 : Int32)) = (0 : Int32) then (0 : Int32) else (1 : Int32))), .val (.int w0), .val (.int w1), .val (.int w2), .val (.int w3), .val (.int w4), .val (.int w5), .val (.int w6), .val (.ref sb9), .val (.int (own_short (p1 &&& (7 : Int32)) w0 w1)), .unset, .unset] [(.int (1 : Int32))])) _
                  refine XS.goto X9.here hx rfl (pc0 := 215) (pc' := 219) rfl (hb hby at_215) (by decide) (by decide) ?_
                  rw [show (own_long (p1 &&& (7 : Int32)) w0 w1 w2 w3 w4 w5) = (1 : Int32) from (by rw [own_long, if_pos hc169, if_pos hc176, if_pos hc183, if_pos hc190, if_pos hc197, if_pos hc204, if_pos hc211])] at kt
                  exact kt
                · refine XS.icmpYes X9.here hx rfl (pc0 := 211) (pc' := 218) rfl (hb hby at_211) rfl (feq hc211).2 (by decide) (by decide) ?_
                  show Steps p.tables e below (T9.setTop (mkF m 218 #[.val (.int p1), .val (.long q2), .second, .val (.int (p1 &&& (7 : Int32))), .val (.int (if (((p1.toUInt32 >>> ((10 : Int32) &&& 31).toUInt32).toInt32) &&& (1 : Int32)) = (0 : Int32) then (0 : Int32) else (1 : Int32))), .val (.int w0), .val (.int w1), .val (.int w2), .val (.int w3), .val (.int w4), .val (.int w5), .val (.int w6), .val (.ref sb9), .val (.int (own_short (p1 &&& (7 : Int32)) w0 w1)), .unset, .unset] [])) _
                  refine XS.iconst X9.here hx rfl (hb hby at_218) ?_
                  rw [show (own_long (p1 &&& (7 : Int32)) w0 w1 w2 w3 w4 w5) = (0 : Int32) from (by rw [own_long, if_pos hc169, if_pos hc176, if_pos hc183, if_pos hc190, if_pos hc197, if_pos hc204, if_neg hc211])] at kt
                  exact kt
              · refine XS.icmpYes X9.here hx rfl (pc0 := 204) (pc' := 218) rfl (hb hby at_204) rfl (feq hc204).2 (by decide) (by decide) ?_
                show Steps p.tables e below (T9.setTop (mkF m 218 #[.val (.int p1), .val (.long q2), .second, .val (.int (p1 &&& (7 : Int32))), .val (.int (if (((p1.toUInt32 >>> ((10 : Int32) &&& 31).toUInt32).toInt32) &&& (1 : Int32)) = (0 : Int32) then (0 : Int32) else (1 : Int32))), .val (.int w0), .val (.int w1), .val (.int w2), .val (.int w3), .val (.int w4), .val (.int w5), .val (.int w6), .val (.ref sb9), .val (.int (own_short (p1 &&& (7 : Int32)) w0 w1)), .unset, .unset] [])) _
                refine XS.iconst X9.here hx rfl (hb hby at_218) ?_
                rw [show (own_long (p1 &&& (7 : Int32)) w0 w1 w2 w3 w4 w5) = (0 : Int32) from (by rw [own_long, if_pos hc169, if_pos hc176, if_pos hc183, if_pos hc190, if_pos hc197, if_neg hc204])] at kt
                exact kt
            · refine XS.icmpYes X9.here hx rfl (pc0 := 197) (pc' := 218) rfl (hb hby at_197) rfl (feq hc197).2 (by decide) (by decide) ?_
              show Steps p.tables e below (T9.setTop (mkF m 218 #[.val (.int p1), .val (.long q2), .second, .val (.int (p1 &&& (7 : Int32))), .val (.int (if (((p1.toUInt32 >>> ((10 : Int32) &&& 31).toUInt32).toInt32) &&& (1 : Int32)) = (0 : Int32) then (0 : Int32) else (1 : Int32))), .val (.int w0), .val (.int w1), .val (.int w2), .val (.int w3), .val (.int w4), .val (.int w5), .val (.int w6), .val (.ref sb9), .val (.int (own_short (p1 &&& (7 : Int32)) w0 w1)), .unset, .unset] [])) _
              refine XS.iconst X9.here hx rfl (hb hby at_218) ?_
              rw [show (own_long (p1 &&& (7 : Int32)) w0 w1 w2 w3 w4 w5) = (0 : Int32) from (by rw [own_long, if_pos hc169, if_pos hc176, if_pos hc183, if_pos hc190, if_neg hc197])] at kt
              exact kt
          · refine XS.icmpYes X9.here hx rfl (pc0 := 190) (pc' := 218) rfl (hb hby at_190) rfl (feq hc190).2 (by decide) (by decide) ?_
            show Steps p.tables e below (T9.setTop (mkF m 218 #[.val (.int p1), .val (.long q2), .second, .val (.int (p1 &&& (7 : Int32))), .val (.int (if (((p1.toUInt32 >>> ((10 : Int32) &&& 31).toUInt32).toInt32) &&& (1 : Int32)) = (0 : Int32) then (0 : Int32) else (1 : Int32))), .val (.int w0), .val (.int w1), .val (.int w2), .val (.int w3), .val (.int w4), .val (.int w5), .val (.int w6), .val (.ref sb9), .val (.int (own_short (p1 &&& (7 : Int32)) w0 w1)), .unset, .unset] [])) _
            refine XS.iconst X9.here hx rfl (hb hby at_218) ?_
            rw [show (own_long (p1 &&& (7 : Int32)) w0 w1 w2 w3 w4 w5) = (0 : Int32) from (by rw [own_long, if_pos hc169, if_pos hc176, if_pos hc183, if_neg hc190])] at kt
            exact kt
        · refine XS.icmpYes X9.here hx rfl (pc0 := 183) (pc' := 218) rfl (hb hby at_183) rfl (feq hc183).2 (by decide) (by decide) ?_
          show Steps p.tables e below (T9.setTop (mkF m 218 #[.val (.int p1), .val (.long q2), .second, .val (.int (p1 &&& (7 : Int32))), .val (.int (if (((p1.toUInt32 >>> ((10 : Int32) &&& 31).toUInt32).toInt32) &&& (1 : Int32)) = (0 : Int32) then (0 : Int32) else (1 : Int32))), .val (.int w0), .val (.int w1), .val (.int w2), .val (.int w3), .val (.int w4), .val (.int w5), .val (.int w6), .val (.ref sb9), .val (.int (own_short (p1 &&& (7 : Int32)) w0 w1)), .unset, .unset] [])) _
          refine XS.iconst X9.here hx rfl (hb hby at_218) ?_
          rw [show (own_long (p1 &&& (7 : Int32)) w0 w1 w2 w3 w4 w5) = (0 : Int32) from (by rw [own_long, if_pos hc169, if_pos hc176, if_neg hc183])] at kt
          exact kt
      · refine XS.icmpYes X9.here hx rfl (pc0 := 176) (pc' := 218) rfl (hb hby at_176) rfl (feq hc176).2 (by decide) (by decide) ?_
        show Steps p.tables e below (T9.setTop (mkF m 218 #[.val (.int p1), .val (.long q2), .second, .val (.int (p1 &&& (7 : Int32))), .val (.int (if (((p1.toUInt32 >>> ((10 : Int32) &&& 31).toUInt32).toInt32) &&& (1 : Int32)) = (0 : Int32) then (0 : Int32) else (1 : Int32))), .val (.int w0), .val (.int w1), .val (.int w2), .val (.int w3), .val (.int w4), .val (.int w5), .val (.int w6), .val (.ref sb9), .val (.int (own_short (p1 &&& (7 : Int32)) w0 w1)), .unset, .unset] [])) _
        refine XS.iconst X9.here hx rfl (hb hby at_218) ?_
        rw [show (own_long (p1 &&& (7 : Int32)) w0 w1 w2 w3 w4 w5) = (0 : Int32) from (by rw [own_long, if_pos hc169, if_neg hc176])] at kt
        exact kt
    · refine XS.icmpYes X9.here hx rfl (pc0 := 169) (pc' := 218) rfl (hb hby at_169) rfl (feq hc169).2 (by decide) (by decide) ?_
      show Steps p.tables e below (T9.setTop (mkF m 218 #[.val (.int p1), .val (.long q2), .second, .val (.int (p1 &&& (7 : Int32))), .val (.int (if (((p1.toUInt32 >>> ((10 : Int32) &&& 31).toUInt32).toInt32) &&& (1 : Int32)) = (0 : Int32) then (0 : Int32) else (1 : Int32))), .val (.int w0), .val (.int w1), .val (.int w2), .val (.int w3), .val (.int w4), .val (.int w5), .val (.int w6), .val (.ref sb9), .val (.int (own_short (p1 &&& (7 : Int32)) w0 w1)), .unset, .unset] [])) _
      refine XS.iconst X9.here hx rfl (hb hby at_218) ?_
      rw [show (own_long (p1 &&& (7 : Int32)) w0 w1 w2 w3 w4 w5) = (0 : Int32) from (by rw [own_long, if_neg hc169])] at kt
      exact kt
  have pre_14 : ∀ t, Steps p.tables e below (T9.setTop (mkF m 236 #[.val (.int p1), .val (.long q2), .second, .val (.int (p1 &&& (7 : Int32))), .val (.int (if (((p1.toUInt32 >>> ((10 : Int32) &&& 31).toUInt32).toInt32) &&& (1 : Int32)) = (0 : Int32) then (0 : Int32) else (1 : Int32))), .val (.int w0), .val (.int w1), .val (.int w2), .val (.int w3), .val (.int w4), .val (.int w5), .val (.int w6), .val (.ref sb9), .val (.int (own_short (p1 &&& (7 : Int32)) w0 w1)), .val (.int (own_long (p1 &&& (7 : Int32)) w0 w1 w2 w3 w4 w5)), .unset] [(.int (own_or (own_short (p1 &&& (7 : Int32)) w0 w1) (own_long (p1 &&& (7 : Int32)) w0 w1 w2 w3 w4 w5)))])) t → Steps p.tables e below (s₁.setTop (entryFrame m #[(.int p1), (.long q2)] maxLocals)) t := by
    intro t kt
    refine pre_13 _ ?_
    show Steps p.tables e below (T9.setTop (mkF m 219 #[.val (.int p1), .val (.long q2), .second, .val (.int (p1 &&& (7 : Int32))), .val (.int (if (((p1.toUInt32 >>> ((10 : Int32) &&& 31).toUInt32).toInt32) &&& (1 : Int32)) = (0 : Int32) then (0 : Int32) else (1 : Int32))), .val (.int w0), .val (.int w1), .val (.int w2), .val (.int w3), .val (.int w4), .val (.int w5), .val (.int w6), .val (.ref sb9), .val (.int (own_short (p1 &&& (7 : Int32)) w0 w1)), .unset, .unset] [(.int (own_long (p1 &&& (7 : Int32)) w0 w1 w2 w3 w4 w5))])) _
    refine XS.istore X9.here hx rfl (hb hby at_219) rfl (l' := #[.val (.int p1), .val (.long q2), .second, .val (.int (p1 &&& (7 : Int32))), .val (.int (if (((p1.toUInt32 >>> ((10 : Int32) &&& 31).toUInt32).toInt32) &&& (1 : Int32)) = (0 : Int32) then (0 : Int32) else (1 : Int32))), .val (.int w0), .val (.int w1), .val (.int w2), .val (.int w3), .val (.int w4), .val (.int w5), .val (.int w6), .val (.ref sb9), .val (.int (own_short (p1 &&& (7 : Int32)) w0 w1)), .val (.int (own_long (p1 &&& (7 : Int32)) w0 w1 w2 w3 w4 w5)), .unset]) rfl ?_
    show Steps p.tables e below (T9.setTop (mkF m 221 #[.val (.int p1), .val (.long q2), .second, .val (.int (p1 &&& (7 : Int32))), .val (.int (if (((p1.toUInt32 >>> ((10 : Int32) &&& 31).toUInt32).toInt32) &&& (1 : Int32)) = (0 : Int32) then (0 : Int32) else (1 : Int32))), .val (.int w0), .val (.int w1), .val (.int w2), .val (.int w3), .val (.int w4), .val (.int w5), .val (.int w6), .val (.ref sb9), .val (.int (own_short (p1 &&& (7 : Int32)) w0 w1)), .val (.int (own_long (p1 &&& (7 : Int32)) w0 w1 w2 w3 w4 w5)), .unset] [])) _
    refine XS.iload X9.here hx rfl (hb hby at_221) rfl ?_
    show Steps p.tables e below (T9.setTop (mkF m 223 #[.val (.int p1), .val (.long q2), .second, .val (.int (p1 &&& (7 : Int32))), .val (.int (if (((p1.toUInt32 >>> ((10 : Int32) &&& 31).toUInt32).toInt32) &&& (1 : Int32)) = (0 : Int32) then (0 : Int32) else (1 : Int32))), .val (.int w0), .val (.int w1), .val (.int w2), .val (.int w3), .val (.int w4), .val (.int w5), .val (.int w6), .val (.ref sb9), .val (.int (own_short (p1 &&& (7 : Int32)) w0 w1)), .val (.int (own_long (p1 &&& (7 : Int32)) w0 w1 w2 w3 w4 w5)), .unset] [(.int (own_short (p1 &&& (7 : Int32)) w0 w1))])) _
    by_cases hc223 : (own_short (p1 &&& (7 : Int32)) w0 w1) = (0 : Int32)
    · refine XS.ifNo X9.here hx rfl (hb hby at_223) rfl ((if0 _ _).trans (teq hc223).2) ?_
      show Steps p.tables e below (T9.setTop (mkF m 226 #[.val (.int p1), .val (.long q2), .second, .val (.int (p1 &&& (7 : Int32))), .val (.int (if (((p1.toUInt32 >>> ((10 : Int32) &&& 31).toUInt32).toInt32) &&& (1 : Int32)) = (0 : Int32) then (0 : Int32) else (1 : Int32))), .val (.int w0), .val (.int w1), .val (.int w2), .val (.int w3), .val (.int w4), .val (.int w5), .val (.int w6), .val (.ref sb9), .val (.int (own_short (p1 &&& (7 : Int32)) w0 w1)), .val (.int (own_long (p1 &&& (7 : Int32)) w0 w1 w2 w3 w4 w5)), .unset] [])) _
      refine XS.iload X9.here hx rfl (hb hby at_226) rfl ?_
      show Steps p.tables e below (T9.setTop (mkF m 228 #[.val (.int p1), .val (.long q2), .second, .val (.int (p1 &&& (7 : Int32))), .val (.int (if (((p1.toUInt32 >>> ((10 : Int32) &&& 31).toUInt32).toInt32) &&& (1 : Int32)) = (0 : Int32) then (0 : Int32) else (1 : Int32))), .val (.int w0), .val (.int w1), .val (.int w2), .val (.int w3), .val (.int w4), .val (.int w5), .val (.int w6), .val (.ref sb9), .val (.int (own_short (p1 &&& (7 : Int32)) w0 w1)), .val (.int (own_long (p1 &&& (7 : Int32)) w0 w1 w2 w3 w4 w5)), .unset] [(.int (own_long (p1 &&& (7 : Int32)) w0 w1 w2 w3 w4 w5))])) _
      by_cases hc228 : (own_long (p1 &&& (7 : Int32)) w0 w1 w2 w3 w4 w5) = (0 : Int32)
      · refine XS.ifYes X9.here hx rfl (pc0 := 228) (pc' := 235) rfl (hb hby at_228) rfl ((if0 _ _).trans (teq hc228).1) (by decide) (by decide) ?_
        show Steps p.tables e below (T9.setTop (mkF m 235 #[.val (.int p1), .val (.long q2), .second, .val (.int (p1 &&& (7 : Int32))), .val (.int (if (((p1.toUInt32 >>> ((10 : Int32) &&& 31).toUInt32).toInt32) &&& (1 : Int32)) = (0 : Int32) then (0 : Int32) else (1 : Int32))), .val (.int w0), .val (.int w1), .val (.int w2), .val (.int w3), .val (.int w4), .val (.int w5), .val (.int w6), .val (.ref sb9), .val (.int (own_short (p1 &&& (7 : Int32)) w0 w1)), .val (.int (own_long (p1 &&& (7 : Int32)) w0 w1 w2 w3 w4 w5)), .unset] [])) _
        refine XS.iconst X9.here hx rfl (hb hby at_235) ?_
        rw [show (own_or (own_short (p1 &&& (7 : Int32)) w0 w1) (own_long (p1 &&& (7 : Int32)) w0 w1 w2 w3 w4 w5)) = (0 : Int32) from (by rw [own_or, if_pos hc223, if_pos hc228])] at kt
        exact kt
      · refine XS.ifNo X9.here hx rfl (hb hby at_228) rfl ((if0 _ _).trans (feq hc228).1) ?_
        show Steps p.tables e below (T9.setTop (mkF m 231 #[.val (.int p1), .val (.long q2), .second, .val (.int (p1 &&& (7 : Int32))), .val (.int (if (((p1.toUInt32 >>> ((10 : Int32) &&& 31).toUInt32).toInt32) &&& (1 : Int32)) = (0 : Int32) then (0 : Int32) else (1 : Int32))), .val (.int w0), .val (.int w1), .val (.int w2), .val (.int w3), .val (.int w4), .val (.int w5), .val (.int w6), .val (.ref sb9), .val (.int (own_short (p1 &&& (7 : Int32)) w0 w1)), .val (.int (own_long (p1 &&& (7 : Int32)) w0 w1 w2 w3 w4 w5)), .unset] [])) _
        refine XS.iconst X9.here hx rfl (hb hby at_231) ?_
        show Steps p.tables e below (T9.setTop (mkF m 232 #[.val (.int p1), .val (.long q2), .second, .val (.int (p1 &&& (7 : Int32))), .val (.int (if (((p1.toUInt32 >>> ((10 : Int32) &&& 31).toUInt32).toInt32) &&& (1 : Int32)) = (0 : Int32) then (0 : Int32) else (1 : Int32))), .val (.int w0), .val (.int w1), .val (.int w2), .val (.int w3), .val (.int w4), .val (.int w5), .val (.int w6), .val (.ref sb9), .val (.int (own_short (p1 &&& (7 : Int32)) w0 w1)), .val (.int (own_long (p1 &&& (7 : Int32)) w0 w1 w2 w3 w4 w5)), .unset] [(.int (1 : Int32))])) _
        refine XS.goto X9.here hx rfl (pc0 := 232) (pc' := 236) rfl (hb hby at_232) (by decide) (by decide) ?_
        rw [show (own_or (own_short (p1 &&& (7 : Int32)) w0 w1) (own_long (p1 &&& (7 : Int32)) w0 w1 w2 w3 w4 w5)) = (1 : Int32) from (by rw [own_or, if_pos hc223, if_neg hc228])] at kt
        exact kt
    · refine XS.ifYes X9.here hx rfl (pc0 := 223) (pc' := 231) rfl (hb hby at_223) rfl ((if0 _ _).trans (feq hc223).2) (by decide) (by decide) ?_
      show Steps p.tables e below (T9.setTop (mkF m 231 #[.val (.int p1), .val (.long q2), .second, .val (.int (p1 &&& (7 : Int32))), .val (.int (if (((p1.toUInt32 >>> ((10 : Int32) &&& 31).toUInt32).toInt32) &&& (1 : Int32)) = (0 : Int32) then (0 : Int32) else (1 : Int32))), .val (.int w0), .val (.int w1), .val (.int w2), .val (.int w3), .val (.int w4), .val (.int w5), .val (.int w6), .val (.ref sb9), .val (.int (own_short (p1 &&& (7 : Int32)) w0 w1)), .val (.int (own_long (p1 &&& (7 : Int32)) w0 w1 w2 w3 w4 w5)), .unset] [])) _
      refine XS.iconst X9.here hx rfl (hb hby at_231) ?_
      show Steps p.tables e below (T9.setTop (mkF m 232 #[.val (.int p1), .val (.long q2), .second, .val (.int (p1 &&& (7 : Int32))), .val (.int (if (((p1.toUInt32 >>> ((10 : Int32) &&& 31).toUInt32).toInt32) &&& (1 : Int32)) = (0 : Int32) then (0 : Int32) else (1 : Int32))), .val (.int w0), .val (.int w1), .val (.int w2), .val (.int w3), .val (.int w4), .val (.int w5), .val (.int w6), .val (.ref sb9), .val (.int (own_short (p1 &&& (7 : Int32)) w0 w1)), .val (.int (own_long (p1 &&& (7 : Int32)) w0 w1 w2 w3 w4 w5)), .unset] [(.int (1 : Int32))])) _
      refine XS.goto X9.here hx rfl (pc0 := 232) (pc' := 236) rfl (hb hby at_232) (by decide) (by decide) ?_
      rw [show (own_or (own_short (p1 &&& (7 : Int32)) w0 w1) (own_long (p1 &&& (7 : Int32)) w0 w1 w2 w3 w4 w5)) = (1 : Int32) from (by rw [own_or, if_neg hc223])] at kt
      exact kt
  have pre_16 : ∀ t, Steps p.tables e below (T9.setTop (mkF m 240 #[.val (.int p1), .val (.long q2), .second, .val (.int (p1 &&& (7 : Int32))), .val (.int (if (((p1.toUInt32 >>> ((10 : Int32) &&& 31).toUInt32).toInt32) &&& (1 : Int32)) = (0 : Int32) then (0 : Int32) else (1 : Int32))), .val (.int w0), .val (.int w1), .val (.int w2), .val (.int w3), .val (.int w4), .val (.int w5), .val (.int w6), .val (.ref sb9), .val (.int (own_short (p1 &&& (7 : Int32)) w0 w1)), .val (.int (own_long (p1 &&& (7 : Int32)) w0 w1 w2 w3 w4 w5)), .val (.int (own_or (own_short (p1 &&& (7 : Int32)) w0 w1) (own_long (p1 &&& (7 : Int32)) w0 w1 w2 w3 w4 w5)))] [(.ref sb9)])) t → Steps p.tables e below (s₁.setTop (entryFrame m #[(.int p1), (.long q2)] maxLocals)) t := by
    intro t kt
    refine pre_14 _ ?_
    show Steps p.tables e below (T9.setTop (mkF m 236 #[.val (.int p1), .val (.long q2), .second, .val (.int (p1 &&& (7 : Int32))), .val (.int (if (((p1.toUInt32 >>> ((10 : Int32) &&& 31).toUInt32).toInt32) &&& (1 : Int32)) = (0 : Int32) then (0 : Int32) else (1 : Int32))), .val (.int w0), .val (.int w1), .val (.int w2), .val (.int w3), .val (.int w4), .val (.int w5), .val (.int w6), .val (.ref sb9), .val (.int (own_short (p1 &&& (7 : Int32)) w0 w1)), .val (.int (own_long (p1 &&& (7 : Int32)) w0 w1 w2 w3 w4 w5)), .unset] [(.int (own_or (own_short (p1 &&& (7 : Int32)) w0 w1) (own_long (p1 &&& (7 : Int32)) w0 w1 w2 w3 w4 w5)))])) _
    refine XS.istore X9.here hx rfl (hb hby at_236) rfl (l' := #[.val (.int p1), .val (.long q2), .second, .val (.int (p1 &&& (7 : Int32))), .val (.int (if (((p1.toUInt32 >>> ((10 : Int32) &&& 31).toUInt32).toInt32) &&& (1 : Int32)) = (0 : Int32) then (0 : Int32) else (1 : Int32))), .val (.int w0), .val (.int w1), .val (.int w2), .val (.int w3), .val (.int w4), .val (.int w5), .val (.int w6), .val (.ref sb9), .val (.int (own_short (p1 &&& (7 : Int32)) w0 w1)), .val (.int (own_long (p1 &&& (7 : Int32)) w0 w1 w2 w3 w4 w5)), .val (.int (own_or (own_short (p1 &&& (7 : Int32)) w0 w1) (own_long (p1 &&& (7 : Int32)) w0 w1 w2 w3 w4 w5)))]) rfl ?_
    show Steps p.tables e below (T9.setTop (mkF m 238 #[.val (.int p1), .val (.long q2), .second, .val (.int (p1 &&& (7 : Int32))), .val (.int (if (((p1.toUInt32 >>> ((10 : Int32) &&& 31).toUInt32).toInt32) &&& (1 : Int32)) = (0 : Int32) then (0 : Int32) else (1 : Int32))), .val (.int w0), .val (.int w1), .val (.int w2), .val (.int w3), .val (.int w4), .val (.int w5), .val (.int w6), .val (.ref sb9), .val (.int (own_short (p1 &&& (7 : Int32)) w0 w1)), .val (.int (own_long (p1 &&& (7 : Int32)) w0 w1 w2 w3 w4 w5)), .val (.int (own_or (own_short (p1 &&& (7 : Int32)) w0 w1) (own_long (p1 &&& (7 : Int32)) w0 w1 w2 w3 w4 w5)))] [])) _
    refine XS.aload X9.here hx rfl (hb hby at_238) rfl rfl ?_
    exact kt
  obtain ⟨_, _, ⟨T15, L15, k15, n15⟩, -, X15', hS15', hge15, ⟨Lc15, hQ15, l15, y15, z15, hC15⟩, st15⟩ := callSS X9 hx (y := (⟨"com/example/mended_hedge/mendedhedge/cli/Command", "isHelp", "(Ljava/lang/String;)Z"⟩ : MethodName)) hown (mvT hZ (hw _ (List.mem_of_getElem? (i := 30) rfl))) (mvT hZ (hw _ (List.mem_of_getElem? (i := 31) rfl))) (mvT hZ (hw _ (List.mem_of_getElem? (i := 32) rfl))) (mvT hZ (hw _ (List.mem_of_getElem? (i := 33) rfl))) (by decide) (backOfSH (s := s) (vm0 := T9.vm) (W := 0) (rm_ih l Z a0 hw [] sb9 st_9 sk9 (own_cs (p1 &&& (7 : Int32)) w0 w1 w2 w3 w4 w5 w6) cz T9.heap n0 Z9 hEL fk9_0 fk9_1 fk9_2 fk9_3 (own_cs_rng _ w0 w1 w2 w3 w4 w5 w6 hw0 hw1 hw2 hw3 hw4 hw5 hw6) (own_cs_len _ w0 w1 w2 w3 w4 w5 w6) f1 hcs) hZ (hw _ (List.mem_of_getElem? (i := 33) rfl)) (hw _ (List.mem_of_getElem? (i := 32) rfl)) (by decide) (by decide) hEL C11.1) (g := (mkF m 240 #[.val (.int p1), .val (.long q2), .second, .val (.int (p1 &&& (7 : Int32))), .val (.int (if (((p1.toUInt32 >>> ((10 : Int32) &&& 31).toUInt32).toInt32) &&& (1 : Int32)) = (0 : Int32) then (0 : Int32) else (1 : Int32))), .val (.int w0), .val (.int w1), .val (.int w2), .val (.int w3), .val (.int w4), .val (.int w5), .val (.int w6), .val (.ref sb9), .val (.int (own_short (p1 &&& (7 : Int32)) w0 w1)), .val (.int (own_long (p1 &&& (7 : Int32)) w0 w1 w2 w3 w4 w5)), .val (.int (own_or (own_short (p1 &&& (7 : Int32)) w0 w1) (own_long (p1 &&& (7 : Int32)) w0 w1 w2 w3 w4 w5)))] [(.ref sb9)])) rfl (by rw [hml]; rfl) (argsL := [(.ref sb9)]) (rest := []) (lenOf pd__Ljava_lang_String__Z_1867 rfl) rfl (by show 2 * 0 + _ ≤ _; exact Nat.le_of_eq rfl) (hb hby at_240) (fun _ _ => ⟨rfl, rfl, (by decide : 6 + 4 ≤ _), (by decide : 18 + 40 ≤ _)⟩)
  dsimp only [Pt.U, Pt.locs, Pt.cells, Pt.slots] at X15' hS15' hge15 l15 y15 z15 st15 hQ15 hC15
  subst l15 y15 z15
  have hS15 : s.Since T15.vm T15.heap.size := foldS hS9 hk9 hS15' hge15
  have hZ : Z.Warmed39 (s.setVm T15.vm).vm := State.Warmed39.trans (t := (s.setVm T9.vm)) hZ hS15'.1
  have hown : (s.setVm T15.vm).vm.findClass "com/example/mended_hedge/mendedhedge/cli/CommandIsHelpPinLaw" = some m.cls := by rw [show (s.setVm T15.vm).vm = T15.vm from rfl, hS15'.1.alike.findClass]; exact hown
  have X15 := rebase (vm := T15.vm) X15'
  have C17 : CHr Z own_EL s.vm h0 T15.vm T15.heap := C11.trans hC15
  obtain ⟨rfl, N15q, K15⟩ := hQ15
  have f2 : Sta Z T15.heap "java/lang/String" "COMPACT_STRINGS" "Z" (.int cz) := own_sta f1 K15
  have f3 : Exa Z T15.heap sb9 "java/lang/String" := fk9_0.keep K15
  have f4 : Fld Z T15.heap sb9 "java/lang/String" "coder" "B" (.int (0 : Int32)) := fk9_1.keep K15 (by simp)
  have f5 : Fld Z T15.heap sb9 "java/lang/String" "value" "[B" (.ref st_9) := fk9_2.keep K15 (by simp)
  have f6 : Arv Z T15.heap st_9 sk9 .byte (Int32.ofNat (own_cs (p1 &&& (7 : Int32)) w0 w1 w2 w3 w4 w5 w6).length) (((own_cs (p1 &&& (7 : Int32)) w0 w1 w2 w3 w4 w5 w6).map (fun c => c.toInt8.toInt32)).map Value.int) (.int 0) := fk9_3.keep K15 (by simp)
  have Z15 : n0 ≤ T15.heap.size := Nat.le_trans Z9 K15.1
  have hk15 : T15.heap.size ≤ T15.heap.size := Nat.le_refl _
  have N15 := Fr.app N9 N15q
  obtain ⟨fs, hr, hrun, hended, hRW⟩ := X15.leaveW (s := s) hS15 hk15 (v := some (.int (1 : Int32))) (fun h => by rw [Bd.returns] at h; cases h) (hlocks := Bd.notSynchronized)
  refine ⟨_, _, pre_16 _ ?_, hrun, hended, _, _, rfl, ?_, (by show CHr Z own_EL s.vm s.heap T15.vm T15.heap; rw [hh]; exact C17.trans (CHv.at (s := s) (vm0 := T15.vm) X15 hZ hEL C17.1)), hRW.1, hRW.2.1, hRW.2.2.1, hRW.2.2.2.mono (by decide) (by decide)⟩
  · show Steps p.tables e below (T9.setTop (mkF m 240 #[.val (.int p1), .val (.long q2), .second, .val (.int (p1 &&& (7 : Int32))), .val (.int (if (((p1.toUInt32 >>> ((10 : Int32) &&& 31).toUInt32).toInt32) &&& (1 : Int32)) = (0 : Int32) then (0 : Int32) else (1 : Int32))), .val (.int w0), .val (.int w1), .val (.int w2), .val (.int w3), .val (.int w4), .val (.int w5), .val (.int w6), .val (.ref sb9), .val (.int (own_short (p1 &&& (7 : Int32)) w0 w1)), .val (.int (own_long (p1 &&& (7 : Int32)) w0 w1 w2 w3 w4 w5)), .val (.int (own_or (own_short (p1 &&& (7 : Int32)) w0 w1) (own_long (p1 &&& (7 : Int32)) w0 w1 w2 w3 w4 w5)))] [(.ref sb9)])) _
    refine st15.trans ?_
    show Steps p.tables e below (T15.setTop (mkF m 243 #[.val (.int p1), .val (.long q2), .second, .val (.int (p1 &&& (7 : Int32))), .val (.int (if (((p1.toUInt32 >>> ((10 : Int32) &&& 31).toUInt32).toInt32) &&& (1 : Int32)) = (0 : Int32) then (0 : Int32) else (1 : Int32))), .val (.int w0), .val (.int w1), .val (.int w2), .val (.int w3), .val (.int w4), .val (.int w5), .val (.int w6), .val (.ref sb9), .val (.int (own_short (p1 &&& (7 : Int32)) w0 w1)), .val (.int (own_long (p1 &&& (7 : Int32)) w0 w1 w2 w3 w4 w5)), .val (.int (own_or (own_short (p1 &&& (7 : Int32)) w0 w1) (own_long (p1 &&& (7 : Int32)) w0 w1 w2 w3 w4 w5)))] [(.int (own_help (own_cs (p1 &&& (7 : Int32)) w0 w1 w2 w3 w4 w5 w6)))])) _
    refine XS.iload X15.here hx rfl (hb hby at_243) rfl ?_
    show Steps p.tables e below (T15.setTop (mkF m 245 #[.val (.int p1), .val (.long q2), .second, .val (.int (p1 &&& (7 : Int32))), .val (.int (if (((p1.toUInt32 >>> ((10 : Int32) &&& 31).toUInt32).toInt32) &&& (1 : Int32)) = (0 : Int32) then (0 : Int32) else (1 : Int32))), .val (.int w0), .val (.int w1), .val (.int w2), .val (.int w3), .val (.int w4), .val (.int w5), .val (.int w6), .val (.ref sb9), .val (.int (own_short (p1 &&& (7 : Int32)) w0 w1)), .val (.int (own_long (p1 &&& (7 : Int32)) w0 w1 w2 w3 w4 w5)), .val (.int (own_or (own_short (p1 &&& (7 : Int32)) w0 w1) (own_long (p1 &&& (7 : Int32)) w0 w1 w2 w3 w4 w5)))] [(.int (own_or (own_short (p1 &&& (7 : Int32)) w0 w1) (own_long (p1 &&& (7 : Int32)) w0 w1 w2 w3 w4 w5))), (.int (own_help (own_cs (p1 &&& (7 : Int32)) w0 w1 w2 w3 w4 w5 w6)))])) _
    refine XS.icmpNo X15.here hx rfl (hb hby at_245) rfl (teq (own_fin _ w0 w1 w2 w3 w4 w5 w6 hw0 hw1 hw2 hw3 hw4 hw5 hw6)).2 ?_
    show Steps p.tables e below (T15.setTop (mkF m 248 #[.val (.int p1), .val (.long q2), .second, .val (.int (p1 &&& (7 : Int32))), .val (.int (if (((p1.toUInt32 >>> ((10 : Int32) &&& 31).toUInt32).toInt32) &&& (1 : Int32)) = (0 : Int32) then (0 : Int32) else (1 : Int32))), .val (.int w0), .val (.int w1), .val (.int w2), .val (.int w3), .val (.int w4), .val (.int w5), .val (.int w6), .val (.ref sb9), .val (.int (own_short (p1 &&& (7 : Int32)) w0 w1)), .val (.int (own_long (p1 &&& (7 : Int32)) w0 w1 w2 w3 w4 w5)), .val (.int (own_or (own_short (p1 &&& (7 : Int32)) w0 w1) (own_long (p1 &&& (7 : Int32)) w0 w1 w2 w3 w4 w5)))] [])) _
    refine XS.iconst X15.here hx rfl (hb hby at_248) ?_
    show Steps p.tables e below (T15.setTop (mkF m 249 #[.val (.int p1), .val (.long q2), .second, .val (.int (p1 &&& (7 : Int32))), .val (.int (if (((p1.toUInt32 >>> ((10 : Int32) &&& 31).toUInt32).toInt32) &&& (1 : Int32)) = (0 : Int32) then (0 : Int32) else (1 : Int32))), .val (.int w0), .val (.int w1), .val (.int w2), .val (.int w3), .val (.int w4), .val (.int w5), .val (.int w6), .val (.ref sb9), .val (.int (own_short (p1 &&& (7 : Int32)) w0 w1)), .val (.int (own_long (p1 &&& (7 : Int32)) w0 w1 w2 w3 w4 w5)), .val (.int (own_or (own_short (p1 &&& (7 : Int32)) w0 w1) (own_long (p1 &&& (7 : Int32)) w0 w1 w2 w3 w4 w5)))] [(.int (1 : Int32))])) _
    refine XS.goto X15.here hx rfl (pc0 := 249) (pc' := 253) rfl (hb hby at_249) (by decide) (by decide) ?_
    show Steps p.tables e below (T15.setTop (mkF m 253 #[.val (.int p1), .val (.long q2), .second, .val (.int (p1 &&& (7 : Int32))), .val (.int (if (((p1.toUInt32 >>> ((10 : Int32) &&& 31).toUInt32).toInt32) &&& (1 : Int32)) = (0 : Int32) then (0 : Int32) else (1 : Int32))), .val (.int w0), .val (.int w1), .val (.int w2), .val (.int w3), .val (.int w4), .val (.int w5), .val (.int w6), .val (.ref sb9), .val (.int (own_short (p1 &&& (7 : Int32)) w0 w1)), .val (.int (own_long (p1 &&& (7 : Int32)) w0 w1 w2 w3 w4 w5)), .val (.int (own_or (own_short (p1 &&& (7 : Int32)) w0 w1) (own_long (p1 &&& (7 : Int32)) w0 w1 w2 w3 w4 w5)))] [(.int (1 : Int32))])) _
    exact retN X15 hx (t := .boolean) Bd.returns (by simp) (hb hby at_253) hr
  · show Q_rm0 Z p1 q2 cz h0 n0 _ T15.heap _
    exact ⟨rfl, N15⟩
set_option maxRecDepth 65536 in
set_option maxHeartbeats 40000000 in
theorem comes_1 {Post : Tables → Env → Array Value → State → Outcome → State → Prop} (hpost : ∀ tb e args s v u, (limb_1_1.after args s (.returned v) u = true ∧ limb_1_2.after args s (.returned v) u = true ∧ True) → ReturnedEndW s (.returned v) u (Jvm.fieldLocs frame_1_writes args s ++ Jvm.arrayLocs frame_1_arrays args s ++ Jvm.staticLocs frame_1_statics s) 24 3200 → Post tb e args s (.returned v) u) :
    ArmFor flags0 classFile x code maxLocals ret World_1 tables_1 room_1 Calls_1 rest_1 Pre_1 Post := by
  intro l hfl _ _ p e ha hc hk s m args below hf hA hF happ hP
  obtain ⟨hcalls, hrest, hpre⟩ := hP
  obtain ⟨-, -, -, hnamed, -, -, -, hat⟩ := (Spec.applies_iff hf).mp happ
  obtain ⟨hg, hn⟩ := and_e (Cond.before_iff.mp (show (Jvm.Cond.and given_1 narrow_1).before args s = true from hpre))
  obtain ⟨hcount, hga0⟩ := and_e hg
  obtain ⟨hi0, hga1⟩ := and_e hga0
  have hi1 := hga1
  obtain ⟨w0, w1, rfl⟩ : ∃ w0 w1 : Value, args = #[w0, w1] := by
    have hs : args.size = 2 := by simpa [Cond.value, given_1] using hcount
    obtain ⟨L⟩ := args
    match L, hs with
    | [w0, w1], _ => exact ⟨w0, w1, rfl⟩
  have hw := fun d (hd : d ∈ tables_1) => atoms_spec (ws := Jvm.Cond.code x code maxLocals ret :: tables_1) hat d (List.mem_cons_of_mem _ hd)
  obtain ⟨hsets, hown0⟩ := atoms_of _ (rest_1_c_eq ▸ (show rest_1_c.before _ s = true from hrest))
  obtain ⟨i0, ei0⟩ := is_v hi0
  obtain rfl : w0 = (.int i0) := Option.some.inj ei0
  obtain ⟨i1, ei1⟩ := isL_v hi1
  obtain rfl : w1 = (.long i1) := Option.some.inj ei1
  obtain ⟨cz, evcs⟩ := is_v (Cond.before_iff.mp (hsets _ (List.mem_of_getElem? (i := 1) rfl)))
  have S_CS : Sta s s.heap "java/lang/String" "COMPACT_STRINGS" "Z" (.int cz) := Sta.start evcs (Or.inl (hsets _ (List.mem_of_getElem? (i := 0) rfl)))
  have hcs : ¬ cz = (0 : Int32) := by
    have q2 := not_v (Cond.before_iff.mp (hsets _ (List.mem_of_getElem? (i := 2) rfl)))
    rw [Cond.eq_ints evcs (Term.int_eval 0)] at q2
    simpa using q2
  have hEL : EW s _ own_EL := (EW.cons (hw _ (List.mem_of_getElem? (i := 46) rfl)) (by decide) (EW.cons (hw _ (List.mem_of_getElem? (i := 34) rfl)) (by decide) (EW.cons (hw _ (List.mem_of_getElem? (i := 22) rfl)) (by decide) EW.nil)))
  have hCH : CHv s own_EL s.vm s.heap := CHv.start hEL (fun p hp => hcalls.1 p hp) (hsets _ (List.mem_of_getElem? (i := 2) rfl)) (hw _ (List.mem_of_getElem? (i := 23) rfl)) (hw _ (List.mem_of_getElem? (i := 9) rfl))
  obtain ⟨n, o, h1, h2, h3, _, L, rfl, ⟨rfl, N⟩, -, hq⟩ := rm0 l s _ hw tables_1 i0 i1 cz s.heap s.heap.size (Nat.le_refl _) hEL S_CS hcs p e ha hc hk s m _ below hf ((Spec.applies_iff_loose hf).mp happ).1 ⟨rfl, State.Warmed39.refl s, rfl, hCH⟩ trivial
  refine ⟨n, _, h1, h2, h3, hpost _ _ _ _ _ _ ⟨Cond.after_iff.mpr rfl, Cond.after_iff.mpr (eq_i res_at (Term.int_eval (1)) rfl), trivial⟩ ⟨hq.1, hq.2.1, hq.2.2.1, (hq.2.2.2.sift fun y hy => Or.inr (N y hy)).mono (by decide) (by decide)⟩⟩
theorem main_1_1 : Claimed_1_1 := comes_1 fun _ _ _ _ _ _ h hF => ⟨h.1, hF⟩
theorem main_1_2 : Claimed_1_2 := comes_1 fun _ _ _ _ _ _ h hF => ⟨h.2.1, hF⟩
end Jvm.Pilot.@@N@@
namespace Jvm.Pilot.@@N@@
open Jvm Jvm.ClassFile Sem Op Lib Jvm.Free Jvm.Stand Jvm.Pilot.@@N@@.Jvm.D
/-! MADE BY PROGRAM (witnessworld.py) out of the Statement's table words and the real class files: 20 classes; the members and pool entries that the words name. The judged class is class 1, her method 1. -/
namespace start1
open Jvm.ClassFile
def u (s : String) : CpInfo := .utf8 (stringToUtf16 s)
/-- a pool by its gaps: so many unusable entries, then the entry; so many at the end -/
def gap : Nat → List CpInfo → List CpInfo
  | 0, r => r
  | n + 1, r => .unusable :: gap n r
def poolList (es : List (Nat × CpInfo)) (last : Nat) : List CpInfo := es.foldr (fun e r => gap e.1 (e.2 :: r)) (gap last [])
def pool (es : List (Nat × CpInfo)) (last : Nat) : Array CpInfo := ⟨poolList es last⟩
def fileOf (pool : Array CpInfo) (this : Nat) (attrs : Array Attribute := #[]) (ms : Array MethodInfo := #[]) (fl : Nat := 33) (sup : Nat := 0) (ifs : Array Nat := #[]) (fds : Array FieldInfo := #[]) : ClassFile where
  minorVersion := 0
  majorVersion := 65
  constantPool := pool
  accessFlags := fl
  thisClass := this
  superClass := sup
  interfaces := ifs
  fields := fds
  methods := ms
  attributes := attrs
def plain (name : String) (sup : Option ClassId) : Class where
  name := name
  kind := .ordinary
  loader := none
  accessFlags := 33
  super := sup
  interfaces := #[]
  cf := none
  fields := #[]
  methods := #[]
  instanceTypes := #[]
  staticTypes := #[]
  resolved := #[]
  callSites := []
  init := .initialized
  statics := none
  mirror := none

def pool0 : Array CpInfo := pool [(5, u "<init>"), (0, u "()V"), (1, .class_ 10), (1, u "java/lang/Object")] 113

def k0c0 : Code := { maxStack := 0, maxLocals := 1, code := object_method_1_code, exceptionTable := #[], attributes := #[] }
def k0m0 : Method := { name := "<init>", desc := "()V", sig := { parameters := [], returnType := none }, accessFlags := 1, code := some k0c0 }
/-- java/lang/Object -/
def k0 : Class := { plain "java/lang/Object" none with
  accessFlags := 33
  interfaces := #[]
  cf := some (fileOf pool0 8 #[] #[{ accessFlags := 1, nameIndex := 5, descriptorIndex := 6, attributes := #[] }] 33 0 #[] #[])
  fields := #[]
  methods := #[k0m0]
  instanceTypes := #[]
  staticTypes := #[]
  resolved := Array.replicate 124 none
  statics := none }

def pool1 : Array CpInfo := pool [(2, .class_ 4), (1, u "java/lang/Object"), (0, u "<init>"), (0, u "()V"), (0, .methodref 8 9), (0, .class_ 10), (0, .nameAndType 11 12), (0, u "com/example/mended_hedge/mendedhedge/cli/CommandIsHelpPinLaw"), (0, u "pick"), (0, u "(IJICCZ)C"), (0, .methodref 8 14), (0, .nameAndType 15 16), (0, u "make"), (0, u "(ICCCCCCC)Ljava/lang/String;"), (0, .methodref 18 19), (0, .class_ 20), (0, .nameAndType 21 22), (0, u "com/example/mended_hedge/mendedhedge/cli/Command"), (0, u "isHelp"), (0, u "(Ljava/lang/String;)Z"), (0, .long 255), (1, .class_ 26), (0, u "java/lang/String"), (0, .methodref 25 28), (0, .nameAndType 5 29), (0, u "([C)V"), (2, u "law"), (0, u "(IJ)Z")] 3

def k1m0 : Method := { name := "<init>", desc := "()V", sig := { parameters := [], returnType := none }, accessFlags := 1, code := none }
def k1c1 : Code := { maxStack := 8, maxLocals := 16, code := code, exceptionTable := #[], attributes := #[] }
def k1m1 : Method := { name := "law", desc := "(IJ)Z", sig := { parameters := [.int, .long], returnType := some .boolean }, accessFlags := 9, code := some k1c1 }
def k1c2 : Code := { maxStack := 4, maxLocals := 7, code := method_3_code, exceptionTable := #[], attributes := #[] }
def k1m2 : Method := { name := "pick", desc := "(IJICCZ)C", sig := { parameters := [.int, .long, .int, .char, .char, .boolean], returnType := some .char }, accessFlags := 10, code := some k1c2 }
def k1c3 : Code := { maxStack := 6, maxLocals := 8, code := method_4_code, exceptionTable := #[], attributes := #[] }
def k1m3 : Method := { name := "make", desc := "(ICCCCCCC)Ljava/lang/String;", sig := { parameters := [.int, .char, .char, .char, .char, .char, .char, .char], returnType := some (.object "java/lang/String") }, accessFlags := 10, code := some k1c3 }
/-- com/example/mended_hedge/mendedhedge/cli/CommandIsHelpPinLaw -/
def k1 : Class := { plain "com/example/mended_hedge/mendedhedge/cli/CommandIsHelpPinLaw" (some 0) with
  accessFlags := 49
  interfaces := #[]
  cf := some (fileOf pool1 8 #[] #[{ accessFlags := 1, nameIndex := 5, descriptorIndex := 6, attributes := #[] }, { accessFlags := 9, nameIndex := 32, descriptorIndex := 33, attributes := #[] }, { accessFlags := 10, nameIndex := 11, descriptorIndex := 12, attributes := #[] }, { accessFlags := 10, nameIndex := 15, descriptorIndex := 16, attributes := #[] }] 49 2 #[] #[])
  fields := #[]
  methods := #[k1m0, k1m1, k1m2, k1m3]
  instanceTypes := #[]
  staticTypes := #[]
  resolved := Array.replicate 37 none
  statics := none }

def pool2 : Array CpInfo := pool [(1, .class_ 2), (0, u "java/io/Serializable"), (0, .class_ 4), (0, u "java/lang/Object")] 2

/-- java/io/Serializable -/
def k2 : Class := { plain "java/io/Serializable" (some 0) with
  accessFlags := 1537
  interfaces := #[]
  cf := some (fileOf pool2 1 #[] #[] 1537 3 #[] #[])
  fields := #[]
  methods := #[]
  instanceTypes := #[]
  staticTypes := #[]
  resolved := Array.replicate 7 none
  statics := none }

def pool3 : Array CpInfo := pool [(1, .class_ 2), (0, u "java/lang/Comparable"), (0, .class_ 4), (0, u "java/lang/Object")] 7

/-- java/lang/Comparable -/
def k3 : Class := { plain "java/lang/Comparable" (some 0) with
  accessFlags := 1537
  interfaces := #[]
  cf := some (fileOf pool3 1 #[] #[] 1537 3 #[] #[])
  fields := #[]
  methods := #[]
  instanceTypes := #[]
  staticTypes := #[]
  resolved := Array.replicate 12 none
  statics := none }

def pool4 : Array CpInfo := pool [(2, .class_ 4), (1, u "java/lang/CharSequence"), (42, .class_ 48), (0, u "java/lang/CharSequence$1CodePointIterator"), (10, .class_ 60), (0, u "java/lang/CharSequence$1CharIterator"), (5, .class_ 67), (0, u "java/lang/Object")] 63

/-- java/lang/CharSequence -/
def k4 : Class := { plain "java/lang/CharSequence" (some 0) with
  accessFlags := 1537
  interfaces := #[]
  cf := some (fileOf pool4 2 #[.nestMembers #[47, 59]] #[] 1537 66 #[] #[])
  fields := #[]
  methods := #[]
  instanceTypes := #[]
  staticTypes := #[]
  resolved := Array.replicate 131 none
  statics := none }

def pool5 : Array CpInfo := pool [(1, .class_ 2), (0, u "java/lang/constant/Constable"), (0, .class_ 4), (0, u "java/lang/Object")] 6

/-- java/lang/constant/Constable -/
def k5 : Class := { plain "java/lang/constant/Constable" (some 0) with
  accessFlags := 1537
  interfaces := #[]
  cf := some (fileOf pool5 1 #[] #[] 1537 3 #[] #[])
  fields := #[]
  methods := #[]
  instanceTypes := #[]
  staticTypes := #[]
  resolved := Array.replicate 11 none
  statics := none }

def pool6 : Array CpInfo := pool [(1, .class_ 2), (0, u "java/lang/constant/ConstantDesc"), (0, .class_ 4), (0, u "java/lang/Object")] 32

/-- java/lang/constant/ConstantDesc -/
def k6 : Class := { plain "java/lang/constant/ConstantDesc" (some 0) with
  accessFlags := 1537
  interfaces := #[]
  cf := some (fileOf pool6 1 #[] #[] 1537 3 #[] #[])
  fields := #[]
  methods := #[]
  instanceTypes := #[]
  staticTypes := #[]
  resolved := Array.replicate 37 none
  statics := none }

def pool7 : Array CpInfo := pool [(1, .methodref 2 3), (0, .class_ 4), (0, .nameAndType 5 6), (0, u "java/lang/Object"), (0, u "<init>"), (0, u "()V"), (0, .string 8), (0, u ""), (0, .fieldref 10 11), (0, .class_ 12), (0, .nameAndType 13 14), (0, u "java/lang/String"), (0, u "value"), (0, u "[B"), (0, .fieldref 10 16), (0, .nameAndType 17 18), (0, u "coder"), (0, u "B"), (2, u "hash"), (0, u "I"), (2, u "hashIsZero"), (0, u "Z"), (0, .methodref 10 28), (0, .nameAndType 5 29), (0, u "([CIILjava/lang/Void;)V"), (8, .fieldref 10 39), (0, .nameAndType 40 26), (0, u "COMPACT_STRINGS"), (1, .class_ 44), (1, u "java/lang/StringUTF16"), (0, u "compress"), (1, .methodref 42 48), (0, .nameAndType 49 50), (0, u "coderFromArrayLen"), (0, u "([BI)B"), (56, .class_ 109), (1, u "java/lang/StringLatin1"), (67, .methodref 42 178), (0, .nameAndType 45 179), (0, u "([CII)[B"), (361, .methodref 107 542), (0, .nameAndType 543 544), (0, u "equals"), (0, u "([B[B)Z"), (28, u "(Ljava/lang/Object;)Z"), (1, .class_ 576), (0, u "java/lang/CharSequence"), (22, u "CASE_INSENSITIVE_ORDER"), (0, u "Ljava/util/Comparator;"), (409, u "([C)V"), (90, u "serialPersistentFields"), (0, u "[Ljava/io/ObjectStreamField;"), (0, .class_ 1104), (0, u "java/lang/String$CaseInsensitiveComparator"), (1, .class_ 1107), (0, u "java/io/Serializable"), (0, .class_ 1109), (0, u "java/lang/Comparable"), (0, .class_ 1111), (0, u "java/lang/constant/Constable"), (0, .class_ 1113), (0, u "java/lang/constant/ConstantDesc"), (2, u "serialVersionUID"), (0, u "J"), (3, u "REPL"), (0, u "C"), (2, u "LATIN1"), (1, u "UTF16")] 323

def k7m0 : Method := { name := "<init>", desc := "()V", sig := { parameters := [], returnType := none }, accessFlags := 1, code := none }
def k7c1 : Code := { maxStack := 5, maxLocals := 2, code := jdk_42_method_3_code, exceptionTable := #[], attributes := #[] }
def k7m1 : Method := { name := "<init>", desc := "([C)V", sig := { parameters := [(.array .char)], returnType := none }, accessFlags := 1, code := some k7c1 }
def k7c2 : Code := { maxStack := 2, maxLocals := 3, code := jdk_42_method_66_code, exceptionTable := #[], attributes := #[] }
def k7m2 : Method := { name := "equals", desc := "(Ljava/lang/Object;)Z", sig := { parameters := [(.object "java/lang/Object")], returnType := some .boolean }, accessFlags := 1, code := some k7c2 }
def k7c3 : Code := { maxStack := 4, maxLocals := 6, code := jdk_42_method_149_code, exceptionTable := #[], attributes := #[] }
def k7m3 : Method := { name := "<init>", desc := "([CIILjava/lang/Void;)V", sig := { parameters := [(.array .char), .int, .int, (.object "java/lang/Void")], returnType := none }, accessFlags := 2, code := some k7c3 }
/-- java/lang/String -/
def k7 : Class := { plain "java/lang/String" (some 0) with
  accessFlags := 49
  interfaces := #[2, 3, 4, 5, 6]
  cf := some (fileOf pool7 10 #[.nestMembers #[1103]] #[{ accessFlags := 1, nameIndex := 5, descriptorIndex := 6, attributes := #[] }, { accessFlags := 1, nameIndex := 5, descriptorIndex := 1010, attributes := #[] }, { accessFlags := 1, nameIndex := 543, descriptorIndex := 573, attributes := #[] }, { accessFlags := 2, nameIndex := 5, descriptorIndex := 29, attributes := #[] }] 49 2 #[1106, 1108, 575, 1110, 1112] #[{ accessFlags := 18, nameIndex := 13, descriptorIndex := 14, attributes := #[] }, { accessFlags := 18, nameIndex := 17, descriptorIndex := 18, attributes := #[] }, { accessFlags := 2, nameIndex := 21, descriptorIndex := 22, attributes := #[] }, { accessFlags := 2, nameIndex := 25, descriptorIndex := 26, attributes := #[] }, { accessFlags := 26, nameIndex := 1116, descriptorIndex := 1117, attributes := #[] }, { accessFlags := 24, nameIndex := 40, descriptorIndex := 26, attributes := #[] }, { accessFlags := 26, nameIndex := 1101, descriptorIndex := 1102, attributes := #[] }, { accessFlags := 26, nameIndex := 1121, descriptorIndex := 1122, attributes := #[] }, { accessFlags := 25, nameIndex := 599, descriptorIndex := 600, attributes := #[] }, { accessFlags := 24, nameIndex := 1125, descriptorIndex := 18, attributes := #[] }, { accessFlags := 24, nameIndex := 1127, descriptorIndex := 18, attributes := #[] }])
  fields := #[{ name := "value", type := (.array .byte), accessFlags := 18, slot := 0, constantValue := 0 }, { name := "coder", type := .byte, accessFlags := 18, slot := 1, constantValue := 0 }, { name := "hash", type := .int, accessFlags := 2, slot := 2, constantValue := 0 }, { name := "hashIsZero", type := .boolean, accessFlags := 2, slot := 3, constantValue := 0 }, { name := "serialVersionUID", type := .long, accessFlags := 26, slot := 0, constantValue := 0 }, { name := "COMPACT_STRINGS", type := .boolean, accessFlags := 24, slot := 1, constantValue := 0 }, { name := "serialPersistentFields", type := (.array (.object "java/io/ObjectStreamField")), accessFlags := 26, slot := 2, constantValue := 0 }, { name := "REPL", type := .char, accessFlags := 26, slot := 3, constantValue := 0 }, { name := "CASE_INSENSITIVE_ORDER", type := (.object "java/util/Comparator"), accessFlags := 25, slot := 4, constantValue := 0 }, { name := "LATIN1", type := .byte, accessFlags := 24, slot := 5, constantValue := 0 }, { name := "UTF16", type := .byte, accessFlags := 24, slot := 6, constantValue := 0 }]
  methods := #[k7m0, k7m1, k7m2, k7m3]
  instanceTypes := #[(.array .byte), .byte, .int, .boolean]
  staticTypes := #[.long, .boolean, (.array (.object "java/io/ObjectStreamField")), .char, (.object "java/util/Comparator"), .byte, .byte]
  resolved := Array.replicate 1451 none
  statics := some 0 }

def pool8 : Array CpInfo := pool [(2, .class_ 4), (1, u "java/lang/Object"), (6, .class_ 13), (1, u "com/example/mended_hedge/mendedhedge/cli/Command"), (0, u "options"), (0, u "Ljava/util/List;"), (2, u "parameters"), (2, u "exclusions"), (2, u "name"), (0, u "Ljava/lang/String;"), (8, u "description"), (0, .string 36), (0, u "-h"), (0, .string 38), (0, u "--help"), (3, .class_ 44), (1, u "com/example/mended_hedge/mendedhedge/cli/Command$Option"), (5, u "(Ljava/lang/Object;)Z"), (24, .class_ 76), (0, u "com/example/mended_hedge/mendedhedge/cli/Command$Parameter"), (5, u "action"), (0, u "Ljava/util/function/ToIntFunction;"), (4, .class_ 89), (0, u "java/lang/String"), (77, .methodref 88 168), (0, .nameAndType 169 50), (0, u "equals"), (29, u "isHelp"), (0, u "(Ljava/lang/String;)Z"), (52, u "I"), (105, u "HELP"), (1, u "SHORT_HELP"), (0, u "STANDARD_INPUT"), (0, u "HELP_DESCRIPTION"), (0, u "WIDTH"), (1, u "GAP"), (1, u "HANGING_INDENT")] 83

def k8c0 : Code := { maxStack := 2, maxLocals := 1, code := prog_2_method_14_code, exceptionTable := #[], attributes := #[] }
def k8m0 : Method := { name := "isHelp", desc := "(Ljava/lang/String;)Z", sig := { parameters := [(.object "java/lang/String")], returnType := some .boolean }, accessFlags := 8, code := some k8c0 }
/-- com/example/mended_hedge/mendedhedge/cli/Command -/
def k8 : Class := { plain "com/example/mended_hedge/mendedhedge/cli/Command" (some 0) with
  accessFlags := 33
  interfaces := #[]
  cf := some (fileOf pool8 11 #[.nestMembers #[75, 42]] #[{ accessFlags := 8, nameIndex := 199, descriptorIndex := 200, attributes := #[] }] 33 2 #[] #[{ accessFlags := 24, nameIndex := 359, descriptorIndex := 25, attributes := #[] }, { accessFlags := 24, nameIndex := 361, descriptorIndex := 25, attributes := #[] }, { accessFlags := 25, nameIndex := 362, descriptorIndex := 25, attributes := #[] }, { accessFlags := 24, nameIndex := 363, descriptorIndex := 25, attributes := #[] }, { accessFlags := 26, nameIndex := 364, descriptorIndex := 253, attributes := #[] }, { accessFlags := 26, nameIndex := 366, descriptorIndex := 253, attributes := #[] }, { accessFlags := 26, nameIndex := 368, descriptorIndex := 253, attributes := #[] }, { accessFlags := 18, nameIndex := 24, descriptorIndex := 25, attributes := #[] }, { accessFlags := 18, nameIndex := 34, descriptorIndex := 15, attributes := #[] }, { accessFlags := 18, nameIndex := 14, descriptorIndex := 15, attributes := #[] }, { accessFlags := 18, nameIndex := 18, descriptorIndex := 15, attributes := #[] }, { accessFlags := 18, nameIndex := 21, descriptorIndex := 15, attributes := #[] }, { accessFlags := 2, nameIndex := 82, descriptorIndex := 83, attributes := #[] }])
  fields := #[{ name := "HELP", type := (.object "java/lang/String"), accessFlags := 24, slot := 0, constantValue := 0 }, { name := "SHORT_HELP", type := (.object "java/lang/String"), accessFlags := 24, slot := 1, constantValue := 0 }, { name := "STANDARD_INPUT", type := (.object "java/lang/String"), accessFlags := 25, slot := 2, constantValue := 0 }, { name := "HELP_DESCRIPTION", type := (.object "java/lang/String"), accessFlags := 24, slot := 3, constantValue := 0 }, { name := "WIDTH", type := .int, accessFlags := 26, slot := 4, constantValue := 0 }, { name := "GAP", type := .int, accessFlags := 26, slot := 5, constantValue := 0 }, { name := "HANGING_INDENT", type := .int, accessFlags := 26, slot := 6, constantValue := 0 }, { name := "name", type := (.object "java/lang/String"), accessFlags := 18, slot := 0, constantValue := 0 }, { name := "description", type := (.object "java/util/List"), accessFlags := 18, slot := 1, constantValue := 0 }, { name := "options", type := (.object "java/util/List"), accessFlags := 18, slot := 2, constantValue := 0 }, { name := "parameters", type := (.object "java/util/List"), accessFlags := 18, slot := 3, constantValue := 0 }, { name := "exclusions", type := (.object "java/util/List"), accessFlags := 18, slot := 4, constantValue := 0 }, { name := "action", type := (.object "java/util/function/ToIntFunction"), accessFlags := 2, slot := 5, constantValue := 0 }]
  methods := #[k8m0]
  instanceTypes := #[(.object "java/lang/String"), (.object "java/util/List"), (.object "java/util/List"), (.object "java/util/List"), (.object "java/util/List"), (.object "java/util/function/ToIntFunction")]
  staticTypes := #[(.object "java/lang/String"), (.object "java/lang/String"), (.object "java/lang/String"), (.object "java/lang/String"), .int, .int, .int]
  resolved := Array.replicate 452 none
  statics := none }

def pool9 : Array CpInfo := pool [(4, .class_ 6), (1, u "java/lang/Object"), (0, u "<init>"), (0, u "()V"), (5, .class_ 16), (1, u "java/lang/StringLatin1"), (104, u "$assertionsDisabled"), (0, u "Z"), (98, .class_ 223), (1, u "java/lang/StringLatin1$LinesSpliterator"), (57, u "equals"), (0, u "([B[B)Z"), (107, .class_ 391), (0, u "java/lang/StringLatin1$CharsSpliterator")] 3

def k9m0 : Method := { name := "<init>", desc := "()V", sig := { parameters := [], returnType := none }, accessFlags := 0, code := none }
def k9c1 : Code := { maxStack := 3, maxLocals := 3, code := jdk_43_method_13_code, exceptionTable := #[], attributes := #[] }
def k9m1 : Method := { name := "equals", desc := "([B[B)Z", sig := { parameters := [(.array .byte), (.array .byte)], returnType := some .boolean }, accessFlags := 9, code := some k9c1 }
/-- java/lang/StringLatin1 -/
def k9 : Class := { plain "java/lang/StringLatin1" (some 0) with
  accessFlags := 48
  interfaces := #[]
  cf := some (fileOf pool9 14 #[.nestMembers #[390, 221]] #[{ accessFlags := 0, nameIndex := 7, descriptorIndex := 8, attributes := #[] }, { accessFlags := 9, nameIndex := 281, descriptorIndex := 282, attributes := #[] }] 48 4 #[] #[{ accessFlags := 4120, nameIndex := 121, descriptorIndex := 122, attributes := #[] }])
  fields := #[{ name := "$assertionsDisabled", type := .boolean, accessFlags := 4120, slot := 0, constantValue := 0 }]
  methods := #[k9m0, k9m1]
  instanceTypes := #[]
  staticTypes := #[.boolean]
  resolved := Array.replicate 395 none
  statics := none }

def pool10 : Array CpInfo := pool [(6, .class_ 8), (1, u "java/lang/Object"), (0, u "<init>"), (0, u "()V"), (1, .class_ 14), (1, u "java/lang/StringUTF16"), (31, u "$assertionsDisabled"), (0, u "Z"), (13, u "HI_BYTE_SHIFT"), (0, u "I"), (2, u "LO_BYTE_SHIFT"), (49, .methodref 12 116), (0, .nameAndType 117 118), (0, u "compress"), (0, u "([CI[BII)I"), (3, u "([CII)[B"), (138, u "coderFromArrayLen"), (0, u "([BI)B"), (106, .class_ 371), (1, u "java/lang/StringUTF16$LinesSpliterator"), (58, u "MAX_LENGTH"), (196, .class_ 628), (0, u "java/lang/StringUTF16$CodePointsSpliterator"), (0, .class_ 630), (0, u "java/lang/StringUTF16$CharsSpliterator")] 4

def k10m0 : Method := { name := "<init>", desc := "()V", sig := { parameters := [], returnType := none }, accessFlags := 0, code := none }
def k10c1 : Code := { maxStack := 2, maxLocals := 2, code := jdk_52_method_15_code, exceptionTable := #[], attributes := #[] }
def k10m1 : Method := { name := "coderFromArrayLen", desc := "([BI)B", sig := { parameters := [(.array .byte), .int], returnType := some .byte }, accessFlags := 8, code := some k10c1 }
def k10c2 : Code := { maxStack := 5, maxLocals := 6, code := jdk_52_method_16_code, exceptionTable := #[], attributes := #[] }
def k10m2 : Method := { name := "compress", desc := "([CII)[B", sig := { parameters := [(.array .char), .int, .int], returnType := some (.array .byte) }, accessFlags := 9, code := some k10c2 }
def k10c3 : Code := { maxStack := 3, maxLocals := 7, code := jdk_52_method_21_code, exceptionTable := #[], attributes := #[] }
def k10m3 : Method := { name := "compress", desc := "([CI[BII)I", sig := { parameters := [(.array .char), .int, (.array .byte), .int, .int], returnType := some .int }, accessFlags := 9, code := some k10c3 }
/-- java/lang/StringUTF16 -/
def k10 : Class := { plain "java/lang/StringUTF16" (some 0) with
  accessFlags := 48
  interfaces := #[]
  cf := some (fileOf pool10 12 #[.nestMembers #[627, 629, 369]] #[{ accessFlags := 0, nameIndex := 9, descriptorIndex := 10, attributes := #[] }, { accessFlags := 8, nameIndex := 261, descriptorIndex := 262, attributes := #[] }, { accessFlags := 9, nameIndex := 117, descriptorIndex := 122, attributes := #[] }, { accessFlags := 9, nameIndex := 117, descriptorIndex := 118, attributes := #[] }] 48 6 #[] #[{ accessFlags := 26, nameIndex := 61, descriptorIndex := 62, attributes := #[] }, { accessFlags := 26, nameIndex := 65, descriptorIndex := 62, attributes := #[] }, { accessFlags := 24, nameIndex := 430, descriptorIndex := 62, attributes := #[] }, { accessFlags := 4120, nameIndex := 46, descriptorIndex := 47, attributes := #[] }])
  fields := #[{ name := "HI_BYTE_SHIFT", type := .int, accessFlags := 26, slot := 0, constantValue := 0 }, { name := "LO_BYTE_SHIFT", type := .int, accessFlags := 26, slot := 1, constantValue := 0 }, { name := "MAX_LENGTH", type := .int, accessFlags := 24, slot := 2, constantValue := 0 }, { name := "$assertionsDisabled", type := .boolean, accessFlags := 4120, slot := 3, constantValue := 0 }]
  methods := #[k10m0, k10m1, k10m2, k10m3]
  instanceTypes := #[]
  staticTypes := #[.int, .int, .int, .boolean]
  resolved := Array.replicate 635 none
  statics := none }

def pool11 : Array CpInfo := pool [(2, .class_ 4), (1, u "java/lang/Object"), (0, u "<init>"), (0, u "()V"), (17, .class_ 26), (1, u "jdk/internal/util/Preconditions"), (28, .class_ 56), (0, u "jdk/internal/util/Preconditions$4"), (57, .class_ 115), (0, u "jdk/internal/util/Preconditions$1"), (7, u "SIOOBE_FORMATTER"), (0, u "Ljava/util/function/BiFunction;"), (0, .class_ 126), (0, u "jdk/internal/util/Preconditions$2"), (3, u "AIOOBE_FORMATTER"), (0, .class_ 132), (0, u "jdk/internal/util/Preconditions$3"), (3, u "IOOBE_FORMATTER")] 57

def k11m0 : Method := { name := "<init>", desc := "()V", sig := { parameters := [], returnType := none }, accessFlags := 1, code := none }
/-- jdk/internal/util/Preconditions -/
def k11 : Class := { plain "jdk/internal/util/Preconditions" (some 0) with
  accessFlags := 33
  interfaces := #[]
  cf := some (fileOf pool11 24 #[.nestMembers #[55, 131, 125, 114]] #[{ accessFlags := 1, nameIndex := 5, descriptorIndex := 6, attributes := #[] }] 33 2 #[] #[{ accessFlags := 25, nameIndex := 123, descriptorIndex := 124, attributes := #[] }, { accessFlags := 25, nameIndex := 130, descriptorIndex := 124, attributes := #[] }, { accessFlags := 25, nameIndex := 136, descriptorIndex := 124, attributes := #[] }])
  fields := #[{ name := "SIOOBE_FORMATTER", type := (.object "java/util/function/BiFunction"), accessFlags := 25, slot := 0, constantValue := 0 }, { name := "AIOOBE_FORMATTER", type := (.object "java/util/function/BiFunction"), accessFlags := 25, slot := 1, constantValue := 0 }, { name := "IOOBE_FORMATTER", type := (.object "java/util/function/BiFunction"), accessFlags := 25, slot := 2, constantValue := 0 }]
  methods := #[k11m0]
  instanceTypes := #[]
  staticTypes := #[(.object "java/util/function/BiFunction"), (.object "java/util/function/BiFunction"), (.object "java/util/function/BiFunction")]
  resolved := Array.replicate 194 none
  statics := some 1 }

def pool12 : Array CpInfo := pool [(9, u "<init>"), (6, .class_ 18), (1, u "java/lang/Object"), (0, u "()V"), (1, .class_ 23), (1, u "jdk/internal/util/ArraysSupport"), (0, u "LOG2_ARRAY_LONG_INDEX_SCALE"), (0, u "I"), (2, u "U"), (0, u "Ljdk/internal/misc/Unsafe;"), (8, u "BIG_ENDIAN"), (0, u "Z"), (8, u "LOG2_BYTE_BIT_SIZE"), (4, u "LOG2_ARRAY_INT_INDEX_SCALE"), (54, u "JLA"), (0, u "Ljdk/internal/access/JavaLangAccess;"), (11, u "LOG2_ARRAY_BOOLEAN_INDEX_SCALE"), (9, u "LOG2_ARRAY_BYTE_INDEX_SCALE"), (5, u "LOG2_ARRAY_CHAR_INDEX_SCALE"), (5, u "LOG2_ARRAY_SHORT_INDEX_SCALE"), (18, u "LOG2_ARRAY_FLOAT_INDEX_SCALE"), (24, u "LOG2_ARRAY_DOUBLE_INDEX_SCALE"), (89, u "T_BOOLEAN"), (2, u "T_CHAR"), (1, u "T_FLOAT"), (1, u "T_DOUBLE"), (1, u "T_BYTE"), (1, u "T_SHORT"), (1, u "T_INT"), (1, u "T_LONG"), (1, u "SOFT_MAX_ARRAY_LENGTH")] 83

def k12m0 : Method := { name := "<init>", desc := "()V", sig := { parameters := [], returnType := none }, accessFlags := 2, code := none }
/-- jdk/internal/util/ArraysSupport -/
def k12 : Class := { plain "jdk/internal/util/ArraysSupport" (some 0) with
  accessFlags := 33
  interfaces := #[]
  cf := some (fileOf pool12 21 #[] #[{ accessFlags := 2, nameIndex := 9, descriptorIndex := 19, attributes := #[] }] 33 16 #[] #[{ accessFlags := 24, nameIndex := 28, descriptorIndex := 29, attributes := #[] }, { accessFlags := 26, nameIndex := 38, descriptorIndex := 39, attributes := #[] }, { accessFlags := 25, nameIndex := 121, descriptorIndex := 25, attributes := #[] }, { accessFlags := 25, nameIndex := 131, descriptorIndex := 25, attributes := #[] }, { accessFlags := 25, nameIndex := 137, descriptorIndex := 25, attributes := #[] }, { accessFlags := 25, nameIndex := 143, descriptorIndex := 25, attributes := #[] }, { accessFlags := 25, nameIndex := 53, descriptorIndex := 25, attributes := #[] }, { accessFlags := 25, nameIndex := 24, descriptorIndex := 25, attributes := #[] }, { accessFlags := 25, nameIndex := 162, descriptorIndex := 25, attributes := #[] }, { accessFlags := 25, nameIndex := 187, descriptorIndex := 25, attributes := #[] }, { accessFlags := 26, nameIndex := 48, descriptorIndex := 25, attributes := #[] }, { accessFlags := 25, nameIndex := 277, descriptorIndex := 25, attributes := #[] }, { accessFlags := 25, nameIndex := 280, descriptorIndex := 25, attributes := #[] }, { accessFlags := 25, nameIndex := 282, descriptorIndex := 25, attributes := #[] }, { accessFlags := 25, nameIndex := 284, descriptorIndex := 25, attributes := #[] }, { accessFlags := 25, nameIndex := 286, descriptorIndex := 25, attributes := #[] }, { accessFlags := 25, nameIndex := 288, descriptorIndex := 25, attributes := #[] }, { accessFlags := 25, nameIndex := 290, descriptorIndex := 25, attributes := #[] }, { accessFlags := 25, nameIndex := 292, descriptorIndex := 25, attributes := #[] }, { accessFlags := 26, nameIndex := 108, descriptorIndex := 109, attributes := #[] }, { accessFlags := 25, nameIndex := 294, descriptorIndex := 25, attributes := #[] }])
  fields := #[{ name := "U", type := (.object "jdk/internal/misc/Unsafe"), accessFlags := 24, slot := 0, constantValue := 0 }, { name := "BIG_ENDIAN", type := .boolean, accessFlags := 26, slot := 1, constantValue := 0 }, { name := "LOG2_ARRAY_BOOLEAN_INDEX_SCALE", type := .int, accessFlags := 25, slot := 2, constantValue := 0 }, { name := "LOG2_ARRAY_BYTE_INDEX_SCALE", type := .int, accessFlags := 25, slot := 3, constantValue := 0 }, { name := "LOG2_ARRAY_CHAR_INDEX_SCALE", type := .int, accessFlags := 25, slot := 4, constantValue := 0 }, { name := "LOG2_ARRAY_SHORT_INDEX_SCALE", type := .int, accessFlags := 25, slot := 5, constantValue := 0 }, { name := "LOG2_ARRAY_INT_INDEX_SCALE", type := .int, accessFlags := 25, slot := 6, constantValue := 0 }, { name := "LOG2_ARRAY_LONG_INDEX_SCALE", type := .int, accessFlags := 25, slot := 7, constantValue := 0 }, { name := "LOG2_ARRAY_FLOAT_INDEX_SCALE", type := .int, accessFlags := 25, slot := 8, constantValue := 0 }, { name := "LOG2_ARRAY_DOUBLE_INDEX_SCALE", type := .int, accessFlags := 25, slot := 9, constantValue := 0 }, { name := "LOG2_BYTE_BIT_SIZE", type := .int, accessFlags := 26, slot := 10, constantValue := 0 }, { name := "T_BOOLEAN", type := .int, accessFlags := 25, slot := 11, constantValue := 0 }, { name := "T_CHAR", type := .int, accessFlags := 25, slot := 12, constantValue := 0 }, { name := "T_FLOAT", type := .int, accessFlags := 25, slot := 13, constantValue := 0 }, { name := "T_DOUBLE", type := .int, accessFlags := 25, slot := 14, constantValue := 0 }, { name := "T_BYTE", type := .int, accessFlags := 25, slot := 15, constantValue := 0 }, { name := "T_SHORT", type := .int, accessFlags := 25, slot := 16, constantValue := 0 }, { name := "T_INT", type := .int, accessFlags := 25, slot := 17, constantValue := 0 }, { name := "T_LONG", type := .int, accessFlags := 25, slot := 18, constantValue := 0 }, { name := "JLA", type := (.object "jdk/internal/access/JavaLangAccess"), accessFlags := 26, slot := 19, constantValue := 0 }, { name := "SOFT_MAX_ARRAY_LENGTH", type := .int, accessFlags := 25, slot := 20, constantValue := 0 }]
  methods := #[k12m0]
  instanceTypes := #[]
  staticTypes := #[(.object "jdk/internal/misc/Unsafe"), .boolean, .int, .int, .int, .int, .int, .int, .int, .int, .int, .int, .int, .int, .int, .int, .int, .int, .int, (.object "jdk/internal/access/JavaLangAccess"), .int]
  resolved := Array.replicate 378 none
  statics := none }

def pool13 : Array CpInfo := pool [(1, u "java/lang/Cloneable"), (0, .class_ 1), (0, u "java/lang/Object"), (0, .class_ 3)] 3

/-- java/lang/Cloneable -/
def k13 : Class := { plain "java/lang/Cloneable" (some 0) with
  accessFlags := 1537
  interfaces := #[]
  cf := some (fileOf pool13 2 #[] #[] 1537 4 #[] #[])
  fields := #[]
  methods := #[]
  instanceTypes := #[]
  staticTypes := #[]
  resolved := Array.replicate 8 none
  statics := none }

/-- the primitive byte -/
def k14 : Class := { plain "byte" none with kind := .primitive 'B', accessFlags := 0x411 }
/-- [B -/
def k15 : Class := { plain "[B" (some 0) with kind := .array 14 .byte, interfaces := #[13, 2], accessFlags := 1041 }

/-- the primitive char -/
def k16 : Class := { plain "char" none with kind := .primitive 'C', accessFlags := 0x411 }
/-- [C -/
def k17 : Class := { plain "[C" (some 0) with kind := .array 16 .char, interfaces := #[13, 2], accessFlags := 1041 }

/-- the primitive int -/
def k18 : Class := { plain "int" none with kind := .primitive 'I', accessFlags := 0x411 }
/-- [I -/
def k19 : Class := { plain "[I" (some 0) with kind := .array 18 .int, interfaces := #[13, 2], accessFlags := 1041 }

def heap : Heap := #[{ cls := 7, slots := #[.long 0, .int 1, .null, .int 0, .null, .int 0, .int 0], vm := .statics 7 },
  { cls := 11, slots := #[.null, .null, .null], vm := .statics 11 }]
def classes : Array Class := #[k0, k1, k2, k3, k4, k5, k6, k7, k8, k9, k10, k11, k12, k13, k14, k15, k16, k17, k18, k19]
def interned : List (Array UInt16 × Addr) := []
def slotsUsed : Nat := 10
def theMethod : MethodId := ⟨1, 1⟩
def args0 : Array Value := #[.int 5, .long 7]
def aboutOver (below : List Frame) : State where
  vm := { classes := classes, interned := interned.toArray }
  heap := heap
  slotsUsed := slotsUsed
  threads := #[{ frames := .invoking theMethod args0 :: below }]
def below0 : List Frame := [.native { method := ⟨0, 0⟩, args := #[] }]
def about1 : State := aboutOver below0
def p0 : Program := .bare "" "" ""
def e0 : Env := launch0.env 0 0 0
theorem w_frames : about1.frames = Frame.invoking theMethod args0 :: below0 := rfl
set_option maxRecDepth 65536 in
theorem w_args : argsFit about1.vm theMethod args0 = true := by decide +kernel
set_option maxRecDepth 65536 in
theorem w_heap : heapFits about1 = true := by decide +kernel
set_option maxRecDepth 65536 in
theorem w_runnable : about1.curStatus? = some .runnable := by decide +kernel
set_option maxRecDepth 65536 in
theorem w_alone : about1.alone = true := by decide +kernel
set_option maxRecDepth 65536 in
theorem w_named : about1.methodNamed? x = some theMethod := by decide +kernel
set_option maxRecDepth 65536 in
theorem w_hears : about1.hears theMethod below0 = true := by decide +kernel
set_option maxRecDepth 65536 in
theorem w_ripe : about1.ripe theMethod args0 below0 = true := by decide +kernel
theorem w_running : about1.status = .running := rfl
set_option maxRecDepth 65536 in
theorem w_room : about1.hasRoom e0.platform room_1 = true :=
  launch0.hasRoom_least _ room_1 (by decide +kernel) (by decide +kernel) (by decide +kernel) (by decide +kernel) (by decide +kernel) (by decide +kernel)
theorem allAtoms_all (ts : List Jvm.Cond) (a : Array Jvm.Value) (st : Jvm.State) : (allAtoms ts).before a st = ts.all (fun c => c.before a st) := by
  induction ts with
  | nil => rfl
  | cons c t ih =>
    show (Jvm.Cond.and c (allAtoms t)).before a st = _
    rw [Jvm.Cond.before_and, ih, List.all_cons]
def words1 : List Jvm.Cond := Jvm.Cond.code x code maxLocals ret :: tables_1
/-- a 'code' word, met by the world's own term for the bytes: nothing is compared byte by byte -/
theorem code_word {y : MethodName} {bytes : ByteArray} {mx : Nat} {rt : Option FieldType} {a : Array Value} {s : State} {m : MethodId} {meth : Method} {c : Code} (h1 : s.methodNamed? y = some m) (h2 : s.vm.method? m = some meth) (h3 : meth.code = some c) (h4 : c.code = bytes)
    (h5 : (c.maxLocals == mx && c.exceptionTable.isEmpty && decide (c.maxStack ≤ mostOperands) && decide (meth.sig.returnType = rt) && !meth.locks && decide (parseMethodDescriptor y.desc = some meth.sig)) = true) : (Jvm.Cond.code y bytes mx rt).before a s = true := by
  simp only [Bool.and_eq_true, beq_iff_eq, Bool.not_eq_true', decide_eq_true_eq] at h5
  obtain ⟨⟨⟨⟨⟨g1, g2⟩, g3⟩, g4⟩, g5⟩, g6⟩ := h5
  simp [Cond.before, Cond.holds, Cond.value, h1, h2, h3, h4, g1, g2, g3, g4, g5, g6]
def isCode : Jvm.Cond → Bool
  | .code _ _ _ _ => true
  | _ => false
theorem all_split {L : List Jvm.Cond} {P : Jvm.Cond → Bool} (h1 : L.all (fun c => isCode c || P c) = true) (h2 : ∀ c ∈ L.filter isCode, P c = true) : L.all P = true := by
  refine List.all_eq_true.mpr fun c hc => ?_
  have h := List.all_eq_true.mp h1 c hc
  rcases Bool.eq_false_or_eq_true (isCode c) with hi | hi
  · exact h2 c (List.mem_filter.mpr ⟨hc, hi⟩)
  · simpa [hi] using h
set_option maxRecDepth 65536 in
theorem w_c0 : (Jvm.Cond.code x code maxLocals ret).before args0 about1 = true := code_word (m := ⟨1, 1⟩) (meth := k1m1) (c := k1c1) (by decide +kernel) rfl rfl rfl (by decide +kernel)
set_option maxRecDepth 65536 in
theorem w_c1 : (Jvm.Cond.code ({ cls := "com/example/mended_hedge/mendedhedge/cli/CommandIsHelpPinLaw", name := "pick", desc := "(IJICCZ)C" } : Jvm.MethodName) method_3_code (7 : Nat) (Option.some Jvm.ClassFile.FieldType.char)).before args0 about1 = true := code_word (m := ⟨1, 2⟩) (meth := k1m2) (c := k1c2) (by decide +kernel) rfl rfl rfl (by decide +kernel)
set_option maxRecDepth 65536 in
theorem w_c2 : (Jvm.Cond.code ({ cls := "com/example/mended_hedge/mendedhedge/cli/CommandIsHelpPinLaw", name := "make", desc := "(ICCCCCCC)Ljava/lang/String;" } : Jvm.MethodName) method_4_code (8 : Nat) (Option.some (Jvm.ClassFile.FieldType.object "java/lang/String"))).before args0 about1 = true := code_word (m := ⟨1, 3⟩) (meth := k1m3) (c := k1c3) (by decide +kernel) rfl rfl rfl (by decide +kernel)
set_option maxRecDepth 65536 in
theorem w_c3 : (Jvm.Cond.code ({ cls := "java/lang/String", name := "<init>", desc := "([C)V" } : Jvm.MethodName) jdk_42_method_3_code (2 : Nat) (Option.none : Option Jvm.ClassFile.FieldType)).before args0 about1 = true := code_word (m := ⟨7, 1⟩) (meth := k7m1) (c := k7c1) (by decide +kernel) rfl rfl rfl (by decide +kernel)
set_option maxRecDepth 65536 in
theorem w_c4 : (Jvm.Cond.code ({ cls := "java/lang/String", name := "<init>", desc := "([CIILjava/lang/Void;)V" } : Jvm.MethodName) jdk_42_method_149_code (6 : Nat) (Option.none : Option Jvm.ClassFile.FieldType)).before args0 about1 = true := code_word (m := ⟨7, 3⟩) (meth := k7m3) (c := k7c3) (by decide +kernel) rfl rfl rfl (by decide +kernel)
set_option maxRecDepth 65536 in
theorem w_c5 : (Jvm.Cond.code ({ cls := "java/lang/Object", name := "<init>", desc := "()V" } : Jvm.MethodName) object_method_1_code (1 : Nat) (Option.none : Option Jvm.ClassFile.FieldType)).before args0 about1 = true := code_word (m := ⟨0, 0⟩) (meth := k0m0) (c := k0c0) (by decide +kernel) rfl rfl rfl (by decide +kernel)
set_option maxRecDepth 65536 in
theorem w_c6 : (Jvm.Cond.code ({ cls := "com/example/mended_hedge/mendedhedge/cli/Command", name := "isHelp", desc := "(Ljava/lang/String;)Z" } : Jvm.MethodName) prog_2_method_14_code (1 : Nat) (Option.some Jvm.ClassFile.FieldType.boolean)).before args0 about1 = true := code_word (m := ⟨8, 0⟩) (meth := k8m0) (c := k8c0) (by decide +kernel) rfl rfl rfl (by decide +kernel)
set_option maxRecDepth 65536 in
theorem w_c7 : (Jvm.Cond.code ({ cls := "java/lang/String", name := "equals", desc := "(Ljava/lang/Object;)Z" } : Jvm.MethodName) jdk_42_method_66_code (3 : Nat) (Option.some Jvm.ClassFile.FieldType.boolean)).before args0 about1 = true := code_word (m := ⟨7, 2⟩) (meth := k7m2) (c := k7c2) (by decide +kernel) rfl rfl rfl (by decide +kernel)
set_option maxRecDepth 65536 in
theorem w_c8 : (Jvm.Cond.code ({ cls := "java/lang/StringLatin1", name := "equals", desc := "([B[B)Z" } : Jvm.MethodName) jdk_43_method_13_code (3 : Nat) (Option.some Jvm.ClassFile.FieldType.boolean)).before args0 about1 = true := code_word (m := ⟨9, 1⟩) (meth := k9m1) (c := k9c1) (by decide +kernel) rfl rfl rfl (by decide +kernel)
set_option maxRecDepth 65536 in
theorem w_c9 : (Jvm.Cond.code ({ cls := "java/lang/StringUTF16", name := "compress", desc := "([CII)[B" } : Jvm.MethodName) jdk_52_method_16_code (6 : Nat) (Option.some (Jvm.ClassFile.FieldType.array Jvm.ClassFile.FieldType.byte))).before args0 about1 = true := code_word (m := ⟨10, 2⟩) (meth := k10m2) (c := k10c2) (by decide +kernel) rfl rfl rfl (by decide +kernel)
set_option maxRecDepth 65536 in
theorem w_c10 : (Jvm.Cond.code ({ cls := "java/lang/StringUTF16", name := "compress", desc := "([CI[BII)I" } : Jvm.MethodName) jdk_52_method_21_code (7 : Nat) (Option.some Jvm.ClassFile.FieldType.int)).before args0 about1 = true := code_word (m := ⟨10, 3⟩) (meth := k10m3) (c := k10c3) (by decide +kernel) rfl rfl rfl (by decide +kernel)
set_option maxRecDepth 65536 in
theorem w_c11 : (Jvm.Cond.code ({ cls := "java/lang/StringUTF16", name := "coderFromArrayLen", desc := "([BI)B" } : Jvm.MethodName) jdk_52_method_15_code (2 : Nat) (Option.some Jvm.ClassFile.FieldType.byte)).before args0 about1 = true := code_word (m := ⟨10, 1⟩) (meth := k10m1) (c := k10c1) (by decide +kernel) rfl rfl rfl (by decide +kernel)
def codes1 : List Jvm.Cond := [Jvm.Cond.code x code maxLocals ret, Jvm.Cond.code ({ cls := "com/example/mended_hedge/mendedhedge/cli/CommandIsHelpPinLaw", name := "pick", desc := "(IJICCZ)C" } : Jvm.MethodName) method_3_code (7 : Nat) (Option.some Jvm.ClassFile.FieldType.char), Jvm.Cond.code ({ cls := "com/example/mended_hedge/mendedhedge/cli/CommandIsHelpPinLaw", name := "make", desc := "(ICCCCCCC)Ljava/lang/String;" } : Jvm.MethodName) method_4_code (8 : Nat) (Option.some (Jvm.ClassFile.FieldType.object "java/lang/String")), Jvm.Cond.code ({ cls := "java/lang/String", name := "<init>", desc := "([C)V" } : Jvm.MethodName) jdk_42_method_3_code (2 : Nat) (Option.none : Option Jvm.ClassFile.FieldType), Jvm.Cond.code ({ cls := "java/lang/String", name := "<init>", desc := "([CIILjava/lang/Void;)V" } : Jvm.MethodName) jdk_42_method_149_code (6 : Nat) (Option.none : Option Jvm.ClassFile.FieldType), Jvm.Cond.code ({ cls := "java/lang/Object", name := "<init>", desc := "()V" } : Jvm.MethodName) object_method_1_code (1 : Nat) (Option.none : Option Jvm.ClassFile.FieldType), Jvm.Cond.code ({ cls := "com/example/mended_hedge/mendedhedge/cli/Command", name := "isHelp", desc := "(Ljava/lang/String;)Z" } : Jvm.MethodName) prog_2_method_14_code (1 : Nat) (Option.some Jvm.ClassFile.FieldType.boolean), Jvm.Cond.code ({ cls := "java/lang/String", name := "equals", desc := "(Ljava/lang/Object;)Z" } : Jvm.MethodName) jdk_42_method_66_code (3 : Nat) (Option.some Jvm.ClassFile.FieldType.boolean), Jvm.Cond.code ({ cls := "java/lang/StringLatin1", name := "equals", desc := "([B[B)Z" } : Jvm.MethodName) jdk_43_method_13_code (3 : Nat) (Option.some Jvm.ClassFile.FieldType.boolean), Jvm.Cond.code ({ cls := "java/lang/StringUTF16", name := "compress", desc := "([CII)[B" } : Jvm.MethodName) jdk_52_method_16_code (6 : Nat) (Option.some (Jvm.ClassFile.FieldType.array Jvm.ClassFile.FieldType.byte)), Jvm.Cond.code ({ cls := "java/lang/StringUTF16", name := "compress", desc := "([CI[BII)I" } : Jvm.MethodName) jdk_52_method_21_code (7 : Nat) (Option.some Jvm.ClassFile.FieldType.int), Jvm.Cond.code ({ cls := "java/lang/StringUTF16", name := "coderFromArrayLen", desc := "([BI)B" } : Jvm.MethodName) jdk_52_method_15_code (2 : Nat) (Option.some Jvm.ClassFile.FieldType.byte)]
set_option maxRecDepth 65536 in
theorem codes_eq : words1.filter isCode = codes1 := rfl
theorem w_codes : ∀ c ∈ words1.filter isCode, c.before args0 about1 = true := by
  rw [codes_eq]
  intro c hc
  simp only [codes1, List.mem_cons, List.not_mem_nil, or_false] at hc
  rcases hc with rfl | rfl | rfl | rfl | rfl | rfl | rfl | rfl | rfl | rfl | rfl | rfl
  · exact w_c0
  · exact w_c1
  · exact w_c2
  · exact w_c3
  · exact w_c4
  · exact w_c5
  · exact w_c6
  · exact w_c7
  · exact w_c8
  · exact w_c9
  · exact w_c10
  · exact w_c11
set_option maxRecDepth 65536 in
theorem w_t1 : (words1.take 24).all (fun c => isCode c || c.before args0 about1) = true := by decide +kernel
set_option maxRecDepth 65536 in
theorem w_t2 : ((words1.drop 24).take 24).all (fun c => isCode c || c.before args0 about1) = true := by decide +kernel
set_option maxRecDepth 65536 in
theorem w_t3 : ((words1.drop 24).drop 24).all (fun c => isCode c || c.before args0 about1) = true := by decide +kernel
theorem w_tables : (allAtoms (Jvm.Cond.code x code maxLocals ret :: tables_1)).before args0 about1 = true := by
  rw [allAtoms_all]
  show words1.all (fun c => c.before args0 about1) = true
  refine all_split ?_ w_codes
  rw [← List.take_append_drop 24 words1, List.all_append, w_t1, ← List.take_append_drop 24 (words1.drop 24), List.all_append, w_t2, w_t3]
  rfl
set_option maxRecDepth 65536 in
theorem w_rest : rest_1_c.before args0 about1 = true := by decide +kernel
set_option maxRecDepth 65536 in
theorem w_case : (Jvm.Cond.and given_1 narrow_1).before args0 about1 = true := by decide +kernel
set_option maxRecDepth 65536 in
theorem w_consts : constsHeld consts_1 about1 := Jvm.Lit.constsHeldB_iff.mp (by decide +kernel)
theorem w_applies : (headSpec (Jvm.Cond.code x code maxLocals ret :: tables_1) room_1).applies x e0.platform about1 = true :=
  (Spec.applies_iff w_frames).mpr ⟨w_running, w_runnable, w_alone, w_named, w_hears, w_ripe, w_room, w_tables⟩
theorem atStart : AtStart classFile x code maxLocals ret World_1 tables_1 room_1 Calls_1 rest_1 Pre_1 launch0 p0 e0 about1 theMethod args0 below0 :=
  ⟨lists_1, trivial, launch0.admits_env _ _ _, launch0.least_env, fairChoices_fair.cas, fairChoices_fair.clock, w_frames, w_args, w_heap, w_applies, ⟨w_consts, trivial⟩, w_rest, w_case⟩
end start1
theorem witness_1 : WitnessClaimed_1 := ⟨start1.p0, start1.e0, start1.about1, start1.theMethod, start1.args0, start1.below0, start1.atStart⟩
end Jvm.Pilot.@@N@@
