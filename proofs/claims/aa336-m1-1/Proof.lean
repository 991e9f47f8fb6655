import JvmDerived
import JvmDerived.Pilot.@@N@@Statement
import JvmDerived.Pilot.@@N@@Code
set_option linter.unusedVariables false
set_option linter.unusedSimpArgs false
namespace Jvm.RoadKit
open Sem ClassFile Op Lib Jvm.Stand Jvm.Free Jvm.LawKit
section New
variable {p : Program} {l : Launch} {e : Env} {R : Room} {s : State} {m : MethodId} {args : Array Value} {below : List Frame} {meth : Method} {c : Code} {T : State} {locs : List Loc} {cells slots : Nat}
theorem retI (X : Stand p l e R s m args below meth c T locs cells slots) (hx : p.tables.exec = Jvm.exec) {pc : Nat} {Ls : Array Slot} {z : Int32} {rest : List Value} (hret : meth.sig.returnType = some .int) (hd : decode c.code pc = .ok (.ireturn, 1)) {fs : List Frame}
    (hl : ∀ (f : JFrame) (acts : List Action), f.method = m → f.locked = none → f.entered = [] → (doReturn e (T.setTop f) acts (some (.int z))).1 = T.setFrames fs) : Steps p.tables e below (T.setTop (mkF m pc Ls (.int z :: rest))) (T.setFrames fs) := by
  have hm' : T.vm.method? m = some meth := X.method'
  have hn : narrow .int (.int z) = .int z := rfl
  show Steps p.tables e below (T.setTop { method := m, pc := pc, locals := Ls, stack := _ :: rest, locked := none }) _
  jvm_step X.here [X.here.top, hx, hd, hm', hret, hn]
  first | (intro acts; rw [hl _ acts rfl rfl rfl]) | rw [hl _ _ rfl rfl rfl]
  exact Steps.refl _
theorem retD (X : Stand p l e R s m args below meth c T locs cells slots) (hx : p.tables.exec = Jvm.exec) {pc : Nat} {Ls : Array Slot} {z : UInt64} {rest : List Value} (hret : meth.sig.returnType = some .double) (hd : decode c.code pc = .ok (.dreturn, 1)) {fs : List Frame}
    (hl : ∀ (f : JFrame) (acts : List Action), f.method = m → f.locked = none → f.entered = [] → (doReturn e (T.setTop f) acts (some (.double z))).1 = T.setFrames fs) : Steps p.tables e below (T.setTop (mkF m pc Ls (.double z :: rest))) (T.setFrames fs) := by
  have hm' : T.vm.method? m = some meth := X.method'
  have hn : narrow .double (.double z) = .double z := rfl
  show Steps p.tables e below (T.setTop { method := m, pc := pc, locals := Ls, stack := _ :: rest, locked := none }) _
  jvm_step X.here [X.here.top, hx, hd, hm', hret, hn]
  first | (intro acts; rw [hl _ acts rfl rfl rfl]) | rw [hl _ _ rfl rfl rfl]
  exact Steps.refl _
end New
end Jvm.RoadKit
/- laws to paste: Road.backV (cut by pick.py; bodies as the Statement names them) -/
namespace Jvm.Pilot.@@N@@
namespace StrChars
open Jvm Sem ClassFile Op Lib Jvm.Stand Jvm.Free.XT Jvm.Free.ALB Jvm.Free.JM Jvm.Free
open Jvm.Lib.Cold (StaticIs)
/-- a char array whose places are chars -/
def Ch (a : Addr) (A : Cell) (U : State) : Prop := Arr .char a A U ∧ Typed .char A
theorem Ch.mv {a : Addr} {A : Cell} {U U' : State} (h : Ch a A U) (hal : U.vm.Alike U'.vm) (hh : U'.heap = U.heap) : Ch a A U' := ⟨h.1.mv hal hh, h.2⟩
theorem Ch.keep {a : Addr} {A : Cell} {U U' : State} (h : Ch a A U) (hal : U.vm.Alike U'.vm) (hk : U'.heap[a]? = some A) : Ch a A U' := ⟨h.1.keep hal hk, h.2⟩
/-- what place i of a char[]'s cell holds -/
def cv (A : Cell) (i : Nat) : Int32 := match A.slots[i]? with | some (.int x) => x | _ => 0
theorem Ch.get {a : Addr} {A : Cell} {U : State} (h : Ch a A U) {i : Nat} (hi : i < A.slots.size) : A.slots[i]? = some (.int (cv A i)) := by
  have e := Array.getElem?_eq_getElem hi
  have f := h.2 i _ e
  unfold cv; rw [e]
  generalize A.slots[i] = v at f
  cases v <;> simp [fits] at f ⊢
/-- the byte that i2b leaves of a char -/
def lo8 (x : Int32) : Int32 := x.toInt8.toInt32
theorem fits_lo8 (y : Int32) : fits .byte (.int (lo8 y)) = true := by
  have h1 := y.toInt8.le_toInt
  have h2 := y.toInt8.toInt_lt
  simp only [lo8, fits, Bool.and_eq_true, decide_eq_true_eq, Int32.le_iff_toInt_le, Int8.toInt_toInt32, show (-128 : Int32).toInt = -128 from by decide, show (127 : Int32).toInt = 127 from by decide]
  omega
/-- A' is A but that each place j of lo .. hi - 1 holds f j -/
def Laid (A A' : Cell) (lo hi : Nat) (f : Nat → Value) : Prop := A'.cls = A.cls ∧ A'.vm = A.vm ∧ A'.slots.size = A.slots.size ∧ ∀ i, A'.slots[i]? = if lo ≤ i ∧ i < hi then some (f i) else A.slots[i]?
theorem Laid.zero (A : Cell) (lo : Nat) (f : Nat → Value) : Laid A A lo (lo + 0) f := ⟨rfl, rfl, rfl, fun i => by rw [if_neg (by omega)]⟩
theorem Laid.step {A Ak : Cell} {lo k : Nat} {f : Nat → Value} {v : Value} (h : Laid A Ak lo k f) (hlo : lo ≤ k) (hk : k < Ak.slots.size) (hv : v = f k) : Laid A (Ak.setSlot k v) lo (k + 1) f := by
  refine ⟨h.1, h.2.1, by simpa [Cell.setSlot] using h.2.2.1, fun i => ?_⟩
  by_cases e : k = i
  · subst e; rw [Cell.slots_setSlot_self v hk, if_pos (by omega), hv]
  · rw [Cell.slots_setSlot_ne v e, h.2.2.2 i]
    by_cases q : lo ≤ i ∧ i < k
    · rw [if_pos q, if_pos (by omega)]
    · rw [if_neg q, if_neg (by omega)]
def U16 : String := "java/lang/StringUTF16"
namespace Cmp5
def yN : MethodName := ⟨"java/lang/StringUTF16", "compress", "([CI[BII)I"⟩
abbrev yB : ByteArray := jdk_52_method_21_code
theorem d0 : decode yB 0 = .ok (.iconst 0, 1) := by decide +kernel
theorem d1 : decode yB 1 = .ok (.istore 5, 2) := by decide +kernel
theorem d3 : decode yB 3 = .ok (.iload 5, 2) := by decide +kernel
theorem d5 : decode yB 5 = .ok (.iload 4, 2) := by decide +kernel
theorem d7 : decode yB 7 = .ok (.if_icmp (.ge) 37, 3) := by decide +kernel
theorem d10 : decode yB 10 = .ok (.aload_n 0, 1) := by decide +kernel
theorem d11 : decode yB 11 = .ok (.iload_n 1, 1) := by decide +kernel
theorem d12 : decode yB 12 = .ok (.caload, 1) := by decide +kernel
theorem d13 : decode yB 13 = .ok (.istore 6, 2) := by decide +kernel
theorem d15 : decode yB 15 = .ok (.iload 6, 2) := by decide +kernel
theorem d17 : decode yB 17 = .ok (.sipush 255, 3) := by decide +kernel
theorem d20 : decode yB 20 = .ok (.if_icmp (.le) 6, 3) := by decide +kernel
theorem d26 : decode yB 26 = .ok (.aload_n 2, 1) := by decide +kernel
theorem d27 : decode yB 27 = .ok (.iload_n 3, 1) := by decide +kernel
theorem d28 : decode yB 28 = .ok (.iload 6, 2) := by decide +kernel
theorem d30 : decode yB 30 = .ok (.i2b, 1) := by decide +kernel
theorem d31 : decode yB 31 = .ok (.bastore, 1) := by decide +kernel
theorem d32 : decode yB 32 = .ok (.iinc 1 1, 3) := by decide +kernel
theorem d35 : decode yB 35 = .ok (.iinc 3 1, 3) := by decide +kernel
theorem d38 : decode yB 38 = .ok (.iinc 5 1, 3) := by decide +kernel
theorem d41 : decode yB 41 = .ok (.goto (-38), 3) := by decide +kernel
theorem d44 : decode yB 44 = .ok (.iload 4, 2) := by decide +kernel
theorem d46 : decode yB 46 = .ok (.ireturn, 1) := by decide +kernel
def site : List Cond := []
def tab : Cond := tabOf yN yB 7 (some .int) site
def P (b : Addr) (A : Cell) (d : Addr) (B : Cell) (o q len : Nat) (args : Array Value) (s : State) : Prop := args = #[.ref b, .int (Int32.ofNat o), .ref d, .int (Int32.ofNat q), .int (Int32.ofNat len)] ∧ Ch b A s ∧ Arr .byte d B s ∧ b ≠ d ∧ o + len ≤ A.slots.size ∧ q + len ≤ B.slots.size ∧ ∀ i, i < len → ¬ 255 < cv A (o + i)
def E (b : Addr) (A : Cell) (d : Addr) (B : Cell) (o q len : Nat) (r : Option Value) (s u : State) : Prop := r = some (.int (Int32.ofNat len)) ∧ ∃ B', Put d B' s u ∧ Laid B B' q (q + len) (fun j => Value.int (lo8 (cv A (o + (j - q)))))
/-- no char of the range above 255: len; the places written hold each char's low byte -/
theorem law (l : Launch) (b : Addr) (A : Cell) (d : Addr) (B : Cell) (o q len : Nat) : Law l yN 5 5 0 0 yB 7 (some .int) site (P b A d B o q len) (E b A d B o q len) (copyLocs d q len) 0 0 := by
  refine Law.of_walk (plainFor_of_name (by decide +kernel)) (by decide +kernel) (by decide +kernel) (by decide) (fun _ _ h => by rw [h.1]; rfl) (fun _ U U' hal hh h => ⟨h.1, h.2.1.mv hal hh, h.2.2.1.mv hal hh, h.2.2.2⟩) (fun r U U' V V' h1 hal h2 h => ⟨h.1, h.2.elim fun B' q => ⟨B', q.1.mv h1 h2, q.2⟩⟩) ?_
  intro p e s m args below meth c s₁ X0 hexec hbytes hml hret hlk hnm hown hh0 W hP
  obtain ⟨rfl, hA, hB, hne, l1, l2, hp⟩ := hP
  have c1 : Steps p.tables e below (s₁.setTop (entryFrame m #[.ref b, .int (Int32.ofNat o), .ref d, .int (Int32.ofNat q), .int (Int32.ofNat len)] 7)) (s₁.setTop (mkF m 0 #[.val (.ref b), .val (.int (Int32.ofNat o)), .val (.ref d), .val (.int (Int32.ofNat q)), .val (.int (Int32.ofNat len)), .unset, .unset] [])) := entry rfl
  have hA0 := hA.1.mv X0.warmed.alike hh0
  have hB0 := hB.mv X0.warmed.alike hh0
  have a31 := hA.1.2.2.2
  have c2 : Steps p.tables e below (s₁.setTop (entryFrame m #[.ref b, .int (Int32.ofNat o), .ref d, .int (Int32.ofNat q), .int (Int32.ofNat len)] 7)) (s₁.setTop (mkF m 3 #[.val (.ref b), .val (.int (Int32.ofNat o)), .val (.ref d), .val (.int (Int32.ofNat q)), .val (.int (Int32.ofNat len)), .val (.int 0), .unset] [])) := c1.trans (by
    refine iconstV X0.here hexec rfl 0 (hb hbytes d0) (by decide) ?_
    refine XS.istore X0.here hexec rfl (hb hbytes d1) rfl rfl ?_
    exact Steps.refl _)
  have loop : ∀ (r i : Nat), i + r = len → ∀ (z : Slot), (z = .unset ∨ ∃ w, z = .val w ∧ w.category = 1) → ∀ (Tl : State) (Bk : Cell), Stand p l e { frames := 0, locals := 0, cells := 0, slots := 0 } s m #[.ref b, .int (Int32.ofNat o), .ref d, .int (Int32.ofNat q), .int (Int32.ofNat len)] below meth c Tl ([] ++ copyLocs d q i) 0 0 → Put d Bk s₁ Tl → Laid B Bk q (q + i) (fun j => Value.int (lo8 (cv A (o + (j - q))))) →
      Steps p.tables e below (s₁.setTop (entryFrame m #[.ref b, .int (Int32.ofNat o), .ref d, .int (Int32.ofNat q), .int (Int32.ofNat len)] 7)) (Tl.setTop (mkF m 3 #[.val (.ref b), .val (.int (Int32.ofNat (o + i))), .val (.ref d), .val (.int (Int32.ofNat (q + i))), .val (.int (Int32.ofNat len)), .val (.int (Int32.ofNat i)), z] [])) → ∃ (T' : State) (B' : Cell) (z' : Slot), Stand p l e { frames := 0, locals := 0, cells := 0, slots := 0 } s m #[.ref b, .int (Int32.ofNat o), .ref d, .int (Int32.ofNat q), .int (Int32.ofNat len)] below meth c T' ([] ++ copyLocs d q len) 0 0 ∧ Put d B' s₁ T' ∧ Laid B B' q (q + len) (fun j => Value.int (lo8 (cv A (o + (j - q))))) ∧
      Steps p.tables e below (s₁.setTop (entryFrame m #[.ref b, .int (Int32.ofNat o), .ref d, .int (Int32.ofNat q), .int (Int32.ofNat len)] 7)) (T'.setTop (mkF m 3 #[.val (.ref b), .val (.int (Int32.ofNat (o + len))), .val (.ref d), .val (.int (Int32.ofNat (q + len))), .val (.int (Int32.ofNat len)), .val (.int (Int32.ofNat len)), z'] [])) := by
    intro r
    induction r with
    | zero =>
      intro i hi z hz Tl Bk Xl pl fl cl
      have hil : i = len := by omega
      rw [hil] at Xl fl cl
      exact ⟨Tl, Bk, z, Xl, pl, fl, cl⟩
    | succ r ih =>
      intro i hi z hz Tl Bk Xl pl fl cl
      have all := X0.warmed.alike.symm.trans Xl.warmed.alike
      have hAl := hA0.keep all (pl.other hne hA0.1)
      have hBk := hB0.like all pl.1 fl.1 fl.2.1 fl.2.2.1
      have hlt : q + i < Bk.slots.size := by rw [fl.2.2.1]; omega
      have c3 : Steps p.tables e below (s₁.setTop (entryFrame m #[.ref b, .int (Int32.ofNat o), .ref d, .int (Int32.ofNat q), .int (Int32.ofNat len)] 7)) (Tl.setTop (mkF m 12 #[.val (.ref b), .val (.int (Int32.ofNat (o + i))), .val (.ref d), .val (.int (Int32.ofNat (q + i))), .val (.int (Int32.ofNat len)), .val (.int (Int32.ofNat i)), z] [.int (Int32.ofNat (o + i)), .ref b])) := cl.trans (by
        refine XS.iload Xl.here hexec rfl (hb hbytes d3) rfl ?_
        refine XS.iload Xl.here hexec rfl (hb hbytes d5) rfl ?_
        refine XS.icmpNo Xl.here hexec rfl (hb hbytes d7) rfl (ii_ge_f (lt32 (by omega) (by omega))) ?_
        refine XS.aloadN Xl.here hexec rfl (hb hbytes d10) rfl rfl ?_
        refine XS.iloadN Xl.here hexec rfl (hb hbytes d11) rfl ?_
        exact Steps.refl _)
      have c4 : Steps p.tables e below (s₁.setTop (entryFrame m #[.ref b, .int (Int32.ofNat o), .ref d, .int (Int32.ofNat q), .int (Int32.ofNat len)] 7)) (Tl.setTop (mkF m 13 #[.val (.ref b), .val (.int (Int32.ofNat (o + i))), .val (.ref d), .val (.int (Int32.ofNat (q + i))), .val (.int (Int32.ofNat len)), .val (.int (Int32.ofNat i)), z] [.int (cv A (o + i))])) := c3.trans (by
        refine Xl.aget hexec hAl rfl (hA.get (i := o + i) (by omega)) rfl rfl (hb hbytes d12) ?_
        exact Steps.refl _)
      have c5 : Steps p.tables e below (s₁.setTop (entryFrame m #[.ref b, .int (Int32.ofNat o), .ref d, .int (Int32.ofNat q), .int (Int32.ofNat len)] 7)) (Tl.setTop (mkF m 15 #[.val (.ref b), .val (.int (Int32.ofNat (o + i))), .val (.ref d), .val (.int (Int32.ofNat (q + i))), .val (.int (Int32.ofNat len)), .val (.int (Int32.ofNat i)), .val (.int (cv A (o + i)))] [])) := c4.trans (by
        refine XS.istoreS Xl.here hexec rfl (hb hbytes d13) rfl rfl hz ?_
        exact Steps.refl _)
      have c6 : Steps p.tables e below (s₁.setTop (entryFrame m #[.ref b, .int (Int32.ofNat o), .ref d, .int (Int32.ofNat q), .int (Int32.ofNat len)] 7)) (Tl.setTop (mkF m 31 #[.val (.ref b), .val (.int (Int32.ofNat (o + i))), .val (.ref d), .val (.int (Int32.ofNat (q + i))), .val (.int (Int32.ofNat len)), .val (.int (Int32.ofNat i)), .val (.int (cv A (o + i)))] [.int (lo8 (cv A (o + i))), .int (Int32.ofNat (q + i)), .ref d])) := c5.trans (by
        refine XS.iload Xl.here hexec rfl (hb hbytes d15) rfl ?_
        refine sipushV Xl.here hexec rfl 255 (hb hbytes d17) (by decide) ?_
        refine XS.icmpYes Xl.here hexec rfl (pc0 := 20) rfl (hb hbytes d20) rfl (ii_le_t (hp i (by omega))) (by decide) rfl ?_
        refine XS.aloadN Xl.here hexec rfl (hb hbytes d26) rfl rfl ?_
        refine XS.iloadN Xl.here hexec rfl (hb hbytes d27) rfl ?_
        refine XS.iload Xl.here hexec rfl (hb hbytes d28) rfl ?_
        refine i2b Xl.here hexec rfl (hb hbytes d30) rfl ?_
        exact Steps.refl _)
      obtain ⟨T7, X7, p7, st7⟩ := Xl.aput hexec hBk rfl hlt rfl (fits_lo8 (cv A (o + i))) (g := (mkF m 31 #[.val (.ref b), .val (.int (Int32.ofNat (o + i))), .val (.ref d), .val (.int (Int32.ofNat (q + i))), .val (.int (Int32.ofNat len)), .val (.int (Int32.ofNat i)), .val (.int (cv A (o + i)))] [.int (lo8 (cv A (o + i))), .int (Int32.ofNat (q + i)), .ref d])) rfl (rest := []) rfl (hb hbytes d31)
      have c8 : Steps p.tables e below (s₁.setTop (entryFrame m #[.ref b, .int (Int32.ofNat o), .ref d, .int (Int32.ofNat q), .int (Int32.ofNat len)] 7)) (T7.setTop (mkF m 32 #[.val (.ref b), .val (.int (Int32.ofNat (o + i))), .val (.ref d), .val (.int (Int32.ofNat (q + i))), .val (.int (Int32.ofNat len)), .val (.int (Int32.ofNat i)), .val (.int (cv A (o + i)))] [])) := c6.trans (st7 _ (Steps.refl _))
      have c9 : Steps p.tables e below (s₁.setTop (entryFrame m #[.ref b, .int (Int32.ofNat o), .ref d, .int (Int32.ofNat q), .int (Int32.ofNat len)] 7)) (T7.setTop (mkF m 3 #[.val (.ref b), .val (.int (Int32.ofNat (o + i) + 1)), .val (.ref d), .val (.int (Int32.ofNat (q + i) + 1)), .val (.int (Int32.ofNat len)), .val (.int (Int32.ofNat i + 1)), .val (.int (cv A (o + i)))] [])) := c8.trans (by
        refine iincV X7.here hexec rfl 1 (hb hbytes d32) (by decide) rfl rfl ?_
        refine iincV X7.here hexec rfl 1 (hb hbytes d35) (by decide) rfl rfl ?_
        refine iincV X7.here hexec rfl 1 (hb hbytes d38) (by decide) rfl rfl ?_
        refine XS.goto X7.here hexec rfl (pc0 := 41) rfl (hb hbytes d41) (by decide) rfl ?_
        exact Steps.refl _)
      have c10 : Steps p.tables e below (s₁.setTop (entryFrame m #[.ref b, .int (Int32.ofNat o), .ref d, .int (Int32.ofNat q), .int (Int32.ofNat len)] 7)) (T7.setTop (mkF m 3 #[.val (.ref b), .val (.int (Int32.ofNat (o + (i + 1)))), .val (.ref d), .val (.int (Int32.ofNat (q + (i + 1)))), .val (.int (Int32.ofNat len)), .val (.int (Int32.ofNat (i + 1))), .val (.int (cv A (o + i)))] [])) := by
        have := c9
        rw [succ32, succ32, succ32] at this
        exact this
      exact ih (i + 1) (by omega) _ (Or.inr ⟨_, rfl, rfl⟩) T7 _ (by rw [copyLocs_step, ← List.append_assoc]; exact X7) (pl.trans p7) (fl.step (by omega) hlt (by simp)) c10
  obtain ⟨T9, B9, z9, X9, p9, f9, g9⟩ := loop len 0 (by omega) .unset (Or.inl rfl) s₁ B (by simpa [copyLocs] using X0) ⟨hB0.1, fun _ _ => rfl, rfl⟩ (Laid.zero _ _ _) c2
  have c11 : Steps p.tables e below (s₁.setTop (entryFrame m #[.ref b, .int (Int32.ofNat o), .ref d, .int (Int32.ofNat q), .int (Int32.ofNat len)] 7)) (T9.setTop (mkF m 46 #[.val (.ref b), .val (.int (Int32.ofNat (o + len))), .val (.ref d), .val (.int (Int32.ofNat (q + len))), .val (.int (Int32.ofNat len)), .val (.int (Int32.ofNat len)), z9] [.int (Int32.ofNat len)])) := g9.trans (by
    refine XS.iload X9.here hexec rfl (hb hbytes d3) rfl ?_
    refine XS.iload X9.here hexec rfl (hb hbytes d5) rfl ?_
    refine XS.icmpYes X9.here hexec rfl (pc0 := 7) rfl (hb hbytes d7) rfl (ii_ge_t (nlt32 (by omega) (Nat.le_refl _))) (by decide) rfl ?_
    refine XS.iload X9.here hexec rfl (hb hbytes d44) rfl ?_
    exact Steps.refl _)
  exact ⟨T9, some (.int (Int32.ofNat len)), _, _, _, X9, by simp, rfl, rfl, (fun h => by cases h), ⟨rfl, B9, p9.from hh0, f9⟩, fun fs hl => c11.trans (X9.ireturnOut hexec hret rfl (Or.inl rfl) (hb hbytes d46) hl)⟩
end Cmp5
namespace Cmp3
def yN : MethodName := ⟨"java/lang/StringUTF16", "compress", "([CII)[B"⟩
abbrev yB : ByteArray := jdk_52_method_16_code
theorem d0 : decode yB 0 = .ok (.iload_n 2, 1) := by decide +kernel
theorem d1 : decode yB 1 = .ok (.newarray .byte, 2) := by decide +kernel
theorem d3 : decode yB 3 = .ok (.astore_n 3, 1) := by decide +kernel
theorem d4 : decode yB 4 = .ok (.aload_n 0, 1) := by decide +kernel
theorem d5 : decode yB 5 = .ok (.iload_n 1, 1) := by decide +kernel
theorem d6 : decode yB 6 = .ok (.aload_n 3, 1) := by decide +kernel
theorem d7 : decode yB 7 = .ok (.iconst 0, 1) := by decide +kernel
theorem d8 : decode yB 8 = .ok (.iload_n 2, 1) := by decide +kernel
theorem d9 : decode yB 9 = .ok (.invokestatic 115, 3) := by decide +kernel
theorem d12 : decode yB 12 = .ok (.istore 4, 2) := by decide +kernel
theorem d14 : decode yB 14 = .ok (.iload 4, 2) := by decide +kernel
theorem d16 : decode yB 16 = .ok (.iload_n 2, 1) := by decide +kernel
theorem d17 : decode yB 17 = .ok (.if_icmp (.eq) 40, 3) := by decide +kernel
theorem d57 : decode yB 57 = .ok (.aload_n 3, 1) := by decide +kernel
theorem d58 : decode yB 58 = .ok (.areturn, 1) := by decide +kernel
def site : List Cond := [.arrayClass .byte, Cmp5.tab] ++ staticW U16 115 Cmp5.yN
def tab : Cond := tabOf yN yB 6 (some (.array .byte)) site
def P (b : Addr) (A : Cell) (o len : Nat) (args : Array Value) (s : State) : Prop := args = #[.ref b, .int (Int32.ofNat o), .int (Int32.ofNat len)] ∧ Ch b A s ∧ o + len ≤ A.slots.size ∧ len ≤ 536870912 ∧ ∀ i, i < len → ¬ 255 < cv A (o + i)
def E (b : Addr) (A : Cell) (o len : Nat) (r : Option Value) (s u : State) : Prop := NewArr .byte "[B" len (fun j => .int (lo8 (cv A (o + j)))) r s u ∧ u.heap.size = s.heap.size + 1
/-- no char of the range above 255: a new byte[] of their low bytes -/
theorem law (l : Launch) (b : Addr) (A : Cell) (o len : Nat) : Law l yN 3 3 1 18 yB 6 (some (.array .byte)) site (P b A o len) (E b A o len) [] 1 len := by
  refine Law.of_walk (plainFor_of_name (by decide +kernel)) (by decide +kernel) (by decide +kernel) (by decide) (fun _ _ h => by rw [h.1]; rfl) (fun _ U U' hal hh h => ⟨h.1, h.2.1.mv hal hh, h.2.2⟩) (fun r U U' V V' h1 hal h2 h => ⟨NewArr.mv r U U' V V' h1 hal h2 h.1, by rw [h1, h2]; exact h.2⟩) ?_
  intro p e s m args below meth c s₁ X0 hexec hbytes hml hret hlk hnm hown hh0 W hP
  obtain ⟨rfl, hA, l1, l2, hp⟩ := hP
  have a31 := hA.1.2.2.2
  have c1 : Steps p.tables e below (s₁.setTop (entryFrame m #[.ref b, .int (Int32.ofNat o), .int (Int32.ofNat len)] 6)) (s₁.setTop (mkF m 0 #[.val (.ref b), .val (.int (Int32.ofNat o)), .val (.int (Int32.ofNat len)), .unset, .unset, .unset] [])) := entry rfl
  have c2 : Steps p.tables e below (s₁.setTop (entryFrame m #[.ref b, .int (Int32.ofNat o), .int (Int32.ofNat len)] 6)) (s₁.setTop (mkF m 1 #[.val (.ref b), .val (.int (Int32.ofNat o)), .val (.int (Int32.ofNat len)), .unset, .unset, .unset] [.int (Int32.ofNat len)])) := c1.trans (by
    refine XS.iloadN X0.here hexec rfl (hb hbytes d0) rfl ?_
    exact Steps.refl _)
  obtain ⟨T3, B3, X3, ba3, bs3, bv3, bh3, bf3, st3⟩ := X0.anew hexec (atype := .byte) (wk W (.arrayClass .byte)) rfl (by show len * 1 ≤ _; omega) (by omega) (g := (mkF m 1 #[.val (.ref b), .val (.int (Int32.ofNat o)), .val (.int (Int32.ofNat len)), .unset, .unset, .unset] [.int (Int32.ofNat len)])) rfl (hb hbytes d1) (rest := []) rfl (Nat.le_refl _) (by show 0 + len ≤ len; omega)
  rw [hh0] at ba3 st3
  have kp3 : XT.Kept s T3 := (XT.Kept.of_eq hh0).push bh3
  have hA3 := hA.keep X3.warmed.alike (kp3 _ _ hA.1.1)
  have hne : b ≠ s.heap.size := hA.1.ne
  have c4 : Steps p.tables e below (s₁.setTop (entryFrame m #[.ref b, .int (Int32.ofNat o), .int (Int32.ofNat len)] 6)) (T3.setTop (mkF m 3 #[.val (.ref b), .val (.int (Int32.ofNat o)), .val (.int (Int32.ofNat len)), .unset, .unset, .unset] [.ref s.heap.size])) := c2.trans (st3 _ (Steps.refl _))
  have c5 : Steps p.tables e below (s₁.setTop (entryFrame m #[.ref b, .int (Int32.ofNat o), .int (Int32.ofNat len)] 6)) (T3.setTop (mkF m 9 #[.val (.ref b), .val (.int (Int32.ofNat o)), .val (.int (Int32.ofNat len)), .val (.ref s.heap.size), .unset, .unset] [.int (Int32.ofNat len), .int 0, .ref s.heap.size, .int (Int32.ofNat o), .ref b])) := c4.trans (by
    refine XS.astoreN X3.here hexec rfl (hb hbytes d3) rfl rfl rfl ?_
    refine XS.aloadN X3.here hexec rfl (hb hbytes d4) rfl rfl ?_
    refine XS.iloadN X3.here hexec rfl (hb hbytes d5) rfl ?_
    refine XS.aloadN X3.here hexec rfl (hb hbytes d6) rfl rfl ?_
    refine iconstV X3.here hexec rfl 0 (hb hbytes d7) (by decide) ?_
    refine XS.iloadN X3.here hexec rfl (hb hbytes d8) rfl ?_
    exact Steps.refl _)
  obtain ⟨v6, T6, X6, E6, g6⟩ := X3.callS hexec (Cmp5.law l b A s.heap.size B3 o 0 len) hown (wks W (staticW U16 115 Cmp5.yN)) (wk W Cmp5.tab) (W := 0) (Nat.le_of_ble_eq_true rfl) (Nat.le_of_ble_eq_true rfl) (Nat.le_refl _) (by show 0 + len + 0 ≤ len; omega) (g := (mkF m 9 #[.val (.ref b), .val (.int (Int32.ofNat o)), .val (.int (Int32.ofNat len)), .val (.ref s.heap.size), .unset, .unset] [.int (Int32.ofNat len), .int (Int32.ofNat 0), .ref s.heap.size, .int (Int32.ofNat o), .ref b])) rfl (by rw [hml]; rfl) c5 (argsL := [.ref b, .int (Int32.ofNat o), .ref s.heap.size, .int (Int32.ofNat 0), .int (Int32.ofNat len)]) (rest := []) rfl rfl (by show 2 * 0 + 0 ≤ _; decide) (hb hbytes d9) (⟨rfl, hA3, ba3, hne, l1, by rw [bs3]; simp, hp⟩)
  obtain ⟨rfl, B6, p6, f6⟩ := E6
  have c7 : Steps p.tables e below (s₁.setTop (entryFrame m #[.ref b, .int (Int32.ofNat o), .int (Int32.ofNat len)] 6)) (T6.setTop (mkF m 12 #[.val (.ref b), .val (.int (Int32.ofNat o)), .val (.int (Int32.ofNat len)), .val (.ref s.heap.size), .unset, .unset] [.int (Int32.ofNat len)])) := g6
  have c8 : Steps p.tables e below (s₁.setTop (entryFrame m #[.ref b, .int (Int32.ofNat o), .int (Int32.ofNat len)] 6)) (T6.setTop (mkF m 58 #[.val (.ref b), .val (.int (Int32.ofNat o)), .val (.int (Int32.ofNat len)), .val (.ref s.heap.size), .val (.int (Int32.ofNat len)), .unset] [.ref s.heap.size])) := c7.trans (by
    refine XS.istore X6.here hexec rfl (hb hbytes d12) rfl rfl ?_
    refine XS.iload X6.here hexec rfl (hb hbytes d14) rfl ?_
    refine XS.iloadN X6.here hexec rfl (hb hbytes d16) rfl ?_
    refine XS.icmpYes X6.here hexec rfl (pc0 := 17) rfl (hb hbytes d17) rfl (ii_eq_t rfl) (by decide) rfl ?_
    refine XS.aloadN X6.here hexec rfl (hb hbytes d57) rfl rfl ?_
    exact Steps.refl _)
  have X8 := X6.wide (L' := []) (cells' := 1) (slots' := len) (fun x hx hlt => by
    simp only [List.nil_append, copyLocs, List.mem_map, List.mem_range] at hx
    obtain ⟨i, -, rfl⟩ := hx
    exact absurd hlt (Nat.lt_irrefl _)) (Nat.le_refl _) (by omega)
  exact ⟨T6, some (.ref s.heap.size), _, _, _, X8, rfl, rfl, rfl, (fun h => by cases h), ⟨⟨rfl, B6, ba3.like (X3.warmed.alike.symm.trans X6.warmed.alike) p6.1 f6.1 f6.2.1 f6.2.2.1, f6.2.1.trans bv3, by rw [X6.warmed.alike.findClass, f6.1]; exact bf3, by rw [f6.2.2.1, bs3]; simp, fun j hj => by rw [f6.2.2.2 j, if_pos (by omega)]; rfl, kp3.put p6 (Nat.le_refl _)⟩, by rw [p6.2.2, bh3, hh0]; simp⟩, fun fs hl => c8.trans (X8.areturnOut hexec rfl hret rfl (hb hbytes d58) hl)⟩
end Cmp3
namespace CodL
def yN : MethodName := ⟨"java/lang/StringUTF16", "coderFromArrayLen", "([BI)B"⟩
abbrev yB : ByteArray := jdk_52_method_15_code
theorem d0 : decode yB 0 = .ok (.iload_n 1, 1) := by decide +kernel
theorem d1 : decode yB 1 = .ok (.aload_n 0, 1) := by decide +kernel
theorem d2 : decode yB 2 = .ok (.arraylength, 1) := by decide +kernel
theorem d3 : decode yB 3 = .ok (.isub, 1) := by decide +kernel
theorem d4 : decode yB 4 = .ok (.bipush 31, 2) := by decide +kernel
theorem d6 : decode yB 6 = .ok (.iushr, 1) := by decide +kernel
theorem d7 : decode yB 7 = .ok (.i2b, 1) := by decide +kernel
theorem d8 : decode yB 8 = .ok (.ireturn, 1) := by decide +kernel
def site : List Cond := []
def tab : Cond := tabOf yN yB 2 (some .byte) site
def P (d : Addr) (B : Cell) (args : Array Value) (s : State) : Prop := args = #[.ref d, .int (Int32.ofNat B.slots.size)] ∧ Arr .byte d B s
def E (r : Option Value) (s u : State) : Prop := XT.PureE (some (.int 0)) r s u
/-- an array as long as the number of chars: LATIN1 -/
theorem law (l : Launch) (d : Addr) (B : Cell) : Law l yN 2 2 0 0 yB 2 (some .byte) site (P d B) E [] 0 0 := by
  refine Law.of_walk (plainFor_of_name (by decide +kernel)) (by decide +kernel) (by decide +kernel) (by decide) (fun _ _ h => by rw [h.1]; rfl) (fun _ U U' hal hh h => ⟨h.1, h.2.mv hal hh⟩) (fun r U U' V V' h1 hal h2 h => XT.PureE.mv r U U' V V' h1 hal h2 h) ?_
  intro p e s m args below meth c s₁ X0 hexec hbytes hml hret hlk hnm hown hh0 W hP
  obtain ⟨rfl, hB⟩ := hP
  have hB0 := hB.mv X0.warmed.alike hh0
  have c1 : Steps p.tables e below (s₁.setTop (entryFrame m #[.ref d, .int (Int32.ofNat B.slots.size)] 2)) (s₁.setTop (mkF m 0 #[.val (.ref d), .val (.int (Int32.ofNat B.slots.size))] [])) := entry rfl
  have c2 : Steps p.tables e below (s₁.setTop (entryFrame m #[.ref d, .int (Int32.ofNat B.slots.size)] 2)) (s₁.setTop (mkF m 2 #[.val (.ref d), .val (.int (Int32.ofNat B.slots.size))] [.ref d, .int (Int32.ofNat B.slots.size)])) := c1.trans (by
    refine XS.iloadN X0.here hexec rfl (hb hbytes d0) rfl ?_
    refine XS.aloadN X0.here hexec rfl (hb hbytes d1) rfl rfl ?_
    exact Steps.refl _)
  have c3 : Steps p.tables e below (s₁.setTop (entryFrame m #[.ref d, .int (Int32.ofNat B.slots.size)] 2)) (s₁.setTop (mkF m 8 #[.val (.ref d), .val (.int (Int32.ofNat B.slots.size))] [.int (lo8 (ushr (Int32.ofNat B.slots.size - Int32.ofNat B.slots.size) 31))])) := c2.trans (by
    refine X0.alen hexec hB0 rfl rfl (hb hbytes d2) ?_
    refine XS.isub X0.here hexec rfl (hb hbytes d3) rfl ?_
    refine bipushV X0.here hexec rfl 31 (hb hbytes d4) (by decide) ?_
    refine iushr X0.here hexec rfl (hb hbytes d6) rfl ?_
    refine i2b X0.here hexec rfl (hb hbytes d7) rfl ?_
    exact Steps.refl _)
  have e0 : lo8 (ushr (Int32.ofNat B.slots.size - Int32.ofNat B.slots.size) 31) = 0 := by rw [Int32.sub_self]; decide
  rw [e0] at c3
  exact ⟨s₁, some (.int 0), _, _, _, X0, rfl, rfl, rfl, (fun h => by cases h), ⟨rfl, hh0⟩, fun fs hl => c3.trans (X0.ireturnOut hexec hret rfl (Or.inr (Or.inr (Or.inl rfl))) (hb hbytes d8) hl)⟩
end CodL
/-- the String at a is Latin-1 over a new byte[] (the heap's one new cell): the low bytes of the len chars of A from o on; every cell but a is kept -/
def Got (a : Addr) (D : Cell) (fV fC : Field) (A : Cell) (o len : Nat) (r : Option Value) (s u : State) : Prop := r = none ∧ ∃ D' V : Cell, Blank "java/lang/String" a D' u ∧ Same D D' [fV.slot, fC.slot] ∧ D'.slots[fV.slot]? = some (.ref s.heap.size) ∧ D'.slots[fC.slot]? = some (.int 0) ∧ Arr .byte s.heap.size V u ∧ V.vm = .none ∧ u.vm.findClass "[B" = some V.cls ∧ V.slots.size = len ∧ (∀ j, j < len → V.slots[j]? = some (.int (lo8 (cv A (o + j))))) ∧ (∀ (y : Addr) (c : Cell), y ≠ a → s.heap[y]? = some c → u.heap[y]? = some c) ∧ u.heap.size = s.heap.size + 1
theorem Got.mv {a : Addr} {D A : Cell} {fV fC : Field} {o len : Nat} : ∀ r (U U' V V' : State), U'.heap = U.heap → V.vm.Alike V'.vm → V'.heap = V.heap → Got a D fV fC A o len r U V → Got a D fV fC A o len r U' V' :=
  fun r U U' V V' h1 hal h2 ⟨e0, D', X, a1, a2, a3, a4, a5, a6, a7, a8, a9, a10, a11⟩ => ⟨e0, D', X, a1.mv hal h2, a2, by rw [h1]; exact a3, a4, by rw [h1]; exact a5.mv hal h2, a6, by rw [hal.findClass]; exact a7, a8, a9, by rw [h1, h2]; exact a10, by rw [h1, h2]; exact a11⟩
namespace New4
def yN : MethodName := ⟨"java/lang/String", "<init>", "([CIILjava/lang/Void;)V"⟩
abbrev yB : ByteArray := jdk_42_method_149_code
theorem d0 : decode yB 0 = .ok (.aload_n 0, 1) := by decide +kernel
theorem d1 : decode yB 1 = .ok (.invokespecial 1, 3) := by decide +kernel
theorem d4 : decode yB 4 = .ok (.iload_n 3, 1) := by decide +kernel
theorem d5 : decode yB 5 = .ok (.ifCond (.ne) 22, 3) := by decide +kernel
theorem d27 : decode yB 27 = .ok (.getstatic 38, 3) := by decide +kernel
theorem d30 : decode yB 30 = .ok (.ifCond (.eq) 28, 3) := by decide +kernel
theorem d33 : decode yB 33 = .ok (.aload_n 1, 1) := by decide +kernel
theorem d34 : decode yB 34 = .ok (.iload_n 2, 1) := by decide +kernel
theorem d35 : decode yB 35 = .ok (.iload_n 3, 1) := by decide +kernel
theorem d36 : decode yB 36 = .ok (.invokestatic 177, 3) := by decide +kernel
theorem d39 : decode yB 39 = .ok (.astore 5, 2) := by decide +kernel
theorem d41 : decode yB 41 = .ok (.aload_n 0, 1) := by decide +kernel
theorem d42 : decode yB 42 = .ok (.aload 5, 2) := by decide +kernel
theorem d44 : decode yB 44 = .ok (.iload_n 3, 1) := by decide +kernel
theorem d45 : decode yB 45 = .ok (.invokestatic 47, 3) := by decide +kernel
theorem d48 : decode yB 48 = .ok (.putfield 15, 3) := by decide +kernel
theorem d51 : decode yB 51 = .ok (.aload_n 0, 1) := by decide +kernel
theorem d52 : decode yB 52 = .ok (.aload 5, 2) := by decide +kernel
theorem d54 : decode yB 54 = .ok (.putfield 9, 3) := by decide +kernel
theorem d57 : decode yB 57 = .ok (.return_, 1) := by decide +kernel
def site : List Cond := [.fieldLink "java/lang/String" 38 "java/lang/String" "COMPACT_STRINGS" "Z", Cmp3.tab, CodL.tab, .laysFinal "java/lang/String" "java/lang/String" "value" "[B", .fieldLink "java/lang/String" 9 "java/lang/String" "value" "[B", .laysFinal "java/lang/String" "java/lang/String" "coder" "B", .fieldLink "java/lang/String" 15 "java/lang/String" "coder" "B"] ++ objW "java/lang/String" 1 ++ staticW "java/lang/String" 177 Cmp3.yN ++ staticW "java/lang/String" 47 CodL.yN
def tab : Cond := tabOf yN yB 6 none site
def P (a : Addr) (D : Cell) (fV fC : Field) (b : Addr) (A : Cell) (z : Int32) (o len : Nat) (args : Array Value) (s : State) : Prop := args = #[.ref a, .ref b, .int (Int32.ofNat o), .int (Int32.ofNat len), .null] ∧ Blank "java/lang/String" a D s ∧ Found "java/lang/String" "value" "[B" fV s ∧ Found "java/lang/String" "coder" "B" fC s ∧ Ch b A s ∧ StaticIs s "java/lang/String" "COMPACT_STRINGS" "Z" (.int z) ∧ ¬ z = 0 ∧ 0 < len ∧ o + len ≤ A.slots.size ∧ len ≤ 536870912 ∧ ∀ i, i < len → ¬ 255 < cv A (o + i)
def E (a : Addr) (D : Cell) (fV fC : Field) (A : Cell) (o len : Nat) (r : Option Value) (s u : State) : Prop := Got a D fV fC A o len r s u
/-- len > 0, no char of the range above 255: a Latin-1 String of their low bytes -/
theorem law (l : Launch) (a : Addr) (D : Cell) (fV fC : Field) (b : Addr) (A : Cell) (z : Int32) (o len : Nat) : Law l yN 5 4 2 35 yB 6 none site (P a D fV fC b A z o len) (E a D fV fC A o len) [⟨a, fC.slot⟩, ⟨a, fV.slot⟩] 1 len := by
  refine Law.of_walk (plainFor_of_name (by decide +kernel)) (by decide +kernel) (by decide +kernel) (by decide) (fun _ _ h => by rw [h.1]; rfl) (fun _ U U' hal hh h => ⟨h.1, h.2.1.mv hal hh, h.2.2.1.al hal, h.2.2.2.1.al hal, h.2.2.2.2.1.mv hal hh, h.2.2.2.2.2.1.there hal hh, h.2.2.2.2.2.2⟩) (fun r U U' V V' h1 hal h2 h => Got.mv r U U' V V' h1 hal h2 h) ?_
  intro p e s m args below meth c s₁ X0 hexec hbytes hml hret hlk hnm hown hh0 W hP
  obtain ⟨rfl, hB, f1, f2, hA, s1, hz, l0, l1, l2, hp⟩ := hP
  have a31 := hA.1.2.2.2
  have c1 : Steps p.tables e below (s₁.setTop (entryFrame m #[.ref a, .ref b, .int (Int32.ofNat o), .int (Int32.ofNat len), .null] 6)) (s₁.setTop (mkF m 0 #[.val (.ref a), .val (.ref b), .val (.int (Int32.ofNat o)), .val (.int (Int32.ofNat len)), .val .null, .unset] [])) := entry rfl
  have c2 : Steps p.tables e below (s₁.setTop (entryFrame m #[.ref a, .ref b, .int (Int32.ofNat o), .int (Int32.ofNat len), .null] 6)) (s₁.setTop (mkF m 1 #[.val (.ref a), .val (.ref b), .val (.int (Int32.ofNat o)), .val (.int (Int32.ofNat len)), .val .null, .unset] [.ref a])) := c1.trans (by
    refine XS.aloadN X0.here hexec rfl (hb hbytes d0) rfl rfl ?_
    exact Steps.refl _)
  obtain ⟨T3, X3, q3, st3⟩ := X0.oinit hexec hown (wks W (objW "java/lang/String" 1)) (g := (mkF m 1 #[.val (.ref a), .val (.ref b), .val (.int (Int32.ofNat o)), .val (.int (Int32.ofNat len)), .val .null, .unset] [.ref a])) rfl (by rw [hml]; rfl) (rest := []) rfl (hb hbytes d1) (W := 0) (by show 2 * 0 + 0 ≤ _; decide) (Nat.le_of_ble_eq_true rfl) (Nat.le_of_ble_eq_true rfl)
  have hh3 := q3.trans hh0
  have c4 : Steps p.tables e below (s₁.setTop (entryFrame m #[.ref a, .ref b, .int (Int32.ofNat o), .int (Int32.ofNat len), .null] 6)) (T3.setTop (mkF m 27 #[.val (.ref a), .val (.ref b), .val (.int (Int32.ofNat o)), .val (.int (Int32.ofNat len)), .val .null, .unset] [])) := (c2.trans (st3 _ (Steps.refl _))).trans (by
    refine XS.iloadN X3.here hexec rfl (hb hbytes d4) rfl ?_
    refine XS.ifYes X3.here hexec rfl (pc0 := 5) rfl (hb hbytes d5) rfl (i0_ne_t (nz32 (by omega) l0)) (by decide) rfl ?_
    exact Steps.refl _)
  obtain ⟨T5, X5, q5, st5⟩ := X3.sget hexec hown (wk W (.fieldLink "java/lang/String" 38 "java/lang/String" "COMPACT_STRINGS" "Z")) s1 (fun _ _ h => by rw [hh3]; exact h) (g := (mkF m 27 #[.val (.ref a), .val (.ref b), .val (.int (Int32.ofNat o)), .val (.int (Int32.ofNat len)), .val .null, .unset] [])) rfl (hb hbytes d27)
  have hh5 := q5.trans hh3
  have c6 : Steps p.tables e below (s₁.setTop (entryFrame m #[.ref a, .ref b, .int (Int32.ofNat o), .int (Int32.ofNat len), .null] 6)) (T5.setTop (mkF m 30 #[.val (.ref a), .val (.ref b), .val (.int (Int32.ofNat o)), .val (.int (Int32.ofNat len)), .val .null, .unset] [.int z])) := c4.trans (st5 _ (Steps.refl _))
  have c7 : Steps p.tables e below (s₁.setTop (entryFrame m #[.ref a, .ref b, .int (Int32.ofNat o), .int (Int32.ofNat len), .null] 6)) (T5.setTop (mkF m 36 #[.val (.ref a), .val (.ref b), .val (.int (Int32.ofNat o)), .val (.int (Int32.ofNat len)), .val .null, .unset] [.int (Int32.ofNat len), .int (Int32.ofNat o), .ref b])) := c6.trans (by
    refine XS.ifNo X5.here hexec rfl (hb hbytes d30) rfl (i0_eq_f hz) ?_
    refine XS.aloadN X5.here hexec rfl (hb hbytes d33) rfl rfl ?_
    refine XS.iloadN X5.here hexec rfl (hb hbytes d34) rfl ?_
    refine XS.iloadN X5.here hexec rfl (hb hbytes d35) rfl ?_
    exact Steps.refl _)
  obtain ⟨v8, T8, X8, E8, g8⟩ := X5.callS hexec (Cmp3.law l b A o len) hown (wks W (staticW "java/lang/String" 177 Cmp3.yN)) (wk W Cmp3.tab) (W := 0) (Nat.le_of_ble_eq_true rfl) (Nat.le_of_ble_eq_true rfl) (Nat.le_refl _) (by show 0 + len ≤ len; omega) (g := (mkF m 36 #[.val (.ref a), .val (.ref b), .val (.int (Int32.ofNat o)), .val (.int (Int32.ofNat len)), .val .null, .unset] [.int (Int32.ofNat len), .int (Int32.ofNat o), .ref b])) rfl (by rw [hml]; rfl) c7 (argsL := [.ref b, .int (Int32.ofNat o), .int (Int32.ofNat len)]) (rest := []) rfl rfl (by show 2 * 0 + 0 ≤ _; decide) (hb hbytes d36) (⟨rfl, hA.mv X5.warmed.alike hh5, l1, l2, hp⟩)
  obtain ⟨e8, z8⟩ := E8
  obtain ⟨rfl, N, n1, n2, n3, n4, n5, n6⟩ := NewArr.mv _ T5 s _ _ hh5.symm (Vm.Alike.refl _) rfl e8
  rw [hh5] at z8
  have hB1 := hB.keep X8.warmed.alike (n6 _ _ hB.1)
  have hne : s.heap.size ≠ a := (Nat.ne_of_lt (Array.getElem?_eq_some_iff.mp hB.1).1).symm
  have c9 : Steps p.tables e below (s₁.setTop (entryFrame m #[.ref a, .ref b, .int (Int32.ofNat o), .int (Int32.ofNat len), .null] 6)) (T8.setTop (mkF m 39 #[.val (.ref a), .val (.ref b), .val (.int (Int32.ofNat o)), .val (.int (Int32.ofNat len)), .val .null, .unset] [.ref s.heap.size])) := g8
  have c10 : Steps p.tables e below (s₁.setTop (entryFrame m #[.ref a, .ref b, .int (Int32.ofNat o), .int (Int32.ofNat len), .null] 6)) (T8.setTop (mkF m 45 #[.val (.ref a), .val (.ref b), .val (.int (Int32.ofNat o)), .val (.int (Int32.ofNat len)), .val .null, .val (.ref s.heap.size)] [.int (Int32.ofNat N.slots.size), .ref s.heap.size, .ref a])) := by
    have hc : Steps p.tables e below (s₁.setTop (entryFrame m #[.ref a, .ref b, .int (Int32.ofNat o), .int (Int32.ofNat len), .null] 6)) (T8.setTop (mkF m 45 #[.val (.ref a), .val (.ref b), .val (.int (Int32.ofNat o)), .val (.int (Int32.ofNat len)), .val .null, .val (.ref s.heap.size)] [.int (Int32.ofNat len), .ref s.heap.size, .ref a])) := c9.trans (by
      refine XS.astore X8.here hexec rfl (hb hbytes d39) rfl rfl rfl ?_
      refine XS.aloadN X8.here hexec rfl (hb hbytes d41) rfl rfl ?_
      refine XS.aload X8.here hexec rfl (hb hbytes d42) rfl rfl ?_
      refine XS.iloadN X8.here hexec rfl (hb hbytes d44) rfl ?_
      exact Steps.refl _)
    rw [n4]; exact hc
  obtain ⟨v11, T11, X11, E11, g11⟩ := X8.callS hexec (CodL.law l s.heap.size N) hown (wks W (staticW "java/lang/String" 47 CodL.yN)) (wk W CodL.tab) (W := 1) (Nat.le_of_ble_eq_true rfl) (Nat.le_of_ble_eq_true rfl) (Nat.le_refl _) (by show 0 + len + 0 ≤ len; omega) (g := (mkF m 45 #[.val (.ref a), .val (.ref b), .val (.int (Int32.ofNat o)), .val (.int (Int32.ofNat len)), .val .null, .val (.ref s.heap.size)] [.int (Int32.ofNat N.slots.size), .ref s.heap.size, .ref a])) rfl (by rw [hml]; rfl) c10 (argsL := [.ref s.heap.size, .int (Int32.ofNat N.slots.size)]) (rest := [.ref a]) rfl rfl (by show 2 * 0 + (1 + 0) ≤ _; decide) (hb hbytes d45) (⟨rfl, n1⟩)
  obtain ⟨rfl, q11⟩ := E11
  have hB11 := hB1.mv (X8.warmed.alike.symm.trans X11.warmed.alike) q11
  have c12 : Steps p.tables e below (s₁.setTop (entryFrame m #[.ref a, .ref b, .int (Int32.ofNat o), .int (Int32.ofNat len), .null] 6)) (T11.setTop (mkF m 48 #[.val (.ref a), .val (.ref b), .val (.int (Int32.ofNat o)), .val (.int (Int32.ofNat len)), .val .null, .val (.ref s.heap.size)] [.int 0, .ref a])) := g11
  obtain ⟨T13, X13, p13, bl13, sl13, st13⟩ := X11.finit hexec hown (wk W (.fieldLink "java/lang/String" 15 "java/lang/String" "coder" "B")) (Or.inr ⟨_, (wk W (.laysFinal "java/lang/String" "java/lang/String" "coder" "B"))⟩) (Or.inl ⟨rfl, hnm⟩) f2 (Or.inl rfl) hB11 (t := .byte) (by decide +kernel) rfl (g := (mkF m 48 #[.val (.ref a), .val (.ref b), .val (.int (Int32.ofNat o)), .val (.int (Int32.ofNat len)), .val .null, .val (.ref s.heap.size)] [.int 0, .ref a])) rfl (rest := []) rfl (hb hbytes d48)
  have c14 : Steps p.tables e below (s₁.setTop (entryFrame m #[.ref a, .ref b, .int (Int32.ofNat o), .int (Int32.ofNat len), .null] 6)) (T13.setTop (mkF m 54 #[.val (.ref a), .val (.ref b), .val (.int (Int32.ofNat o)), .val (.int (Int32.ofNat len)), .val .null, .val (.ref s.heap.size)] [.ref s.heap.size, .ref a])) := (c12.trans (st13 _ (Steps.refl _))).trans (by
    refine XS.aloadN X13.here hexec rfl (hb hbytes d51) rfl rfl ?_
    refine XS.aload X13.here hexec rfl (hb hbytes d52) rfl rfl ?_
    exact Steps.refl _)
  obtain ⟨T15, X15, p15, bl15, sl15, st15⟩ := X13.finit hexec hown (wk W (.fieldLink "java/lang/String" 9 "java/lang/String" "value" "[B")) (Or.inr ⟨_, (wk W (.laysFinal "java/lang/String" "java/lang/String" "value" "[B"))⟩) (Or.inl ⟨rfl, hnm⟩) f1 (Or.inl rfl) bl13 (t := (.array .byte)) (by decide +kernel) rfl (g := (mkF m 54 #[.val (.ref a), .val (.ref b), .val (.int (Int32.ofNat o)), .val (.int (Int32.ofNat len)), .val .null, .val (.ref s.heap.size)] [.ref s.heap.size, .ref a])) rfl (rest := []) rfl (hb hbytes d54)
  have c16 : Steps p.tables e below (s₁.setTop (entryFrame m #[.ref a, .ref b, .int (Int32.ofNat o), .int (Int32.ofNat len), .null] 6)) (T15.setTop (mkF m 57 #[.val (.ref a), .val (.ref b), .val (.int (Int32.ofNat o)), .val (.int (Int32.ofNat len)), .val .null, .val (.ref s.heap.size)] [])) := c14.trans (st15 _ (Steps.refl _))
  have ap := apart (Or.inr ⟨_, (wk W (.laysFinal "java/lang/String" "java/lang/String" "value" "[B"))⟩) (Or.inr ⟨_, (wk W (.laysFinal "java/lang/String" "java/lang/String" "coder" "B"))⟩) f1 f2 (t₁ := .array .byte) (t₂ := .byte) (by decide +kernel) (by decide +kernel) (by decide)
  have al := X8.warmed.alike.symm.trans X15.warmed.alike
  have n7 : T11.heap[s.heap.size]? = some N := by rw [q11]; exact n1.1
  exact ⟨T15, none, _, _, _, X15, by simp, rfl, by omega, (fun _ => rfl), ⟨rfl, _, N, bl15, ((Same.refl D _).set _ (by simp)).set _ (by simp), sl15, (Cell.slots_setSlot_ne _ ap).trans sl13, n1.keep al (p15.other hne (p13.other hne n7)), n2, by rw [al.findClass]; exact n3, n4, n5, fun y c h1 h2 => p15.other h1 (p13.other h1 (by rw [q11]; exact n6 y c h2)), by rw [p15.2.2, p13.2.2, q11]; exact z8⟩, fun fs hl => c16.trans (X15.returnOut hexec hret (hb hbytes d57) hl)⟩
end New4
namespace New1
def yN : MethodName := ⟨"java/lang/String", "<init>", "([C)V"⟩
abbrev yB : ByteArray := jdk_42_method_3_code
theorem d0 : decode yB 0 = .ok (.aload_n 0, 1) := by decide +kernel
theorem d1 : decode yB 1 = .ok (.aload_n 1, 1) := by decide +kernel
theorem d2 : decode yB 2 = .ok (.iconst 0, 1) := by decide +kernel
theorem d3 : decode yB 3 = .ok (.aload_n 1, 1) := by decide +kernel
theorem d4 : decode yB 4 = .ok (.arraylength, 1) := by decide +kernel
theorem d5 : decode yB 5 = .ok (.aconst_null, 1) := by decide +kernel
theorem d6 : decode yB 6 = .ok (.invokespecial 27, 3) := by decide +kernel
theorem d9 : decode yB 9 = .ok (.return_, 1) := by decide +kernel
def site : List Cond := [New4.tab] ++ initW "java/lang/String" 27 New4.yN
def tab : Cond := tabOf yN yB 2 none site
def P (a : Addr) (D : Cell) (fV fC : Field) (b : Addr) (A : Cell) (z : Int32) (args : Array Value) (s : State) : Prop := args = #[.ref a, .ref b] ∧ Blank "java/lang/String" a D s ∧ Found "java/lang/String" "value" "[B" fV s ∧ Found "java/lang/String" "coder" "B" fC s ∧ Ch b A s ∧ StaticIs s "java/lang/String" "COMPACT_STRINGS" "Z" (.int z) ∧ ¬ z = 0 ∧ 0 < A.slots.size ∧ A.slots.size ≤ 536870912 ∧ ∀ i, i < A.slots.size → ¬ 255 < cv A i
def E (a : Addr) (D : Cell) (fV fC : Field) (A : Cell) (r : Option Value) (s u : State) : Prop := Got a D fV fC A 0 A.slots.size r s u
/-- new String(chars), not empty, no char above 255: a Latin-1 String of their low bytes -/
theorem law (l : Launch) (a : Addr) (D : Cell) (fV fC : Field) (b : Addr) (A : Cell) (z : Int32) : Law l yN 2 1 3 52 yB 2 none site (P a D fV fC b A z) (E a D fV fC A) [⟨a, fC.slot⟩, ⟨a, fV.slot⟩] 1 A.slots.size := by
  refine Law.of_walk (plainFor_of_name (by decide +kernel)) (by decide +kernel) (by decide +kernel) (by decide) (fun _ _ h => by rw [h.1]; rfl) (fun _ U U' hal hh h => ⟨h.1, h.2.1.mv hal hh, h.2.2.1.al hal, h.2.2.2.1.al hal, h.2.2.2.2.1.mv hal hh, h.2.2.2.2.2.1.there hal hh, h.2.2.2.2.2.2⟩) (fun r U U' V V' h1 hal h2 h => Got.mv r U U' V V' h1 hal h2 h) ?_
  intro p e s m args below meth c s₁ X0 hexec hbytes hml hret hlk hnm hown hh0 W hP
  obtain ⟨rfl, hB, f1, f2, hA, s1, hz, l0, l2, hp⟩ := hP
  have c1 : Steps p.tables e below (s₁.setTop (entryFrame m #[.ref a, .ref b] 2)) (s₁.setTop (mkF m 0 #[.val (.ref a), .val (.ref b)] [])) := entry rfl
  have c2 : Steps p.tables e below (s₁.setTop (entryFrame m #[.ref a, .ref b] 2)) (s₁.setTop (mkF m 6 #[.val (.ref a), .val (.ref b)] [.null, .int (Int32.ofNat A.slots.size), .int 0, .ref b, .ref a])) := c1.trans (by
    refine XS.aloadN X0.here hexec rfl (hb hbytes d0) rfl rfl ?_
    refine XS.aloadN X0.here hexec rfl (hb hbytes d1) rfl rfl ?_
    refine iconstV X0.here hexec rfl 0 (hb hbytes d2) (by decide) ?_
    refine XS.aloadN X0.here hexec rfl (hb hbytes d3) rfl rfl ?_
    refine X0.alen hexec (hA.1.mv X0.warmed.alike hh0) rfl rfl (hb hbytes d4) ?_
    refine XS.aconstNull X0.here hexec rfl (hb hbytes d5) ?_
    exact Steps.refl _)
  obtain ⟨v3, T3, X3, E3, g3⟩ := X0.callN hexec (New4.law l a D fV fC b A z 0 A.slots.size) rfl hown (wks W (initW "java/lang/String" 27 New4.yN)) (W New4.tab (by simp only [site, List.mem_cons, List.mem_append, true_or, or_true])) (W := 0) (Nat.le_of_ble_eq_true rfl) (Nat.le_of_ble_eq_true rfl) (Nat.le_refl _) (by show 0 + A.slots.size ≤ A.slots.size; omega) (g := (mkF m 6 #[.val (.ref a), .val (.ref b)] [.null, .int (Int32.ofNat A.slots.size), .int (Int32.ofNat 0), .ref b, .ref a])) rfl (by rw [hml]; rfl) c2 (argsL := [.ref b, .int (Int32.ofNat 0), .int (Int32.ofNat A.slots.size), .null]) (rest := []) rfl rfl (by show 2 * 0 + 0 ≤ _; decide) (hb hbytes d6) (⟨rfl, hB.mv X0.warmed.alike hh0, f1.al X0.warmed.alike, f2.al X0.warmed.alike, hA.mv X0.warmed.alike hh0, s1.there X0.warmed.alike hh0, hz, l0, by omega, l2, fun i hi => by rw [Nat.zero_add]; exact hp i hi⟩)
  have e0 := Got.mv _ s₁ s _ _ hh0.symm (Vm.Alike.refl _) rfl E3
  obtain rfl := e0.1
  have c4 : Steps p.tables e below (s₁.setTop (entryFrame m #[.ref a, .ref b] 2)) (T3.setTop (mkF m 9 #[.val (.ref a), .val (.ref b)] [])) := g3
  exact ⟨T3, none, _, _, _, X3, by simp, rfl, by omega, (fun _ => rfl), e0, fun fs hl => c4.trans (X3.returnOut hexec hret (hb hbytes d9) hl)⟩
theorem pays {l : Launch} {R : Room} {p : Program} {e : Env} {below : List Frame} {s : State} {sargs : Array Value} {len W : Nat} (a : Addr) (D : Cell) (fV fC : Field) (b : Addr) (A : Cell) (z : Int32) (htab : tab.before sargs s = true) (hfr : 4 ≤ R.frames) (hlo : W + 65 ≤ R.locals) :
    Back l R p e below s sargs yN len W (fun A₁ a₁ => A₁.cells + 1 ≤ R.cells ∧ A₁.slots + A.slots.size ≤ R.slots ∧ P a D fV fC b A z a₁ A₁.U) (fun A₁ _ v₁ B₁ => E a D fV fC A v₁ A₁.U B₁.U ∧ B₁.locs = A₁.locs ++ [⟨a, fC.slot⟩, ⟨a, fV.slot⟩] ∧ B₁.cells = A₁.cells + 1 ∧ B₁.slots = A₁.slots + A.slots.size) :=
  (law l a D fV fC b A z).pays htab hfr (by omega)
end New1
end StrChars
namespace StrChars.Road
open Jvm Sem ClassFile Op Lib Jvm.Stand Jvm.Free Jvm.Free.XT
open Jvm.Lib.Cold (StaticIs)
abbrev ST : String := "java/lang/String"
/-- every table word that New1's law asks, flat -/
abbrev words : List Jvm.Cond := [.code New1.yN New1.yB 2 none, .initialized ST, .methodLink ST 27 New4.yN, .instanceMethod New4.yN,
  .code New4.yN New4.yB 6 none, .fieldLink ST 38 ST "COMPACT_STRINGS" "Z", .laysFinal ST ST "value" "[B", .fieldLink ST 9 ST "value" "[B", .laysFinal ST ST "coder" "B", .fieldLink ST 15 ST "coder" "B",
  .methodLink ST 1 Lib.objectInit, .instanceMethod Lib.objectInit, .code Lib.objectInit ⟨#[0xb1]⟩ 1 none, .methodLink ST 177 Cmp3.yN, .static Cmp3.yN, .methodLink ST 47 CodL.yN, .static CodL.yN,
  .code Cmp3.yN Cmp3.yB 6 (some (.array .byte)), .initialized U16, .arrayClass .byte, .methodLink U16 115 Cmp5.yN, .static Cmp5.yN, .code Cmp5.yN Cmp5.yB 7 (some .int), .code CodL.yN CodL.yB 2 (some .byte)]
theorem tab_of {a : Array Value} {s : State} (h : ∀ w ∈ words, w.before a s = true) : New1.tab.before a s = true := by
  have h5 : Cmp5.tab.before a s = true := unparts (wk h (.code Cmp5.yN Cmp5.yB 7 (some .int))) (wks h (.initialized Cmp5.yN.cls :: Cmp5.site))
  have hc : CodL.tab.before a s = true := unparts (wk h (.code CodL.yN CodL.yB 2 (some .byte))) (wks h (.initialized CodL.yN.cls :: CodL.site))
  have q5 : ∀ w ∈ Cmp5.tab :: words, w.before a s = true := fun w hw => (List.mem_cons.mp hw).elim (fun e => e ▸ h5) (h w)
  have h3 : Cmp3.tab.before a s = true := unparts (wk q5 (.code Cmp3.yN Cmp3.yB 6 (some (.array .byte)))) (wks q5 (.initialized Cmp3.yN.cls :: Cmp3.site))
  have q3 : ∀ w ∈ Cmp3.tab :: CodL.tab :: words, w.before a s = true := fun w hw => (List.mem_cons.mp hw).elim (fun e => e ▸ h3) fun hw => (List.mem_cons.mp hw).elim (fun e => e ▸ hc) (h w)
  have h4 : New4.tab.before a s = true := unparts (wk q3 (.code New4.yN New4.yB 6 none)) (wks q3 (.initialized New4.yN.cls :: New4.site))
  have q4 : ∀ w ∈ New4.tab :: words, w.before a s = true := fun w hw => (List.mem_cons.mp hw).elim (fun e => e ▸ h4) (h w)
  exact unparts (wk q4 (.code New1.yN New1.yB 2 none)) (wks q4 (.initialized New1.yN.cls :: New1.site))
/-- the words ride from the start Z to the walk's own state -/
theorem moved {Z s : State} {a0 args : Array Value} (hZ : Z.Warmed39 s.vm) (hw : ∀ d ∈ words, d.before a0 Z = true) : ∀ d ∈ words, d.before args s = true := fun d hd => by
  have q := hw d hd
  have t : ∀ d ∈ words, d = .arrayClass .byte ∨ (d.onTables && d.keepsFace) = true := by decide +kernel
  rcases t d hd with rfl | t
  · exact RoadKit.mvA hZ q
  · exact RoadKit.mv hZ q t
/-- WHAT COMES BACK, over the tables of the start Z: h the heap at the call, h' behind it -/
def Q (Z : State) (x : Addr) (A : Cell) (h : Heap) (v : Option Value) (h' : Heap) (L : List Loc) : Prop := v = none ∧ (∀ y ∈ L, y.base = x) ∧ RoadKit.Keep h h' [x] ∧ h'.size = h.size + 1 ∧ RoadKit.Exa Z h' x ST ∧ RoadKit.Fld Z h' x ST "value" "[B" (.ref h.size) ∧ RoadKit.Fld Z h' x ST "coder" "B" (.int 0) ∧
  (∃ V : Cell, RoadKit.Arr Z h' h.size V .byte ∧ V.vm = .none ∧ Z.vm.findClass "[B" = some V.cls ∧ V.slots.size = A.slots.size ∧ ∀ j, j < A.slots.size → V.slots[j]? = some (.int (lo8 (cv A j)))) ∧
  ∀ (O n d : String) (w : Value), RoadKit.Fld Z h x O n d w → RoadKit.slotOf Z O n d ≠ RoadKit.slotOf Z ST "value" "[B" → RoadKit.slotOf Z O n d ≠ RoadKit.slotOf Z ST "coder" "B" → RoadKit.Fld Z h' x O n d w
/-- **new String(chars) AT A CALL, IN THE ROAD'S FORM**: for specialBack behind newO: x the fresh String, b the char[] with the cell A -/
theorem back {p : Program} {l : Launch} {e : Env} {R : Room} {s : State} {args : Array Value} {below : List Frame} {len W : Nat} {Z : State} {a0 : Array Value} {h : Heap} (hZ : Z.Warmed39 s.vm) (hw : ∀ d ∈ words, d.before a0 Z = true) {kI : Nat} (wi : (Jvm.Cond.instantiable ST kI).before a0 Z = true)
    {x b : Addr} {A : Cell} {z : Int32} {v0 c0 : Value} (E : RoadKit.Exa Z h x ST) (V : RoadKit.Fld Z h x ST "value" "[B" v0) (C : RoadKit.Fld Z h x ST "coder" "B" c0) (K : RoadKit.Arr Z h b A .char) (hty : Typed .char A) (S : RoadKit.Sta Z h ST "COMPACT_STRINGS" "Z" (.int z)) (hz : ¬ z = 0)
    (l0 : 0 < A.slots.size) (l2 : A.slots.size ≤ 536870912) (hp : ∀ i, i < A.slots.size → ¬ 255 < cv A i) (hfr : 4 ≤ R.frames) (hlo : W + 65 ≤ R.locals) :
    Back l R p e below s args New1.yN len W (fun P a => a = #[.ref x, .ref b] ∧ P.U.heap = h ∧ P.cells + 1 ≤ R.cells ∧ P.slots + A.slots.size ≤ R.slots)
      (fun P _ v B => ∃ L, Q Z x A h v B.U.heap L ∧ B.locs = P.locs ++ L ∧ B.cells = P.cells + 1 ∧ B.slots = P.slots + A.slots.size) := by
  intro m meth c P g ig mk a X hg hsize hdg hW hn hp'
  obtain ⟨rfl, rfl, r1, r2⟩ := hp'
  have al : Z.vm.Alike P.U.vm := hZ.alike.trans X.warmed.alike
  obtain ⟨D, cfV, kV, iV, fV, hD, gV, stV, knV, obV, asV, slV⟩ := id V
  obtain ⟨D', cfC, kC, iC, fC, hD', gC, stC, -, -, asC, slC⟩ := id C
  cases hD.symm.trans hD'
  obtain ⟨D2, kD, e1, e2, e3, e4, e5⟩ := id E
  cases hD.symm.trans e1
  obtain ⟨c2, k2, i1, i2, i3, -⟩ := Cond.instantiable_spec wi
  cases e2.symm.trans i1
  cases e3.symm.trans i2
  obtain ⟨kU, u1, u2⟩ := al.2.2 _ _ e3
  have hB : Blank ST x D P.U := ⟨hD, ⟨knV, fun q hq => by rw [hq] at obV; cases obV⟩, by rw [al.findClass]; exact e2, kU, u1, by rw [u2]; exact i3, by rw [u2]; exact e5 i3⟩
  have F1 : Found ST "value" "[B" fV P.U := ⟨SBG.found_only al ⟨cfV, kV, iV, gV⟩, stV⟩
  have F2 : Found ST "coder" "B" fC P.U := ⟨SBG.found_only al ⟨cfC, kC, iC, gC⟩, stC⟩
  have hA : Ch b A P.U := ⟨⟨K.1, State.isArrayOf_alike al K.2.1, K.2.2, by omega⟩, hty⟩
  have hS : StaticIs P.U ST "COMPACT_STRINGS" "Z" (.int z) := by
    obtain ⟨cfS, iS, kS, fS, st, cS, t1, t2, t3, t4, t5, t6, t7⟩ := S
    exact StaticIs.there (s := { Z with heap := P.U.heap }) ⟨cfS, iS, kS, fS, st, cS, t1, t2, t3, t4, t5, (fun q => by rw [q] at t6; cases t6), t7⟩ al rfl
  obtain ⟨v, B, X', ⟨⟨hv, E', V', q1, q2, q3, q4, q5, q6, q7, q8, q9, q10, q11⟩, hl, hc, hs⟩, st⟩ := New1.pays x D fV fC b A z (tab_of (moved hZ hw)) hfr hlo m meth c P g ig mk _ X hg hsize hdg hW hn ⟨r1, r2, rfl, hB, F1, F2, hA, hS, hz, l0, l2, hp⟩
  have al' : Z.vm.Alike B.U.vm := hZ.alike.trans X'.warmed.alike
  have hsz : E'.slots.size = D.slots.size := by
    obtain ⟨-, -, -, kB, w1, w2, w3⟩ := q1
    obtain ⟨kB', y1, y2⟩ := al'.2.2 _ _ e3
    rw [q2.2.1] at w1
    cases w1.symm.trans y1
    rw [w3, e5 i3, y2]
  refine ⟨v, B, X', ⟨_, ⟨hv, ?_, ⟨by omega, fun y cy hy hn' => q10 y cy (by simpa using hn') hy, fun y cy hy => ?_⟩, q11, ⟨E', _, q1.1, by rw [q2.2.1]; exact e2, by rw [q2.2.1]; exact e3, by rw [q2.1]; exact obV, fun _ => by rw [hsz]; exact e5 i3⟩,
    ⟨E', cfV, kV, iV, fV, q1.1, gV, stV, by rw [q2.1]; exact knV, by rw [q2.1]; exact obV, by rw [q2.2.1]; exact asV, q3⟩, ⟨E', cfC, kC, iC, fC, q1.1, gC, stC, by rw [q2.1]; exact knV, by rw [q2.1]; exact obV, by rw [q2.2.1]; exact asC, q4⟩,
    ⟨V', ⟨q5.1, State.isArrayOf_alike al'.symm q5.2.1, q5.2.2.1⟩, q6, by rw [← al'.findClass]; exact q7, q8, fun j hj => by have := q9 j hj; rwa [Nat.zero_add] at this⟩, fun O n d w F n1 n2 => ?_⟩, hl, hc, hs⟩, st⟩
  · intro y hy
    simp only [List.mem_cons, List.not_mem_nil, or_false] at hy
    rcases hy with rfl | rfl <;> rfl
  · by_cases q : y = x
    · subst q
      cases hD.symm.trans hy
      exact ⟨E', q1.1, q2.2.1, q2.1, hsz⟩
    · exact ⟨cy, q10 y cy q hy, rfl, rfl, rfl⟩
  · obtain ⟨D3, cf, k, i, f, g1, g2, g3, g4, g5, g6, g7⟩ := F
    cases hD.symm.trans g1
    simp only [RoadKit.slotOf, g2, gV, gC, Option.map_some, Option.getD_some] at n1 n2
    exact ⟨E', cf, k, i, f, q1.1, g2, g3, by rw [q2.1]; exact g4, by rw [q2.1]; exact g5, by rw [q2.2.1]; exact g6, by rw [q2.2.2 f.slot (by simp [n1, n2])]; exact g7⟩
end StrChars.Road
namespace StrChars.Road
open Jvm Sem ClassFile Op Lib Jvm.Stand Jvm.Free Jvm.Free.XT
/-- WHAT COMES BACK, the byte[] as a list of values -/
def QA (Z : State) (x : Addr) (zn : Int32) (cs : List Int32) (h : Heap) (v : Option Value) (h' : Heap) (L : List Loc) : Prop := v = none ∧ (∀ y ∈ L, y.base = x) ∧ RoadKit.Keep h h' [x] ∧ h'.size = h.size + 1 ∧ RoadKit.Exa Z h' x ST ∧ RoadKit.Fld Z h' x ST "value" "[B" (.ref h.size) ∧ RoadKit.Fld Z h' x ST "coder" "B" (.int 0) ∧
  (∃ kb, Z.vm.findClass "[B" = some kb ∧ RoadKit.Arv Z h' h.size kb .byte zn (cs.map fun c => .int (lo8 c)) (.int 0)) ∧
  ∀ (O n d : String) (w : Value), RoadKit.Fld Z h x O n d w → RoadKit.slotOf Z O n d ≠ RoadKit.slotOf Z ST "value" "[B" → RoadKit.slotOf Z O n d ≠ RoadKit.slotOf Z ST "coder" "B" → RoadKit.Fld Z h' x O n d w
/-- **new String(chars) AT A CALL, THE ARRAYS AS LISTS**: the char[] at b holds cs, not empty, no char above 255 -/
theorem backArv {p : Program} {l : Launch} {e : Env} {R : Room} {s : State} {args : Array Value} {below : List Frame} {len W : Nat} {Z : State} {a0 : Array Value} {h : Heap} (hZ : Z.Warmed39 s.vm) (hw : ∀ d ∈ words, d.before a0 Z = true) {kI : Nat} (wi : (Jvm.Cond.instantiable ST kI).before a0 Z = true)
    {x b : Addr} {k : ClassId} {zn z : Int32} {cs : List Int32} {dv v0 c0 : Value} (E : RoadKit.Exa Z h x ST) (V : RoadKit.Fld Z h x ST "value" "[B" v0) (C : RoadKit.Fld Z h x ST "coder" "B" c0) (K : RoadKit.Arv Z h b k .char zn (cs.map Value.int) dv) (S : RoadKit.Sta Z h ST "COMPACT_STRINGS" "Z" (.int z)) (hz : ¬ z = 0)
    (hlen : zn.toNatClampNeg = cs.length) (h0 : 0 < cs.length) (hbig : cs.length ≤ 536870912) (hall : ∀ c ∈ cs, ¬ 255 < c) (hfr : 4 ≤ R.frames) (hlo : W + 65 ≤ R.locals) :
    Back l R p e below s args New1.yN len W (fun P a => a = #[.ref x, .ref b] ∧ P.U.heap = h ∧ P.cells + 1 ≤ R.cells ∧ P.slots + cs.length ≤ R.slots)
      (fun P _ v B => ∃ L, QA Z x zn cs h v B.U.heap L ∧ B.locs = P.locs ++ L ∧ B.cells = P.cells + 1 ∧ B.slots = P.slots + cs.length) := by
  obtain ⟨A, K1, K2, K3, K4, K5, K6⟩ := K
  have e : A.slots.size = cs.length := K3.trans hlen
  have hat : ∀ (i : Nat) (hi : i < cs.length), A.slots[i]? = some (.int cs[i]) := fun i hi => by rw [K5 i (by omega)]; simp [List.getD_eq_getElem?_getD, hi]
  have hcv : ∀ (i : Nat) (hi : i < cs.length), cv A i = cs[i] := fun i hi => by unfold cv; rw [hat i hi]
  have hty : Typed .char A := fun i v hv => by
    have hi : i < A.slots.size := (Array.getElem?_eq_some_iff.mp hv).1
    have q := K5 i hi
    rw [hv] at q
    rw [Option.some.inj q]
    exact K6 i hi
  refine Back.mono (back hZ hw wi E V C K1 hty S hz (by omega) (by omega) (fun i hi => by rw [hcv i (by omega)]; exact hall _ (List.getElem_mem _)) hfr hlo) (fun P a hp => ⟨hp.1, hp.2.1, hp.2.2.1, by rw [e]; exact hp.2.2.2⟩) (fun P a v B hp hq => ?_)
  obtain ⟨L, ⟨q1, q2, q3, q4, q5, q6, q7, ⟨V', v1, v2, v3, v4, v5⟩, q9⟩, hl, hc, hs⟩ := hq
  refine ⟨L, ⟨q1, q2, q3, q4, q5, q6, q7, ⟨V'.cls, v3, V', v1, rfl, by rw [v4, e, hlen], K4, fun i hi => ?_, fun i hi => ?_⟩, q9⟩, hl, hc, by rw [hs, e]⟩
  · have hi' : i < cs.length := by omega
    rw [v5 i (by omega), hcv i hi']; simp [List.getD_eq_getElem?_getD, hi']
  · have hi' : i < cs.length := by omega
    simp only [List.getD_eq_getElem?_getD, List.getElem?_map, List.getElem?_eq_getElem hi', Option.map_some, Option.getD_some]
    exact fits_lo8 _
end StrChars.Road
namespace StrChars.Road
open Jvm Sem ClassFile Op Lib Jvm.Stand Jvm.Free Jvm.Free.XT
/-- WHAT COMES BACK, in the writer's own shape -/
def QV (Z : State) (x : Addr) (N : Int32) (bs : List Int32) (h : Heap) (n0 : Nat) (v : Option Value) (h' : Heap) (L : List Loc) : Prop := v = none ∧ RoadKit.Fr n0 L ∧ RoadKit.Keep h h' [x] ∧ RoadKit.Exa Z h' x ST ∧ RoadKit.Fld Z h' x ST "coder" "B" (.int 0) ∧
  ∃ (t : Addr) (kb : ClassId), n0 ≤ t ∧ h.size ≤ t ∧ ¬ t = x ∧ RoadKit.Fld Z h' x ST "value" "[B" (.ref t) ∧ RoadKit.Arv Z h' t kb .byte N (bs.map Value.int) (.int 0)
/-- **new String(chars) AT A CALL, FOR THE WRITER**: a char[] of n known ints, each 0 to 255 -/
theorem backV {p : Program} {l : Launch} {e : Env} {R : Room} {s : State} {args : Array Value} {below : List Frame} {len W : Nat} {Z : State} {a0 : Array Value} {h : Heap} (hZ : Z.Warmed39 s.vm) (hw : ∀ d ∈ words, d.before a0 Z = true) {kI : Nat} (wi : (Jvm.Cond.instantiable ST kI).before a0 Z = true)
    {x b : Addr} {kC : ClassId} {cs bs : List Int32} {d v0 c0 : Value} {z N : Int32} {n n0 : Nat} (hx0 : n0 ≤ x) (hh0 : n0 ≤ h.size) (E : RoadKit.Exa Z h x ST) (V : RoadKit.Fld Z h x ST "value" "[B" v0) (C : RoadKit.Fld Z h x ST "coder" "B" c0) (K : RoadKit.Arv Z h b kC .char N (cs.map Value.int) d) (S : RoadKit.Sta Z h ST "COMPACT_STRINGS" "Z" (.int z)) (hz : ¬ z = 0)
    (hn : cs.length = n) (hN : N = Int32.ofNat n) (l0 : 0 < n) (l2 : n ≤ 4000) (hp : ∀ c ∈ cs, ¬ c < 0 ∧ ¬ (255 : Int32) < c) (hb : bs = cs.map (fun c => c.toInt8.toInt32)) (hfr : 4 ≤ R.frames) (hlo : W + 65 ≤ R.locals) :
    Back l R p e below s args (⟨"java/lang/String", "<init>", "([C)V"⟩ : MethodName) len W (fun P a => a = #[.ref x, .ref b] ∧ P.U.heap = h ∧ P.cells + 1 ≤ R.cells ∧ P.slots + n ≤ R.slots)
      (fun P _ v B => ∃ L, QV Z x N bs h n0 v B.U.heap L ∧ B.locs = P.locs ++ L ∧ B.cells = P.cells + 1 ∧ B.slots = P.slots + n) := by
  subst hn hN hb
  refine Back.mono (backArv hZ hw wi E V C K S hz (n32 (by omega)) l0 (by omega) (fun c hc => (hp c hc).2) hfr hlo) (fun P a hp => hp) (fun P a v B hp hq => ?_)
  obtain ⟨L, ⟨q1, q2, q3, q4, q5, q6, q7, ⟨kb, v1, v2⟩, q9⟩, hl, hc, hs⟩ := hq
  exact ⟨L, ⟨q1, fun y hy => by rw [q2 y hy]; exact hx0, q3, q5, q7, h.size, kb, hh0, Nat.le_refl _, Nat.ne_of_gt E.lt, q6, by rw [List.map_map]; exact v2⟩, hl, hc, hs⟩
end StrChars.Road
end Jvm.Pilot.@@N@@
namespace Jvm.Pilot.@@N@@
open Jvm Jvm.ClassFile Sem Op Lib Jvm.Free Jvm.Stand Jvm.LawKit Jvm.RoadKit Bundle Jvm.Pilot.@@N@@.Jvm.D
def own_EL : List (String × Nat) := [("java/lang/String", 7)]
theorem own_safe {Z : State} {EL : List (String × Nat)} {vm : Vm} {h : Heap} {x : Addr} (hal : Z.vm.Alike vm) (E : Exa Z h x "java/lang/String") (F : Fld Z h x "java/lang/String" "value" "[B" .null) : Safe Z EL vm h x := fun B => by
  obtain ⟨cell, k, e1, e2, e3, -, -⟩ := E
  obtain ⟨c1, cf, kf, i, f, f1, f2, f3, f4, f5, f6, f7⟩ := F
  obtain ⟨p, -, u, a, -, q, -, G, rfl | rfl⟩ := B
  · have ha : h[q.sa]? = some q.sC := G.ha
    cases ha.symm.trans f1
    obtain ⟨cS, ⟨⟨s1, s2, s3, ⟨cv, kv, iv, s4, s4'⟩, s5, s6, s7, s8, s9⟩, hfS, hcS⟩, -⟩ := G
    obtain ⟨kv', z4⟩ := ff_back (U := Wst Z vm h) hal s4
    have e4 := f2.symm.trans z4
    simp only [Option.some.injEq, Prod.mk.injEq] at e4
    rw [e4.2.2.2, s8] at f7
    cases f7
  · have hd : h[q.sd]? = some q.SA := G.hd
    cases hd.symm.trans e1
    obtain ⟨cS, -, -, fc, -⟩ := G
    have fc' : vm.findClass "[B" = some q.SA.cls := fc
    rw [hal.findClass] at fc'
    obtain ⟨k1, q1, q2⟩ := Vm.findClass_spec fc'
    obtain ⟨k2, q3, q4⟩ := Vm.findClass_spec e2
    cases q1.symm.trans q3
    exact absurd (q2.symm.trans q4) (by decide)

theorem own_words : ∀ d ∈ StrChars.Road.words, d ∈ tables_1 := by decide +kernel
theorem own_lat (x : Int32) : ¬ (nar .char ((x &&& (255 : Int32)).toUInt32.toUInt16.toUInt32.toInt32)) < 0 ∧ ¬ (255 : Int32) < (nar .char ((x &&& (255 : Int32)).toUInt32.toUInt16.toUInt32.toInt32)) := by
  show ¬ ((x &&& (255 : Int32)).toUInt32.toUInt16.toUInt32.toInt32).toUInt32.toUInt16.toUInt32.toInt32 < 0 ∧ ¬ (255 : Int32) < ((x &&& (255 : Int32)).toUInt32.toUInt16.toUInt32.toInt32).toUInt32.toUInt16.toUInt32.toInt32
  have h := c_mask x 255 8 (by decide) (by decide)
  have e : ((2 ^ 8 : Nat) : Int) = 256 := by decide
  rw [e] at h
  have h1 := c_i2c (x &&& 255)
  have h2 := c_i2c ((x &&& (255 : Int32)).toUInt32.toUInt16.toUInt32.toInt32)
  rw [Int32.lt_iff_toInt_lt, Int32.lt_iff_toInt_lt]
  have e1 : (255 : Int32).toInt = 255 := by decide
  have e0 : (0 : Int32).toInt = 0 := by decide
  omega
theorem own_lat1 (x : Int32) : ∀ c ∈ [nar .char ((x &&& (255 : Int32)).toUInt32.toUInt16.toUInt32.toInt32)], ¬ c < 0 ∧ ¬ (255 : Int32) < c := by
  intro c hc
  rcases List.mem_cons.mp hc with rfl | hc
  · exact own_lat x
  · cases hc
theorem own_lat2 (x y : Int32) : ∀ c ∈ [nar .char ((x &&& (255 : Int32)).toUInt32.toUInt16.toUInt32.toInt32), nar .char ((y &&& (255 : Int32)).toUInt32.toUInt16.toUInt32.toInt32)], ¬ c < 0 ∧ ¬ (255 : Int32) < c := by
  intro c hc
  rcases List.mem_cons.mp hc with rfl | hc
  · exact own_lat x
  · exact own_lat1 y c hc
theorem own_m3 (x : Int32) : ¬ (((2 : Int32) + (x &&& (1 : Int32))) &&& (3 : Int32)) = 0 := by
  have h := c_mask x 1 1 (by decide) (by decide)
  have e : ((2 ^ 1 : Nat) : Int) = 2 := by decide
  rw [e] at h
  have hx : (x &&& 1) = 0 ∨ (x &&& 1) = 1 := by
    simp only [← Int32.toInt_inj, show (0 : Int32).toInt = 0 from by decide, show (1 : Int32).toInt = 1 from by decide]
    omega
  rcases hx with q | q <;> rw [q] <;> decide
theorem pn_3 : plainName "java/lang/String" = true := by first | (simp [plainName, overriddenIn]; done) | decide +kernel
theorem ef_rm_s2 (m : MethodId) (x0 : Addr) (x1 : Addr) (x2 : Int32) (x3 : Int32) : entryFrame m #[(.ref x0), (.ref x1), (.int x2), (.int x3), .null] 6 = mkF m 0 #[.val (.ref x0), .val (.ref x1), .val (.int x2), .val (.int x3), .val .null, .unset] [] := by first | (simp [entryFrame, mkF, argsToLocals, Value.category]; done) | rfl
def Q_rm_s2 (Z : State) (a1 : Addr) (a2 : Addr) (h0 : Heap) (n0 : Nat) (v : Option Value) (h : Heap) (L : List Loc) : Prop := v = none ∧ Fr n0 L ∧ Keep h0 h [a1]
theorem d3_0 : decode jdk_42_method_149_code 0 = .ok (.aload_n 0, 1) := by decide +kernel
theorem d3_1 : decode jdk_42_method_149_code 1 = .ok (.invokespecial 1, 3) := by decide +kernel
theorem d3_4 : decode jdk_42_method_149_code 4 = .ok (.iload_n 3, 1) := by decide +kernel
theorem d3_5 : decode jdk_42_method_149_code 5 = .ok (.ifCond .ne 22, 3) := by decide +kernel
theorem d3_8 : decode jdk_42_method_149_code 8 = .ok (.aload_n 0, 1) := by decide +kernel
theorem own_sa : ∀ w ∈ Bundle.stringAtoms, w ∈ tables_1 := by decide +kernel
theorem d3_9 : decode jdk_42_method_149_code 9 = .ok (.ldc 7, 2) := by decide +kernel
theorem d3_11 : decode jdk_42_method_149_code 11 = .ok (.getfield 9, 3) := by decide +kernel
theorem d3_14 : decode jdk_42_method_149_code 14 = .ok (.putfield 9, 3) := by decide +kernel
theorem d3_17 : decode jdk_42_method_149_code 17 = .ok (.aload_n 0, 1) := by decide +kernel
theorem d3_18 : decode jdk_42_method_149_code 18 = .ok (.ldc 7, 2) := by decide +kernel
theorem d3_20 : decode jdk_42_method_149_code 20 = .ok (.getfield 15, 3) := by decide +kernel
theorem d3_23 : decode jdk_42_method_149_code 23 = .ok (.putfield 15, 3) := by decide +kernel
theorem d3_26 : decode jdk_42_method_149_code 26 = .ok (.return_, 1) := by decide +kernel
set_option maxRecDepth 65536 in
set_option maxHeartbeats 40000000 in
theorem rm_s2 (l : Launch) (Z : State) (a0 : Array Value) (hw : ∀ d ∈ tables_1, d.before a0 Z = true) (ws : List Jvm.Cond) (a1 : Addr) (a2 : Addr) (h0 : Heap) (n0 : Nat) (Z0 : n0 ≤ h0.size) (hEL : EW Z a0 own_EL) (F_value_a1 : Fld Z h0 a1 "java/lang/String" "value" "[B" .null) (F_coder_a1 : Fld Z h0 a1 "java/lang/String" "coder" "B" (.int (0 : Int32))) (E_a1 : Exa Z h0 a1 "java/lang/String") (g_a1 : n0 ≤ a1) :
    MetFree l (⟨"java/lang/String", "<init>", "([CIILjava/lang/Void;)V"⟩ : MethodName) (head1 (Jvm.Cond.code (⟨"java/lang/String", "<init>", "([CIILjava/lang/Void;)V"⟩ : MethodName) jdk_42_method_149_code 6 none :: ws) ({ frames := 1, cells := 4, slots := 8, locals := 12 } : Room)) (fun a U => a = #[(.ref a1), (.ref a2), (.int (0 : Int32)), (.int (0 : Int32)), .null] ∧ Z.Warmed39 U.vm ∧ U.heap = h0 ∧ CHv Z own_EL U.vm h0) (fun _ _ _ _ _ => True) (fun _ U o U' => ∃ v L, o = .returned v ∧ Q_rm_s2 Z a1 a2 h0 n0 v U'.heap L ∧ CHr Z own_EL U.vm U.heap U'.vm U'.heap ∧ ReturnedEndW U o U' L ({ frames := 1, cells := 4, slots := 8, locals := 12 } : Room).cells ({ frames := 1, cells := 4, slots := 8, locals := 12 } : Room).slots) := by
  refine MetFree.of_bodySF (plainFor_of_name pn_3) hisR ?_
  intro p e s m args below meth c s₁ Bd hml0 hP hK
  obtain ⟨rfl, hZ, hh, hCH⟩ := hP
  have hx := Bd.exec
  have hby := Bd.bytes
  have hml : c.maxLocals = 6 := hml0
  have hown : s.vm.findClass "java/lang/String" = some m.cls := findClass_of_methodNamed Bd.named
  have hnm := (name_of_methodNamed Bd.named Bd.method).1
  have X0 : Stand p l e ({ frames := 1, cells := 4, slots := 8, locals := 12 } : Room) s m #[(.ref a1), (.ref a2), (.int (0 : Int32)), (.int (0 : Int32)), .null] below meth c s₁ [] 0 0 := Stand.of_body Bd
  have e0 : s₁.heap = h0 := by rw [← hh, Bd.state]; rfl
  have N0 := Fr.nil n0
  have pre0 : ∀ t, Steps p.tables e below (s₁.setTop (mkF m 0 #[.val (.ref a1), .val (.ref a2), .val (.int (0 : Int32)), .val (.int (0 : Int32)), .val .null, .unset] [])) t → Steps p.tables e below (s₁.setTop (entryFrame m #[(.ref a1), (.ref a2), (.int (0 : Int32)), (.int (0 : Int32)), .null] 6)) t := fun t kt => castTop (ef_rm_s2 m a1 a2 (0 : Int32) (0 : Int32)) kt
  have C0 : CHr Z own_EL s.vm h0 s.vm h0 := CHr.refl hCH
  have sf0_a1 : Safe Z own_EL s.vm h0 a1 := own_safe hZ.alike E_a1 F_value_a1
  obtain ⟨T1, X1, e1, st1⟩ := initO X0 hx hZ hown (hw _ (List.mem_of_getElem? (i := 15) rfl)) (hw _ (List.mem_of_getElem? (i := 16) rfl)) (hw _ (List.mem_of_getElem? (i := 17) rfl)) e0 (g := (mkF m 1 #[.val (.ref a1), .val (.ref a2), .val (.int (0 : Int32)), .val (.int (0 : Int32)), .val .null, .unset] [(.ref a1)])) rfl (by rw [hml]; rfl) rfl (hb hby d3_1) (by decide) (W := 0) (by show 2 * 0 + _ ≤ _; exact Nat.le_of_eq rfl) (by decide)
  have pre_2 : ∀ t, Steps p.tables e below (T1.setTop (mkF m 9 #[.val (.ref a1), .val (.ref a2), .val (.int (0 : Int32)), .val (.int (0 : Int32)), .val .null, .unset] [(.ref a1)])) t → Steps p.tables e below (s₁.setTop (entryFrame m #[(.ref a1), (.ref a2), (.int (0 : Int32)), (.int (0 : Int32)), .null] 6)) t := by
    intro t kt
    refine pre0 _ ?_
    show Steps p.tables e below (s₁.setTop (mkF m 0 #[.val (.ref a1), .val (.ref a2), .val (.int (0 : Int32)), .val (.int (0 : Int32)), .val .null, .unset] [])) _
    refine XS.aloadN X0.here hx rfl (hb hby d3_0) rfl rfl ?_
    show Steps p.tables e below (s₁.setTop (mkF m 1 #[.val (.ref a1), .val (.ref a2), .val (.int (0 : Int32)), .val (.int (0 : Int32)), .val .null, .unset] [(.ref a1)])) _
    refine st1 _ ?_
    show Steps p.tables e below (T1.setTop (mkF m 4 #[.val (.ref a1), .val (.ref a2), .val (.int (0 : Int32)), .val (.int (0 : Int32)), .val .null, .unset] [])) _
    refine XS.iloadN X1.here hx rfl (hb hby d3_4) rfl ?_
    show Steps p.tables e below (T1.setTop (mkF m 5 #[.val (.ref a1), .val (.ref a2), .val (.int (0 : Int32)), .val (.int (0 : Int32)), .val .null, .unset] [(.int (0 : Int32))])) _
    refine XS.ifNo X1.here hx rfl (hb hby d3_5) rfl ((if0 _ _).trans (teq (by decide : (0 : Int32) = (0 : Int32))).2) ?_
    show Steps p.tables e below (T1.setTop (mkF m 8 #[.val (.ref a1), .val (.ref a2), .val (.int (0 : Int32)), .val (.int (0 : Int32)), .val .null, .unset] [])) _
    refine XS.aloadN X1.here hx rfl (hb hby d3_8) rfl rfl ?_
    exact kt
  obtain ⟨b3, T3, h3, k3, c3, kb3, X3, e3, E3, hS3, hk3, hZ, hown, Eb3, Fc3, Fv3, Vb3, -, -, hC3, -, hne3, st3⟩ := ldcCH (s := s) (vm0 := s.vm) (EL := own_EL) (vs := []) (z := (0 : Int32)) X1 hx hZ hown (hw _ (List.mem_of_getElem? (i := 71) rfl)) (fun a ha => hw a (own_sa a ha)) e1 ((State.WarmedH.refl s).since h0.size) (Nat.le_refl _) hEL (by simp [own_EL]) C0.1 (by decide) (by decide) (by decide) (g := (mkF m 9 #[.val (.ref a1), .val (.ref a2), .val (.int (0 : Int32)), .val (.int (0 : Int32)), .val .null, .unset] [(.ref a1)])) rfl (hb hby d3_9) (n := 0) (by decide) (by decide) (by decide) (by decide)
  have f1 : Exa Z h3 a1 "java/lang/String" := E_a1.ext E3
  have f2 : Fld Z h3 a1 "java/lang/String" "value" "[B" .null := F_value_a1.ext E3
  have f3 : Fld Z h3 a1 "java/lang/String" "coder" "B" (.int (0 : Int32)) := F_coder_a1.ext E3
  have f4 : n0 ≤ a1 := g_a1
  have f5 : Keep h0 h3 [a1] := (Keep.refl h0 [a1]).ext E3
  have C4 : CHr Z own_EL s.vm h0 T3.vm h3 := C0.trans hC3
  have sf4_a1 : Safe Z own_EL T3.vm h3 a1 := hC3.safe F_coder_a1.lt sf0_a1
  have Z3 : n0 ≤ h3.size := Nat.le_trans Z0 E3.1
  have ne_a1_b3 : a1 ≠ b3 := (hne3 a1 sf4_a1).1
  have ne_a1_c3 : a1 ≠ c3 := (hne3 a1 sf4_a1).2
  obtain ⟨T5, X5, e5, st5⟩ := getF X3 hx hZ hown (host := "") (Or.inl (hw _ (List.mem_of_getElem? (i := 32) rfl))) Via.refl e3 Fv3 (g := (mkF m 11 #[.val (.ref a1), .val (.ref a2), .val (.int (0 : Int32)), .val (.int (0 : Int32)), .val .null, .unset] [(.ref b3), (.ref a1)])) rfl rfl (hb hby d3_11)
  obtain ⟨T6, h6, X6, e6, W6, st6⟩ := putF X5 hx hZ hown (host := "") (Or.inl (hw _ (List.mem_of_getElem? (i := 32) rfl))) Via.refl e5 f2 f1 (Or.inr ⟨(hw _ (List.mem_of_getElem? (i := 33) rfl)), rfl, hnm⟩) (hw _ (List.mem_of_getElem? (i := 6) rfl)) (ty := (.array .byte)) (by decide) rfl rfl (g := (mkF m 14 #[.val (.ref a1), .val (.ref a2), .val (.int (0 : Int32)), .val (.int (0 : Int32)), .val .null, .unset] [(.ref c3), (.ref a1)])) rfl rfl (hb hby d3_14)
  have f6 : Exa Z h6 a1 "java/lang/String" := f1.wr W6
  have f7 : Fld Z h6 a1 "java/lang/String" "value" "[B" (.ref c3) := f2.same W6
  have f8 : Fld Z h6 a1 "java/lang/String" "coder" "B" (.int (0 : Int32)) := f3.other W6 (Or.inr (slot_ne (Or.inr (hw _ (List.mem_of_getElem? (i := 31) rfl))) (Or.inr (hw _ (List.mem_of_getElem? (i := 33) rfl))) (by decide) (t := .byte) (t' := (.array .byte)) (by decide) (by decide)))
  have f9 : n0 ≤ a1 := f4
  have f10 : Keep h0 h6 [a1] := f5.wr W6 (Or.inl (by simp))
  have f11 : k3 ≤ h6.size := (by rw [W6.size]; exact hk3)
  have f12 : Exa Z h6 b3 "java/lang/String" := Eb3.wr W6
  have f13 : Fld Z h6 b3 "java/lang/String" "coder" "B" (.int (0 : Int32)) := Fc3.other W6 (Or.inl (Ne.symm ne_a1_b3))
  have f14 : Fld Z h6 b3 "java/lang/String" "value" "[B" (.ref c3) := Fv3.other W6 (Or.inl (Ne.symm ne_a1_b3))
  have f15 : Arv Z h6 c3 kb3 .byte (0 : Int32) [] (.int 0) := Vb3.other W6 (Ne.symm ne_a1_c3)
  have C7 : CHr Z own_EL s.vm h0 T3.vm h6 := C4.trans (CHr.wr W6 sf4_a1 C4.1)
  have sf7_a1 : Safe Z own_EL T3.vm h6 a1 := Safe.wr W6 sf4_a1 C4.1 sf4_a1
  have N6 := Fr.snoc X6 N0 f9
  have Z6 : n0 ≤ h6.size := by rw [W6.size]; exact Z3
  have pre_8 : ∀ t, Steps p.tables e below (T6.setTop (mkF m 18 #[.val (.ref a1), .val (.ref a2), .val (.int (0 : Int32)), .val (.int (0 : Int32)), .val .null, .unset] [(.ref a1)])) t → Steps p.tables e below (s₁.setTop (entryFrame m #[(.ref a1), (.ref a2), (.int (0 : Int32)), (.int (0 : Int32)), .null] 6)) t := by
    intro t kt
    refine pre_2 _ ?_
    show Steps p.tables e below (T1.setTop (mkF m 9 #[.val (.ref a1), .val (.ref a2), .val (.int (0 : Int32)), .val (.int (0 : Int32)), .val .null, .unset] [(.ref a1)])) _
    refine st3 _ ?_
    show Steps p.tables e below (T3.setTop (mkF m 11 #[.val (.ref a1), .val (.ref a2), .val (.int (0 : Int32)), .val (.int (0 : Int32)), .val .null, .unset] [(.ref b3), (.ref a1)])) _
    refine st5 _ ?_
    show Steps p.tables e below (T5.setTop (mkF m 14 #[.val (.ref a1), .val (.ref a2), .val (.int (0 : Int32)), .val (.int (0 : Int32)), .val .null, .unset] [(.ref c3), (.ref a1)])) _
    refine st6 _ ?_
    show Steps p.tables e below (T6.setTop (mkF m 17 #[.val (.ref a1), .val (.ref a2), .val (.int (0 : Int32)), .val (.int (0 : Int32)), .val .null, .unset] [])) _
    refine XS.aloadN X6.here hx rfl (hb hby d3_17) rfl rfl ?_
    exact kt
  obtain ⟨b9, T9, h9, k9, c9, kb9, X9, e9, E9, hS9, hk9, hZ, hown, Eb9, Fc9, Fv9, Vb9, -, -, hC9, -, hne9, st9⟩ := ldcCH (s := s) (vm0 := T3.vm) (EL := own_EL) (vs := []) (z := (0 : Int32)) X6 hx hZ hown (hw _ (List.mem_of_getElem? (i := 71) rfl)) (fun a ha => hw a (own_sa a ha)) e6 hS3 f11 hEL (by simp [own_EL]) C7.1 (by decide) (by decide) (by decide) (g := (mkF m 18 #[.val (.ref a1), .val (.ref a2), .val (.int (0 : Int32)), .val (.int (0 : Int32)), .val .null, .unset] [(.ref a1)])) rfl (hb hby d3_18) (n := 0) (by decide) (by decide) (by decide) (by decide)
  have f16 : Exa Z h9 a1 "java/lang/String" := f6.ext E9
  have f17 : Fld Z h9 a1 "java/lang/String" "value" "[B" (.ref c3) := f7.ext E9
  have f18 : Fld Z h9 a1 "java/lang/String" "coder" "B" (.int (0 : Int32)) := f8.ext E9
  have f19 : n0 ≤ a1 := f9
  have f20 : Keep h0 h9 [a1] := f10.ext E9
  have f21 : Exa Z h9 b3 "java/lang/String" := f12.ext E9
  have f22 : Fld Z h9 b3 "java/lang/String" "coder" "B" (.int (0 : Int32)) := f13.ext E9
  have f23 : Fld Z h9 b3 "java/lang/String" "value" "[B" (.ref c3) := f14.ext E9
  have f24 : Arv Z h9 c3 kb3 .byte (0 : Int32) [] (.int 0) := f15.ext E9
  have C10 : CHr Z own_EL s.vm h0 T9.vm h9 := C7.trans hC9
  have sf10_a1 : Safe Z own_EL T9.vm h9 a1 := hC9.safe f8.lt sf7_a1
  have Z9 : n0 ≤ h9.size := Nat.le_trans Z6 E9.1
  have ne_a1_b9 : a1 ≠ b9 := (hne9 a1 sf10_a1).1
  have ne_a1_c9 : a1 ≠ c9 := (hne9 a1 sf10_a1).2
  obtain ⟨T11, X11, e11, st11⟩ := getF X9 hx hZ hown (host := "") (Or.inl (hw _ (List.mem_of_getElem? (i := 30) rfl))) Via.refl e9 Fc9 (g := (mkF m 20 #[.val (.ref a1), .val (.ref a2), .val (.int (0 : Int32)), .val (.int (0 : Int32)), .val .null, .unset] [(.ref b9), (.ref a1)])) rfl rfl (hb hby d3_20)
  obtain ⟨T12, h12, X12, e12, W12, st12⟩ := putFN X11 hx hZ hown (hw _ (List.mem_of_getElem? (i := 30) rfl)) Via.refl e11 f18 f16 (Or.inr ⟨(hw _ (List.mem_of_getElem? (i := 31) rfl)), rfl, hnm⟩) (hw _ (List.mem_of_getElem? (i := 6) rfl)) (ty := .byte) (v' := (.int (nar .byte (0 : Int32)))) (by decide) rfl (fits_nar_byte _) (g := (mkF m 23 #[.val (.ref a1), .val (.ref a2), .val (.int (0 : Int32)), .val (.int (0 : Int32)), .val .null, .unset] [(.int (0 : Int32)), (.ref a1)])) rfl rfl (hb hby d3_23)
  have f25 : Exa Z h12 a1 "java/lang/String" := f16.wr W12
  have f26 : Fld Z h12 a1 "java/lang/String" "value" "[B" (.ref c3) := f17.other W12 (Or.inr (slot_ne (Or.inr (hw _ (List.mem_of_getElem? (i := 33) rfl))) (Or.inr (hw _ (List.mem_of_getElem? (i := 31) rfl))) (by decide) (t := (.array .byte)) (t' := .byte) (by decide) (by decide)))
  have f27 : Fld Z h12 a1 "java/lang/String" "coder" "B" (.int (nar .byte (0 : Int32))) := f18.same W12
  have f28 : n0 ≤ a1 := f19
  have f29 : Keep h0 h12 [a1] := f20.wr W12 (Or.inl (by simp))
  have f30 : Exa Z h12 b3 "java/lang/String" := f21.wr W12
  have f31 : Fld Z h12 b3 "java/lang/String" "coder" "B" (.int (0 : Int32)) := f22.other W12 (Or.inl (Ne.symm ne_a1_b3))
  have f32 : Fld Z h12 b3 "java/lang/String" "value" "[B" (.ref c3) := f23.other W12 (Or.inl (Ne.symm ne_a1_b3))
  have f33 : Arv Z h12 c3 kb3 .byte (0 : Int32) [] (.int 0) := f24.other W12 (Ne.symm ne_a1_c3)
  have f34 : k9 ≤ h12.size := (by rw [W12.size]; exact hk9)
  have f35 : Exa Z h12 b9 "java/lang/String" := Eb9.wr W12
  have f36 : Fld Z h12 b9 "java/lang/String" "coder" "B" (.int (0 : Int32)) := Fc9.other W12 (Or.inl (Ne.symm ne_a1_b9))
  have f37 : Fld Z h12 b9 "java/lang/String" "value" "[B" (.ref c9) := Fv9.other W12 (Or.inl (Ne.symm ne_a1_b9))
  have f38 : Arv Z h12 c9 kb9 .byte (0 : Int32) [] (.int 0) := Vb9.other W12 (Ne.symm ne_a1_c9)
  have C13 : CHr Z own_EL s.vm h0 T9.vm h12 := C10.trans (CHr.wr W12 sf10_a1 C10.1)
  have sf13_a1 : Safe Z own_EL T9.vm h12 a1 := Safe.wr W12 sf10_a1 C10.1 sf10_a1
  have N12 := Fr.snoc X12 N6 f28
  have Z12 : n0 ≤ h12.size := by rw [W12.size]; exact Z9
  obtain ⟨fs, hr, hrun, hended, hRW⟩ := X12.leaveW (s := s) hS9 (by rw [e12]; exact f34) (v := none) (fun _ => rfl) (hlocks := Bd.notSynchronized)
  refine ⟨_, _, pre_8 _ ?_, hrun, hended, _, _, rfl, ?_, (by show CHr Z own_EL s.vm s.heap T12.vm T12.heap; rw [hh, e12]; exact C13.trans (CHv.at (s := s) (vm0 := T9.vm) X12 hZ hEL C13.1)), hRW.1, hRW.2.1, hRW.2.2.1, hRW.2.2.2.mono (by decide) (by decide)⟩
  · show Steps p.tables e below (T6.setTop (mkF m 18 #[.val (.ref a1), .val (.ref a2), .val (.int (0 : Int32)), .val (.int (0 : Int32)), .val .null, .unset] [(.ref a1)])) _
    refine st9 _ ?_
    show Steps p.tables e below (T9.setTop (mkF m 20 #[.val (.ref a1), .val (.ref a2), .val (.int (0 : Int32)), .val (.int (0 : Int32)), .val .null, .unset] [(.ref b9), (.ref a1)])) _
    refine st11 _ ?_
    show Steps p.tables e below (T11.setTop (mkF m 23 #[.val (.ref a1), .val (.ref a2), .val (.int (0 : Int32)), .val (.int (0 : Int32)), .val .null, .unset] [(.int (0 : Int32)), (.ref a1)])) _
    refine st12 _ ?_
    show Steps p.tables e below (T12.setTop (mkF m 26 #[.val (.ref a1), .val (.ref a2), .val (.int (0 : Int32)), .val (.int (0 : Int32)), .val .null, .unset] [])) _
    exact X12.returnOut hx Bd.returns (hb hby d3_26) hr
  · show Q_rm_s2 Z a1 a2 h0 n0 _ T12.heap _
    rw [e12]
    exact ⟨rfl, N12, f29⟩
theorem pn_2 : plainName "java/lang/String" = true := by first | (simp [plainName, overriddenIn]; done) | decide +kernel
theorem ef_rm_s1 (m : MethodId) (x0 : Addr) (x1 : Addr) : entryFrame m #[(.ref x0), (.ref x1)] 2 = mkF m 0 #[.val (.ref x0), .val (.ref x1)] [] := by first | (simp [entryFrame, mkF, argsToLocals, Value.category]; done) | rfl
def Q_rm_s1 (Z : State) (a1 : Addr) (a2 : Addr) (kc : ClassId) (h0 : Heap) (n0 : Nat) (v : Option Value) (h : Heap) (L : List Loc) : Prop := v = none ∧ Fr n0 L ∧ Keep h0 h [a1]
theorem d2_0 : decode jdk_42_method_3_code 0 = .ok (.aload_n 0, 1) := by decide +kernel
theorem d2_1 : decode jdk_42_method_3_code 1 = .ok (.aload_n 1, 1) := by decide +kernel
theorem d2_2 : decode jdk_42_method_3_code 2 = .ok (.iconst 0, 1) := by decide +kernel
theorem d2_3 : decode jdk_42_method_3_code 3 = .ok (.aload_n 1, 1) := by decide +kernel
theorem d2_4 : decode jdk_42_method_3_code 4 = .ok (.arraylength, 1) := by decide +kernel
theorem d2_5 : decode jdk_42_method_3_code 5 = .ok (.aconst_null, 1) := by decide +kernel
theorem pd___CIILjava_lang_Void__V_1938 : parseMethodDescriptor "([CIILjava/lang/Void;)V" = some ⟨[(.array .char), .int, .int, (.object "java/lang/Void")], none⟩ := by decide +kernel
theorem d2_6 : decode jdk_42_method_3_code 6 = .ok (.invokespecial 27, 3) := by decide +kernel
theorem rebase {p : Program} {l : Launch} {e : Env} {R : Room} {s s0 : State} {vm : Vm} {m : MethodId} {args : Array Value} {below : List Frame} {meth : Method} {c : Code} {T : State} {locs : List Loc} {cells slots : Nat} (X : Stand p l e R s0 m args below meth c T locs cells slots) (h : s0 = s.setVm vm := by rfl) : Stand p l e R (s.setVm vm) m args below meth c T locs cells slots := h ▸ X
theorem d2_9 : decode jdk_42_method_3_code 9 = .ok (.return_, 1) := by decide +kernel
set_option maxRecDepth 65536 in
set_option maxHeartbeats 40000000 in
theorem rm_s1 (l : Launch) (Z : State) (a0 : Array Value) (hw : ∀ d ∈ tables_1, d.before a0 Z = true) (ws : List Jvm.Cond) (a1 : Addr) (a2 : Addr) (kc : ClassId) (h0 : Heap) (n0 : Nat) (Z0 : n0 ≤ h0.size) (hEL : EW Z a0 own_EL) (F_value_a1 : Fld Z h0 a1 "java/lang/String" "value" "[B" .null) (F_coder_a1 : Fld Z h0 a1 "java/lang/String" "coder" "B" (.int (0 : Int32))) (E_a1 : Exa Z h0 a1 "java/lang/String") (g_a1 : n0 ≤ a1) (V_a2 : Arv Z h0 a2 kc .char (0 : Int32) [] (.int (0 : Int32))) :
    MetFree l (⟨"java/lang/String", "<init>", "([C)V"⟩ : MethodName) (head1 (Jvm.Cond.code (⟨"java/lang/String", "<init>", "([C)V"⟩ : MethodName) jdk_42_method_3_code 2 none :: ws) ({ frames := 2, cells := 4, slots := 8, locals := 29 } : Room)) (fun a U => a = #[(.ref a1), (.ref a2)] ∧ Z.Warmed39 U.vm ∧ U.heap = h0 ∧ CHv Z own_EL U.vm h0) (fun _ _ _ _ _ => True) (fun _ U o U' => ∃ v L, o = .returned v ∧ Q_rm_s1 Z a1 a2 kc h0 n0 v U'.heap L ∧ CHr Z own_EL U.vm U.heap U'.vm U'.heap ∧ ReturnedEndW U o U' L ({ frames := 2, cells := 4, slots := 8, locals := 29 } : Room).cells ({ frames := 2, cells := 4, slots := 8, locals := 29 } : Room).slots) := by
  refine MetFree.of_bodySF (plainFor_of_name pn_2) hisR ?_
  intro p e s m args below meth c s₁ Bd hml0 hP hK
  obtain ⟨rfl, hZ, hh, hCH⟩ := hP
  have hx := Bd.exec
  have hby := Bd.bytes
  have hml : c.maxLocals = 2 := hml0
  have hown : s.vm.findClass "java/lang/String" = some m.cls := findClass_of_methodNamed Bd.named
  have hnm := (name_of_methodNamed Bd.named Bd.method).1
  have X0 : Stand p l e ({ frames := 2, cells := 4, slots := 8, locals := 29 } : Room) s m #[(.ref a1), (.ref a2)] below meth c s₁ [] 0 0 := Stand.of_body Bd
  have e0 : s₁.heap = h0 := by rw [← hh, Bd.state]; rfl
  have N0 := Fr.nil n0
  have pre0 : ∀ t, Steps p.tables e below (s₁.setTop (mkF m 0 #[.val (.ref a1), .val (.ref a2)] [])) t → Steps p.tables e below (s₁.setTop (entryFrame m #[(.ref a1), (.ref a2)] 2)) t := fun t kt => castTop (ef_rm_s1 m a1 a2) kt
  have C0 : CHr Z own_EL s.vm h0 s.vm h0 := CHr.refl hCH
  have sf0_a1 : Safe Z own_EL s.vm h0 a1 := own_safe hZ.alike E_a1 F_value_a1
  have ne_a1_a2 : a1 ≠ a2 := by
    obtain ⟨cA, AA, -⟩ := id V_a2
    exact ne_arr E_a1 (hw _ (List.mem_of_getElem? (i := 6) rfl)) AA
  obtain ⟨cl1, Ar1, aq1, aS1, aN1, aH1, aG1⟩ := id V_a2
  have pre_3 : ∀ t, Steps p.tables e below (s₁.setTop (mkF m 6 #[.val (.ref a1), .val (.ref a2)] [.null, (.int (0 : Int32)), (.int (0 : Int32)), (.ref a2), (.ref a1)])) t → Steps p.tables e below (s₁.setTop (entryFrame m #[(.ref a1), (.ref a2)] 2)) t := by
    intro t kt
    refine pre0 _ ?_
    show Steps p.tables e below (s₁.setTop (mkF m 0 #[.val (.ref a1), .val (.ref a2)] [])) _
    refine XS.aloadN X0.here hx rfl (hb hby d2_0) rfl rfl ?_
    show Steps p.tables e below (s₁.setTop (mkF m 1 #[.val (.ref a1), .val (.ref a2)] [(.ref a1)])) _
    refine XS.aloadN X0.here hx rfl (hb hby d2_1) rfl rfl ?_
    show Steps p.tables e below (s₁.setTop (mkF m 2 #[.val (.ref a1), .val (.ref a2)] [(.ref a2), (.ref a1)])) _
    refine XS.iconst X0.here hx rfl (hb hby d2_2) ?_
    show Steps p.tables e below (s₁.setTop (mkF m 3 #[.val (.ref a1), .val (.ref a2)] [(.int (0 : Int32)), (.ref a2), (.ref a1)])) _
    refine XS.aloadN X0.here hx rfl (hb hby d2_3) rfl rfl ?_
    show Steps p.tables e below (s₁.setTop (mkF m 4 #[.val (.ref a1), .val (.ref a2)] [(.ref a2), (.int (0 : Int32)), (.ref a2), (.ref a1)])) _
    refine X0.arraylength hx (by rw [e0]; exact Ar1.1) (State.isArrayOf_alike hZ.alike Ar1.2.1) (g := (mkF m 4 #[.val (.ref a1), .val (.ref a2)] [(.ref a2), (.int (0 : Int32)), (.ref a2), (.ref a1)])) rfl rfl (hb hby d2_4) _ ?_
    rw [len_of aS1 aN1]
    show Steps p.tables e below (s₁.setTop (mkF m 5 #[.val (.ref a1), .val (.ref a2)] [(.int (0 : Int32)), (.int (0 : Int32)), (.ref a2), (.ref a1)])) _
    refine XS.aconstNull X0.here hx rfl (hb hby d2_5) ?_
    exact kt
  obtain ⟨_, _, ⟨T2, L2, k2, n2⟩, -, X2', hS2', hge2, ⟨Lc2, hQ2, l2, y2, z2, hC2⟩, st2⟩ := X0.specialBackS hx (y := (⟨"java/lang/String", "<init>", "([CIILjava/lang/Void;)V"⟩ : MethodName)) rfl hown (mvT hZ (hw _ (List.mem_of_getElem? (i := 11) rfl))) (mvT hZ (hw _ (List.mem_of_getElem? (i := 12) rfl))) (mvT hZ (hw _ (List.mem_of_getElem? (i := 14) rfl))) (by decide) (backOfSH (s := s) (vm0 := s.vm) (W := 0) (rm_s2 l Z a0 hw [] a1 a2 h0 n0 Z0 hEL F_value_a1 F_coder_a1 E_a1 g_a1) hZ (hw _ (List.mem_of_getElem? (i := 14) rfl)) (hw _ (List.mem_of_getElem? (i := 7) rfl)) (by decide) (by decide) hEL C0.1) (g := (mkF m 6 #[.val (.ref a1), .val (.ref a2)] [.null, (.int (0 : Int32)), (.int (0 : Int32)), (.ref a2), (.ref a1)])) rfl (by rw [hml]; rfl) (Steps.refl _) (a := a1) (argsL := [(.ref a2), (.int (0 : Int32)), (.int (0 : Int32)), .null]) (rest := []) (lenOf pd___CIILjava_lang_Void__V_1938 rfl) rfl (by show 2 * 0 + _ ≤ _; exact Nat.le_of_eq rfl) (hb hby d2_6) (fun _ _ => ⟨rfl, e0, (by decide : 0 + 4 ≤ _), (by decide : 0 + 8 ≤ _)⟩)
  dsimp only [Pt.U, Pt.locs, Pt.cells, Pt.slots] at X2' hS2' hge2 l2 y2 z2 st2 hQ2 hC2
  subst l2 y2 z2
  have hS2 : s.Since T2.vm T2.heap.size := hS2'
  have hZ : Z.Warmed39 (s.setVm T2.vm).vm := State.Warmed39.trans (t := s) hZ hS2'.1
  have hown : (s.setVm T2.vm).vm.findClass "java/lang/String" = some m.cls := by rw [show (s.setVm T2.vm).vm = T2.vm from rfl, hS2'.1.alike.findClass]; exact hown
  have X2 := rebase (vm := T2.vm) X2'
  have C4 : CHr Z own_EL s.vm h0 T2.vm T2.heap := C0.trans hC2
  have sf4_a1 : Safe Z own_EL T2.vm T2.heap a1 := hC2.safe F_coder_a1.lt sf0_a1
  obtain ⟨rfl, N2q, K2⟩ := hQ2
  have f1 : Exa Z T2.heap a1 "java/lang/String" := E_a1.keep K2
  have f2 : n0 ≤ a1 := g_a1
  have f3 : Keep h0 T2.heap [a1] := (Keep.refl h0 [a1]).trans K2 (fun x hx => by cases List.mem_singleton.mp hx; exact Or.inl (by simp))
  have f4 : Arv Z T2.heap a2 kc .char (0 : Int32) [] (.int (0 : Int32)) := V_a2.keep K2 (by simp [(Ne.symm ne_a1_a2)])
  have Z2 : n0 ≤ T2.heap.size := Nat.le_trans Z0 K2.1
  have hk2 : T2.heap.size ≤ T2.heap.size := Nat.le_refl _
  have N2 := Fr.app N0 N2q
  obtain ⟨fs, hr, hrun, hended, hRW⟩ := X2.leaveW (s := s) hS2 hk2 (v := none) (fun _ => rfl) (hlocks := Bd.notSynchronized)
  refine ⟨_, _, pre_3 _ ?_, hrun, hended, _, _, rfl, ?_, (by show CHr Z own_EL s.vm s.heap T2.vm T2.heap; rw [hh]; exact C4.trans (CHv.at (s := s) (vm0 := T2.vm) X2 hZ hEL C4.1)), hRW.1, hRW.2.1, hRW.2.2.1, hRW.2.2.2.mono (by decide) (by decide)⟩
  · show Steps p.tables e below (s₁.setTop (mkF m 6 #[.val (.ref a1), .val (.ref a2)] [.null, (.int (0 : Int32)), (.int (0 : Int32)), (.ref a2), (.ref a1)])) _
    refine st2.trans ?_
    show Steps p.tables e below (T2.setTop (mkF m 9 #[.val (.ref a1), .val (.ref a2)] [])) _
    exact X2.returnOut hx Bd.returns (hb hby d2_9) hr
  · show Q_rm_s1 Z a1 a2 kc h0 n0 _ T2.heap _
    exact ⟨rfl, N2, f3⟩
theorem pn_1 : plainName "com/example/poolwright/poolwright/CopyStartsPinLaw" = true := by first | (simp [plainName, overriddenIn]; done) | decide +kernel
theorem ef_rm_d0 (m : MethodId) (x0 : Int32) (x1 : Int32) (x2 : Int32) : entryFrame m #[(.int x0), (.int x1), (.int x2)] 5 = mkF m 0 #[.val (.int x0), .val (.int x1), .val (.int x2), .unset, .unset] [] := by first | (simp [entryFrame, mkF, argsToLocals, Value.category]; done) | rfl
def Q_rm_d0 (Z : State) (p1 : Int32) (p2 : Int32) (p3 : Int32) (h0 : Heap) (n0 : Nat) (v : Option Value) (h : Heap) (L : List Loc) : Prop := v = some .null ∧ Fr n0 L ∧ h = h0
theorem d1_0 : decode method_3_code 0 = .ok (.iload_n 0, 1) := by decide +kernel
theorem d1_1 : decode method_3_code 1 = .ok (.iconst 3, 1) := by decide +kernel
theorem d1_2 : decode method_3_code 2 = .ok (.iand, 1) := by decide +kernel
theorem d1_3 : decode method_3_code 3 = .ok (.istore_n 3, 1) := by decide +kernel
theorem d1_4 : decode method_3_code 4 = .ok (.iload_n 3, 1) := by decide +kernel
theorem d1_5 : decode method_3_code 5 = .ok (.ifCond .ne 5, 3) := by decide +kernel
theorem d1_8 : decode method_3_code 8 = .ok (.aconst_null, 1) := by decide +kernel
theorem d1_9 : decode method_3_code 9 = .ok (.areturn, 1) := by decide +kernel
set_option maxRecDepth 65536 in
set_option maxHeartbeats 40000000 in
theorem rm_d0 (l : Launch) (Z : State) (a0 : Array Value) (hw : ∀ d ∈ tables_1, d.before a0 Z = true) (ws : List Jvm.Cond) (p1 : Int32) (p2 : Int32) (p3 : Int32) (h0 : Heap) (n0 : Nat) (Z0 : n0 ≤ h0.size) (hm : (p1 &&& (3 : Int32)) = 0) :
    MetFree l (⟨"com/example/poolwright/poolwright/CopyStartsPinLaw", "draw", "(III)Ljava/lang/String;"⟩ : MethodName) (head1 (Jvm.Cond.code (⟨"com/example/poolwright/poolwright/CopyStartsPinLaw", "draw", "(III)Ljava/lang/String;"⟩ : MethodName) method_3_code 5 (some (.object "java/lang/String")) :: ws) ({ frames := 0, cells := 0, slots := 0, locals := 0 } : Room)) (fun a U => a = #[(.int p1), (.int p2), (.int p3)] ∧ Z.Warmed39 U.vm ∧ U.heap = h0) (fun _ _ _ _ _ => True) (fun _ U o U' => ∃ v L, o = .returned v ∧ Q_rm_d0 Z p1 p2 p3 h0 n0 v U'.heap L ∧ FrameEnd U o U' L ({ frames := 0, cells := 0, slots := 0, locals := 0 } : Room).cells ({ frames := 0, cells := 0, slots := 0, locals := 0 } : Room).slots) := by
  refine MetFree.of_bodySF (plainFor_of_name pn_1) hisR ?_
  intro p e s m args below meth c s₁ Bd hml0 hP hK
  obtain ⟨rfl, hZ, hh⟩ := hP
  have hx := Bd.exec
  have hby := Bd.bytes
  have hml : c.maxLocals = 5 := hml0
  have hown : s.vm.findClass "com/example/poolwright/poolwright/CopyStartsPinLaw" = some m.cls := findClass_of_methodNamed Bd.named
  have hnm := (name_of_methodNamed Bd.named Bd.method).1
  have X0 : Stand p l e ({ frames := 0, cells := 0, slots := 0, locals := 0 } : Room) s m #[(.int p1), (.int p2), (.int p3)] below meth c s₁ [] 0 0 := Stand.of_body Bd
  have e0 : s₁.heap = h0 := by rw [← hh, Bd.state]; rfl
  have N0 := Fr.nil n0
  have pre0 : ∀ t, Steps p.tables e below (s₁.setTop (mkF m 0 #[.val (.int p1), .val (.int p2), .val (.int p3), .unset, .unset] [])) t → Steps p.tables e below (s₁.setTop (entryFrame m #[(.int p1), (.int p2), (.int p3)] 5)) t := fun t kt => castTop (ef_rm_d0 m p1 p2 p3) kt
  obtain ⟨fs, hr, hrun, hended, hW, hsame⟩ := X0.leave (v := some .null) (fun h => by rw [Bd.returns] at h; cases h) (hlocks := Bd.notSynchronized)
  refine ⟨_, _, pre0 _ ?_, hrun, hended, _, _, rfl, ?_, ⟨_, rfl⟩, hW, hsame.mono (by decide) (by decide)⟩
  · show Steps p.tables e below (s₁.setTop (mkF m 0 #[.val (.int p1), .val (.int p2), .val (.int p3), .unset, .unset] [])) _
    refine XS.iloadN X0.here hx rfl (hb hby d1_0) rfl ?_
    show Steps p.tables e below (s₁.setTop (mkF m 1 #[.val (.int p1), .val (.int p2), .val (.int p3), .unset, .unset] [(.int p1)])) _
    refine XS.iconst X0.here hx rfl (hb hby d1_1) ?_
    show Steps p.tables e below (s₁.setTop (mkF m 2 #[.val (.int p1), .val (.int p2), .val (.int p3), .unset, .unset] [(.int (3 : Int32)), (.int p1)])) _
    refine XS.iand X0.here hx rfl (hb hby d1_2) rfl ?_
    show Steps p.tables e below (s₁.setTop (mkF m 3 #[.val (.int p1), .val (.int p2), .val (.int p3), .unset, .unset] [(.int (p1 &&& (3 : Int32)))])) _
    refine XS.istoreN X0.here hx rfl (hb hby d1_3) rfl (l' := #[.val (.int p1), .val (.int p2), .val (.int p3), .val (.int (p1 &&& (3 : Int32))), .unset]) rfl ?_
    show Steps p.tables e below (s₁.setTop (mkF m 4 #[.val (.int p1), .val (.int p2), .val (.int p3), .val (.int (p1 &&& (3 : Int32))), .unset] [])) _
    refine XS.iloadN X0.here hx rfl (hb hby d1_4) rfl ?_
    show Steps p.tables e below (s₁.setTop (mkF m 5 #[.val (.int p1), .val (.int p2), .val (.int p3), .val (.int (p1 &&& (3 : Int32))), .unset] [(.int (p1 &&& (3 : Int32)))])) _
    refine XS.ifNo X0.here hx rfl (hb hby d1_5) rfl ((if0 _ _).trans (teq hm).2) ?_
    show Steps p.tables e below (s₁.setTop (mkF m 8 #[.val (.int p1), .val (.int p2), .val (.int p3), .val (.int (p1 &&& (3 : Int32))), .unset] [])) _
    refine XS.aconstNull X0.here hx rfl (hb hby d1_8) ?_
    show Steps p.tables e below (s₁.setTop (mkF m 9 #[.val (.int p1), .val (.int p2), .val (.int p3), .val (.int (p1 &&& (3 : Int32))), .unset] [.null])) _
    exact X0.areturnOut hx rfl Bd.returns rfl (hb hby d1_9) hr
  · show Q_rm_d0 Z p1 p2 p3 h0 n0 _ s₁.heap _
    rw [e0]
    exact ⟨rfl, N0, rfl⟩
theorem ef_rm_d1 (m : MethodId) (x0 : Int32) (x1 : Int32) (x2 : Int32) : entryFrame m #[(.int x0), (.int x1), (.int x2)] 5 = mkF m 0 #[.val (.int x0), .val (.int x1), .val (.int x2), .unset, .unset] [] := by first | (simp [entryFrame, mkF, argsToLocals, Value.category]; done) | rfl
def Q_rm_d1 (Z : State) (p1 : Int32) (p2 : Int32) (p3 : Int32) (cs : Int32) (h0 : Heap) (n0 : Nat) (v : Option Value) (h : Heap) (L : List Loc) : Prop := ∃ b : Addr, v = some (.ref b) ∧ Fr n0 L ∧ Keep h0 h []
theorem d1_10 : decode method_3_code 10 = .ok (.iload_n 3, 1) := by decide +kernel
theorem d1_11 : decode method_3_code 11 = .ok (.iconst 1, 1) := by decide +kernel
theorem d1_12 : decode method_3_code 12 = .ok (.if_icmp .ne 14, 3) := by decide +kernel
theorem d1_15 : decode method_3_code 15 = .ok (.new 22, 3) := by decide +kernel
theorem d1_18 : decode method_3_code 18 = .ok (.dup, 1) := by decide +kernel
theorem d1_19 : decode method_3_code 19 = .ok (.iconst 0, 1) := by decide +kernel
theorem d1_20 : decode method_3_code 20 = .ok (.newarray .char, 2) := by decide +kernel
theorem pd___C_V_325 : parseMethodDescriptor "([C)V" = some ⟨[(.array .char)], none⟩ := by decide +kernel
theorem d1_22 : decode method_3_code 22 = .ok (.invokespecial 24, 3) := by decide +kernel
theorem d1_25 : decode method_3_code 25 = .ok (.areturn, 1) := by decide +kernel
theorem d1_26 : decode method_3_code 26 = .ok (.iload_n 3, 1) := by decide +kernel
theorem d1_27 : decode method_3_code 27 = .ok (.iconst 2, 1) := by decide +kernel
theorem d1_28 : decode method_3_code 28 = .ok (.if_icmp .ne 28, 3) := by decide +kernel
theorem d1_31 : decode method_3_code 31 = .ok (.iconst 1, 1) := by decide +kernel
theorem d1_32 : decode method_3_code 32 = .ok (.newarray .char, 2) := by decide +kernel
theorem d1_34 : decode method_3_code 34 = .ok (.astore 4, 2) := by decide +kernel
theorem d1_36 : decode method_3_code 36 = .ok (.aload 4, 2) := by decide +kernel
theorem d1_38 : decode method_3_code 38 = .ok (.iconst 0, 1) := by decide +kernel
theorem d1_39 : decode method_3_code 39 = .ok (.iload_n 1, 1) := by decide +kernel
theorem d1_40 : decode method_3_code 40 = .ok (.sipush 255, 3) := by decide +kernel
theorem d1_43 : decode method_3_code 43 = .ok (.iand, 1) := by decide +kernel
theorem d1_44 : decode method_3_code 44 = .ok (.i2c, 1) := by decide +kernel
theorem d1_45 : decode method_3_code 45 = .ok (.castore, 1) := by decide +kernel
theorem d1_46 : decode method_3_code 46 = .ok (.new 22, 3) := by decide +kernel
theorem d1_49 : decode method_3_code 49 = .ok (.dup, 1) := by decide +kernel
theorem d1_50 : decode method_3_code 50 = .ok (.aload 4, 2) := by decide +kernel
theorem d1_52 : decode method_3_code 52 = .ok (.invokespecial 24, 3) := by decide +kernel
theorem d1_55 : decode method_3_code 55 = .ok (.areturn, 1) := by decide +kernel
theorem d1_56 : decode method_3_code 56 = .ok (.iconst 2, 1) := by decide +kernel
theorem d1_57 : decode method_3_code 57 = .ok (.newarray .char, 2) := by decide +kernel
theorem d1_59 : decode method_3_code 59 = .ok (.astore 4, 2) := by decide +kernel
theorem d1_61 : decode method_3_code 61 = .ok (.aload 4, 2) := by decide +kernel
theorem d1_63 : decode method_3_code 63 = .ok (.iconst 0, 1) := by decide +kernel
theorem d1_64 : decode method_3_code 64 = .ok (.iload_n 1, 1) := by decide +kernel
theorem d1_65 : decode method_3_code 65 = .ok (.sipush 255, 3) := by decide +kernel
theorem d1_68 : decode method_3_code 68 = .ok (.iand, 1) := by decide +kernel
theorem d1_69 : decode method_3_code 69 = .ok (.i2c, 1) := by decide +kernel
theorem d1_70 : decode method_3_code 70 = .ok (.castore, 1) := by decide +kernel
theorem d1_71 : decode method_3_code 71 = .ok (.aload 4, 2) := by decide +kernel
theorem d1_73 : decode method_3_code 73 = .ok (.iconst 1, 1) := by decide +kernel
theorem d1_74 : decode method_3_code 74 = .ok (.iload_n 2, 1) := by decide +kernel
theorem d1_75 : decode method_3_code 75 = .ok (.sipush 255, 3) := by decide +kernel
theorem d1_78 : decode method_3_code 78 = .ok (.iand, 1) := by decide +kernel
theorem d1_79 : decode method_3_code 79 = .ok (.i2c, 1) := by decide +kernel
theorem d1_80 : decode method_3_code 80 = .ok (.castore, 1) := by decide +kernel
theorem d1_81 : decode method_3_code 81 = .ok (.new 22, 3) := by decide +kernel
theorem d1_84 : decode method_3_code 84 = .ok (.dup, 1) := by decide +kernel
theorem d1_85 : decode method_3_code 85 = .ok (.aload 4, 2) := by decide +kernel
theorem d1_87 : decode method_3_code 87 = .ok (.invokespecial 24, 3) := by decide +kernel
theorem d1_90 : decode method_3_code 90 = .ok (.areturn, 1) := by decide +kernel
set_option maxRecDepth 65536 in
set_option maxHeartbeats 40000000 in
theorem rm_d1 (l : Launch) (Z : State) (a0 : Array Value) (hw : ∀ d ∈ tables_1, d.before a0 Z = true) (ws : List Jvm.Cond) (p1 : Int32) (p2 : Int32) (p3 : Int32) (cs : Int32) (h0 : Heap) (n0 : Nat) (Z0 : n0 ≤ h0.size) (hEL : EW Z a0 own_EL) (S_CS : Sta Z h0 "java/lang/String" "COMPACT_STRINGS" "Z" (.int cs)) (hcs : ¬ cs = (0 : Int32)) (hm : ¬ (p1 &&& (3 : Int32)) = 0) :
    MetFree l (⟨"com/example/poolwright/poolwright/CopyStartsPinLaw", "draw", "(III)Ljava/lang/String;"⟩ : MethodName) (head1 (Jvm.Cond.code (⟨"com/example/poolwright/poolwright/CopyStartsPinLaw", "draw", "(III)Ljava/lang/String;"⟩ : MethodName) method_3_code 5 (some (.object "java/lang/String")) :: ws) ({ frames := 4, cells := 6, slots := 12, locals := 66 } : Room)) (fun a U => a = #[(.int p1), (.int p2), (.int p3)] ∧ Z.Warmed39 U.vm ∧ U.heap = h0 ∧ CHv Z own_EL U.vm h0) (fun _ _ _ _ _ => True) (fun _ U o U' => ∃ v L, o = .returned v ∧ Q_rm_d1 Z p1 p2 p3 cs h0 n0 v U'.heap L ∧ CHr Z own_EL U.vm U.heap U'.vm U'.heap ∧ ReturnedEndW U o U' L ({ frames := 4, cells := 6, slots := 12, locals := 66 } : Room).cells ({ frames := 4, cells := 6, slots := 12, locals := 66 } : Room).slots) := by
  refine MetFree.of_bodySF (plainFor_of_name pn_1) hisR ?_
  intro p e s m args below meth c s₁ Bd hml0 hP hK
  obtain ⟨rfl, hZ, hh, hCH⟩ := hP
  have hx := Bd.exec
  have hby := Bd.bytes
  have hml : c.maxLocals = 5 := hml0
  have hown : s.vm.findClass "com/example/poolwright/poolwright/CopyStartsPinLaw" = some m.cls := findClass_of_methodNamed Bd.named
  have hnm := (name_of_methodNamed Bd.named Bd.method).1
  have X0 : Stand p l e ({ frames := 4, cells := 6, slots := 12, locals := 66 } : Room) s m #[(.int p1), (.int p2), (.int p3)] below meth c s₁ [] 0 0 := Stand.of_body Bd
  have e0 : s₁.heap = h0 := by rw [← hh, Bd.state]; rfl
  have N0 := Fr.nil n0
  have pre0 : ∀ t, Steps p.tables e below (s₁.setTop (mkF m 0 #[.val (.int p1), .val (.int p2), .val (.int p3), .unset, .unset] [])) t → Steps p.tables e below (s₁.setTop (entryFrame m #[(.int p1), (.int p2), (.int p3)] 5)) t := fun t kt => castTop (ef_rm_d1 m p1 p2 p3) kt
  have C0 : CHr Z own_EL s.vm h0 s.vm h0 := CHr.refl hCH
  have pre_1 : ∀ t, Steps p.tables e below (s₁.setTop (mkF m 12 #[.val (.int p1), .val (.int p2), .val (.int p3), .val (.int (p1 &&& (3 : Int32))), .unset] [(.int (1 : Int32)), (.int (p1 &&& (3 : Int32)))])) t → Steps p.tables e below (s₁.setTop (entryFrame m #[(.int p1), (.int p2), (.int p3)] 5)) t := by
    intro t kt
    refine pre0 _ ?_
    show Steps p.tables e below (s₁.setTop (mkF m 0 #[.val (.int p1), .val (.int p2), .val (.int p3), .unset, .unset] [])) _
    refine XS.iloadN X0.here hx rfl (hb hby d1_0) rfl ?_
    show Steps p.tables e below (s₁.setTop (mkF m 1 #[.val (.int p1), .val (.int p2), .val (.int p3), .unset, .unset] [(.int p1)])) _
    refine XS.iconst X0.here hx rfl (hb hby d1_1) ?_
    show Steps p.tables e below (s₁.setTop (mkF m 2 #[.val (.int p1), .val (.int p2), .val (.int p3), .unset, .unset] [(.int (3 : Int32)), (.int p1)])) _
    refine XS.iand X0.here hx rfl (hb hby d1_2) rfl ?_
    show Steps p.tables e below (s₁.setTop (mkF m 3 #[.val (.int p1), .val (.int p2), .val (.int p3), .unset, .unset] [(.int (p1 &&& (3 : Int32)))])) _
    refine XS.istoreN X0.here hx rfl (hb hby d1_3) rfl (l' := #[.val (.int p1), .val (.int p2), .val (.int p3), .val (.int (p1 &&& (3 : Int32))), .unset]) rfl ?_
    show Steps p.tables e below (s₁.setTop (mkF m 4 #[.val (.int p1), .val (.int p2), .val (.int p3), .val (.int (p1 &&& (3 : Int32))), .unset] [])) _
    refine XS.iloadN X0.here hx rfl (hb hby d1_4) rfl ?_
    show Steps p.tables e below (s₁.setTop (mkF m 5 #[.val (.int p1), .val (.int p2), .val (.int p3), .val (.int (p1 &&& (3 : Int32))), .unset] [(.int (p1 &&& (3 : Int32)))])) _
    refine XS.ifYes X0.here hx rfl (pc0 := 5) (pc' := 10) rfl (hb hby d1_5) rfl ((if0 _ _).trans (feq hm).2) (by decide) (by decide) ?_
    show Steps p.tables e below (s₁.setTop (mkF m 10 #[.val (.int p1), .val (.int p2), .val (.int p3), .val (.int (p1 &&& (3 : Int32))), .unset] [])) _
    refine XS.iloadN X0.here hx rfl (hb hby d1_10) rfl ?_
    show Steps p.tables e below (s₁.setTop (mkF m 11 #[.val (.int p1), .val (.int p2), .val (.int p3), .val (.int (p1 &&& (3 : Int32))), .unset] [(.int (p1 &&& (3 : Int32)))])) _
    refine XS.iconst X0.here hx rfl (hb hby d1_11) ?_
    exact kt
  by_cases hc12 : (p1 &&& (3 : Int32)) = (1 : Int32)
  · obtain ⟨T2, h2, X2, e2, E2, A2, D2, -, st2⟩ := newO X0 hx hZ hown (hw _ (List.mem_of_getElem? (i := 5) rfl)) (hw _ (List.mem_of_getElem? (i := 6) rfl)) (hw _ (List.mem_of_getElem? (i := 7) rfl)) e0 (g := (mkF m 15 #[.val (.int p1), .val (.int p2), .val (.int p3), .val (.int (p1 &&& (3 : Int32))), .unset] [])) rfl (hb hby d1_15) (by decide) (by decide)
    obtain ⟨b2, g2⟩ : ∃ z, z = h0.size := ⟨_, rfl⟩
    rw [← g2] at A2 D2 st2
    have sz_b2 : h0.size ≤ b2 := Nat.le_trans (Keep.refl h0 []).1 (Nat.le_of_eq g2.symm)
    have f1 : Sta Z h2 "java/lang/String" "COMPACT_STRINGS" "Z" (.int cs) := S_CS.ext E2
    have f2 : Keep h0 h2 [] := (Keep.refl h0 []).ext E2
    have C3 : CHr Z own_EL s.vm h0 s.vm h2 := C0.trans (CHr.ext E2 C0.1)
    have sf3_b2 : Safe Z own_EL s.vm h2 b2 := Safe.ext E2 C0.1 (Safe.new (Nat.le_of_eq g2.symm))
    have g_b2 : n0 ≤ b2 := Nat.le_trans Z0 (Nat.le_of_eq g2.symm)
    have Z2 : n0 ≤ h2.size := Nat.le_trans Z0 E2.1
    have F_coder_b2 : Fld Z h2 b2 "java/lang/String" "coder" "B" (.int (0 : Int32)) := D2 (Or.inr (hw _ (List.mem_of_getElem? (i := 31) rfl))) (ty := .byte) (by decide)
    have F_value_b2 : Fld Z h2 b2 "java/lang/String" "value" "[B" .null := D2 (Or.inr (hw _ (List.mem_of_getElem? (i := 33) rfl))) (ty := (.array .byte)) (by decide)
    obtain ⟨T4, h4, k4, X4, e4, E4, A4, st4⟩ := newP X2 hx hZ (hw _ (List.mem_of_getElem? (i := 4) rfl)) e2 (g := (mkF m 20 #[.val (.int p1), .val (.int p2), .val (.int p3), .val (.int (p1 &&& (3 : Int32))), .unset] [(.int (0 : Int32)), (.ref b2), (.ref b2)])) rfl (hb hby d1_20) rfl (by decide) (cap := 0) (by decide) (by decide) (by decide) (by decide)
    obtain ⟨b4, g4⟩ : ∃ z, z = h2.size := ⟨_, rfl⟩
    rw [← g4] at A4 st4
    have sz_b4 : h0.size ≤ b4 := Nat.le_trans f2.1 (Nat.le_of_eq g4.symm)
    have ne_b2_b4 : b2 ≠ b4 := Nat.ne_of_lt (Nat.lt_of_lt_of_le A2.lt (Nat.le_of_eq g4.symm))
    have f3 : Sta Z h4 "java/lang/String" "COMPACT_STRINGS" "Z" (.int cs) := f1.ext E4
    have f4 : Keep h0 h4 [] := f2.ext E4
    have f5 : n0 ≤ b2 := g_b2
    have f6 : Exa Z h4 b2 "java/lang/String" := A2.ext E4
    have f7 : Fld Z h4 b2 "java/lang/String" "coder" "B" (.int (0 : Int32)) := F_coder_b2.ext E4
    have f8 : Fld Z h4 b2 "java/lang/String" "value" "[B" .null := F_value_b2.ext E4
    have C5 : CHr Z own_EL s.vm h0 s.vm h4 := C3.trans (CHr.ext E4 C3.1)
    have sf5_b2 : Safe Z own_EL s.vm h4 b2 := Safe.ext E4 C3.1 sf3_b2
    have sf5_b4 : Safe Z own_EL s.vm h4 b4 := Safe.ext E4 C3.1 (Safe.new (Nat.le_of_eq g4.symm))
    have g_b4 : n0 ≤ b4 := Nat.le_trans Z2 (Nat.le_of_eq g4.symm)
    have Z4 : n0 ≤ h4.size := Nat.le_trans Z2 E4.1
    have V_b4 : Arv Z h4 b4 k4 .char (0 : Int32) [] (.int (0 : Int32)) := Arv.new A4 (by decide)
    have pre_7 : ∀ t, Steps p.tables e below (T4.setTop (mkF m 22 #[.val (.int p1), .val (.int p2), .val (.int p3), .val (.int (p1 &&& (3 : Int32))), .unset] [(.ref b4), (.ref b2), (.ref b2)])) t → Steps p.tables e below (s₁.setTop (entryFrame m #[(.int p1), (.int p2), (.int p3)] 5)) t := by
      intro t kt
      refine pre_1 _ ?_
      show Steps p.tables e below (s₁.setTop (mkF m 12 #[.val (.int p1), .val (.int p2), .val (.int p3), .val (.int (p1 &&& (3 : Int32))), .unset] [(.int (1 : Int32)), (.int (p1 &&& (3 : Int32)))])) _
      refine XS.icmpNo X0.here hx rfl (hb hby d1_12) rfl (teq hc12).2 ?_
      show Steps p.tables e below (s₁.setTop (mkF m 15 #[.val (.int p1), .val (.int p2), .val (.int p3), .val (.int (p1 &&& (3 : Int32))), .unset] [])) _
      refine st2 _ ?_
      show Steps p.tables e below (T2.setTop (mkF m 18 #[.val (.int p1), .val (.int p2), .val (.int p3), .val (.int (p1 &&& (3 : Int32))), .unset] [(.ref b2)])) _
      refine XS.dup X2.here hx rfl (hb hby d1_18) rfl rfl ?_
      show Steps p.tables e below (T2.setTop (mkF m 19 #[.val (.int p1), .val (.int p2), .val (.int p3), .val (.int (p1 &&& (3 : Int32))), .unset] [(.ref b2), (.ref b2)])) _
      refine XS.iconst X2.here hx rfl (hb hby d1_19) ?_
      show Steps p.tables e below (T2.setTop (mkF m 20 #[.val (.int p1), .val (.int p2), .val (.int p3), .val (.int (p1 &&& (3 : Int32))), .unset] [(.int (0 : Int32)), (.ref b2), (.ref b2)])) _
      refine st4 _ ?_
      exact kt
    obtain ⟨_, _, ⟨T6, L6, k6, n6⟩, -, X6', hS6', hge6, ⟨Lc6, hQ6, l6, y6, z6, hC6⟩, st6⟩ := X4.specialBackS hx (y := (⟨"java/lang/String", "<init>", "([C)V"⟩ : MethodName)) rfl hown (mvT hZ (hw _ (List.mem_of_getElem? (i := 8) rfl))) (mvT hZ (hw _ (List.mem_of_getElem? (i := 9) rfl))) (mvT hZ (hw _ (List.mem_of_getElem? (i := 10) rfl))) (by decide) (backOfSH (s := s) (vm0 := s.vm) (W := 1) (rm_s1 l Z a0 hw [] b2 b4 k4 h4 n0 Z4 hEL f8 f7 f6 f5 V_b4) hZ (hw _ (List.mem_of_getElem? (i := 10) rfl)) (hw _ (List.mem_of_getElem? (i := 7) rfl)) (by decide) (by decide) hEL C5.1) (g := (mkF m 22 #[.val (.int p1), .val (.int p2), .val (.int p3), .val (.int (p1 &&& (3 : Int32))), .unset] [(.ref b4), (.ref b2), (.ref b2)])) rfl (by rw [hml]; rfl) (Steps.refl _) (a := b2) (argsL := [(.ref b4)]) (rest := [(.ref b2)]) (lenOf pd___C_V_325 rfl) rfl (by show 2 * 0 + _ ≤ _; exact Nat.le_of_eq rfl) (hb hby d1_22) (fun _ _ => ⟨rfl, e4, (by decide : 2 + 4 ≤ _), (by decide : 4 + 8 ≤ _)⟩)
    dsimp only [Pt.U, Pt.locs, Pt.cells, Pt.slots] at X6' hS6' hge6 l6 y6 z6 st6 hQ6 hC6
    subst l6 y6 z6
    have hS6 : s.Since T6.vm T6.heap.size := hS6'
    have hZ : Z.Warmed39 (s.setVm T6.vm).vm := State.Warmed39.trans (t := s) hZ hS6'.1
    have hown : (s.setVm T6.vm).vm.findClass "com/example/poolwright/poolwright/CopyStartsPinLaw" = some m.cls := by rw [show (s.setVm T6.vm).vm = T6.vm from rfl, hS6'.1.alike.findClass]; exact hown
    have X6 := rebase (vm := T6.vm) X6'
    have C8 : CHr Z own_EL s.vm h0 T6.vm T6.heap := C5.trans hC6
    have sf8_b2 : Safe Z own_EL T6.vm T6.heap b2 := hC6.safe f8.lt sf5_b2
    have sf8_b4 : Safe Z own_EL T6.vm T6.heap b4 := hC6.safe V_b4.lt sf5_b4
    obtain ⟨rfl, N6q, K6⟩ := hQ6
    have f9 : Keep h0 T6.heap [] := f4.trans K6 (fun x hx => by cases List.mem_singleton.mp hx; exact Or.inr sz_b2)
    have f10 : n0 ≤ b2 := f5
    have f11 : Exa Z T6.heap b2 "java/lang/String" := f6.keep K6
    have f12 : n0 ≤ b4 := g_b4
    have f13 : Arv Z T6.heap b4 k4 .char (0 : Int32) [] (.int (0 : Int32)) := V_b4.keep K6 (by simp [(Ne.symm ne_b2_b4)])
    have Z6 : n0 ≤ T6.heap.size := Nat.le_trans Z4 K6.1
    have hk6 : T6.heap.size ≤ T6.heap.size := Nat.le_refl _
    have N6 := Fr.app N0 N6q
    obtain ⟨fs, hr, hrun, hended, hRW⟩ := X6.leaveW (s := s) hS6 hk6 (v := some (.ref b2)) (fun h => by rw [Bd.returns] at h; cases h) (hlocks := Bd.notSynchronized)
    refine ⟨_, _, pre_7 _ ?_, hrun, hended, _, _, rfl, ?_, (by show CHr Z own_EL s.vm s.heap T6.vm T6.heap; rw [hh]; exact C8.trans (CHv.at (s := s) (vm0 := T6.vm) X6 hZ hEL C8.1)), hRW.1, hRW.2.1, hRW.2.2.1, hRW.2.2.2.mono (by decide) (by decide)⟩
    · show Steps p.tables e below (T4.setTop (mkF m 22 #[.val (.int p1), .val (.int p2), .val (.int p3), .val (.int (p1 &&& (3 : Int32))), .unset] [(.ref b4), (.ref b2), (.ref b2)])) _
      refine st6.trans ?_
      show Steps p.tables e below (T6.setTop (mkF m 25 #[.val (.int p1), .val (.int p2), .val (.int p3), .val (.int (p1 &&& (3 : Int32))), .unset] [(.ref b2)])) _
      exact X6.areturnOut hx rfl Bd.returns rfl (hb hby d1_25) hr
    · show Q_rm_d1 Z p1 p2 p3 cs h0 n0 _ T6.heap _
      exact ⟨_, rfl, N6, f9⟩
  · have pre_9 : ∀ t, Steps p.tables e below (s₁.setTop (mkF m 28 #[.val (.int p1), .val (.int p2), .val (.int p3), .val (.int (p1 &&& (3 : Int32))), .unset] [(.int (2 : Int32)), (.int (p1 &&& (3 : Int32)))])) t → Steps p.tables e below (s₁.setTop (entryFrame m #[(.int p1), (.int p2), (.int p3)] 5)) t := by
      intro t kt
      refine pre_1 _ ?_
      show Steps p.tables e below (s₁.setTop (mkF m 12 #[.val (.int p1), .val (.int p2), .val (.int p3), .val (.int (p1 &&& (3 : Int32))), .unset] [(.int (1 : Int32)), (.int (p1 &&& (3 : Int32)))])) _
      refine XS.icmpYes X0.here hx rfl (pc0 := 12) (pc' := 26) rfl (hb hby d1_12) rfl (feq hc12).2 (by decide) (by decide) ?_
      show Steps p.tables e below (s₁.setTop (mkF m 26 #[.val (.int p1), .val (.int p2), .val (.int p3), .val (.int (p1 &&& (3 : Int32))), .unset] [])) _
      refine XS.iloadN X0.here hx rfl (hb hby d1_26) rfl ?_
      show Steps p.tables e below (s₁.setTop (mkF m 27 #[.val (.int p1), .val (.int p2), .val (.int p3), .val (.int (p1 &&& (3 : Int32))), .unset] [(.int (p1 &&& (3 : Int32)))])) _
      refine XS.iconst X0.here hx rfl (hb hby d1_27) ?_
      exact kt
    by_cases hc28 : (p1 &&& (3 : Int32)) = (2 : Int32)
    · obtain ⟨T10, h10, k10, X10, e10, E10, A10, st10⟩ := newP X0 hx hZ (hw _ (List.mem_of_getElem? (i := 4) rfl)) e0 (g := (mkF m 32 #[.val (.int p1), .val (.int p2), .val (.int p3), .val (.int (p1 &&& (3 : Int32))), .unset] [(.int (1 : Int32))])) rfl (hb hby d1_32) rfl (by decide) (cap := 1) (by decide) (by decide) (by decide) (by decide)
      obtain ⟨b10, g10⟩ : ∃ z, z = h0.size := ⟨_, rfl⟩
      rw [← g10] at A10 st10
      have sz_b10 : h0.size ≤ b10 := Nat.le_trans (Keep.refl h0 []).1 (Nat.le_of_eq g10.symm)
      have f14 : Sta Z h10 "java/lang/String" "COMPACT_STRINGS" "Z" (.int cs) := S_CS.ext E10
      have f15 : Keep h0 h10 [] := (Keep.refl h0 []).ext E10
      have C11 : CHr Z own_EL s.vm h0 s.vm h10 := C0.trans (CHr.ext E10 C0.1)
      have sf11_b10 : Safe Z own_EL s.vm h10 b10 := Safe.ext E10 C0.1 (Safe.new (Nat.le_of_eq g10.symm))
      have g_b10 : n0 ≤ b10 := Nat.le_trans Z0 (Nat.le_of_eq g10.symm)
      have Z10 : n0 ≤ h10.size := Nat.le_trans Z0 E10.1
      have V_b10 : Arv Z h10 b10 k10 .char (1 : Int32) [(.int (0 : Int32))] (.int (0 : Int32)) := (Arv.new A10 (by decide)).pad (pad_rep [] (.int (0 : Int32)) 1)
      obtain ⟨cl12, Ar12, aq12, aS12, aN12, aH12, aG12⟩ := V_b10
      have hin12 : ¬ ((0 : Int32) < 0 ∨ cl12.slots.size ≤ ((0 : Int32)).toNatClampNeg) := inb_of aS12 ⟨by decide, by decide⟩
      obtain ⟨T13, h13, X13, e13, W13, st13⟩ := stC X10 hx hZ e10 Ar12 (j := (0 : Int32)) hin12 (g := (mkF m 45 #[.val (.int p1), .val (.int p2), .val (.int p3), .val (.int (p1 &&& (3 : Int32))), .val (.ref b10)] [(.int ((p2 &&& (255 : Int32)).toUInt32.toUInt16.toUInt32.toInt32)), (.int (0 : Int32)), (.ref b10)])) rfl rfl (hb hby d1_45)
      have V_b10_13 : Arv Z h13 b10 k10 .char (1 : Int32) [(.int (nar .char ((p2 &&& (255 : Int32)).toUInt32.toUInt16.toUInt32.toInt32)))] (.int (0 : Int32)) := Arv.set Ar12 aq12 aS12 aN12 aH12 aG12 (fits_nar_char _) W13 0 rfl (Nat.le_of_ble_eq_true rfl)
      have f16 : Sta Z h13 "java/lang/String" "COMPACT_STRINGS" "Z" (.int cs) := f14.wr W13
      have f17 : Keep h0 h13 [] := f15.wr W13 (Or.inr sz_b10)
      have f18 : n0 ≤ b10 := g_b10
      have C14 : CHr Z own_EL s.vm h0 s.vm h13 := C11.trans (CHr.wr W13 sf11_b10 C11.1)
      have sf14_b10 : Safe Z own_EL s.vm h13 b10 := Safe.wr W13 sf11_b10 C11.1 sf11_b10
      have N13 := Fr.snoc X13 N0 f18
      have Z13 : n0 ≤ h13.size := by rw [W13.size]; exact Z10
      obtain ⟨T15, h15, X15, e15, E15, A15, D15, -, st15⟩ := newO X13 hx hZ hown (hw _ (List.mem_of_getElem? (i := 5) rfl)) (hw _ (List.mem_of_getElem? (i := 6) rfl)) (hw _ (List.mem_of_getElem? (i := 7) rfl)) e13 (g := (mkF m 46 #[.val (.int p1), .val (.int p2), .val (.int p3), .val (.int (p1 &&& (3 : Int32))), .val (.ref b10)] [])) rfl (hb hby d1_46) (by decide) (by decide)
      obtain ⟨b15, g15⟩ : ∃ z, z = h13.size := ⟨_, rfl⟩
      rw [← g15] at A15 D15 st15
      have sz_b15 : h0.size ≤ b15 := Nat.le_trans f17.1 (Nat.le_of_eq g15.symm)
      have ne_b10_b15 : b10 ≠ b15 := Nat.ne_of_lt (Nat.lt_of_lt_of_le V_b10_13.lt (Nat.le_of_eq g15.symm))
      have f19 : Sta Z h15 "java/lang/String" "COMPACT_STRINGS" "Z" (.int cs) := f16.ext E15
      have f20 : Keep h0 h15 [] := f17.ext E15
      have f21 : n0 ≤ b10 := f18
      have f22 : Arv Z h15 b10 k10 .char (1 : Int32) [(.int (nar .char ((p2 &&& (255 : Int32)).toUInt32.toUInt16.toUInt32.toInt32)))] (.int (0 : Int32)) := V_b10_13.ext E15
      have C16 : CHr Z own_EL s.vm h0 s.vm h15 := C14.trans (CHr.ext E15 C14.1)
      have sf16_b10 : Safe Z own_EL s.vm h15 b10 := Safe.ext E15 C14.1 sf14_b10
      have sf16_b15 : Safe Z own_EL s.vm h15 b15 := Safe.ext E15 C14.1 (Safe.new (Nat.le_of_eq g15.symm))
      have g_b15 : n0 ≤ b15 := Nat.le_trans Z13 (Nat.le_of_eq g15.symm)
      have Z15 : n0 ≤ h15.size := Nat.le_trans Z13 E15.1
      have F_coder_b15 : Fld Z h15 b15 "java/lang/String" "coder" "B" (.int (0 : Int32)) := D15 (Or.inr (hw _ (List.mem_of_getElem? (i := 31) rfl))) (ty := .byte) (by decide)
      have F_value_b15 : Fld Z h15 b15 "java/lang/String" "value" "[B" .null := D15 (Or.inr (hw _ (List.mem_of_getElem? (i := 33) rfl))) (ty := (.array .byte)) (by decide)
      obtain ⟨_, _, ⟨T17, L17, k17, n17⟩, -, X17, ⟨Lc17, hQ17, l17, y17, z17⟩, st17⟩ := X15.specialBack hx (y := (⟨"java/lang/String", "<init>", "([C)V"⟩ : MethodName)) rfl hown (mvT hZ (hw _ (List.mem_of_getElem? (i := 8) rfl))) (mvT hZ (hw _ (List.mem_of_getElem? (i := 9) rfl))) (mvT hZ (hw _ (List.mem_of_getElem? (i := 10) rfl))) (by decide) (StrChars.Road.backV (W := 1) hZ (fun d hd => hw d (own_words d hd)) (kI := 4) (hw _ (List.mem_of_getElem? (i := 6) rfl)) (cs := [(nar .char ((p2 &&& (255 : Int32)).toUInt32.toUInt16.toUInt32.toInt32))]) (bs := [(nar .char ((p2 &&& (255 : Int32)).toUInt32.toUInt16.toUInt32.toInt32)).toInt8.toInt32]) (n := 1) g_b15 Z15 A15 F_value_b15 F_coder_b15 f22 f19 hcs rfl rfl (by decide) (by decide) (own_lat1 p2) rfl (by decide) (by decide)) (g := (mkF m 52 #[.val (.int p1), .val (.int p2), .val (.int p3), .val (.int (p1 &&& (3 : Int32))), .val (.ref b10)] [(.ref b10), (.ref b15), (.ref b15)])) rfl (by rw [hml]; rfl) (Steps.refl _) (a := b15) (argsL := [(.ref b10)]) (rest := [(.ref b15)]) (lenOf pd___C_V_325 rfl) rfl (by show 2 * 0 + _ ≤ _; exact Nat.le_of_eq rfl) (hb hby d1_52) (fun _ _ => ⟨rfl, e15, (by decide : 2 + 1 ≤ _), (by decide : 5 + 1 ≤ _)⟩)
      dsimp only [Pt.U, Pt.locs, Pt.cells, Pt.slots] at X17 l17 y17 z17 st17 hQ17
      subst l17 y17 z17
      obtain ⟨rfl, N17q, K17, -⟩ := hQ17
      have f23 : Keep h0 T17.heap [] := f20.trans K17 (fun x hx => by cases List.mem_singleton.mp hx; exact Or.inr sz_b15)
      have f24 : n0 ≤ b10 := f21
      have f25 : Arv Z T17.heap b10 k10 .char (1 : Int32) [(.int (nar .char ((p2 &&& (255 : Int32)).toUInt32.toUInt16.toUInt32.toInt32)))] (.int (0 : Int32)) := f22.keep K17 (by simp [ne_b10_b15])
      have f26 : n0 ≤ b15 := g_b15
      have f27 : Exa Z T17.heap b15 "java/lang/String" := A15.keep K17
      have C18 : CHr Z own_EL s.vm h0 s.vm T17.heap := C16.trans (CHr.keep K17 (sfS sf16_b15 sf0) C16.1)
      have sf18_b10 : Safe Z own_EL s.vm T17.heap b10 := Safe.keep K17 (sfS sf16_b15 sf0) C16.1 sf16_b10
      have sf18_b15 : Safe Z own_EL s.vm T17.heap b15 := Safe.keep K17 (sfS sf16_b15 sf0) C16.1 sf16_b15
      have Z17 : n0 ≤ T17.heap.size := Nat.le_trans Z15 K17.1
      have N17 := Fr.app N13 N17q
      obtain ⟨fs, hr, hrun, hended, hW, hsame⟩ := X17.leave (v := some (.ref b15)) (fun h => by rw [Bd.returns] at h; cases h) (hlocks := Bd.notSynchronized)
      refine ⟨_, _, pre_9 _ ?_, hrun, hended, _, _, rfl, ?_, (by show CHr Z own_EL s.vm s.heap T17.vm T17.heap; rw [hh]; exact C18.trans (CHv.at (s := s) (vm0 := s.vm) X17 hZ hEL C18.1)), ReturnedEndW.of_narrow ⟨_, rfl⟩ hW (hsame.mono (by decide) (by decide))⟩
      · show Steps p.tables e below (s₁.setTop (mkF m 28 #[.val (.int p1), .val (.int p2), .val (.int p3), .val (.int (p1 &&& (3 : Int32))), .unset] [(.int (2 : Int32)), (.int (p1 &&& (3 : Int32)))])) _
        refine XS.icmpNo X0.here hx rfl (hb hby d1_28) rfl (teq hc28).2 ?_
        show Steps p.tables e below (s₁.setTop (mkF m 31 #[.val (.int p1), .val (.int p2), .val (.int p3), .val (.int (p1 &&& (3 : Int32))), .unset] [])) _
        refine XS.iconst X0.here hx rfl (hb hby d1_31) ?_
        show Steps p.tables e below (s₁.setTop (mkF m 32 #[.val (.int p1), .val (.int p2), .val (.int p3), .val (.int (p1 &&& (3 : Int32))), .unset] [(.int (1 : Int32))])) _
        refine st10 _ ?_
        show Steps p.tables e below (T10.setTop (mkF m 34 #[.val (.int p1), .val (.int p2), .val (.int p3), .val (.int (p1 &&& (3 : Int32))), .unset] [(.ref b10)])) _
        refine XS.astore X10.here hx rfl (hb hby d1_34) rfl rfl (l' := #[.val (.int p1), .val (.int p2), .val (.int p3), .val (.int (p1 &&& (3 : Int32))), .val (.ref b10)]) rfl ?_
        show Steps p.tables e below (T10.setTop (mkF m 36 #[.val (.int p1), .val (.int p2), .val (.int p3), .val (.int (p1 &&& (3 : Int32))), .val (.ref b10)] [])) _
        refine XS.aload X10.here hx rfl (hb hby d1_36) rfl rfl ?_
        show Steps p.tables e below (T10.setTop (mkF m 38 #[.val (.int p1), .val (.int p2), .val (.int p3), .val (.int (p1 &&& (3 : Int32))), .val (.ref b10)] [(.ref b10)])) _
        refine XS.iconst X10.here hx rfl (hb hby d1_38) ?_
        show Steps p.tables e below (T10.setTop (mkF m 39 #[.val (.int p1), .val (.int p2), .val (.int p3), .val (.int (p1 &&& (3 : Int32))), .val (.ref b10)] [(.int (0 : Int32)), (.ref b10)])) _
        refine XS.iloadN X10.here hx rfl (hb hby d1_39) rfl ?_
        show Steps p.tables e below (T10.setTop (mkF m 40 #[.val (.int p1), .val (.int p2), .val (.int p3), .val (.int (p1 &&& (3 : Int32))), .val (.ref b10)] [(.int p2), (.int (0 : Int32)), (.ref b10)])) _
        refine XS.sipush X10.here hx rfl (hb hby d1_40) ?_
        show Steps p.tables e below (T10.setTop (mkF m 43 #[.val (.int p1), .val (.int p2), .val (.int p3), .val (.int (p1 &&& (3 : Int32))), .val (.ref b10)] [(.int (255 : Int32)), (.int p2), (.int (0 : Int32)), (.ref b10)])) _
        refine XS.iand X10.here hx rfl (hb hby d1_43) rfl ?_
        show Steps p.tables e below (T10.setTop (mkF m 44 #[.val (.int p1), .val (.int p2), .val (.int p3), .val (.int (p1 &&& (3 : Int32))), .val (.ref b10)] [(.int (p2 &&& (255 : Int32))), (.int (0 : Int32)), (.ref b10)])) _
        refine XS.i2c X10.here hx rfl (hb hby d1_44) rfl ?_
        show Steps p.tables e below (T10.setTop (mkF m 45 #[.val (.int p1), .val (.int p2), .val (.int p3), .val (.int (p1 &&& (3 : Int32))), .val (.ref b10)] [(.int ((p2 &&& (255 : Int32)).toUInt32.toUInt16.toUInt32.toInt32)), (.int (0 : Int32)), (.ref b10)])) _
        refine st13 _ ?_
        show Steps p.tables e below (T13.setTop (mkF m 46 #[.val (.int p1), .val (.int p2), .val (.int p3), .val (.int (p1 &&& (3 : Int32))), .val (.ref b10)] [])) _
        refine st15 _ ?_
        show Steps p.tables e below (T15.setTop (mkF m 49 #[.val (.int p1), .val (.int p2), .val (.int p3), .val (.int (p1 &&& (3 : Int32))), .val (.ref b10)] [(.ref b15)])) _
        refine XS.dup X15.here hx rfl (hb hby d1_49) rfl rfl ?_
        show Steps p.tables e below (T15.setTop (mkF m 50 #[.val (.int p1), .val (.int p2), .val (.int p3), .val (.int (p1 &&& (3 : Int32))), .val (.ref b10)] [(.ref b15), (.ref b15)])) _
        refine XS.aload X15.here hx rfl (hb hby d1_50) rfl rfl ?_
        show Steps p.tables e below (T15.setTop (mkF m 52 #[.val (.int p1), .val (.int p2), .val (.int p3), .val (.int (p1 &&& (3 : Int32))), .val (.ref b10)] [(.ref b10), (.ref b15), (.ref b15)])) _
        refine st17.trans ?_
        show Steps p.tables e below (T17.setTop (mkF m 55 #[.val (.int p1), .val (.int p2), .val (.int p3), .val (.int (p1 &&& (3 : Int32))), .val (.ref b10)] [(.ref b15)])) _
        exact X17.areturnOut hx rfl Bd.returns rfl (hb hby d1_55) hr
      · show Q_rm_d1 Z p1 p2 p3 cs h0 n0 _ T17.heap _
        exact ⟨_, rfl, N17, f23⟩
    · obtain ⟨T19, h19, k19, X19, e19, E19, A19, st19⟩ := newP X0 hx hZ (hw _ (List.mem_of_getElem? (i := 4) rfl)) e0 (g := (mkF m 57 #[.val (.int p1), .val (.int p2), .val (.int p3), .val (.int (p1 &&& (3 : Int32))), .unset] [(.int (2 : Int32))])) rfl (hb hby d1_57) rfl (by decide) (cap := 2) (by decide) (by decide) (by decide) (by decide)
      obtain ⟨b19, g19⟩ : ∃ z, z = h0.size := ⟨_, rfl⟩
      rw [← g19] at A19 st19
      have sz_b19 : h0.size ≤ b19 := Nat.le_trans (Keep.refl h0 []).1 (Nat.le_of_eq g19.symm)
      have f28 : Sta Z h19 "java/lang/String" "COMPACT_STRINGS" "Z" (.int cs) := S_CS.ext E19
      have f29 : Keep h0 h19 [] := (Keep.refl h0 []).ext E19
      have C20 : CHr Z own_EL s.vm h0 s.vm h19 := C0.trans (CHr.ext E19 C0.1)
      have sf20_b19 : Safe Z own_EL s.vm h19 b19 := Safe.ext E19 C0.1 (Safe.new (Nat.le_of_eq g19.symm))
      have g_b19 : n0 ≤ b19 := Nat.le_trans Z0 (Nat.le_of_eq g19.symm)
      have Z19 : n0 ≤ h19.size := Nat.le_trans Z0 E19.1
      have V_b19 : Arv Z h19 b19 k19 .char (2 : Int32) [(.int (0 : Int32)), (.int (0 : Int32))] (.int (0 : Int32)) := (Arv.new A19 (by decide)).pad (pad_rep [] (.int (0 : Int32)) 2)
      obtain ⟨cl21, Ar21, aq21, aS21, aN21, aH21, aG21⟩ := V_b19
      have hin21 : ¬ ((0 : Int32) < 0 ∨ cl21.slots.size ≤ ((0 : Int32)).toNatClampNeg) := inb_of aS21 ⟨by decide, by decide⟩
      obtain ⟨T22, h22, X22, e22, W22, st22⟩ := stC X19 hx hZ e19 Ar21 (j := (0 : Int32)) hin21 (g := (mkF m 70 #[.val (.int p1), .val (.int p2), .val (.int p3), .val (.int (p1 &&& (3 : Int32))), .val (.ref b19)] [(.int ((p2 &&& (255 : Int32)).toUInt32.toUInt16.toUInt32.toInt32)), (.int (0 : Int32)), (.ref b19)])) rfl rfl (hb hby d1_70)
      have V_b19_22 : Arv Z h22 b19 k19 .char (2 : Int32) [(.int (nar .char ((p2 &&& (255 : Int32)).toUInt32.toUInt16.toUInt32.toInt32))), (.int (0 : Int32))] (.int (0 : Int32)) := Arv.set Ar21 aq21 aS21 aN21 aH21 aG21 (fits_nar_char _) W22 0 rfl (Nat.le_of_ble_eq_true rfl)
      have f30 : Sta Z h22 "java/lang/String" "COMPACT_STRINGS" "Z" (.int cs) := f28.wr W22
      have f31 : Keep h0 h22 [] := f29.wr W22 (Or.inr sz_b19)
      have f32 : n0 ≤ b19 := g_b19
      have C23 : CHr Z own_EL s.vm h0 s.vm h22 := C20.trans (CHr.wr W22 sf20_b19 C20.1)
      have sf23_b19 : Safe Z own_EL s.vm h22 b19 := Safe.wr W22 sf20_b19 C20.1 sf20_b19
      have N22 := Fr.snoc X22 N0 f32
      have Z22 : n0 ≤ h22.size := by rw [W22.size]; exact Z19
      obtain ⟨cl24, Ar24, aq24, aS24, aN24, aH24, aG24⟩ := V_b19_22
      have hin24 : ¬ ((1 : Int32) < 0 ∨ cl24.slots.size ≤ ((1 : Int32)).toNatClampNeg) := inb_of aS24 ⟨by decide, by decide⟩
      obtain ⟨T25, h25, X25, e25, W25, st25⟩ := stC X22 hx hZ e22 Ar24 (j := (1 : Int32)) hin24 (g := (mkF m 80 #[.val (.int p1), .val (.int p2), .val (.int p3), .val (.int (p1 &&& (3 : Int32))), .val (.ref b19)] [(.int ((p3 &&& (255 : Int32)).toUInt32.toUInt16.toUInt32.toInt32)), (.int (1 : Int32)), (.ref b19)])) rfl rfl (hb hby d1_80)
      have V_b19_25 : Arv Z h25 b19 k19 .char (2 : Int32) [(.int (nar .char ((p2 &&& (255 : Int32)).toUInt32.toUInt16.toUInt32.toInt32))), (.int (nar .char ((p3 &&& (255 : Int32)).toUInt32.toUInt16.toUInt32.toInt32)))] (.int (0 : Int32)) := Arv.set Ar24 aq24 aS24 aN24 aH24 aG24 (fits_nar_char _) W25 1 rfl (Nat.le_of_ble_eq_true rfl)
      have f33 : Sta Z h25 "java/lang/String" "COMPACT_STRINGS" "Z" (.int cs) := f30.wr W25
      have f34 : Keep h0 h25 [] := f31.wr W25 (Or.inr sz_b19)
      have f35 : n0 ≤ b19 := f32
      have C26 : CHr Z own_EL s.vm h0 s.vm h25 := C23.trans (CHr.wr W25 sf23_b19 C23.1)
      have sf26_b19 : Safe Z own_EL s.vm h25 b19 := Safe.wr W25 sf23_b19 C23.1 sf23_b19
      have N25 := Fr.snoc X25 N22 f35
      have Z25 : n0 ≤ h25.size := by rw [W25.size]; exact Z22
      obtain ⟨T27, h27, X27, e27, E27, A27, D27, -, st27⟩ := newO X25 hx hZ hown (hw _ (List.mem_of_getElem? (i := 5) rfl)) (hw _ (List.mem_of_getElem? (i := 6) rfl)) (hw _ (List.mem_of_getElem? (i := 7) rfl)) e25 (g := (mkF m 81 #[.val (.int p1), .val (.int p2), .val (.int p3), .val (.int (p1 &&& (3 : Int32))), .val (.ref b19)] [])) rfl (hb hby d1_81) (by decide) (by decide)
      obtain ⟨b27, g27⟩ : ∃ z, z = h25.size := ⟨_, rfl⟩
      rw [← g27] at A27 D27 st27
      have sz_b27 : h0.size ≤ b27 := Nat.le_trans f34.1 (Nat.le_of_eq g27.symm)
      have ne_b19_b27 : b19 ≠ b27 := Nat.ne_of_lt (Nat.lt_of_lt_of_le V_b19_25.lt (Nat.le_of_eq g27.symm))
      have f36 : Sta Z h27 "java/lang/String" "COMPACT_STRINGS" "Z" (.int cs) := f33.ext E27
      have f37 : Keep h0 h27 [] := f34.ext E27
      have f38 : n0 ≤ b19 := f35
      have f39 : Arv Z h27 b19 k19 .char (2 : Int32) [(.int (nar .char ((p2 &&& (255 : Int32)).toUInt32.toUInt16.toUInt32.toInt32))), (.int (nar .char ((p3 &&& (255 : Int32)).toUInt32.toUInt16.toUInt32.toInt32)))] (.int (0 : Int32)) := V_b19_25.ext E27
      have C28 : CHr Z own_EL s.vm h0 s.vm h27 := C26.trans (CHr.ext E27 C26.1)
      have sf28_b19 : Safe Z own_EL s.vm h27 b19 := Safe.ext E27 C26.1 sf26_b19
      have sf28_b27 : Safe Z own_EL s.vm h27 b27 := Safe.ext E27 C26.1 (Safe.new (Nat.le_of_eq g27.symm))
      have g_b27 : n0 ≤ b27 := Nat.le_trans Z25 (Nat.le_of_eq g27.symm)
      have Z27 : n0 ≤ h27.size := Nat.le_trans Z25 E27.1
      have F_coder_b27 : Fld Z h27 b27 "java/lang/String" "coder" "B" (.int (0 : Int32)) := D27 (Or.inr (hw _ (List.mem_of_getElem? (i := 31) rfl))) (ty := .byte) (by decide)
      have F_value_b27 : Fld Z h27 b27 "java/lang/String" "value" "[B" .null := D27 (Or.inr (hw _ (List.mem_of_getElem? (i := 33) rfl))) (ty := (.array .byte)) (by decide)
      obtain ⟨_, _, ⟨T29, L29, k29, n29⟩, -, X29, ⟨Lc29, hQ29, l29, y29, z29⟩, st29⟩ := X27.specialBack hx (y := (⟨"java/lang/String", "<init>", "([C)V"⟩ : MethodName)) rfl hown (mvT hZ (hw _ (List.mem_of_getElem? (i := 8) rfl))) (mvT hZ (hw _ (List.mem_of_getElem? (i := 9) rfl))) (mvT hZ (hw _ (List.mem_of_getElem? (i := 10) rfl))) (by decide) (StrChars.Road.backV (W := 1) hZ (fun d hd => hw d (own_words d hd)) (kI := 4) (hw _ (List.mem_of_getElem? (i := 6) rfl)) (cs := [(nar .char ((p2 &&& (255 : Int32)).toUInt32.toUInt16.toUInt32.toInt32)), (nar .char ((p3 &&& (255 : Int32)).toUInt32.toUInt16.toUInt32.toInt32))]) (bs := [(nar .char ((p2 &&& (255 : Int32)).toUInt32.toUInt16.toUInt32.toInt32)).toInt8.toInt32, (nar .char ((p3 &&& (255 : Int32)).toUInt32.toUInt16.toUInt32.toInt32)).toInt8.toInt32]) (n := 2) g_b27 Z27 A27 F_value_b27 F_coder_b27 f39 f36 hcs rfl rfl (by decide) (by decide) (own_lat2 p2 p3) rfl (by decide) (by decide)) (g := (mkF m 87 #[.val (.int p1), .val (.int p2), .val (.int p3), .val (.int (p1 &&& (3 : Int32))), .val (.ref b19)] [(.ref b19), (.ref b27), (.ref b27)])) rfl (by rw [hml]; rfl) (Steps.refl _) (a := b27) (argsL := [(.ref b19)]) (rest := [(.ref b27)]) (lenOf pd___C_V_325 rfl) rfl (by show 2 * 0 + _ ≤ _; exact Nat.le_of_eq rfl) (hb hby d1_87) (fun _ _ => ⟨rfl, e27, (by decide : 2 + 1 ≤ _), (by decide : 6 + 2 ≤ _)⟩)
      dsimp only [Pt.U, Pt.locs, Pt.cells, Pt.slots] at X29 l29 y29 z29 st29 hQ29
      subst l29 y29 z29
      obtain ⟨rfl, N29q, K29, -⟩ := hQ29
      have f40 : Keep h0 T29.heap [] := f37.trans K29 (fun x hx => by cases List.mem_singleton.mp hx; exact Or.inr sz_b27)
      have f41 : n0 ≤ b19 := f38
      have f42 : Arv Z T29.heap b19 k19 .char (2 : Int32) [(.int (nar .char ((p2 &&& (255 : Int32)).toUInt32.toUInt16.toUInt32.toInt32))), (.int (nar .char ((p3 &&& (255 : Int32)).toUInt32.toUInt16.toUInt32.toInt32)))] (.int (0 : Int32)) := f39.keep K29 (by simp [ne_b19_b27])
      have f43 : n0 ≤ b27 := g_b27
      have f44 : Exa Z T29.heap b27 "java/lang/String" := A27.keep K29
      have C30 : CHr Z own_EL s.vm h0 s.vm T29.heap := C28.trans (CHr.keep K29 (sfS sf28_b27 sf0) C28.1)
      have sf30_b19 : Safe Z own_EL s.vm T29.heap b19 := Safe.keep K29 (sfS sf28_b27 sf0) C28.1 sf28_b19
      have sf30_b27 : Safe Z own_EL s.vm T29.heap b27 := Safe.keep K29 (sfS sf28_b27 sf0) C28.1 sf28_b27
      have Z29 : n0 ≤ T29.heap.size := Nat.le_trans Z27 K29.1
      have N29 := Fr.app N25 N29q
      obtain ⟨fs, hr, hrun, hended, hW, hsame⟩ := X29.leave (v := some (.ref b27)) (fun h => by rw [Bd.returns] at h; cases h) (hlocks := Bd.notSynchronized)
      refine ⟨_, _, pre_9 _ ?_, hrun, hended, _, _, rfl, ?_, (by show CHr Z own_EL s.vm s.heap T29.vm T29.heap; rw [hh]; exact C30.trans (CHv.at (s := s) (vm0 := s.vm) X29 hZ hEL C30.1)), ReturnedEndW.of_narrow ⟨_, rfl⟩ hW (hsame.mono (by decide) (by decide))⟩
      · show Steps p.tables e below (s₁.setTop (mkF m 28 #[.val (.int p1), .val (.int p2), .val (.int p3), .val (.int (p1 &&& (3 : Int32))), .unset] [(.int (2 : Int32)), (.int (p1 &&& (3 : Int32)))])) _
        refine XS.icmpYes X0.here hx rfl (pc0 := 28) (pc' := 56) rfl (hb hby d1_28) rfl (feq hc28).2 (by decide) (by decide) ?_
        show Steps p.tables e below (s₁.setTop (mkF m 56 #[.val (.int p1), .val (.int p2), .val (.int p3), .val (.int (p1 &&& (3 : Int32))), .unset] [])) _
        refine XS.iconst X0.here hx rfl (hb hby d1_56) ?_
        show Steps p.tables e below (s₁.setTop (mkF m 57 #[.val (.int p1), .val (.int p2), .val (.int p3), .val (.int (p1 &&& (3 : Int32))), .unset] [(.int (2 : Int32))])) _
        refine st19 _ ?_
        show Steps p.tables e below (T19.setTop (mkF m 59 #[.val (.int p1), .val (.int p2), .val (.int p3), .val (.int (p1 &&& (3 : Int32))), .unset] [(.ref b19)])) _
        refine XS.astore X19.here hx rfl (hb hby d1_59) rfl rfl (l' := #[.val (.int p1), .val (.int p2), .val (.int p3), .val (.int (p1 &&& (3 : Int32))), .val (.ref b19)]) rfl ?_
        show Steps p.tables e below (T19.setTop (mkF m 61 #[.val (.int p1), .val (.int p2), .val (.int p3), .val (.int (p1 &&& (3 : Int32))), .val (.ref b19)] [])) _
        refine XS.aload X19.here hx rfl (hb hby d1_61) rfl rfl ?_
        show Steps p.tables e below (T19.setTop (mkF m 63 #[.val (.int p1), .val (.int p2), .val (.int p3), .val (.int (p1 &&& (3 : Int32))), .val (.ref b19)] [(.ref b19)])) _
        refine XS.iconst X19.here hx rfl (hb hby d1_63) ?_
        show Steps p.tables e below (T19.setTop (mkF m 64 #[.val (.int p1), .val (.int p2), .val (.int p3), .val (.int (p1 &&& (3 : Int32))), .val (.ref b19)] [(.int (0 : Int32)), (.ref b19)])) _
        refine XS.iloadN X19.here hx rfl (hb hby d1_64) rfl ?_
        show Steps p.tables e below (T19.setTop (mkF m 65 #[.val (.int p1), .val (.int p2), .val (.int p3), .val (.int (p1 &&& (3 : Int32))), .val (.ref b19)] [(.int p2), (.int (0 : Int32)), (.ref b19)])) _
        refine XS.sipush X19.here hx rfl (hb hby d1_65) ?_
        show Steps p.tables e below (T19.setTop (mkF m 68 #[.val (.int p1), .val (.int p2), .val (.int p3), .val (.int (p1 &&& (3 : Int32))), .val (.ref b19)] [(.int (255 : Int32)), (.int p2), (.int (0 : Int32)), (.ref b19)])) _
        refine XS.iand X19.here hx rfl (hb hby d1_68) rfl ?_
        show Steps p.tables e below (T19.setTop (mkF m 69 #[.val (.int p1), .val (.int p2), .val (.int p3), .val (.int (p1 &&& (3 : Int32))), .val (.ref b19)] [(.int (p2 &&& (255 : Int32))), (.int (0 : Int32)), (.ref b19)])) _
        refine XS.i2c X19.here hx rfl (hb hby d1_69) rfl ?_
        show Steps p.tables e below (T19.setTop (mkF m 70 #[.val (.int p1), .val (.int p2), .val (.int p3), .val (.int (p1 &&& (3 : Int32))), .val (.ref b19)] [(.int ((p2 &&& (255 : Int32)).toUInt32.toUInt16.toUInt32.toInt32)), (.int (0 : Int32)), (.ref b19)])) _
        refine st22 _ ?_
        show Steps p.tables e below (T22.setTop (mkF m 71 #[.val (.int p1), .val (.int p2), .val (.int p3), .val (.int (p1 &&& (3 : Int32))), .val (.ref b19)] [])) _
        refine XS.aload X22.here hx rfl (hb hby d1_71) rfl rfl ?_
        show Steps p.tables e below (T22.setTop (mkF m 73 #[.val (.int p1), .val (.int p2), .val (.int p3), .val (.int (p1 &&& (3 : Int32))), .val (.ref b19)] [(.ref b19)])) _
        refine XS.iconst X22.here hx rfl (hb hby d1_73) ?_
        show Steps p.tables e below (T22.setTop (mkF m 74 #[.val (.int p1), .val (.int p2), .val (.int p3), .val (.int (p1 &&& (3 : Int32))), .val (.ref b19)] [(.int (1 : Int32)), (.ref b19)])) _
        refine XS.iloadN X22.here hx rfl (hb hby d1_74) rfl ?_
        show Steps p.tables e below (T22.setTop (mkF m 75 #[.val (.int p1), .val (.int p2), .val (.int p3), .val (.int (p1 &&& (3 : Int32))), .val (.ref b19)] [(.int p3), (.int (1 : Int32)), (.ref b19)])) _
        refine XS.sipush X22.here hx rfl (hb hby d1_75) ?_
        show Steps p.tables e below (T22.setTop (mkF m 78 #[.val (.int p1), .val (.int p2), .val (.int p3), .val (.int (p1 &&& (3 : Int32))), .val (.ref b19)] [(.int (255 : Int32)), (.int p3), (.int (1 : Int32)), (.ref b19)])) _
        refine XS.iand X22.here hx rfl (hb hby d1_78) rfl ?_
        show Steps p.tables e below (T22.setTop (mkF m 79 #[.val (.int p1), .val (.int p2), .val (.int p3), .val (.int (p1 &&& (3 : Int32))), .val (.ref b19)] [(.int (p3 &&& (255 : Int32))), (.int (1 : Int32)), (.ref b19)])) _
        refine XS.i2c X22.here hx rfl (hb hby d1_79) rfl ?_
        show Steps p.tables e below (T22.setTop (mkF m 80 #[.val (.int p1), .val (.int p2), .val (.int p3), .val (.int (p1 &&& (3 : Int32))), .val (.ref b19)] [(.int ((p3 &&& (255 : Int32)).toUInt32.toUInt16.toUInt32.toInt32)), (.int (1 : Int32)), (.ref b19)])) _
        refine st25 _ ?_
        show Steps p.tables e below (T25.setTop (mkF m 81 #[.val (.int p1), .val (.int p2), .val (.int p3), .val (.int (p1 &&& (3 : Int32))), .val (.ref b19)] [])) _
        refine st27 _ ?_
        show Steps p.tables e below (T27.setTop (mkF m 84 #[.val (.int p1), .val (.int p2), .val (.int p3), .val (.int (p1 &&& (3 : Int32))), .val (.ref b19)] [(.ref b27)])) _
        refine XS.dup X27.here hx rfl (hb hby d1_84) rfl rfl ?_
        show Steps p.tables e below (T27.setTop (mkF m 85 #[.val (.int p1), .val (.int p2), .val (.int p3), .val (.int (p1 &&& (3 : Int32))), .val (.ref b19)] [(.ref b27), (.ref b27)])) _
        refine XS.aload X27.here hx rfl (hb hby d1_85) rfl rfl ?_
        show Steps p.tables e below (T27.setTop (mkF m 87 #[.val (.int p1), .val (.int p2), .val (.int p3), .val (.int (p1 &&& (3 : Int32))), .val (.ref b19)] [(.ref b19), (.ref b27), (.ref b27)])) _
        refine st29.trans ?_
        show Steps p.tables e below (T29.setTop (mkF m 90 #[.val (.int p1), .val (.int p2), .val (.int p3), .val (.int (p1 &&& (3 : Int32))), .val (.ref b19)] [(.ref b27)])) _
        exact X29.areturnOut hx rfl Bd.returns rfl (hb hby d1_90) hr
      · show Q_rm_d1 Z p1 p2 p3 cs h0 n0 _ T29.heap _
        exact ⟨_, rfl, N29, f40⟩
theorem pn_8 : plainName "com/example/poolwright/poolwright/CopyStartsPinLaw" = true := by first | (simp [plainName, overriddenIn]; done) | decide +kernel
theorem ef_rm_p1 (m : MethodId) (x0 : Int32) : entryFrame m #[(.int x0)] 2 = mkF m 0 #[.val (.int x0), .unset] [] := by first | (simp [entryFrame, mkF, argsToLocals, Value.category]; done) | rfl
def Q_rm_p1 (Z : State) (p1 : Int32) (c_ALERT c_OFF c_MAX_COPIES c_NO_DESTINATION : Addr) (h0 : Heap) (n0 : Nat) (v : Option Value) (h : Heap) (L : List Loc) : Prop := ∃ a : Addr, v = some (.ref a) ∧ Fr n0 L ∧ h = h0
theorem d8_0 : decode method_2_code 0 = .ok (.iload_n 0, 1) := by decide +kernel
theorem d8_1 : decode method_2_code 1 = .ok (.bipush 7, 2) := by decide +kernel
theorem d8_3 : decode method_2_code 3 = .ok (.iand, 1) := by decide +kernel
theorem d8_4 : decode method_2_code 4 = .ok (.istore_n 1, 1) := by decide +kernel
theorem d8_5 : decode method_2_code 5 = .ok (.iload_n 1, 1) := by decide +kernel
theorem d8_6 : decode method_2_code 6 = .ok (.ifCond .ne 7, 3) := by decide +kernel
theorem d8_9 : decode method_2_code 9 = .ok (.getstatic 7, 3) := by decide +kernel
theorem d8_12 : decode method_2_code 12 = .ok (.areturn, 1) := by decide +kernel
theorem d8_13 : decode method_2_code 13 = .ok (.iload_n 1, 1) := by decide +kernel
theorem d8_14 : decode method_2_code 14 = .ok (.iconst 1, 1) := by decide +kernel
theorem d8_15 : decode method_2_code 15 = .ok (.if_icmp .ne 7, 3) := by decide +kernel
theorem d8_18 : decode method_2_code 18 = .ok (.getstatic 13, 3) := by decide +kernel
theorem d8_21 : decode method_2_code 21 = .ok (.areturn, 1) := by decide +kernel
theorem d8_22 : decode method_2_code 22 = .ok (.iload_n 1, 1) := by decide +kernel
theorem d8_23 : decode method_2_code 23 = .ok (.iconst 2, 1) := by decide +kernel
theorem d8_24 : decode method_2_code 24 = .ok (.if_icmp .ne 7, 3) := by decide +kernel
theorem d8_27 : decode method_2_code 27 = .ok (.getstatic 16, 3) := by decide +kernel
theorem d8_30 : decode method_2_code 30 = .ok (.areturn, 1) := by decide +kernel
theorem d8_31 : decode method_2_code 31 = .ok (.iload_n 1, 1) := by decide +kernel
theorem d8_32 : decode method_2_code 32 = .ok (.iconst 3, 1) := by decide +kernel
theorem d8_33 : decode method_2_code 33 = .ok (.if_icmp .ne 7, 3) := by decide +kernel
theorem d8_36 : decode method_2_code 36 = .ok (.getstatic 19, 3) := by decide +kernel
theorem d8_39 : decode method_2_code 39 = .ok (.areturn, 1) := by decide +kernel
theorem d8_40 : decode method_2_code 40 = .ok (.aconst_null, 1) := by decide +kernel
theorem d8_41 : decode method_2_code 41 = .ok (.areturn, 1) := by decide +kernel
set_option maxRecDepth 65536 in
set_option maxHeartbeats 40000000 in
theorem rm_p1 (l : Launch) (Z : State) (a0 : Array Value) (hw : ∀ d ∈ tables_1, d.before a0 Z = true) (ws : List Jvm.Cond) (p1 : Int32) (c_ALERT c_OFF c_MAX_COPIES c_NO_DESTINATION : Addr) (h0 : Heap) (n0 : Nat) (Z0 : n0 ≤ h0.size) (S_ALERT : Sta Z h0 "com/example/poolwright/poolwright/Copy$Refusal" "ALERT" "Lcom/example/poolwright/poolwright/Copy$Refusal;" (.ref c_ALERT)) (S_OFF : Sta Z h0 "com/example/poolwright/poolwright/Copy$Refusal" "OFF" "Lcom/example/poolwright/poolwright/Copy$Refusal;" (.ref c_OFF)) (S_MAX_COPIES : Sta Z h0 "com/example/poolwright/poolwright/Copy$Refusal" "MAX_COPIES" "Lcom/example/poolwright/poolwright/Copy$Refusal;" (.ref c_MAX_COPIES)) (S_NO_DESTINATION : Sta Z h0 "com/example/poolwright/poolwright/Copy$Refusal" "NO_DESTINATION" "Lcom/example/poolwright/poolwright/Copy$Refusal;" (.ref c_NO_DESTINATION)) (hm : ((p1 &&& (7 : Int32)) = (0 : Int32) ∨ (p1 &&& (7 : Int32)) = (1 : Int32) ∨ (p1 &&& (7 : Int32)) = (2 : Int32) ∨ (p1 &&& (7 : Int32)) = (3 : Int32))) :
    MetFree l (⟨"com/example/poolwright/poolwright/CopyStartsPinLaw", "pick", "(I)Lcom/example/poolwright/poolwright/Copy$Refusal;"⟩ : MethodName) (head1 (Jvm.Cond.code (⟨"com/example/poolwright/poolwright/CopyStartsPinLaw", "pick", "(I)Lcom/example/poolwright/poolwright/Copy$Refusal;"⟩ : MethodName) method_2_code 2 (some (.object "com/example/poolwright/poolwright/Copy$Refusal")) :: ws) ({ frames := 0, cells := 0, slots := 0, locals := 0 } : Room)) (fun a U => a = #[(.int p1)] ∧ Z.Warmed39 U.vm ∧ U.heap = h0) (fun _ _ _ _ _ => True) (fun _ U o U' => ∃ v L, o = .returned v ∧ Q_rm_p1 Z p1 c_ALERT c_OFF c_MAX_COPIES c_NO_DESTINATION h0 n0 v U'.heap L ∧ FrameEnd U o U' L ({ frames := 0, cells := 0, slots := 0, locals := 0 } : Room).cells ({ frames := 0, cells := 0, slots := 0, locals := 0 } : Room).slots) := by
  refine MetFree.of_bodySF (plainFor_of_name pn_8) hisR ?_
  intro p e s m args below meth c s₁ Bd hml0 hP hK
  obtain ⟨rfl, hZ, hh⟩ := hP
  have hx := Bd.exec
  have hby := Bd.bytes
  have hml : c.maxLocals = 2 := hml0
  have hown : s.vm.findClass "com/example/poolwright/poolwright/CopyStartsPinLaw" = some m.cls := findClass_of_methodNamed Bd.named
  have hnm := (name_of_methodNamed Bd.named Bd.method).1
  have X0 : Stand p l e ({ frames := 0, cells := 0, slots := 0, locals := 0 } : Room) s m #[(.int p1)] below meth c s₁ [] 0 0 := Stand.of_body Bd
  have e0 : s₁.heap = h0 := by rw [← hh, Bd.state]; rfl
  have N0 := Fr.nil n0
  have pre0 : ∀ t, Steps p.tables e below (s₁.setTop (mkF m 0 #[.val (.int p1), .unset] [])) t → Steps p.tables e below (s₁.setTop (entryFrame m #[(.int p1)] 2)) t := fun t kt => castTop (ef_rm_p1 m p1) kt
  have pre_1 : ∀ t, Steps p.tables e below (s₁.setTop (mkF m 6 #[.val (.int p1), .val (.int (p1 &&& (7 : Int32)))] [(.int (p1 &&& (7 : Int32)))])) t → Steps p.tables e below (s₁.setTop (entryFrame m #[(.int p1)] 2)) t := by
    intro t kt
    refine pre0 _ ?_
    show Steps p.tables e below (s₁.setTop (mkF m 0 #[.val (.int p1), .unset] [])) _
    refine XS.iloadN X0.here hx rfl (hb hby d8_0) rfl ?_
    show Steps p.tables e below (s₁.setTop (mkF m 1 #[.val (.int p1), .unset] [(.int p1)])) _
    refine XS.bipush X0.here hx rfl (hb hby d8_1) ?_
    show Steps p.tables e below (s₁.setTop (mkF m 3 #[.val (.int p1), .unset] [(.int (7 : Int32)), (.int p1)])) _
    refine XS.iand X0.here hx rfl (hb hby d8_3) rfl ?_
    show Steps p.tables e below (s₁.setTop (mkF m 4 #[.val (.int p1), .unset] [(.int (p1 &&& (7 : Int32)))])) _
    refine XS.istoreN X0.here hx rfl (hb hby d8_4) rfl (l' := #[.val (.int p1), .val (.int (p1 &&& (7 : Int32)))]) rfl ?_
    show Steps p.tables e below (s₁.setTop (mkF m 5 #[.val (.int p1), .val (.int (p1 &&& (7 : Int32)))] [])) _
    refine XS.iloadN X0.here hx rfl (hb hby d8_5) rfl ?_
    exact kt
  by_cases hc6 : (p1 &&& (7 : Int32)) = (0 : Int32)
  · obtain ⟨T2, X2, e2, st2⟩ := getS2 X0 hx hZ hown (host := "") (Or.inl (hw _ (List.mem_of_getElem? (i := 37) rfl))) Via.refl e0 S_ALERT (g := (mkF m 9 #[.val (.int p1), .val (.int (p1 &&& (7 : Int32)))] [])) rfl (hb hby d8_9)
    obtain ⟨fs, hr, hrun, hended, hW, hsame⟩ := X2.leave (v := some (.ref c_ALERT)) (fun h => by rw [Bd.returns] at h; cases h) (hlocks := Bd.notSynchronized)
    refine ⟨_, _, pre_1 _ ?_, hrun, hended, _, _, rfl, ?_, ⟨_, rfl⟩, hW, hsame.mono (by decide) (by decide)⟩
    · show Steps p.tables e below (s₁.setTop (mkF m 6 #[.val (.int p1), .val (.int (p1 &&& (7 : Int32)))] [(.int (p1 &&& (7 : Int32)))])) _
      refine XS.ifNo X0.here hx rfl (hb hby d8_6) rfl ((if0 _ _).trans (teq hc6).2) ?_
      show Steps p.tables e below (s₁.setTop (mkF m 9 #[.val (.int p1), .val (.int (p1 &&& (7 : Int32)))] [])) _
      refine st2 _ ?_
      show Steps p.tables e below (T2.setTop (mkF m 12 #[.val (.int p1), .val (.int (p1 &&& (7 : Int32)))] [(.ref c_ALERT)])) _
      exact X2.areturnOut hx rfl Bd.returns rfl (hb hby d8_12) hr
    · show Q_rm_p1 Z p1 c_ALERT c_OFF c_MAX_COPIES c_NO_DESTINATION h0 n0 _ T2.heap _
      rw [e2]
      exact ⟨_, rfl, N0, rfl⟩
  · have pre_3 : ∀ t, Steps p.tables e below (s₁.setTop (mkF m 15 #[.val (.int p1), .val (.int (p1 &&& (7 : Int32)))] [(.int (1 : Int32)), (.int (p1 &&& (7 : Int32)))])) t → Steps p.tables e below (s₁.setTop (entryFrame m #[(.int p1)] 2)) t := by
      intro t kt
      refine pre_1 _ ?_
      show Steps p.tables e below (s₁.setTop (mkF m 6 #[.val (.int p1), .val (.int (p1 &&& (7 : Int32)))] [(.int (p1 &&& (7 : Int32)))])) _
      refine XS.ifYes X0.here hx rfl (pc0 := 6) (pc' := 13) rfl (hb hby d8_6) rfl ((if0 _ _).trans (feq hc6).2) (by decide) (by decide) ?_
      show Steps p.tables e below (s₁.setTop (mkF m 13 #[.val (.int p1), .val (.int (p1 &&& (7 : Int32)))] [])) _
      refine XS.iloadN X0.here hx rfl (hb hby d8_13) rfl ?_
      show Steps p.tables e below (s₁.setTop (mkF m 14 #[.val (.int p1), .val (.int (p1 &&& (7 : Int32)))] [(.int (p1 &&& (7 : Int32)))])) _
      refine XS.iconst X0.here hx rfl (hb hby d8_14) ?_
      exact kt
    by_cases hc15 : (p1 &&& (7 : Int32)) = (1 : Int32)
    · obtain ⟨T4, X4, e4, st4⟩ := getS2 X0 hx hZ hown (host := "") (Or.inl (hw _ (List.mem_of_getElem? (i := 74) rfl))) Via.refl e0 S_OFF (g := (mkF m 18 #[.val (.int p1), .val (.int (p1 &&& (7 : Int32)))] [])) rfl (hb hby d8_18)
      obtain ⟨fs, hr, hrun, hended, hW, hsame⟩ := X4.leave (v := some (.ref c_OFF)) (fun h => by rw [Bd.returns] at h; cases h) (hlocks := Bd.notSynchronized)
      refine ⟨_, _, pre_3 _ ?_, hrun, hended, _, _, rfl, ?_, ⟨_, rfl⟩, hW, hsame.mono (by decide) (by decide)⟩
      · show Steps p.tables e below (s₁.setTop (mkF m 15 #[.val (.int p1), .val (.int (p1 &&& (7 : Int32)))] [(.int (1 : Int32)), (.int (p1 &&& (7 : Int32)))])) _
        refine XS.icmpNo X0.here hx rfl (hb hby d8_15) rfl (teq hc15).2 ?_
        show Steps p.tables e below (s₁.setTop (mkF m 18 #[.val (.int p1), .val (.int (p1 &&& (7 : Int32)))] [])) _
        refine st4 _ ?_
        show Steps p.tables e below (T4.setTop (mkF m 21 #[.val (.int p1), .val (.int (p1 &&& (7 : Int32)))] [(.ref c_OFF)])) _
        exact X4.areturnOut hx rfl Bd.returns rfl (hb hby d8_21) hr
      · show Q_rm_p1 Z p1 c_ALERT c_OFF c_MAX_COPIES c_NO_DESTINATION h0 n0 _ T4.heap _
        rw [e4]
        exact ⟨_, rfl, N0, rfl⟩
    · have pre_5 : ∀ t, Steps p.tables e below (s₁.setTop (mkF m 24 #[.val (.int p1), .val (.int (p1 &&& (7 : Int32)))] [(.int (2 : Int32)), (.int (p1 &&& (7 : Int32)))])) t → Steps p.tables e below (s₁.setTop (entryFrame m #[(.int p1)] 2)) t := by
        intro t kt
        refine pre_3 _ ?_
        show Steps p.tables e below (s₁.setTop (mkF m 15 #[.val (.int p1), .val (.int (p1 &&& (7 : Int32)))] [(.int (1 : Int32)), (.int (p1 &&& (7 : Int32)))])) _
        refine XS.icmpYes X0.here hx rfl (pc0 := 15) (pc' := 22) rfl (hb hby d8_15) rfl (feq hc15).2 (by decide) (by decide) ?_
        show Steps p.tables e below (s₁.setTop (mkF m 22 #[.val (.int p1), .val (.int (p1 &&& (7 : Int32)))] [])) _
        refine XS.iloadN X0.here hx rfl (hb hby d8_22) rfl ?_
        show Steps p.tables e below (s₁.setTop (mkF m 23 #[.val (.int p1), .val (.int (p1 &&& (7 : Int32)))] [(.int (p1 &&& (7 : Int32)))])) _
        refine XS.iconst X0.here hx rfl (hb hby d8_23) ?_
        exact kt
      by_cases hc24 : (p1 &&& (7 : Int32)) = (2 : Int32)
      · obtain ⟨T6, X6, e6, st6⟩ := getS2 X0 hx hZ hown (host := "") (Or.inl (hw _ (List.mem_of_getElem? (i := 76) rfl))) Via.refl e0 S_MAX_COPIES (g := (mkF m 27 #[.val (.int p1), .val (.int (p1 &&& (7 : Int32)))] [])) rfl (hb hby d8_27)
        obtain ⟨fs, hr, hrun, hended, hW, hsame⟩ := X6.leave (v := some (.ref c_MAX_COPIES)) (fun h => by rw [Bd.returns] at h; cases h) (hlocks := Bd.notSynchronized)
        refine ⟨_, _, pre_5 _ ?_, hrun, hended, _, _, rfl, ?_, ⟨_, rfl⟩, hW, hsame.mono (by decide) (by decide)⟩
        · show Steps p.tables e below (s₁.setTop (mkF m 24 #[.val (.int p1), .val (.int (p1 &&& (7 : Int32)))] [(.int (2 : Int32)), (.int (p1 &&& (7 : Int32)))])) _
          refine XS.icmpNo X0.here hx rfl (hb hby d8_24) rfl (teq hc24).2 ?_
          show Steps p.tables e below (s₁.setTop (mkF m 27 #[.val (.int p1), .val (.int (p1 &&& (7 : Int32)))] [])) _
          refine st6 _ ?_
          show Steps p.tables e below (T6.setTop (mkF m 30 #[.val (.int p1), .val (.int (p1 &&& (7 : Int32)))] [(.ref c_MAX_COPIES)])) _
          exact X6.areturnOut hx rfl Bd.returns rfl (hb hby d8_30) hr
        · show Q_rm_p1 Z p1 c_ALERT c_OFF c_MAX_COPIES c_NO_DESTINATION h0 n0 _ T6.heap _
          rw [e6]
          exact ⟨_, rfl, N0, rfl⟩
      · have pre_7 : ∀ t, Steps p.tables e below (s₁.setTop (mkF m 33 #[.val (.int p1), .val (.int (p1 &&& (7 : Int32)))] [(.int (3 : Int32)), (.int (p1 &&& (7 : Int32)))])) t → Steps p.tables e below (s₁.setTop (entryFrame m #[(.int p1)] 2)) t := by
          intro t kt
          refine pre_5 _ ?_
          show Steps p.tables e below (s₁.setTop (mkF m 24 #[.val (.int p1), .val (.int (p1 &&& (7 : Int32)))] [(.int (2 : Int32)), (.int (p1 &&& (7 : Int32)))])) _
          refine XS.icmpYes X0.here hx rfl (pc0 := 24) (pc' := 31) rfl (hb hby d8_24) rfl (feq hc24).2 (by decide) (by decide) ?_
          show Steps p.tables e below (s₁.setTop (mkF m 31 #[.val (.int p1), .val (.int (p1 &&& (7 : Int32)))] [])) _
          refine XS.iloadN X0.here hx rfl (hb hby d8_31) rfl ?_
          show Steps p.tables e below (s₁.setTop (mkF m 32 #[.val (.int p1), .val (.int (p1 &&& (7 : Int32)))] [(.int (p1 &&& (7 : Int32)))])) _
          refine XS.iconst X0.here hx rfl (hb hby d8_32) ?_
          exact kt
        by_cases hc33 : (p1 &&& (7 : Int32)) = (3 : Int32)
        · obtain ⟨T8, X8, e8, st8⟩ := getS2 X0 hx hZ hown (host := "") (Or.inl (hw _ (List.mem_of_getElem? (i := 78) rfl))) Via.refl e0 S_NO_DESTINATION (g := (mkF m 36 #[.val (.int p1), .val (.int (p1 &&& (7 : Int32)))] [])) rfl (hb hby d8_36)
          obtain ⟨fs, hr, hrun, hended, hW, hsame⟩ := X8.leave (v := some (.ref c_NO_DESTINATION)) (fun h => by rw [Bd.returns] at h; cases h) (hlocks := Bd.notSynchronized)
          refine ⟨_, _, pre_7 _ ?_, hrun, hended, _, _, rfl, ?_, ⟨_, rfl⟩, hW, hsame.mono (by decide) (by decide)⟩
          · show Steps p.tables e below (s₁.setTop (mkF m 33 #[.val (.int p1), .val (.int (p1 &&& (7 : Int32)))] [(.int (3 : Int32)), (.int (p1 &&& (7 : Int32)))])) _
            refine XS.icmpNo X0.here hx rfl (hb hby d8_33) rfl (teq hc33).2 ?_
            show Steps p.tables e below (s₁.setTop (mkF m 36 #[.val (.int p1), .val (.int (p1 &&& (7 : Int32)))] [])) _
            refine st8 _ ?_
            show Steps p.tables e below (T8.setTop (mkF m 39 #[.val (.int p1), .val (.int (p1 &&& (7 : Int32)))] [(.ref c_NO_DESTINATION)])) _
            exact X8.areturnOut hx rfl Bd.returns rfl (hb hby d8_39) hr
          · show Q_rm_p1 Z p1 c_ALERT c_OFF c_MAX_COPIES c_NO_DESTINATION h0 n0 _ T8.heap _
            rw [e8]
            exact ⟨_, rfl, N0, rfl⟩
        · obtain ⟨fs, hr, hrun, hended, hW, hsame⟩ := X0.leave (v := some .null) (fun h => by rw [Bd.returns] at h; cases h) (hlocks := Bd.notSynchronized)
          refine ⟨_, _, pre_7 _ ?_, hrun, hended, _, _, rfl, ?_, ⟨_, rfl⟩, hW, hsame.mono (by decide) (by decide)⟩
          · show Steps p.tables e below (s₁.setTop (mkF m 33 #[.val (.int p1), .val (.int (p1 &&& (7 : Int32)))] [(.int (3 : Int32)), (.int (p1 &&& (7 : Int32)))])) _
            refine XS.icmpYes X0.here hx rfl (pc0 := 33) (pc' := 40) rfl (hb hby d8_33) rfl (feq hc33).2 (by decide) (by decide) ?_
            show Steps p.tables e below (s₁.setTop (mkF m 40 #[.val (.int p1), .val (.int (p1 &&& (7 : Int32)))] [])) _
            refine XS.aconstNull X0.here hx rfl (hb hby d8_40) ?_
            show Steps p.tables e below (s₁.setTop (mkF m 41 #[.val (.int p1), .val (.int (p1 &&& (7 : Int32)))] [.null])) _
            exact X0.areturnOut hx rfl Bd.returns rfl (hb hby d8_41) hr
          · show Q_rm_p1 Z p1 c_ALERT c_OFF c_MAX_COPIES c_NO_DESTINATION h0 n0 _ s₁.heap _
            rw [e0]
            rcases hm with q | q | q | q
            · exact absurd q hc6
            · exact absurd q hc15
            · exact absurd q hc24
            · exact absurd q hc33
theorem ef_rm_p0 (m : MethodId) (x0 : Int32) : entryFrame m #[(.int x0)] 2 = mkF m 0 #[.val (.int x0), .unset] [] := by first | (simp [entryFrame, mkF, argsToLocals, Value.category]; done) | rfl
def Q_rm_p0 (Z : State) (p1 : Int32) (h0 : Heap) (n0 : Nat) (v : Option Value) (h : Heap) (L : List Loc) : Prop := v = some .null ∧ Fr n0 L ∧ h = h0
set_option maxRecDepth 65536 in
set_option maxHeartbeats 40000000 in
theorem rm_p0 (l : Launch) (Z : State) (a0 : Array Value) (hw : ∀ d ∈ tables_1, d.before a0 Z = true) (ws : List Jvm.Cond) (p1 : Int32) (h0 : Heap) (n0 : Nat) (Z0 : n0 ≤ h0.size) (hm : ¬ ((p1 &&& (7 : Int32)) = (0 : Int32) ∨ (p1 &&& (7 : Int32)) = (1 : Int32) ∨ (p1 &&& (7 : Int32)) = (2 : Int32) ∨ (p1 &&& (7 : Int32)) = (3 : Int32))) :
    MetFree l (⟨"com/example/poolwright/poolwright/CopyStartsPinLaw", "pick", "(I)Lcom/example/poolwright/poolwright/Copy$Refusal;"⟩ : MethodName) (head1 (Jvm.Cond.code (⟨"com/example/poolwright/poolwright/CopyStartsPinLaw", "pick", "(I)Lcom/example/poolwright/poolwright/Copy$Refusal;"⟩ : MethodName) method_2_code 2 (some (.object "com/example/poolwright/poolwright/Copy$Refusal")) :: ws) ({ frames := 0, cells := 0, slots := 0, locals := 0 } : Room)) (fun a U => a = #[(.int p1)] ∧ Z.Warmed39 U.vm ∧ U.heap = h0) (fun _ _ _ _ _ => True) (fun _ U o U' => ∃ v L, o = .returned v ∧ Q_rm_p0 Z p1 h0 n0 v U'.heap L ∧ FrameEnd U o U' L ({ frames := 0, cells := 0, slots := 0, locals := 0 } : Room).cells ({ frames := 0, cells := 0, slots := 0, locals := 0 } : Room).slots) := by
  refine MetFree.of_bodySF (plainFor_of_name pn_8) hisR ?_
  intro p e s m args below meth c s₁ Bd hml0 hP hK
  obtain ⟨rfl, hZ, hh⟩ := hP
  have hx := Bd.exec
  have hby := Bd.bytes
  have hml : c.maxLocals = 2 := hml0
  have hown : s.vm.findClass "com/example/poolwright/poolwright/CopyStartsPinLaw" = some m.cls := findClass_of_methodNamed Bd.named
  have hnm := (name_of_methodNamed Bd.named Bd.method).1
  have X0 : Stand p l e ({ frames := 0, cells := 0, slots := 0, locals := 0 } : Room) s m #[(.int p1)] below meth c s₁ [] 0 0 := Stand.of_body Bd
  have e0 : s₁.heap = h0 := by rw [← hh, Bd.state]; rfl
  have N0 := Fr.nil n0
  have pre0 : ∀ t, Steps p.tables e below (s₁.setTop (mkF m 0 #[.val (.int p1), .unset] [])) t → Steps p.tables e below (s₁.setTop (entryFrame m #[(.int p1)] 2)) t := fun t kt => castTop (ef_rm_p0 m p1) kt
  obtain ⟨fs, hr, hrun, hended, hW, hsame⟩ := X0.leave (v := some .null) (fun h => by rw [Bd.returns] at h; cases h) (hlocks := Bd.notSynchronized)
  refine ⟨_, _, pre0 _ ?_, hrun, hended, _, _, rfl, ?_, ⟨_, rfl⟩, hW, hsame.mono (by decide) (by decide)⟩
  · show Steps p.tables e below (s₁.setTop (mkF m 0 #[.val (.int p1), .unset] [])) _
    refine XS.iloadN X0.here hx rfl (hb hby d8_0) rfl ?_
    show Steps p.tables e below (s₁.setTop (mkF m 1 #[.val (.int p1), .unset] [(.int p1)])) _
    refine XS.bipush X0.here hx rfl (hb hby d8_1) ?_
    show Steps p.tables e below (s₁.setTop (mkF m 3 #[.val (.int p1), .unset] [(.int (7 : Int32)), (.int p1)])) _
    refine XS.iand X0.here hx rfl (hb hby d8_3) rfl ?_
    show Steps p.tables e below (s₁.setTop (mkF m 4 #[.val (.int p1), .unset] [(.int (p1 &&& (7 : Int32)))])) _
    refine XS.istoreN X0.here hx rfl (hb hby d8_4) rfl (l' := #[.val (.int p1), .val (.int (p1 &&& (7 : Int32)))]) rfl ?_
    show Steps p.tables e below (s₁.setTop (mkF m 5 #[.val (.int p1), .val (.int (p1 &&& (7 : Int32)))] [])) _
    refine XS.iloadN X0.here hx rfl (hb hby d8_5) rfl ?_
    show Steps p.tables e below (s₁.setTop (mkF m 6 #[.val (.int p1), .val (.int (p1 &&& (7 : Int32)))] [(.int (p1 &&& (7 : Int32)))])) _
    refine XS.ifYes X0.here hx rfl (pc0 := 6) (pc' := 13) rfl (hb hby d8_6) rfl ((if0 _ _).trans (feq (fun q => hm (Or.inl q))).2) (by decide) (by decide) ?_
    show Steps p.tables e below (s₁.setTop (mkF m 13 #[.val (.int p1), .val (.int (p1 &&& (7 : Int32)))] [])) _
    refine XS.iloadN X0.here hx rfl (hb hby d8_13) rfl ?_
    show Steps p.tables e below (s₁.setTop (mkF m 14 #[.val (.int p1), .val (.int (p1 &&& (7 : Int32)))] [(.int (p1 &&& (7 : Int32)))])) _
    refine XS.iconst X0.here hx rfl (hb hby d8_14) ?_
    show Steps p.tables e below (s₁.setTop (mkF m 15 #[.val (.int p1), .val (.int (p1 &&& (7 : Int32)))] [(.int (1 : Int32)), (.int (p1 &&& (7 : Int32)))])) _
    refine XS.icmpYes X0.here hx rfl (pc0 := 15) (pc' := 22) rfl (hb hby d8_15) rfl (feq (fun q => hm (Or.inr (Or.inl q)))).2 (by decide) (by decide) ?_
    show Steps p.tables e below (s₁.setTop (mkF m 22 #[.val (.int p1), .val (.int (p1 &&& (7 : Int32)))] [])) _
    refine XS.iloadN X0.here hx rfl (hb hby d8_22) rfl ?_
    show Steps p.tables e below (s₁.setTop (mkF m 23 #[.val (.int p1), .val (.int (p1 &&& (7 : Int32)))] [(.int (p1 &&& (7 : Int32)))])) _
    refine XS.iconst X0.here hx rfl (hb hby d8_23) ?_
    show Steps p.tables e below (s₁.setTop (mkF m 24 #[.val (.int p1), .val (.int (p1 &&& (7 : Int32)))] [(.int (2 : Int32)), (.int (p1 &&& (7 : Int32)))])) _
    refine XS.icmpYes X0.here hx rfl (pc0 := 24) (pc' := 31) rfl (hb hby d8_24) rfl (feq (fun q => hm (Or.inr (Or.inr (Or.inl q))))).2 (by decide) (by decide) ?_
    show Steps p.tables e below (s₁.setTop (mkF m 31 #[.val (.int p1), .val (.int (p1 &&& (7 : Int32)))] [])) _
    refine XS.iloadN X0.here hx rfl (hb hby d8_31) rfl ?_
    show Steps p.tables e below (s₁.setTop (mkF m 32 #[.val (.int p1), .val (.int (p1 &&& (7 : Int32)))] [(.int (p1 &&& (7 : Int32)))])) _
    refine XS.iconst X0.here hx rfl (hb hby d8_32) ?_
    show Steps p.tables e below (s₁.setTop (mkF m 33 #[.val (.int p1), .val (.int (p1 &&& (7 : Int32)))] [(.int (3 : Int32)), (.int (p1 &&& (7 : Int32)))])) _
    refine XS.icmpYes X0.here hx rfl (pc0 := 33) (pc' := 40) rfl (hb hby d8_33) rfl (feq (fun q => hm (Or.inr (Or.inr (Or.inr q))))).2 (by decide) (by decide) ?_
    show Steps p.tables e below (s₁.setTop (mkF m 40 #[.val (.int p1), .val (.int (p1 &&& (7 : Int32)))] [])) _
    refine XS.aconstNull X0.here hx rfl (hb hby d8_40) ?_
    show Steps p.tables e below (s₁.setTop (mkF m 41 #[.val (.int p1), .val (.int (p1 &&& (7 : Int32)))] [.null])) _
    exact X0.areturnOut hx rfl Bd.returns rfl (hb hby d8_41) hr
  · show Q_rm_p0 Z p1 h0 n0 _ s₁.heap _
    rw [e0]
    exact ⟨rfl, N0, rfl⟩
theorem pn_10 : plainName "java/lang/Record" = true := by first | (simp [plainName, overriddenIn]; done) | decide +kernel
theorem ef_rm_rec (m : MethodId) (x0 : Addr) : entryFrame m #[(.ref x0)] 1 = mkF m 0 #[.val (.ref x0)] [] := by first | (simp [entryFrame, mkF, argsToLocals, Value.category]; done) | rfl
def Q_rm_rec (Z : State) (a1 : Addr) (h0 : Heap) (n0 : Nat) (v : Option Value) (h : Heap) (L : List Loc) : Prop := v = none ∧ Fr n0 L ∧ h = h0
theorem d10_0 : decode jdk_30_method_1_code 0 = .ok (.aload_n 0, 1) := by decide +kernel
theorem d10_1 : decode jdk_30_method_1_code 1 = .ok (.invokespecial 1, 3) := by decide +kernel
theorem d10_4 : decode jdk_30_method_1_code 4 = .ok (.return_, 1) := by decide +kernel
set_option maxRecDepth 65536 in
set_option maxHeartbeats 40000000 in
theorem rm_rec (l : Launch) (Z : State) (a0 : Array Value) (hw : ∀ d ∈ tables_1, d.before a0 Z = true) (ws : List Jvm.Cond) (a1 : Addr) (h0 : Heap) (n0 : Nat) (Z0 : n0 ≤ h0.size)  :
    MetFree l (⟨"java/lang/Record", "<init>", "()V"⟩ : MethodName) (head1 (Jvm.Cond.code (⟨"java/lang/Record", "<init>", "()V"⟩ : MethodName) jdk_30_method_1_code 1 none :: ws) ({ frames := 1, cells := 0, slots := 0, locals := 12 } : Room)) (fun a U => a = #[(.ref a1)] ∧ Z.Warmed39 U.vm ∧ U.heap = h0) (fun _ _ _ _ _ => True) (fun _ U o U' => ∃ v L, o = .returned v ∧ Q_rm_rec Z a1 h0 n0 v U'.heap L ∧ FrameEnd U o U' L ({ frames := 1, cells := 0, slots := 0, locals := 12 } : Room).cells ({ frames := 1, cells := 0, slots := 0, locals := 12 } : Room).slots) := by
  refine MetFree.of_bodySF (plainFor_of_name pn_10) hisR ?_
  intro p e s m args below meth c s₁ Bd hml0 hP hK
  obtain ⟨rfl, hZ, hh⟩ := hP
  have hx := Bd.exec
  have hby := Bd.bytes
  have hml : c.maxLocals = 1 := hml0
  have hown : s.vm.findClass "java/lang/Record" = some m.cls := findClass_of_methodNamed Bd.named
  have hnm := (name_of_methodNamed Bd.named Bd.method).1
  have X0 : Stand p l e ({ frames := 1, cells := 0, slots := 0, locals := 12 } : Room) s m #[(.ref a1)] below meth c s₁ [] 0 0 := Stand.of_body Bd
  have e0 : s₁.heap = h0 := by rw [← hh, Bd.state]; rfl
  have N0 := Fr.nil n0
  have pre0 : ∀ t, Steps p.tables e below (s₁.setTop (mkF m 0 #[.val (.ref a1)] [])) t → Steps p.tables e below (s₁.setTop (entryFrame m #[(.ref a1)] 1)) t := fun t kt => castTop (ef_rm_rec m a1) kt
  obtain ⟨T1, X1, e1, st1⟩ := initO X0 hx hZ hown (hw _ (List.mem_of_getElem? (i := 51) rfl)) (hw _ (List.mem_of_getElem? (i := 16) rfl)) (hw _ (List.mem_of_getElem? (i := 17) rfl)) e0 (g := (mkF m 1 #[.val (.ref a1)] [(.ref a1)])) rfl (by rw [hml]; rfl) rfl (hb hby d10_1) (by decide) (W := 0) (by show 2 * 0 + _ ≤ _; exact Nat.le_of_eq rfl) (by decide)
  obtain ⟨fs, hr, hrun, hended, hW, hsame⟩ := X1.leave (v := none) (fun _ => rfl) (hlocks := Bd.notSynchronized)
  refine ⟨_, _, pre0 _ ?_, hrun, hended, _, _, rfl, ?_, ⟨_, rfl⟩, hW, hsame.mono (by decide) (by decide)⟩
  · show Steps p.tables e below (s₁.setTop (mkF m 0 #[.val (.ref a1)] [])) _
    refine XS.aloadN X0.here hx rfl (hb hby d10_0) rfl rfl ?_
    show Steps p.tables e below (s₁.setTop (mkF m 1 #[.val (.ref a1)] [(.ref a1)])) _
    refine st1 _ ?_
    show Steps p.tables e below (T1.setTop (mkF m 4 #[.val (.ref a1)] [])) _
    exact X1.returnOut hx Bd.returns (hb hby d10_4) hr
  · show Q_rm_rec Z a1 h0 n0 _ T1.heap _
    rw [e1]
    exact ⟨rfl, N0, rfl⟩
theorem pn_9 : plainName "com/example/poolwright/poolwright/Copy" = true := by first | (simp [plainName, overriddenIn]; done) | decide +kernel
theorem ef_rm_cinnn (m : MethodId) (x0 : Addr) : entryFrame m #[(.ref x0), .null, .null, .null] 4 = mkF m 0 #[.val (.ref x0), .val .null, .val .null, .val .null] [] := by first | (simp [entryFrame, mkF, argsToLocals, Value.category]; done) | rfl
def Q_rm_cinnn (Z : State) (a1 : Addr) (h0 : Heap) (n0 : Nat) (v : Option Value) (h : Heap) (L : List Loc) : Prop := v = none ∧ Fr n0 L ∧ Keep h0 h [a1] ∧ Exa Z h a1 "com/example/poolwright/poolwright/Copy" ∧ Fld Z h a1 "com/example/poolwright/poolwright/Copy" "destination" "Ljava/lang/String;" .null
theorem d9_0 : decode prog_11_method_1_code 0 = .ok (.aload_n 0, 1) := by decide +kernel
theorem pd___V_167 : parseMethodDescriptor "()V" = some ⟨[], none⟩ := by decide +kernel
theorem d9_1 : decode prog_11_method_1_code 1 = .ok (.invokespecial 1, 3) := by decide +kernel
theorem d9_4 : decode prog_11_method_1_code 4 = .ok (.aload_n 0, 1) := by decide +kernel
theorem d9_5 : decode prog_11_method_1_code 5 = .ok (.aload_n 1, 1) := by decide +kernel
theorem d9_6 : decode prog_11_method_1_code 6 = .ok (.putfield 7, 3) := by decide +kernel
theorem d9_9 : decode prog_11_method_1_code 9 = .ok (.aload_n 0, 1) := by decide +kernel
theorem d9_10 : decode prog_11_method_1_code 10 = .ok (.aload_n 2, 1) := by decide +kernel
theorem d9_11 : decode prog_11_method_1_code 11 = .ok (.putfield 13, 3) := by decide +kernel
theorem d9_14 : decode prog_11_method_1_code 14 = .ok (.aload_n 0, 1) := by decide +kernel
theorem d9_15 : decode prog_11_method_1_code 15 = .ok (.aload_n 3, 1) := by decide +kernel
theorem d9_16 : decode prog_11_method_1_code 16 = .ok (.putfield 16, 3) := by decide +kernel
theorem d9_19 : decode prog_11_method_1_code 19 = .ok (.return_, 1) := by decide +kernel
set_option maxRecDepth 65536 in
set_option maxHeartbeats 40000000 in
theorem rm_cinnn (l : Launch) (Z : State) (a0 : Array Value) (hw : ∀ d ∈ tables_1, d.before a0 Z = true) (ws : List Jvm.Cond) (a1 : Addr) (h0 : Heap) (n0 : Nat) (Z0 : n0 ≤ h0.size) (F_source_a1 : Fld Z h0 a1 "com/example/poolwright/poolwright/Copy" "source" "Ljava/lang/String;" .null) (F_destination_a1 : Fld Z h0 a1 "com/example/poolwright/poolwright/Copy" "destination" "Ljava/lang/String;" .null) (F_refusal_a1 : Fld Z h0 a1 "com/example/poolwright/poolwright/Copy" "refusal" "Lcom/example/poolwright/poolwright/Copy$Refusal;" .null) (E_a1 : Exa Z h0 a1 "com/example/poolwright/poolwright/Copy") (g_a1 : n0 ≤ a1) :
    MetFree l (⟨"com/example/poolwright/poolwright/Copy", "<init>", "(Ljava/lang/String;Ljava/lang/String;Lcom/example/poolwright/poolwright/Copy$Refusal;)V"⟩ : MethodName) (head1 (Jvm.Cond.code (⟨"com/example/poolwright/poolwright/Copy", "<init>", "(Ljava/lang/String;Ljava/lang/String;Lcom/example/poolwright/poolwright/Copy$Refusal;)V"⟩ : MethodName) prog_11_method_1_code 4 none :: ws) ({ frames := 2, cells := 0, slots := 0, locals := 24 } : Room)) (fun a U => a = #[(.ref a1), .null, .null, .null] ∧ Z.Warmed39 U.vm ∧ U.heap = h0) (fun _ _ _ _ _ => True) (fun _ U o U' => ∃ v L, o = .returned v ∧ Q_rm_cinnn Z a1 h0 n0 v U'.heap L ∧ FrameEnd U o U' L ({ frames := 2, cells := 0, slots := 0, locals := 24 } : Room).cells ({ frames := 2, cells := 0, slots := 0, locals := 24 } : Room).slots) := by
  refine MetFree.of_bodySF (plainFor_of_name pn_9) hisR ?_
  intro p e s m args below meth c s₁ Bd hml0 hP hK
  obtain ⟨rfl, hZ, hh⟩ := hP
  have hx := Bd.exec
  have hby := Bd.bytes
  have hml : c.maxLocals = 4 := hml0
  have hown : s.vm.findClass "com/example/poolwright/poolwright/Copy" = some m.cls := findClass_of_methodNamed Bd.named
  have hnm := (name_of_methodNamed Bd.named Bd.method).1
  have X0 : Stand p l e ({ frames := 2, cells := 0, slots := 0, locals := 24 } : Room) s m #[(.ref a1), .null, .null, .null] below meth c s₁ [] 0 0 := Stand.of_body Bd
  have e0 : s₁.heap = h0 := by rw [← hh, Bd.state]; rfl
  have N0 := Fr.nil n0
  have pre0 : ∀ t, Steps p.tables e below (s₁.setTop (mkF m 0 #[.val (.ref a1), .val .null, .val .null, .val .null] [])) t → Steps p.tables e below (s₁.setTop (entryFrame m #[(.ref a1), .null, .null, .null] 4)) t := fun t kt => castTop (ef_rm_cinnn m a1) kt
  obtain ⟨_, _, ⟨T1, L1, k1, n1⟩, -, X1, ⟨Lc1, hQ1, l1, y1, z1⟩, st1⟩ := X0.specialBack hx (y := (⟨"java/lang/Record", "<init>", "()V"⟩ : MethodName)) rfl hown (mvT hZ (hw _ (List.mem_of_getElem? (i := 46) rfl))) (mvT hZ (hw _ (List.mem_of_getElem? (i := 47) rfl))) (mvT hZ (hw _ (List.mem_of_getElem? (i := 50) rfl))) (by decide) (backOf (W := 0) (rm_rec l Z a0 hw [] a1 h0 n0 Z0 ) hZ (hw _ (List.mem_of_getElem? (i := 50) rfl)) (hw _ (List.mem_of_getElem? (i := 49) rfl)) (by decide) (by decide)) (g := (mkF m 1 #[.val (.ref a1), .val .null, .val .null, .val .null] [(.ref a1)])) rfl (by rw [hml]; rfl) (Steps.refl _) (a := a1) (argsL := []) (rest := []) (lenOf pd___V_167 rfl) rfl (by show 2 * 0 + _ ≤ _; exact Nat.le_of_eq rfl) (hb hby d9_1) (fun _ _ => ⟨rfl, e0, (by decide : 0 + 0 ≤ _), (by decide : 0 + 0 ≤ _)⟩)
  dsimp only [Pt.U, Pt.locs, Pt.cells, Pt.slots] at X1 l1 y1 z1 st1 hQ1
  subst l1 y1 z1
  obtain ⟨rfl, N1q, e1⟩ := hQ1
  have N1 := Fr.app N0 N1q
  obtain ⟨T2, h2, X2, e2, W2, st2⟩ := putF X1 hx hZ hown (host := "") (Or.inl (hw _ (List.mem_of_getElem? (i := 52) rfl))) Via.refl e1 F_source_a1 E_a1 (Or.inr ⟨(hw _ (List.mem_of_getElem? (i := 53) rfl)), rfl, hnm⟩) (hw _ (List.mem_of_getElem? (i := 41) rfl)) (ty := (.object "java/lang/String")) (by decide) rfl rfl (g := (mkF m 6 #[.val (.ref a1), .val .null, .val .null, .val .null] [.null, (.ref a1)])) rfl rfl (hb hby d9_6)
  have f1 : Exa Z h2 a1 "com/example/poolwright/poolwright/Copy" := E_a1.wr W2
  have f2 : Fld Z h2 a1 "com/example/poolwright/poolwright/Copy" "source" "Ljava/lang/String;" .null := F_source_a1.same W2
  have f3 : Fld Z h2 a1 "com/example/poolwright/poolwright/Copy" "destination" "Ljava/lang/String;" .null := F_destination_a1.other W2 (Or.inr (slot_ne (Or.inr (hw _ (List.mem_of_getElem? (i := 55) rfl))) (Or.inr (hw _ (List.mem_of_getElem? (i := 53) rfl))) (by decide) (t := (.object "java/lang/String")) (t' := (.object "java/lang/String")) (by decide) (by decide)))
  have f4 : Fld Z h2 a1 "com/example/poolwright/poolwright/Copy" "refusal" "Lcom/example/poolwright/poolwright/Copy$Refusal;" .null := F_refusal_a1.other W2 (Or.inr (slot_ne (Or.inr (hw _ (List.mem_of_getElem? (i := 57) rfl))) (Or.inr (hw _ (List.mem_of_getElem? (i := 53) rfl))) (by decide) (t := (.object "com/example/poolwright/poolwright/Copy$Refusal")) (t' := (.object "java/lang/String")) (by decide) (by decide)))
  have f5 : n0 ≤ a1 := g_a1
  have f6 : Keep h0 h2 [a1] := (Keep.refl h0 [a1]).wr W2 (Or.inl (by simp))
  have N2 := Fr.snoc X2 N1 f5
  have Z2 : n0 ≤ h2.size := by rw [W2.size]; exact Z0
  obtain ⟨T3, h3, X3, e3, W3, st3⟩ := putF X2 hx hZ hown (host := "") (Or.inl (hw _ (List.mem_of_getElem? (i := 54) rfl))) Via.refl e2 f3 f1 (Or.inr ⟨(hw _ (List.mem_of_getElem? (i := 55) rfl)), rfl, hnm⟩) (hw _ (List.mem_of_getElem? (i := 41) rfl)) (ty := (.object "java/lang/String")) (by decide) rfl rfl (g := (mkF m 11 #[.val (.ref a1), .val .null, .val .null, .val .null] [.null, (.ref a1)])) rfl rfl (hb hby d9_11)
  have f7 : Exa Z h3 a1 "com/example/poolwright/poolwright/Copy" := f1.wr W3
  have f8 : Fld Z h3 a1 "com/example/poolwright/poolwright/Copy" "source" "Ljava/lang/String;" .null := f2.other W3 (Or.inr (slot_ne (Or.inr (hw _ (List.mem_of_getElem? (i := 53) rfl))) (Or.inr (hw _ (List.mem_of_getElem? (i := 55) rfl))) (by decide) (t := (.object "java/lang/String")) (t' := (.object "java/lang/String")) (by decide) (by decide)))
  have f9 : Fld Z h3 a1 "com/example/poolwright/poolwright/Copy" "destination" "Ljava/lang/String;" .null := f3.same W3
  have f10 : Fld Z h3 a1 "com/example/poolwright/poolwright/Copy" "refusal" "Lcom/example/poolwright/poolwright/Copy$Refusal;" .null := f4.other W3 (Or.inr (slot_ne (Or.inr (hw _ (List.mem_of_getElem? (i := 57) rfl))) (Or.inr (hw _ (List.mem_of_getElem? (i := 55) rfl))) (by decide) (t := (.object "com/example/poolwright/poolwright/Copy$Refusal")) (t' := (.object "java/lang/String")) (by decide) (by decide)))
  have f11 : n0 ≤ a1 := f5
  have f12 : Keep h0 h3 [a1] := f6.wr W3 (Or.inl (by simp))
  have N3 := Fr.snoc X3 N2 f11
  have Z3 : n0 ≤ h3.size := by rw [W3.size]; exact Z2
  obtain ⟨T4, h4, X4, e4, W4, st4⟩ := putF X3 hx hZ hown (host := "") (Or.inl (hw _ (List.mem_of_getElem? (i := 56) rfl))) Via.refl e3 f10 f7 (Or.inr ⟨(hw _ (List.mem_of_getElem? (i := 57) rfl)), rfl, hnm⟩) (hw _ (List.mem_of_getElem? (i := 41) rfl)) (ty := (.object "com/example/poolwright/poolwright/Copy$Refusal")) (by decide) rfl rfl (g := (mkF m 16 #[.val (.ref a1), .val .null, .val .null, .val .null] [.null, (.ref a1)])) rfl rfl (hb hby d9_16)
  have f13 : Exa Z h4 a1 "com/example/poolwright/poolwright/Copy" := f7.wr W4
  have f14 : Fld Z h4 a1 "com/example/poolwright/poolwright/Copy" "source" "Ljava/lang/String;" .null := f8.other W4 (Or.inr (slot_ne (Or.inr (hw _ (List.mem_of_getElem? (i := 53) rfl))) (Or.inr (hw _ (List.mem_of_getElem? (i := 57) rfl))) (by decide) (t := (.object "java/lang/String")) (t' := (.object "com/example/poolwright/poolwright/Copy$Refusal")) (by decide) (by decide)))
  have f15 : Fld Z h4 a1 "com/example/poolwright/poolwright/Copy" "destination" "Ljava/lang/String;" .null := f9.other W4 (Or.inr (slot_ne (Or.inr (hw _ (List.mem_of_getElem? (i := 55) rfl))) (Or.inr (hw _ (List.mem_of_getElem? (i := 57) rfl))) (by decide) (t := (.object "java/lang/String")) (t' := (.object "com/example/poolwright/poolwright/Copy$Refusal")) (by decide) (by decide)))
  have f16 : Fld Z h4 a1 "com/example/poolwright/poolwright/Copy" "refusal" "Lcom/example/poolwright/poolwright/Copy$Refusal;" .null := f10.same W4
  have f17 : n0 ≤ a1 := f11
  have f18 : Keep h0 h4 [a1] := f12.wr W4 (Or.inl (by simp))
  have N4 := Fr.snoc X4 N3 f17
  have Z4 : n0 ≤ h4.size := by rw [W4.size]; exact Z3
  obtain ⟨fs, hr, hrun, hended, hW, hsame⟩ := X4.leave (v := none) (fun _ => rfl) (hlocks := Bd.notSynchronized)
  refine ⟨_, _, pre0 _ ?_, hrun, hended, _, _, rfl, ?_, ⟨_, rfl⟩, hW, hsame.mono (by decide) (by decide)⟩
  · show Steps p.tables e below (s₁.setTop (mkF m 0 #[.val (.ref a1), .val .null, .val .null, .val .null] [])) _
    refine XS.aloadN X0.here hx rfl (hb hby d9_0) rfl rfl ?_
    show Steps p.tables e below (s₁.setTop (mkF m 1 #[.val (.ref a1), .val .null, .val .null, .val .null] [(.ref a1)])) _
    refine st1.trans ?_
    show Steps p.tables e below (T1.setTop (mkF m 4 #[.val (.ref a1), .val .null, .val .null, .val .null] [])) _
    refine XS.aloadN X1.here hx rfl (hb hby d9_4) rfl rfl ?_
    show Steps p.tables e below (T1.setTop (mkF m 5 #[.val (.ref a1), .val .null, .val .null, .val .null] [(.ref a1)])) _
    refine XS.aloadN X1.here hx rfl (hb hby d9_5) rfl rfl ?_
    show Steps p.tables e below (T1.setTop (mkF m 6 #[.val (.ref a1), .val .null, .val .null, .val .null] [.null, (.ref a1)])) _
    refine st2 _ ?_
    show Steps p.tables e below (T2.setTop (mkF m 9 #[.val (.ref a1), .val .null, .val .null, .val .null] [])) _
    refine XS.aloadN X2.here hx rfl (hb hby d9_9) rfl rfl ?_
    show Steps p.tables e below (T2.setTop (mkF m 10 #[.val (.ref a1), .val .null, .val .null, .val .null] [(.ref a1)])) _
    refine XS.aloadN X2.here hx rfl (hb hby d9_10) rfl rfl ?_
    show Steps p.tables e below (T2.setTop (mkF m 11 #[.val (.ref a1), .val .null, .val .null, .val .null] [.null, (.ref a1)])) _
    refine st3 _ ?_
    show Steps p.tables e below (T3.setTop (mkF m 14 #[.val (.ref a1), .val .null, .val .null, .val .null] [])) _
    refine XS.aloadN X3.here hx rfl (hb hby d9_14) rfl rfl ?_
    show Steps p.tables e below (T3.setTop (mkF m 15 #[.val (.ref a1), .val .null, .val .null, .val .null] [(.ref a1)])) _
    refine XS.aloadN X3.here hx rfl (hb hby d9_15) rfl rfl ?_
    show Steps p.tables e below (T3.setTop (mkF m 16 #[.val (.ref a1), .val .null, .val .null, .val .null] [.null, (.ref a1)])) _
    refine st4 _ ?_
    show Steps p.tables e below (T4.setTop (mkF m 19 #[.val (.ref a1), .val .null, .val .null, .val .null] [])) _
    exact X4.returnOut hx Bd.returns (hb hby d9_19) hr
  · show Q_rm_cinnn Z a1 h0 n0 _ T4.heap _
    rw [e4]
    exact ⟨rfl, N4, f18, f13, f15⟩
theorem ef_rm_cinnr (m : MethodId) (x0 : Addr) (x3 : Addr) : entryFrame m #[(.ref x0), .null, .null, (.ref x3)] 4 = mkF m 0 #[.val (.ref x0), .val .null, .val .null, .val (.ref x3)] [] := by first | (simp [entryFrame, mkF, argsToLocals, Value.category]; done) | rfl
def Q_rm_cinnr (Z : State) (a1 : Addr) (a4 : Addr) (h0 : Heap) (n0 : Nat) (v : Option Value) (h : Heap) (L : List Loc) : Prop := v = none ∧ Fr n0 L ∧ Keep h0 h [a1] ∧ Exa Z h a1 "com/example/poolwright/poolwright/Copy" ∧ Fld Z h a1 "com/example/poolwright/poolwright/Copy" "destination" "Ljava/lang/String;" .null
set_option maxRecDepth 65536 in
set_option maxHeartbeats 40000000 in
theorem rm_cinnr (l : Launch) (Z : State) (a0 : Array Value) (hw : ∀ d ∈ tables_1, d.before a0 Z = true) (ws : List Jvm.Cond) (a1 : Addr) (a4 : Addr) (h0 : Heap) (n0 : Nat) (Z0 : n0 ≤ h0.size) (F_source_a1 : Fld Z h0 a1 "com/example/poolwright/poolwright/Copy" "source" "Ljava/lang/String;" .null) (F_destination_a1 : Fld Z h0 a1 "com/example/poolwright/poolwright/Copy" "destination" "Ljava/lang/String;" .null) (F_refusal_a1 : Fld Z h0 a1 "com/example/poolwright/poolwright/Copy" "refusal" "Lcom/example/poolwright/poolwright/Copy$Refusal;" .null) (E_a1 : Exa Z h0 a1 "com/example/poolwright/poolwright/Copy") (g_a1 : n0 ≤ a1) :
    MetFree l (⟨"com/example/poolwright/poolwright/Copy", "<init>", "(Ljava/lang/String;Ljava/lang/String;Lcom/example/poolwright/poolwright/Copy$Refusal;)V"⟩ : MethodName) (head1 (Jvm.Cond.code (⟨"com/example/poolwright/poolwright/Copy", "<init>", "(Ljava/lang/String;Ljava/lang/String;Lcom/example/poolwright/poolwright/Copy$Refusal;)V"⟩ : MethodName) prog_11_method_1_code 4 none :: ws) ({ frames := 2, cells := 0, slots := 0, locals := 24 } : Room)) (fun a U => a = #[(.ref a1), .null, .null, (.ref a4)] ∧ Z.Warmed39 U.vm ∧ U.heap = h0) (fun _ _ _ _ _ => True) (fun _ U o U' => ∃ v L, o = .returned v ∧ Q_rm_cinnr Z a1 a4 h0 n0 v U'.heap L ∧ FrameEnd U o U' L ({ frames := 2, cells := 0, slots := 0, locals := 24 } : Room).cells ({ frames := 2, cells := 0, slots := 0, locals := 24 } : Room).slots) := by
  refine MetFree.of_bodySF (plainFor_of_name pn_9) hisR ?_
  intro p e s m args below meth c s₁ Bd hml0 hP hK
  obtain ⟨rfl, hZ, hh⟩ := hP
  have hx := Bd.exec
  have hby := Bd.bytes
  have hml : c.maxLocals = 4 := hml0
  have hown : s.vm.findClass "com/example/poolwright/poolwright/Copy" = some m.cls := findClass_of_methodNamed Bd.named
  have hnm := (name_of_methodNamed Bd.named Bd.method).1
  have X0 : Stand p l e ({ frames := 2, cells := 0, slots := 0, locals := 24 } : Room) s m #[(.ref a1), .null, .null, (.ref a4)] below meth c s₁ [] 0 0 := Stand.of_body Bd
  have e0 : s₁.heap = h0 := by rw [← hh, Bd.state]; rfl
  have N0 := Fr.nil n0
  have pre0 : ∀ t, Steps p.tables e below (s₁.setTop (mkF m 0 #[.val (.ref a1), .val .null, .val .null, .val (.ref a4)] [])) t → Steps p.tables e below (s₁.setTop (entryFrame m #[(.ref a1), .null, .null, (.ref a4)] 4)) t := fun t kt => castTop (ef_rm_cinnr m a1 a4) kt
  obtain ⟨_, _, ⟨T1, L1, k1, n1⟩, -, X1, ⟨Lc1, hQ1, l1, y1, z1⟩, st1⟩ := X0.specialBack hx (y := (⟨"java/lang/Record", "<init>", "()V"⟩ : MethodName)) rfl hown (mvT hZ (hw _ (List.mem_of_getElem? (i := 46) rfl))) (mvT hZ (hw _ (List.mem_of_getElem? (i := 47) rfl))) (mvT hZ (hw _ (List.mem_of_getElem? (i := 50) rfl))) (by decide) (backOf (W := 0) (rm_rec l Z a0 hw [] a1 h0 n0 Z0 ) hZ (hw _ (List.mem_of_getElem? (i := 50) rfl)) (hw _ (List.mem_of_getElem? (i := 49) rfl)) (by decide) (by decide)) (g := (mkF m 1 #[.val (.ref a1), .val .null, .val .null, .val (.ref a4)] [(.ref a1)])) rfl (by rw [hml]; rfl) (Steps.refl _) (a := a1) (argsL := []) (rest := []) (lenOf pd___V_167 rfl) rfl (by show 2 * 0 + _ ≤ _; exact Nat.le_of_eq rfl) (hb hby d9_1) (fun _ _ => ⟨rfl, e0, (by decide : 0 + 0 ≤ _), (by decide : 0 + 0 ≤ _)⟩)
  dsimp only [Pt.U, Pt.locs, Pt.cells, Pt.slots] at X1 l1 y1 z1 st1 hQ1
  subst l1 y1 z1
  obtain ⟨rfl, N1q, e1⟩ := hQ1
  have N1 := Fr.app N0 N1q
  obtain ⟨T2, h2, X2, e2, W2, st2⟩ := putF X1 hx hZ hown (host := "") (Or.inl (hw _ (List.mem_of_getElem? (i := 52) rfl))) Via.refl e1 F_source_a1 E_a1 (Or.inr ⟨(hw _ (List.mem_of_getElem? (i := 53) rfl)), rfl, hnm⟩) (hw _ (List.mem_of_getElem? (i := 41) rfl)) (ty := (.object "java/lang/String")) (by decide) rfl rfl (g := (mkF m 6 #[.val (.ref a1), .val .null, .val .null, .val (.ref a4)] [.null, (.ref a1)])) rfl rfl (hb hby d9_6)
  have f1 : Exa Z h2 a1 "com/example/poolwright/poolwright/Copy" := E_a1.wr W2
  have f2 : Fld Z h2 a1 "com/example/poolwright/poolwright/Copy" "source" "Ljava/lang/String;" .null := F_source_a1.same W2
  have f3 : Fld Z h2 a1 "com/example/poolwright/poolwright/Copy" "destination" "Ljava/lang/String;" .null := F_destination_a1.other W2 (Or.inr (slot_ne (Or.inr (hw _ (List.mem_of_getElem? (i := 55) rfl))) (Or.inr (hw _ (List.mem_of_getElem? (i := 53) rfl))) (by decide) (t := (.object "java/lang/String")) (t' := (.object "java/lang/String")) (by decide) (by decide)))
  have f4 : Fld Z h2 a1 "com/example/poolwright/poolwright/Copy" "refusal" "Lcom/example/poolwright/poolwright/Copy$Refusal;" .null := F_refusal_a1.other W2 (Or.inr (slot_ne (Or.inr (hw _ (List.mem_of_getElem? (i := 57) rfl))) (Or.inr (hw _ (List.mem_of_getElem? (i := 53) rfl))) (by decide) (t := (.object "com/example/poolwright/poolwright/Copy$Refusal")) (t' := (.object "java/lang/String")) (by decide) (by decide)))
  have f5 : n0 ≤ a1 := g_a1
  have f6 : Keep h0 h2 [a1] := (Keep.refl h0 [a1]).wr W2 (Or.inl (by simp))
  have N2 := Fr.snoc X2 N1 f5
  have Z2 : n0 ≤ h2.size := by rw [W2.size]; exact Z0
  obtain ⟨T3, h3, X3, e3, W3, st3⟩ := putF X2 hx hZ hown (host := "") (Or.inl (hw _ (List.mem_of_getElem? (i := 54) rfl))) Via.refl e2 f3 f1 (Or.inr ⟨(hw _ (List.mem_of_getElem? (i := 55) rfl)), rfl, hnm⟩) (hw _ (List.mem_of_getElem? (i := 41) rfl)) (ty := (.object "java/lang/String")) (by decide) rfl rfl (g := (mkF m 11 #[.val (.ref a1), .val .null, .val .null, .val (.ref a4)] [.null, (.ref a1)])) rfl rfl (hb hby d9_11)
  have f7 : Exa Z h3 a1 "com/example/poolwright/poolwright/Copy" := f1.wr W3
  have f8 : Fld Z h3 a1 "com/example/poolwright/poolwright/Copy" "source" "Ljava/lang/String;" .null := f2.other W3 (Or.inr (slot_ne (Or.inr (hw _ (List.mem_of_getElem? (i := 53) rfl))) (Or.inr (hw _ (List.mem_of_getElem? (i := 55) rfl))) (by decide) (t := (.object "java/lang/String")) (t' := (.object "java/lang/String")) (by decide) (by decide)))
  have f9 : Fld Z h3 a1 "com/example/poolwright/poolwright/Copy" "destination" "Ljava/lang/String;" .null := f3.same W3
  have f10 : Fld Z h3 a1 "com/example/poolwright/poolwright/Copy" "refusal" "Lcom/example/poolwright/poolwright/Copy$Refusal;" .null := f4.other W3 (Or.inr (slot_ne (Or.inr (hw _ (List.mem_of_getElem? (i := 57) rfl))) (Or.inr (hw _ (List.mem_of_getElem? (i := 55) rfl))) (by decide) (t := (.object "com/example/poolwright/poolwright/Copy$Refusal")) (t' := (.object "java/lang/String")) (by decide) (by decide)))
  have f11 : n0 ≤ a1 := f5
  have f12 : Keep h0 h3 [a1] := f6.wr W3 (Or.inl (by simp))
  have N3 := Fr.snoc X3 N2 f11
  have Z3 : n0 ≤ h3.size := by rw [W3.size]; exact Z2
  obtain ⟨T4, h4, X4, e4, W4, st4⟩ := putF X3 hx hZ hown (host := "") (Or.inl (hw _ (List.mem_of_getElem? (i := 56) rfl))) Via.refl e3 f10 f7 (Or.inr ⟨(hw _ (List.mem_of_getElem? (i := 57) rfl)), rfl, hnm⟩) (hw _ (List.mem_of_getElem? (i := 41) rfl)) (ty := (.object "com/example/poolwright/poolwright/Copy$Refusal")) (by decide) rfl rfl (g := (mkF m 16 #[.val (.ref a1), .val .null, .val .null, .val (.ref a4)] [(.ref a4), (.ref a1)])) rfl rfl (hb hby d9_16)
  have f13 : Exa Z h4 a1 "com/example/poolwright/poolwright/Copy" := f7.wr W4
  have f14 : Fld Z h4 a1 "com/example/poolwright/poolwright/Copy" "source" "Ljava/lang/String;" .null := f8.other W4 (Or.inr (slot_ne (Or.inr (hw _ (List.mem_of_getElem? (i := 53) rfl))) (Or.inr (hw _ (List.mem_of_getElem? (i := 57) rfl))) (by decide) (t := (.object "java/lang/String")) (t' := (.object "com/example/poolwright/poolwright/Copy$Refusal")) (by decide) (by decide)))
  have f15 : Fld Z h4 a1 "com/example/poolwright/poolwright/Copy" "destination" "Ljava/lang/String;" .null := f9.other W4 (Or.inr (slot_ne (Or.inr (hw _ (List.mem_of_getElem? (i := 55) rfl))) (Or.inr (hw _ (List.mem_of_getElem? (i := 57) rfl))) (by decide) (t := (.object "java/lang/String")) (t' := (.object "com/example/poolwright/poolwright/Copy$Refusal")) (by decide) (by decide)))
  have f16 : Fld Z h4 a1 "com/example/poolwright/poolwright/Copy" "refusal" "Lcom/example/poolwright/poolwright/Copy$Refusal;" (.ref a4) := f10.same W4
  have f17 : n0 ≤ a1 := f11
  have f18 : Keep h0 h4 [a1] := f12.wr W4 (Or.inl (by simp))
  have N4 := Fr.snoc X4 N3 f17
  have Z4 : n0 ≤ h4.size := by rw [W4.size]; exact Z3
  obtain ⟨fs, hr, hrun, hended, hW, hsame⟩ := X4.leave (v := none) (fun _ => rfl) (hlocks := Bd.notSynchronized)
  refine ⟨_, _, pre0 _ ?_, hrun, hended, _, _, rfl, ?_, ⟨_, rfl⟩, hW, hsame.mono (by decide) (by decide)⟩
  · show Steps p.tables e below (s₁.setTop (mkF m 0 #[.val (.ref a1), .val .null, .val .null, .val (.ref a4)] [])) _
    refine XS.aloadN X0.here hx rfl (hb hby d9_0) rfl rfl ?_
    show Steps p.tables e below (s₁.setTop (mkF m 1 #[.val (.ref a1), .val .null, .val .null, .val (.ref a4)] [(.ref a1)])) _
    refine st1.trans ?_
    show Steps p.tables e below (T1.setTop (mkF m 4 #[.val (.ref a1), .val .null, .val .null, .val (.ref a4)] [])) _
    refine XS.aloadN X1.here hx rfl (hb hby d9_4) rfl rfl ?_
    show Steps p.tables e below (T1.setTop (mkF m 5 #[.val (.ref a1), .val .null, .val .null, .val (.ref a4)] [(.ref a1)])) _
    refine XS.aloadN X1.here hx rfl (hb hby d9_5) rfl rfl ?_
    show Steps p.tables e below (T1.setTop (mkF m 6 #[.val (.ref a1), .val .null, .val .null, .val (.ref a4)] [.null, (.ref a1)])) _
    refine st2 _ ?_
    show Steps p.tables e below (T2.setTop (mkF m 9 #[.val (.ref a1), .val .null, .val .null, .val (.ref a4)] [])) _
    refine XS.aloadN X2.here hx rfl (hb hby d9_9) rfl rfl ?_
    show Steps p.tables e below (T2.setTop (mkF m 10 #[.val (.ref a1), .val .null, .val .null, .val (.ref a4)] [(.ref a1)])) _
    refine XS.aloadN X2.here hx rfl (hb hby d9_10) rfl rfl ?_
    show Steps p.tables e below (T2.setTop (mkF m 11 #[.val (.ref a1), .val .null, .val .null, .val (.ref a4)] [.null, (.ref a1)])) _
    refine st3 _ ?_
    show Steps p.tables e below (T3.setTop (mkF m 14 #[.val (.ref a1), .val .null, .val .null, .val (.ref a4)] [])) _
    refine XS.aloadN X3.here hx rfl (hb hby d9_14) rfl rfl ?_
    show Steps p.tables e below (T3.setTop (mkF m 15 #[.val (.ref a1), .val .null, .val .null, .val (.ref a4)] [(.ref a1)])) _
    refine XS.aloadN X3.here hx rfl (hb hby d9_15) rfl rfl ?_
    show Steps p.tables e below (T3.setTop (mkF m 16 #[.val (.ref a1), .val .null, .val .null, .val (.ref a4)] [(.ref a4), (.ref a1)])) _
    refine st4 _ ?_
    show Steps p.tables e below (T4.setTop (mkF m 19 #[.val (.ref a1), .val .null, .val .null, .val (.ref a4)] [])) _
    exact X4.returnOut hx Bd.returns (hb hby d9_19) hr
  · show Q_rm_cinnr Z a1 a4 h0 n0 _ T4.heap _
    rw [e4]
    exact ⟨rfl, N4, f18, f13, f15⟩
theorem ef_rm_cinrn (m : MethodId) (x0 : Addr) (x2 : Addr) : entryFrame m #[(.ref x0), .null, (.ref x2), .null] 4 = mkF m 0 #[.val (.ref x0), .val .null, .val (.ref x2), .val .null] [] := by first | (simp [entryFrame, mkF, argsToLocals, Value.category]; done) | rfl
def Q_rm_cinrn (Z : State) (a1 : Addr) (a3 : Addr) (h0 : Heap) (n0 : Nat) (v : Option Value) (h : Heap) (L : List Loc) : Prop := v = none ∧ Fr n0 L ∧ Keep h0 h [a1] ∧ Exa Z h a1 "com/example/poolwright/poolwright/Copy" ∧ Fld Z h a1 "com/example/poolwright/poolwright/Copy" "destination" "Ljava/lang/String;" (.ref a3)
set_option maxRecDepth 65536 in
set_option maxHeartbeats 40000000 in
theorem rm_cinrn (l : Launch) (Z : State) (a0 : Array Value) (hw : ∀ d ∈ tables_1, d.before a0 Z = true) (ws : List Jvm.Cond) (a1 : Addr) (a3 : Addr) (h0 : Heap) (n0 : Nat) (Z0 : n0 ≤ h0.size) (F_source_a1 : Fld Z h0 a1 "com/example/poolwright/poolwright/Copy" "source" "Ljava/lang/String;" .null) (F_destination_a1 : Fld Z h0 a1 "com/example/poolwright/poolwright/Copy" "destination" "Ljava/lang/String;" .null) (F_refusal_a1 : Fld Z h0 a1 "com/example/poolwright/poolwright/Copy" "refusal" "Lcom/example/poolwright/poolwright/Copy$Refusal;" .null) (E_a1 : Exa Z h0 a1 "com/example/poolwright/poolwright/Copy") (g_a1 : n0 ≤ a1) :
    MetFree l (⟨"com/example/poolwright/poolwright/Copy", "<init>", "(Ljava/lang/String;Ljava/lang/String;Lcom/example/poolwright/poolwright/Copy$Refusal;)V"⟩ : MethodName) (head1 (Jvm.Cond.code (⟨"com/example/poolwright/poolwright/Copy", "<init>", "(Ljava/lang/String;Ljava/lang/String;Lcom/example/poolwright/poolwright/Copy$Refusal;)V"⟩ : MethodName) prog_11_method_1_code 4 none :: ws) ({ frames := 2, cells := 0, slots := 0, locals := 24 } : Room)) (fun a U => a = #[(.ref a1), .null, (.ref a3), .null] ∧ Z.Warmed39 U.vm ∧ U.heap = h0) (fun _ _ _ _ _ => True) (fun _ U o U' => ∃ v L, o = .returned v ∧ Q_rm_cinrn Z a1 a3 h0 n0 v U'.heap L ∧ FrameEnd U o U' L ({ frames := 2, cells := 0, slots := 0, locals := 24 } : Room).cells ({ frames := 2, cells := 0, slots := 0, locals := 24 } : Room).slots) := by
  refine MetFree.of_bodySF (plainFor_of_name pn_9) hisR ?_
  intro p e s m args below meth c s₁ Bd hml0 hP hK
  obtain ⟨rfl, hZ, hh⟩ := hP
  have hx := Bd.exec
  have hby := Bd.bytes
  have hml : c.maxLocals = 4 := hml0
  have hown : s.vm.findClass "com/example/poolwright/poolwright/Copy" = some m.cls := findClass_of_methodNamed Bd.named
  have hnm := (name_of_methodNamed Bd.named Bd.method).1
  have X0 : Stand p l e ({ frames := 2, cells := 0, slots := 0, locals := 24 } : Room) s m #[(.ref a1), .null, (.ref a3), .null] below meth c s₁ [] 0 0 := Stand.of_body Bd
  have e0 : s₁.heap = h0 := by rw [← hh, Bd.state]; rfl
  have N0 := Fr.nil n0
  have pre0 : ∀ t, Steps p.tables e below (s₁.setTop (mkF m 0 #[.val (.ref a1), .val .null, .val (.ref a3), .val .null] [])) t → Steps p.tables e below (s₁.setTop (entryFrame m #[(.ref a1), .null, (.ref a3), .null] 4)) t := fun t kt => castTop (ef_rm_cinrn m a1 a3) kt
  obtain ⟨_, _, ⟨T1, L1, k1, n1⟩, -, X1, ⟨Lc1, hQ1, l1, y1, z1⟩, st1⟩ := X0.specialBack hx (y := (⟨"java/lang/Record", "<init>", "()V"⟩ : MethodName)) rfl hown (mvT hZ (hw _ (List.mem_of_getElem? (i := 46) rfl))) (mvT hZ (hw _ (List.mem_of_getElem? (i := 47) rfl))) (mvT hZ (hw _ (List.mem_of_getElem? (i := 50) rfl))) (by decide) (backOf (W := 0) (rm_rec l Z a0 hw [] a1 h0 n0 Z0 ) hZ (hw _ (List.mem_of_getElem? (i := 50) rfl)) (hw _ (List.mem_of_getElem? (i := 49) rfl)) (by decide) (by decide)) (g := (mkF m 1 #[.val (.ref a1), .val .null, .val (.ref a3), .val .null] [(.ref a1)])) rfl (by rw [hml]; rfl) (Steps.refl _) (a := a1) (argsL := []) (rest := []) (lenOf pd___V_167 rfl) rfl (by show 2 * 0 + _ ≤ _; exact Nat.le_of_eq rfl) (hb hby d9_1) (fun _ _ => ⟨rfl, e0, (by decide : 0 + 0 ≤ _), (by decide : 0 + 0 ≤ _)⟩)
  dsimp only [Pt.U, Pt.locs, Pt.cells, Pt.slots] at X1 l1 y1 z1 st1 hQ1
  subst l1 y1 z1
  obtain ⟨rfl, N1q, e1⟩ := hQ1
  have N1 := Fr.app N0 N1q
  obtain ⟨T2, h2, X2, e2, W2, st2⟩ := putF X1 hx hZ hown (host := "") (Or.inl (hw _ (List.mem_of_getElem? (i := 52) rfl))) Via.refl e1 F_source_a1 E_a1 (Or.inr ⟨(hw _ (List.mem_of_getElem? (i := 53) rfl)), rfl, hnm⟩) (hw _ (List.mem_of_getElem? (i := 41) rfl)) (ty := (.object "java/lang/String")) (by decide) rfl rfl (g := (mkF m 6 #[.val (.ref a1), .val .null, .val (.ref a3), .val .null] [.null, (.ref a1)])) rfl rfl (hb hby d9_6)
  have f1 : Exa Z h2 a1 "com/example/poolwright/poolwright/Copy" := E_a1.wr W2
  have f2 : Fld Z h2 a1 "com/example/poolwright/poolwright/Copy" "source" "Ljava/lang/String;" .null := F_source_a1.same W2
  have f3 : Fld Z h2 a1 "com/example/poolwright/poolwright/Copy" "destination" "Ljava/lang/String;" .null := F_destination_a1.other W2 (Or.inr (slot_ne (Or.inr (hw _ (List.mem_of_getElem? (i := 55) rfl))) (Or.inr (hw _ (List.mem_of_getElem? (i := 53) rfl))) (by decide) (t := (.object "java/lang/String")) (t' := (.object "java/lang/String")) (by decide) (by decide)))
  have f4 : Fld Z h2 a1 "com/example/poolwright/poolwright/Copy" "refusal" "Lcom/example/poolwright/poolwright/Copy$Refusal;" .null := F_refusal_a1.other W2 (Or.inr (slot_ne (Or.inr (hw _ (List.mem_of_getElem? (i := 57) rfl))) (Or.inr (hw _ (List.mem_of_getElem? (i := 53) rfl))) (by decide) (t := (.object "com/example/poolwright/poolwright/Copy$Refusal")) (t' := (.object "java/lang/String")) (by decide) (by decide)))
  have f5 : n0 ≤ a1 := g_a1
  have f6 : Keep h0 h2 [a1] := (Keep.refl h0 [a1]).wr W2 (Or.inl (by simp))
  have N2 := Fr.snoc X2 N1 f5
  have Z2 : n0 ≤ h2.size := by rw [W2.size]; exact Z0
  obtain ⟨T3, h3, X3, e3, W3, st3⟩ := putF X2 hx hZ hown (host := "") (Or.inl (hw _ (List.mem_of_getElem? (i := 54) rfl))) Via.refl e2 f3 f1 (Or.inr ⟨(hw _ (List.mem_of_getElem? (i := 55) rfl)), rfl, hnm⟩) (hw _ (List.mem_of_getElem? (i := 41) rfl)) (ty := (.object "java/lang/String")) (by decide) rfl rfl (g := (mkF m 11 #[.val (.ref a1), .val .null, .val (.ref a3), .val .null] [(.ref a3), (.ref a1)])) rfl rfl (hb hby d9_11)
  have f7 : Exa Z h3 a1 "com/example/poolwright/poolwright/Copy" := f1.wr W3
  have f8 : Fld Z h3 a1 "com/example/poolwright/poolwright/Copy" "source" "Ljava/lang/String;" .null := f2.other W3 (Or.inr (slot_ne (Or.inr (hw _ (List.mem_of_getElem? (i := 53) rfl))) (Or.inr (hw _ (List.mem_of_getElem? (i := 55) rfl))) (by decide) (t := (.object "java/lang/String")) (t' := (.object "java/lang/String")) (by decide) (by decide)))
  have f9 : Fld Z h3 a1 "com/example/poolwright/poolwright/Copy" "destination" "Ljava/lang/String;" (.ref a3) := f3.same W3
  have f10 : Fld Z h3 a1 "com/example/poolwright/poolwright/Copy" "refusal" "Lcom/example/poolwright/poolwright/Copy$Refusal;" .null := f4.other W3 (Or.inr (slot_ne (Or.inr (hw _ (List.mem_of_getElem? (i := 57) rfl))) (Or.inr (hw _ (List.mem_of_getElem? (i := 55) rfl))) (by decide) (t := (.object "com/example/poolwright/poolwright/Copy$Refusal")) (t' := (.object "java/lang/String")) (by decide) (by decide)))
  have f11 : n0 ≤ a1 := f5
  have f12 : Keep h0 h3 [a1] := f6.wr W3 (Or.inl (by simp))
  have N3 := Fr.snoc X3 N2 f11
  have Z3 : n0 ≤ h3.size := by rw [W3.size]; exact Z2
  obtain ⟨T4, h4, X4, e4, W4, st4⟩ := putF X3 hx hZ hown (host := "") (Or.inl (hw _ (List.mem_of_getElem? (i := 56) rfl))) Via.refl e3 f10 f7 (Or.inr ⟨(hw _ (List.mem_of_getElem? (i := 57) rfl)), rfl, hnm⟩) (hw _ (List.mem_of_getElem? (i := 41) rfl)) (ty := (.object "com/example/poolwright/poolwright/Copy$Refusal")) (by decide) rfl rfl (g := (mkF m 16 #[.val (.ref a1), .val .null, .val (.ref a3), .val .null] [.null, (.ref a1)])) rfl rfl (hb hby d9_16)
  have f13 : Exa Z h4 a1 "com/example/poolwright/poolwright/Copy" := f7.wr W4
  have f14 : Fld Z h4 a1 "com/example/poolwright/poolwright/Copy" "source" "Ljava/lang/String;" .null := f8.other W4 (Or.inr (slot_ne (Or.inr (hw _ (List.mem_of_getElem? (i := 53) rfl))) (Or.inr (hw _ (List.mem_of_getElem? (i := 57) rfl))) (by decide) (t := (.object "java/lang/String")) (t' := (.object "com/example/poolwright/poolwright/Copy$Refusal")) (by decide) (by decide)))
  have f15 : Fld Z h4 a1 "com/example/poolwright/poolwright/Copy" "destination" "Ljava/lang/String;" (.ref a3) := f9.other W4 (Or.inr (slot_ne (Or.inr (hw _ (List.mem_of_getElem? (i := 55) rfl))) (Or.inr (hw _ (List.mem_of_getElem? (i := 57) rfl))) (by decide) (t := (.object "java/lang/String")) (t' := (.object "com/example/poolwright/poolwright/Copy$Refusal")) (by decide) (by decide)))
  have f16 : Fld Z h4 a1 "com/example/poolwright/poolwright/Copy" "refusal" "Lcom/example/poolwright/poolwright/Copy$Refusal;" .null := f10.same W4
  have f17 : n0 ≤ a1 := f11
  have f18 : Keep h0 h4 [a1] := f12.wr W4 (Or.inl (by simp))
  have N4 := Fr.snoc X4 N3 f17
  have Z4 : n0 ≤ h4.size := by rw [W4.size]; exact Z3
  obtain ⟨fs, hr, hrun, hended, hW, hsame⟩ := X4.leave (v := none) (fun _ => rfl) (hlocks := Bd.notSynchronized)
  refine ⟨_, _, pre0 _ ?_, hrun, hended, _, _, rfl, ?_, ⟨_, rfl⟩, hW, hsame.mono (by decide) (by decide)⟩
  · show Steps p.tables e below (s₁.setTop (mkF m 0 #[.val (.ref a1), .val .null, .val (.ref a3), .val .null] [])) _
    refine XS.aloadN X0.here hx rfl (hb hby d9_0) rfl rfl ?_
    show Steps p.tables e below (s₁.setTop (mkF m 1 #[.val (.ref a1), .val .null, .val (.ref a3), .val .null] [(.ref a1)])) _
    refine st1.trans ?_
    show Steps p.tables e below (T1.setTop (mkF m 4 #[.val (.ref a1), .val .null, .val (.ref a3), .val .null] [])) _
    refine XS.aloadN X1.here hx rfl (hb hby d9_4) rfl rfl ?_
    show Steps p.tables e below (T1.setTop (mkF m 5 #[.val (.ref a1), .val .null, .val (.ref a3), .val .null] [(.ref a1)])) _
    refine XS.aloadN X1.here hx rfl (hb hby d9_5) rfl rfl ?_
    show Steps p.tables e below (T1.setTop (mkF m 6 #[.val (.ref a1), .val .null, .val (.ref a3), .val .null] [.null, (.ref a1)])) _
    refine st2 _ ?_
    show Steps p.tables e below (T2.setTop (mkF m 9 #[.val (.ref a1), .val .null, .val (.ref a3), .val .null] [])) _
    refine XS.aloadN X2.here hx rfl (hb hby d9_9) rfl rfl ?_
    show Steps p.tables e below (T2.setTop (mkF m 10 #[.val (.ref a1), .val .null, .val (.ref a3), .val .null] [(.ref a1)])) _
    refine XS.aloadN X2.here hx rfl (hb hby d9_10) rfl rfl ?_
    show Steps p.tables e below (T2.setTop (mkF m 11 #[.val (.ref a1), .val .null, .val (.ref a3), .val .null] [(.ref a3), (.ref a1)])) _
    refine st3 _ ?_
    show Steps p.tables e below (T3.setTop (mkF m 14 #[.val (.ref a1), .val .null, .val (.ref a3), .val .null] [])) _
    refine XS.aloadN X3.here hx rfl (hb hby d9_14) rfl rfl ?_
    show Steps p.tables e below (T3.setTop (mkF m 15 #[.val (.ref a1), .val .null, .val (.ref a3), .val .null] [(.ref a1)])) _
    refine XS.aloadN X3.here hx rfl (hb hby d9_15) rfl rfl ?_
    show Steps p.tables e below (T3.setTop (mkF m 16 #[.val (.ref a1), .val .null, .val (.ref a3), .val .null] [.null, (.ref a1)])) _
    refine st4 _ ?_
    show Steps p.tables e below (T4.setTop (mkF m 19 #[.val (.ref a1), .val .null, .val (.ref a3), .val .null] [])) _
    exact X4.returnOut hx Bd.returns (hb hby d9_19) hr
  · show Q_rm_cinrn Z a1 a3 h0 n0 _ T4.heap _
    rw [e4]
    exact ⟨rfl, N4, f18, f13, f15⟩
theorem ef_rm_cinrr (m : MethodId) (x0 : Addr) (x2 : Addr) (x3 : Addr) : entryFrame m #[(.ref x0), .null, (.ref x2), (.ref x3)] 4 = mkF m 0 #[.val (.ref x0), .val .null, .val (.ref x2), .val (.ref x3)] [] := by first | (simp [entryFrame, mkF, argsToLocals, Value.category]; done) | rfl
def Q_rm_cinrr (Z : State) (a1 : Addr) (a3 : Addr) (a4 : Addr) (h0 : Heap) (n0 : Nat) (v : Option Value) (h : Heap) (L : List Loc) : Prop := v = none ∧ Fr n0 L ∧ Keep h0 h [a1] ∧ Exa Z h a1 "com/example/poolwright/poolwright/Copy" ∧ Fld Z h a1 "com/example/poolwright/poolwright/Copy" "destination" "Ljava/lang/String;" (.ref a3)
set_option maxRecDepth 65536 in
set_option maxHeartbeats 40000000 in
theorem rm_cinrr (l : Launch) (Z : State) (a0 : Array Value) (hw : ∀ d ∈ tables_1, d.before a0 Z = true) (ws : List Jvm.Cond) (a1 : Addr) (a3 : Addr) (a4 : Addr) (h0 : Heap) (n0 : Nat) (Z0 : n0 ≤ h0.size) (F_source_a1 : Fld Z h0 a1 "com/example/poolwright/poolwright/Copy" "source" "Ljava/lang/String;" .null) (F_destination_a1 : Fld Z h0 a1 "com/example/poolwright/poolwright/Copy" "destination" "Ljava/lang/String;" .null) (F_refusal_a1 : Fld Z h0 a1 "com/example/poolwright/poolwright/Copy" "refusal" "Lcom/example/poolwright/poolwright/Copy$Refusal;" .null) (E_a1 : Exa Z h0 a1 "com/example/poolwright/poolwright/Copy") (g_a1 : n0 ≤ a1) :
    MetFree l (⟨"com/example/poolwright/poolwright/Copy", "<init>", "(Ljava/lang/String;Ljava/lang/String;Lcom/example/poolwright/poolwright/Copy$Refusal;)V"⟩ : MethodName) (head1 (Jvm.Cond.code (⟨"com/example/poolwright/poolwright/Copy", "<init>", "(Ljava/lang/String;Ljava/lang/String;Lcom/example/poolwright/poolwright/Copy$Refusal;)V"⟩ : MethodName) prog_11_method_1_code 4 none :: ws) ({ frames := 2, cells := 0, slots := 0, locals := 24 } : Room)) (fun a U => a = #[(.ref a1), .null, (.ref a3), (.ref a4)] ∧ Z.Warmed39 U.vm ∧ U.heap = h0) (fun _ _ _ _ _ => True) (fun _ U o U' => ∃ v L, o = .returned v ∧ Q_rm_cinrr Z a1 a3 a4 h0 n0 v U'.heap L ∧ FrameEnd U o U' L ({ frames := 2, cells := 0, slots := 0, locals := 24 } : Room).cells ({ frames := 2, cells := 0, slots := 0, locals := 24 } : Room).slots) := by
  refine MetFree.of_bodySF (plainFor_of_name pn_9) hisR ?_
  intro p e s m args below meth c s₁ Bd hml0 hP hK
  obtain ⟨rfl, hZ, hh⟩ := hP
  have hx := Bd.exec
  have hby := Bd.bytes
  have hml : c.maxLocals = 4 := hml0
  have hown : s.vm.findClass "com/example/poolwright/poolwright/Copy" = some m.cls := findClass_of_methodNamed Bd.named
  have hnm := (name_of_methodNamed Bd.named Bd.method).1
  have X0 : Stand p l e ({ frames := 2, cells := 0, slots := 0, locals := 24 } : Room) s m #[(.ref a1), .null, (.ref a3), (.ref a4)] below meth c s₁ [] 0 0 := Stand.of_body Bd
  have e0 : s₁.heap = h0 := by rw [← hh, Bd.state]; rfl
  have N0 := Fr.nil n0
  have pre0 : ∀ t, Steps p.tables e below (s₁.setTop (mkF m 0 #[.val (.ref a1), .val .null, .val (.ref a3), .val (.ref a4)] [])) t → Steps p.tables e below (s₁.setTop (entryFrame m #[(.ref a1), .null, (.ref a3), (.ref a4)] 4)) t := fun t kt => castTop (ef_rm_cinrr m a1 a3 a4) kt
  obtain ⟨_, _, ⟨T1, L1, k1, n1⟩, -, X1, ⟨Lc1, hQ1, l1, y1, z1⟩, st1⟩ := X0.specialBack hx (y := (⟨"java/lang/Record", "<init>", "()V"⟩ : MethodName)) rfl hown (mvT hZ (hw _ (List.mem_of_getElem? (i := 46) rfl))) (mvT hZ (hw _ (List.mem_of_getElem? (i := 47) rfl))) (mvT hZ (hw _ (List.mem_of_getElem? (i := 50) rfl))) (by decide) (backOf (W := 0) (rm_rec l Z a0 hw [] a1 h0 n0 Z0 ) hZ (hw _ (List.mem_of_getElem? (i := 50) rfl)) (hw _ (List.mem_of_getElem? (i := 49) rfl)) (by decide) (by decide)) (g := (mkF m 1 #[.val (.ref a1), .val .null, .val (.ref a3), .val (.ref a4)] [(.ref a1)])) rfl (by rw [hml]; rfl) (Steps.refl _) (a := a1) (argsL := []) (rest := []) (lenOf pd___V_167 rfl) rfl (by show 2 * 0 + _ ≤ _; exact Nat.le_of_eq rfl) (hb hby d9_1) (fun _ _ => ⟨rfl, e0, (by decide : 0 + 0 ≤ _), (by decide : 0 + 0 ≤ _)⟩)
  dsimp only [Pt.U, Pt.locs, Pt.cells, Pt.slots] at X1 l1 y1 z1 st1 hQ1
  subst l1 y1 z1
  obtain ⟨rfl, N1q, e1⟩ := hQ1
  have N1 := Fr.app N0 N1q
  obtain ⟨T2, h2, X2, e2, W2, st2⟩ := putF X1 hx hZ hown (host := "") (Or.inl (hw _ (List.mem_of_getElem? (i := 52) rfl))) Via.refl e1 F_source_a1 E_a1 (Or.inr ⟨(hw _ (List.mem_of_getElem? (i := 53) rfl)), rfl, hnm⟩) (hw _ (List.mem_of_getElem? (i := 41) rfl)) (ty := (.object "java/lang/String")) (by decide) rfl rfl (g := (mkF m 6 #[.val (.ref a1), .val .null, .val (.ref a3), .val (.ref a4)] [.null, (.ref a1)])) rfl rfl (hb hby d9_6)
  have f1 : Exa Z h2 a1 "com/example/poolwright/poolwright/Copy" := E_a1.wr W2
  have f2 : Fld Z h2 a1 "com/example/poolwright/poolwright/Copy" "source" "Ljava/lang/String;" .null := F_source_a1.same W2
  have f3 : Fld Z h2 a1 "com/example/poolwright/poolwright/Copy" "destination" "Ljava/lang/String;" .null := F_destination_a1.other W2 (Or.inr (slot_ne (Or.inr (hw _ (List.mem_of_getElem? (i := 55) rfl))) (Or.inr (hw _ (List.mem_of_getElem? (i := 53) rfl))) (by decide) (t := (.object "java/lang/String")) (t' := (.object "java/lang/String")) (by decide) (by decide)))
  have f4 : Fld Z h2 a1 "com/example/poolwright/poolwright/Copy" "refusal" "Lcom/example/poolwright/poolwright/Copy$Refusal;" .null := F_refusal_a1.other W2 (Or.inr (slot_ne (Or.inr (hw _ (List.mem_of_getElem? (i := 57) rfl))) (Or.inr (hw _ (List.mem_of_getElem? (i := 53) rfl))) (by decide) (t := (.object "com/example/poolwright/poolwright/Copy$Refusal")) (t' := (.object "java/lang/String")) (by decide) (by decide)))
  have f5 : n0 ≤ a1 := g_a1
  have f6 : Keep h0 h2 [a1] := (Keep.refl h0 [a1]).wr W2 (Or.inl (by simp))
  have N2 := Fr.snoc X2 N1 f5
  have Z2 : n0 ≤ h2.size := by rw [W2.size]; exact Z0
  obtain ⟨T3, h3, X3, e3, W3, st3⟩ := putF X2 hx hZ hown (host := "") (Or.inl (hw _ (List.mem_of_getElem? (i := 54) rfl))) Via.refl e2 f3 f1 (Or.inr ⟨(hw _ (List.mem_of_getElem? (i := 55) rfl)), rfl, hnm⟩) (hw _ (List.mem_of_getElem? (i := 41) rfl)) (ty := (.object "java/lang/String")) (by decide) rfl rfl (g := (mkF m 11 #[.val (.ref a1), .val .null, .val (.ref a3), .val (.ref a4)] [(.ref a3), (.ref a1)])) rfl rfl (hb hby d9_11)
  have f7 : Exa Z h3 a1 "com/example/poolwright/poolwright/Copy" := f1.wr W3
  have f8 : Fld Z h3 a1 "com/example/poolwright/poolwright/Copy" "source" "Ljava/lang/String;" .null := f2.other W3 (Or.inr (slot_ne (Or.inr (hw _ (List.mem_of_getElem? (i := 53) rfl))) (Or.inr (hw _ (List.mem_of_getElem? (i := 55) rfl))) (by decide) (t := (.object "java/lang/String")) (t' := (.object "java/lang/String")) (by decide) (by decide)))
  have f9 : Fld Z h3 a1 "com/example/poolwright/poolwright/Copy" "destination" "Ljava/lang/String;" (.ref a3) := f3.same W3
  have f10 : Fld Z h3 a1 "com/example/poolwright/poolwright/Copy" "refusal" "Lcom/example/poolwright/poolwright/Copy$Refusal;" .null := f4.other W3 (Or.inr (slot_ne (Or.inr (hw _ (List.mem_of_getElem? (i := 57) rfl))) (Or.inr (hw _ (List.mem_of_getElem? (i := 55) rfl))) (by decide) (t := (.object "com/example/poolwright/poolwright/Copy$Refusal")) (t' := (.object "java/lang/String")) (by decide) (by decide)))
  have f11 : n0 ≤ a1 := f5
  have f12 : Keep h0 h3 [a1] := f6.wr W3 (Or.inl (by simp))
  have N3 := Fr.snoc X3 N2 f11
  have Z3 : n0 ≤ h3.size := by rw [W3.size]; exact Z2
  obtain ⟨T4, h4, X4, e4, W4, st4⟩ := putF X3 hx hZ hown (host := "") (Or.inl (hw _ (List.mem_of_getElem? (i := 56) rfl))) Via.refl e3 f10 f7 (Or.inr ⟨(hw _ (List.mem_of_getElem? (i := 57) rfl)), rfl, hnm⟩) (hw _ (List.mem_of_getElem? (i := 41) rfl)) (ty := (.object "com/example/poolwright/poolwright/Copy$Refusal")) (by decide) rfl rfl (g := (mkF m 16 #[.val (.ref a1), .val .null, .val (.ref a3), .val (.ref a4)] [(.ref a4), (.ref a1)])) rfl rfl (hb hby d9_16)
  have f13 : Exa Z h4 a1 "com/example/poolwright/poolwright/Copy" := f7.wr W4
  have f14 : Fld Z h4 a1 "com/example/poolwright/poolwright/Copy" "source" "Ljava/lang/String;" .null := f8.other W4 (Or.inr (slot_ne (Or.inr (hw _ (List.mem_of_getElem? (i := 53) rfl))) (Or.inr (hw _ (List.mem_of_getElem? (i := 57) rfl))) (by decide) (t := (.object "java/lang/String")) (t' := (.object "com/example/poolwright/poolwright/Copy$Refusal")) (by decide) (by decide)))
  have f15 : Fld Z h4 a1 "com/example/poolwright/poolwright/Copy" "destination" "Ljava/lang/String;" (.ref a3) := f9.other W4 (Or.inr (slot_ne (Or.inr (hw _ (List.mem_of_getElem? (i := 55) rfl))) (Or.inr (hw _ (List.mem_of_getElem? (i := 57) rfl))) (by decide) (t := (.object "java/lang/String")) (t' := (.object "com/example/poolwright/poolwright/Copy$Refusal")) (by decide) (by decide)))
  have f16 : Fld Z h4 a1 "com/example/poolwright/poolwright/Copy" "refusal" "Lcom/example/poolwright/poolwright/Copy$Refusal;" (.ref a4) := f10.same W4
  have f17 : n0 ≤ a1 := f11
  have f18 : Keep h0 h4 [a1] := f12.wr W4 (Or.inl (by simp))
  have N4 := Fr.snoc X4 N3 f17
  have Z4 : n0 ≤ h4.size := by rw [W4.size]; exact Z3
  obtain ⟨fs, hr, hrun, hended, hW, hsame⟩ := X4.leave (v := none) (fun _ => rfl) (hlocks := Bd.notSynchronized)
  refine ⟨_, _, pre0 _ ?_, hrun, hended, _, _, rfl, ?_, ⟨_, rfl⟩, hW, hsame.mono (by decide) (by decide)⟩
  · show Steps p.tables e below (s₁.setTop (mkF m 0 #[.val (.ref a1), .val .null, .val (.ref a3), .val (.ref a4)] [])) _
    refine XS.aloadN X0.here hx rfl (hb hby d9_0) rfl rfl ?_
    show Steps p.tables e below (s₁.setTop (mkF m 1 #[.val (.ref a1), .val .null, .val (.ref a3), .val (.ref a4)] [(.ref a1)])) _
    refine st1.trans ?_
    show Steps p.tables e below (T1.setTop (mkF m 4 #[.val (.ref a1), .val .null, .val (.ref a3), .val (.ref a4)] [])) _
    refine XS.aloadN X1.here hx rfl (hb hby d9_4) rfl rfl ?_
    show Steps p.tables e below (T1.setTop (mkF m 5 #[.val (.ref a1), .val .null, .val (.ref a3), .val (.ref a4)] [(.ref a1)])) _
    refine XS.aloadN X1.here hx rfl (hb hby d9_5) rfl rfl ?_
    show Steps p.tables e below (T1.setTop (mkF m 6 #[.val (.ref a1), .val .null, .val (.ref a3), .val (.ref a4)] [.null, (.ref a1)])) _
    refine st2 _ ?_
    show Steps p.tables e below (T2.setTop (mkF m 9 #[.val (.ref a1), .val .null, .val (.ref a3), .val (.ref a4)] [])) _
    refine XS.aloadN X2.here hx rfl (hb hby d9_9) rfl rfl ?_
    show Steps p.tables e below (T2.setTop (mkF m 10 #[.val (.ref a1), .val .null, .val (.ref a3), .val (.ref a4)] [(.ref a1)])) _
    refine XS.aloadN X2.here hx rfl (hb hby d9_10) rfl rfl ?_
    show Steps p.tables e below (T2.setTop (mkF m 11 #[.val (.ref a1), .val .null, .val (.ref a3), .val (.ref a4)] [(.ref a3), (.ref a1)])) _
    refine st3 _ ?_
    show Steps p.tables e below (T3.setTop (mkF m 14 #[.val (.ref a1), .val .null, .val (.ref a3), .val (.ref a4)] [])) _
    refine XS.aloadN X3.here hx rfl (hb hby d9_14) rfl rfl ?_
    show Steps p.tables e below (T3.setTop (mkF m 15 #[.val (.ref a1), .val .null, .val (.ref a3), .val (.ref a4)] [(.ref a1)])) _
    refine XS.aloadN X3.here hx rfl (hb hby d9_15) rfl rfl ?_
    show Steps p.tables e below (T3.setTop (mkF m 16 #[.val (.ref a1), .val .null, .val (.ref a3), .val (.ref a4)] [(.ref a4), (.ref a1)])) _
    refine st4 _ ?_
    show Steps p.tables e below (T4.setTop (mkF m 19 #[.val (.ref a1), .val .null, .val (.ref a3), .val (.ref a4)] [])) _
    exact X4.returnOut hx Bd.returns (hb hby d9_19) hr
  · show Q_rm_cinrr Z a1 a3 a4 h0 n0 _ T4.heap _
    rw [e4]
    exact ⟨rfl, N4, f18, f13, f15⟩
theorem ef_rm_cirnn (m : MethodId) (x0 : Addr) (x1 : Addr) : entryFrame m #[(.ref x0), (.ref x1), .null, .null] 4 = mkF m 0 #[.val (.ref x0), .val (.ref x1), .val .null, .val .null] [] := by first | (simp [entryFrame, mkF, argsToLocals, Value.category]; done) | rfl
def Q_rm_cirnn (Z : State) (a1 : Addr) (a2 : Addr) (h0 : Heap) (n0 : Nat) (v : Option Value) (h : Heap) (L : List Loc) : Prop := v = none ∧ Fr n0 L ∧ Keep h0 h [a1] ∧ Exa Z h a1 "com/example/poolwright/poolwright/Copy" ∧ Fld Z h a1 "com/example/poolwright/poolwright/Copy" "destination" "Ljava/lang/String;" .null
set_option maxRecDepth 65536 in
set_option maxHeartbeats 40000000 in
theorem rm_cirnn (l : Launch) (Z : State) (a0 : Array Value) (hw : ∀ d ∈ tables_1, d.before a0 Z = true) (ws : List Jvm.Cond) (a1 : Addr) (a2 : Addr) (h0 : Heap) (n0 : Nat) (Z0 : n0 ≤ h0.size) (F_source_a1 : Fld Z h0 a1 "com/example/poolwright/poolwright/Copy" "source" "Ljava/lang/String;" .null) (F_destination_a1 : Fld Z h0 a1 "com/example/poolwright/poolwright/Copy" "destination" "Ljava/lang/String;" .null) (F_refusal_a1 : Fld Z h0 a1 "com/example/poolwright/poolwright/Copy" "refusal" "Lcom/example/poolwright/poolwright/Copy$Refusal;" .null) (E_a1 : Exa Z h0 a1 "com/example/poolwright/poolwright/Copy") (g_a1 : n0 ≤ a1) :
    MetFree l (⟨"com/example/poolwright/poolwright/Copy", "<init>", "(Ljava/lang/String;Ljava/lang/String;Lcom/example/poolwright/poolwright/Copy$Refusal;)V"⟩ : MethodName) (head1 (Jvm.Cond.code (⟨"com/example/poolwright/poolwright/Copy", "<init>", "(Ljava/lang/String;Ljava/lang/String;Lcom/example/poolwright/poolwright/Copy$Refusal;)V"⟩ : MethodName) prog_11_method_1_code 4 none :: ws) ({ frames := 2, cells := 0, slots := 0, locals := 24 } : Room)) (fun a U => a = #[(.ref a1), (.ref a2), .null, .null] ∧ Z.Warmed39 U.vm ∧ U.heap = h0) (fun _ _ _ _ _ => True) (fun _ U o U' => ∃ v L, o = .returned v ∧ Q_rm_cirnn Z a1 a2 h0 n0 v U'.heap L ∧ FrameEnd U o U' L ({ frames := 2, cells := 0, slots := 0, locals := 24 } : Room).cells ({ frames := 2, cells := 0, slots := 0, locals := 24 } : Room).slots) := by
  refine MetFree.of_bodySF (plainFor_of_name pn_9) hisR ?_
  intro p e s m args below meth c s₁ Bd hml0 hP hK
  obtain ⟨rfl, hZ, hh⟩ := hP
  have hx := Bd.exec
  have hby := Bd.bytes
  have hml : c.maxLocals = 4 := hml0
  have hown : s.vm.findClass "com/example/poolwright/poolwright/Copy" = some m.cls := findClass_of_methodNamed Bd.named
  have hnm := (name_of_methodNamed Bd.named Bd.method).1
  have X0 : Stand p l e ({ frames := 2, cells := 0, slots := 0, locals := 24 } : Room) s m #[(.ref a1), (.ref a2), .null, .null] below meth c s₁ [] 0 0 := Stand.of_body Bd
  have e0 : s₁.heap = h0 := by rw [← hh, Bd.state]; rfl
  have N0 := Fr.nil n0
  have pre0 : ∀ t, Steps p.tables e below (s₁.setTop (mkF m 0 #[.val (.ref a1), .val (.ref a2), .val .null, .val .null] [])) t → Steps p.tables e below (s₁.setTop (entryFrame m #[(.ref a1), (.ref a2), .null, .null] 4)) t := fun t kt => castTop (ef_rm_cirnn m a1 a2) kt
  obtain ⟨_, _, ⟨T1, L1, k1, n1⟩, -, X1, ⟨Lc1, hQ1, l1, y1, z1⟩, st1⟩ := X0.specialBack hx (y := (⟨"java/lang/Record", "<init>", "()V"⟩ : MethodName)) rfl hown (mvT hZ (hw _ (List.mem_of_getElem? (i := 46) rfl))) (mvT hZ (hw _ (List.mem_of_getElem? (i := 47) rfl))) (mvT hZ (hw _ (List.mem_of_getElem? (i := 50) rfl))) (by decide) (backOf (W := 0) (rm_rec l Z a0 hw [] a1 h0 n0 Z0 ) hZ (hw _ (List.mem_of_getElem? (i := 50) rfl)) (hw _ (List.mem_of_getElem? (i := 49) rfl)) (by decide) (by decide)) (g := (mkF m 1 #[.val (.ref a1), .val (.ref a2), .val .null, .val .null] [(.ref a1)])) rfl (by rw [hml]; rfl) (Steps.refl _) (a := a1) (argsL := []) (rest := []) (lenOf pd___V_167 rfl) rfl (by show 2 * 0 + _ ≤ _; exact Nat.le_of_eq rfl) (hb hby d9_1) (fun _ _ => ⟨rfl, e0, (by decide : 0 + 0 ≤ _), (by decide : 0 + 0 ≤ _)⟩)
  dsimp only [Pt.U, Pt.locs, Pt.cells, Pt.slots] at X1 l1 y1 z1 st1 hQ1
  subst l1 y1 z1
  obtain ⟨rfl, N1q, e1⟩ := hQ1
  have N1 := Fr.app N0 N1q
  obtain ⟨T2, h2, X2, e2, W2, st2⟩ := putF X1 hx hZ hown (host := "") (Or.inl (hw _ (List.mem_of_getElem? (i := 52) rfl))) Via.refl e1 F_source_a1 E_a1 (Or.inr ⟨(hw _ (List.mem_of_getElem? (i := 53) rfl)), rfl, hnm⟩) (hw _ (List.mem_of_getElem? (i := 41) rfl)) (ty := (.object "java/lang/String")) (by decide) rfl rfl (g := (mkF m 6 #[.val (.ref a1), .val (.ref a2), .val .null, .val .null] [(.ref a2), (.ref a1)])) rfl rfl (hb hby d9_6)
  have f1 : Exa Z h2 a1 "com/example/poolwright/poolwright/Copy" := E_a1.wr W2
  have f2 : Fld Z h2 a1 "com/example/poolwright/poolwright/Copy" "source" "Ljava/lang/String;" (.ref a2) := F_source_a1.same W2
  have f3 : Fld Z h2 a1 "com/example/poolwright/poolwright/Copy" "destination" "Ljava/lang/String;" .null := F_destination_a1.other W2 (Or.inr (slot_ne (Or.inr (hw _ (List.mem_of_getElem? (i := 55) rfl))) (Or.inr (hw _ (List.mem_of_getElem? (i := 53) rfl))) (by decide) (t := (.object "java/lang/String")) (t' := (.object "java/lang/String")) (by decide) (by decide)))
  have f4 : Fld Z h2 a1 "com/example/poolwright/poolwright/Copy" "refusal" "Lcom/example/poolwright/poolwright/Copy$Refusal;" .null := F_refusal_a1.other W2 (Or.inr (slot_ne (Or.inr (hw _ (List.mem_of_getElem? (i := 57) rfl))) (Or.inr (hw _ (List.mem_of_getElem? (i := 53) rfl))) (by decide) (t := (.object "com/example/poolwright/poolwright/Copy$Refusal")) (t' := (.object "java/lang/String")) (by decide) (by decide)))
  have f5 : n0 ≤ a1 := g_a1
  have f6 : Keep h0 h2 [a1] := (Keep.refl h0 [a1]).wr W2 (Or.inl (by simp))
  have N2 := Fr.snoc X2 N1 f5
  have Z2 : n0 ≤ h2.size := by rw [W2.size]; exact Z0
  obtain ⟨T3, h3, X3, e3, W3, st3⟩ := putF X2 hx hZ hown (host := "") (Or.inl (hw _ (List.mem_of_getElem? (i := 54) rfl))) Via.refl e2 f3 f1 (Or.inr ⟨(hw _ (List.mem_of_getElem? (i := 55) rfl)), rfl, hnm⟩) (hw _ (List.mem_of_getElem? (i := 41) rfl)) (ty := (.object "java/lang/String")) (by decide) rfl rfl (g := (mkF m 11 #[.val (.ref a1), .val (.ref a2), .val .null, .val .null] [.null, (.ref a1)])) rfl rfl (hb hby d9_11)
  have f7 : Exa Z h3 a1 "com/example/poolwright/poolwright/Copy" := f1.wr W3
  have f8 : Fld Z h3 a1 "com/example/poolwright/poolwright/Copy" "source" "Ljava/lang/String;" (.ref a2) := f2.other W3 (Or.inr (slot_ne (Or.inr (hw _ (List.mem_of_getElem? (i := 53) rfl))) (Or.inr (hw _ (List.mem_of_getElem? (i := 55) rfl))) (by decide) (t := (.object "java/lang/String")) (t' := (.object "java/lang/String")) (by decide) (by decide)))
  have f9 : Fld Z h3 a1 "com/example/poolwright/poolwright/Copy" "destination" "Ljava/lang/String;" .null := f3.same W3
  have f10 : Fld Z h3 a1 "com/example/poolwright/poolwright/Copy" "refusal" "Lcom/example/poolwright/poolwright/Copy$Refusal;" .null := f4.other W3 (Or.inr (slot_ne (Or.inr (hw _ (List.mem_of_getElem? (i := 57) rfl))) (Or.inr (hw _ (List.mem_of_getElem? (i := 55) rfl))) (by decide) (t := (.object "com/example/poolwright/poolwright/Copy$Refusal")) (t' := (.object "java/lang/String")) (by decide) (by decide)))
  have f11 : n0 ≤ a1 := f5
  have f12 : Keep h0 h3 [a1] := f6.wr W3 (Or.inl (by simp))
  have N3 := Fr.snoc X3 N2 f11
  have Z3 : n0 ≤ h3.size := by rw [W3.size]; exact Z2
  obtain ⟨T4, h4, X4, e4, W4, st4⟩ := putF X3 hx hZ hown (host := "") (Or.inl (hw _ (List.mem_of_getElem? (i := 56) rfl))) Via.refl e3 f10 f7 (Or.inr ⟨(hw _ (List.mem_of_getElem? (i := 57) rfl)), rfl, hnm⟩) (hw _ (List.mem_of_getElem? (i := 41) rfl)) (ty := (.object "com/example/poolwright/poolwright/Copy$Refusal")) (by decide) rfl rfl (g := (mkF m 16 #[.val (.ref a1), .val (.ref a2), .val .null, .val .null] [.null, (.ref a1)])) rfl rfl (hb hby d9_16)
  have f13 : Exa Z h4 a1 "com/example/poolwright/poolwright/Copy" := f7.wr W4
  have f14 : Fld Z h4 a1 "com/example/poolwright/poolwright/Copy" "source" "Ljava/lang/String;" (.ref a2) := f8.other W4 (Or.inr (slot_ne (Or.inr (hw _ (List.mem_of_getElem? (i := 53) rfl))) (Or.inr (hw _ (List.mem_of_getElem? (i := 57) rfl))) (by decide) (t := (.object "java/lang/String")) (t' := (.object "com/example/poolwright/poolwright/Copy$Refusal")) (by decide) (by decide)))
  have f15 : Fld Z h4 a1 "com/example/poolwright/poolwright/Copy" "destination" "Ljava/lang/String;" .null := f9.other W4 (Or.inr (slot_ne (Or.inr (hw _ (List.mem_of_getElem? (i := 55) rfl))) (Or.inr (hw _ (List.mem_of_getElem? (i := 57) rfl))) (by decide) (t := (.object "java/lang/String")) (t' := (.object "com/example/poolwright/poolwright/Copy$Refusal")) (by decide) (by decide)))
  have f16 : Fld Z h4 a1 "com/example/poolwright/poolwright/Copy" "refusal" "Lcom/example/poolwright/poolwright/Copy$Refusal;" .null := f10.same W4
  have f17 : n0 ≤ a1 := f11
  have f18 : Keep h0 h4 [a1] := f12.wr W4 (Or.inl (by simp))
  have N4 := Fr.snoc X4 N3 f17
  have Z4 : n0 ≤ h4.size := by rw [W4.size]; exact Z3
  obtain ⟨fs, hr, hrun, hended, hW, hsame⟩ := X4.leave (v := none) (fun _ => rfl) (hlocks := Bd.notSynchronized)
  refine ⟨_, _, pre0 _ ?_, hrun, hended, _, _, rfl, ?_, ⟨_, rfl⟩, hW, hsame.mono (by decide) (by decide)⟩
  · show Steps p.tables e below (s₁.setTop (mkF m 0 #[.val (.ref a1), .val (.ref a2), .val .null, .val .null] [])) _
    refine XS.aloadN X0.here hx rfl (hb hby d9_0) rfl rfl ?_
    show Steps p.tables e below (s₁.setTop (mkF m 1 #[.val (.ref a1), .val (.ref a2), .val .null, .val .null] [(.ref a1)])) _
    refine st1.trans ?_
    show Steps p.tables e below (T1.setTop (mkF m 4 #[.val (.ref a1), .val (.ref a2), .val .null, .val .null] [])) _
    refine XS.aloadN X1.here hx rfl (hb hby d9_4) rfl rfl ?_
    show Steps p.tables e below (T1.setTop (mkF m 5 #[.val (.ref a1), .val (.ref a2), .val .null, .val .null] [(.ref a1)])) _
    refine XS.aloadN X1.here hx rfl (hb hby d9_5) rfl rfl ?_
    show Steps p.tables e below (T1.setTop (mkF m 6 #[.val (.ref a1), .val (.ref a2), .val .null, .val .null] [(.ref a2), (.ref a1)])) _
    refine st2 _ ?_
    show Steps p.tables e below (T2.setTop (mkF m 9 #[.val (.ref a1), .val (.ref a2), .val .null, .val .null] [])) _
    refine XS.aloadN X2.here hx rfl (hb hby d9_9) rfl rfl ?_
    show Steps p.tables e below (T2.setTop (mkF m 10 #[.val (.ref a1), .val (.ref a2), .val .null, .val .null] [(.ref a1)])) _
    refine XS.aloadN X2.here hx rfl (hb hby d9_10) rfl rfl ?_
    show Steps p.tables e below (T2.setTop (mkF m 11 #[.val (.ref a1), .val (.ref a2), .val .null, .val .null] [.null, (.ref a1)])) _
    refine st3 _ ?_
    show Steps p.tables e below (T3.setTop (mkF m 14 #[.val (.ref a1), .val (.ref a2), .val .null, .val .null] [])) _
    refine XS.aloadN X3.here hx rfl (hb hby d9_14) rfl rfl ?_
    show Steps p.tables e below (T3.setTop (mkF m 15 #[.val (.ref a1), .val (.ref a2), .val .null, .val .null] [(.ref a1)])) _
    refine XS.aloadN X3.here hx rfl (hb hby d9_15) rfl rfl ?_
    show Steps p.tables e below (T3.setTop (mkF m 16 #[.val (.ref a1), .val (.ref a2), .val .null, .val .null] [.null, (.ref a1)])) _
    refine st4 _ ?_
    show Steps p.tables e below (T4.setTop (mkF m 19 #[.val (.ref a1), .val (.ref a2), .val .null, .val .null] [])) _
    exact X4.returnOut hx Bd.returns (hb hby d9_19) hr
  · show Q_rm_cirnn Z a1 a2 h0 n0 _ T4.heap _
    rw [e4]
    exact ⟨rfl, N4, f18, f13, f15⟩
theorem ef_rm_cirnr (m : MethodId) (x0 : Addr) (x1 : Addr) (x3 : Addr) : entryFrame m #[(.ref x0), (.ref x1), .null, (.ref x3)] 4 = mkF m 0 #[.val (.ref x0), .val (.ref x1), .val .null, .val (.ref x3)] [] := by first | (simp [entryFrame, mkF, argsToLocals, Value.category]; done) | rfl
def Q_rm_cirnr (Z : State) (a1 : Addr) (a2 : Addr) (a4 : Addr) (h0 : Heap) (n0 : Nat) (v : Option Value) (h : Heap) (L : List Loc) : Prop := v = none ∧ Fr n0 L ∧ Keep h0 h [a1] ∧ Exa Z h a1 "com/example/poolwright/poolwright/Copy" ∧ Fld Z h a1 "com/example/poolwright/poolwright/Copy" "destination" "Ljava/lang/String;" .null
set_option maxRecDepth 65536 in
set_option maxHeartbeats 40000000 in
theorem rm_cirnr (l : Launch) (Z : State) (a0 : Array Value) (hw : ∀ d ∈ tables_1, d.before a0 Z = true) (ws : List Jvm.Cond) (a1 : Addr) (a2 : Addr) (a4 : Addr) (h0 : Heap) (n0 : Nat) (Z0 : n0 ≤ h0.size) (F_source_a1 : Fld Z h0 a1 "com/example/poolwright/poolwright/Copy" "source" "Ljava/lang/String;" .null) (F_destination_a1 : Fld Z h0 a1 "com/example/poolwright/poolwright/Copy" "destination" "Ljava/lang/String;" .null) (F_refusal_a1 : Fld Z h0 a1 "com/example/poolwright/poolwright/Copy" "refusal" "Lcom/example/poolwright/poolwright/Copy$Refusal;" .null) (E_a1 : Exa Z h0 a1 "com/example/poolwright/poolwright/Copy") (g_a1 : n0 ≤ a1) :
    MetFree l (⟨"com/example/poolwright/poolwright/Copy", "<init>", "(Ljava/lang/String;Ljava/lang/String;Lcom/example/poolwright/poolwright/Copy$Refusal;)V"⟩ : MethodName) (head1 (Jvm.Cond.code (⟨"com/example/poolwright/poolwright/Copy", "<init>", "(Ljava/lang/String;Ljava/lang/String;Lcom/example/poolwright/poolwright/Copy$Refusal;)V"⟩ : MethodName) prog_11_method_1_code 4 none :: ws) ({ frames := 2, cells := 0, slots := 0, locals := 24 } : Room)) (fun a U => a = #[(.ref a1), (.ref a2), .null, (.ref a4)] ∧ Z.Warmed39 U.vm ∧ U.heap = h0) (fun _ _ _ _ _ => True) (fun _ U o U' => ∃ v L, o = .returned v ∧ Q_rm_cirnr Z a1 a2 a4 h0 n0 v U'.heap L ∧ FrameEnd U o U' L ({ frames := 2, cells := 0, slots := 0, locals := 24 } : Room).cells ({ frames := 2, cells := 0, slots := 0, locals := 24 } : Room).slots) := by
  refine MetFree.of_bodySF (plainFor_of_name pn_9) hisR ?_
  intro p e s m args below meth c s₁ Bd hml0 hP hK
  obtain ⟨rfl, hZ, hh⟩ := hP
  have hx := Bd.exec
  have hby := Bd.bytes
  have hml : c.maxLocals = 4 := hml0
  have hown : s.vm.findClass "com/example/poolwright/poolwright/Copy" = some m.cls := findClass_of_methodNamed Bd.named
  have hnm := (name_of_methodNamed Bd.named Bd.method).1
  have X0 : Stand p l e ({ frames := 2, cells := 0, slots := 0, locals := 24 } : Room) s m #[(.ref a1), (.ref a2), .null, (.ref a4)] below meth c s₁ [] 0 0 := Stand.of_body Bd
  have e0 : s₁.heap = h0 := by rw [← hh, Bd.state]; rfl
  have N0 := Fr.nil n0
  have pre0 : ∀ t, Steps p.tables e below (s₁.setTop (mkF m 0 #[.val (.ref a1), .val (.ref a2), .val .null, .val (.ref a4)] [])) t → Steps p.tables e below (s₁.setTop (entryFrame m #[(.ref a1), (.ref a2), .null, (.ref a4)] 4)) t := fun t kt => castTop (ef_rm_cirnr m a1 a2 a4) kt
  obtain ⟨_, _, ⟨T1, L1, k1, n1⟩, -, X1, ⟨Lc1, hQ1, l1, y1, z1⟩, st1⟩ := X0.specialBack hx (y := (⟨"java/lang/Record", "<init>", "()V"⟩ : MethodName)) rfl hown (mvT hZ (hw _ (List.mem_of_getElem? (i := 46) rfl))) (mvT hZ (hw _ (List.mem_of_getElem? (i := 47) rfl))) (mvT hZ (hw _ (List.mem_of_getElem? (i := 50) rfl))) (by decide) (backOf (W := 0) (rm_rec l Z a0 hw [] a1 h0 n0 Z0 ) hZ (hw _ (List.mem_of_getElem? (i := 50) rfl)) (hw _ (List.mem_of_getElem? (i := 49) rfl)) (by decide) (by decide)) (g := (mkF m 1 #[.val (.ref a1), .val (.ref a2), .val .null, .val (.ref a4)] [(.ref a1)])) rfl (by rw [hml]; rfl) (Steps.refl _) (a := a1) (argsL := []) (rest := []) (lenOf pd___V_167 rfl) rfl (by show 2 * 0 + _ ≤ _; exact Nat.le_of_eq rfl) (hb hby d9_1) (fun _ _ => ⟨rfl, e0, (by decide : 0 + 0 ≤ _), (by decide : 0 + 0 ≤ _)⟩)
  dsimp only [Pt.U, Pt.locs, Pt.cells, Pt.slots] at X1 l1 y1 z1 st1 hQ1
  subst l1 y1 z1
  obtain ⟨rfl, N1q, e1⟩ := hQ1
  have N1 := Fr.app N0 N1q
  obtain ⟨T2, h2, X2, e2, W2, st2⟩ := putF X1 hx hZ hown (host := "") (Or.inl (hw _ (List.mem_of_getElem? (i := 52) rfl))) Via.refl e1 F_source_a1 E_a1 (Or.inr ⟨(hw _ (List.mem_of_getElem? (i := 53) rfl)), rfl, hnm⟩) (hw _ (List.mem_of_getElem? (i := 41) rfl)) (ty := (.object "java/lang/String")) (by decide) rfl rfl (g := (mkF m 6 #[.val (.ref a1), .val (.ref a2), .val .null, .val (.ref a4)] [(.ref a2), (.ref a1)])) rfl rfl (hb hby d9_6)
  have f1 : Exa Z h2 a1 "com/example/poolwright/poolwright/Copy" := E_a1.wr W2
  have f2 : Fld Z h2 a1 "com/example/poolwright/poolwright/Copy" "source" "Ljava/lang/String;" (.ref a2) := F_source_a1.same W2
  have f3 : Fld Z h2 a1 "com/example/poolwright/poolwright/Copy" "destination" "Ljava/lang/String;" .null := F_destination_a1.other W2 (Or.inr (slot_ne (Or.inr (hw _ (List.mem_of_getElem? (i := 55) rfl))) (Or.inr (hw _ (List.mem_of_getElem? (i := 53) rfl))) (by decide) (t := (.object "java/lang/String")) (t' := (.object "java/lang/String")) (by decide) (by decide)))
  have f4 : Fld Z h2 a1 "com/example/poolwright/poolwright/Copy" "refusal" "Lcom/example/poolwright/poolwright/Copy$Refusal;" .null := F_refusal_a1.other W2 (Or.inr (slot_ne (Or.inr (hw _ (List.mem_of_getElem? (i := 57) rfl))) (Or.inr (hw _ (List.mem_of_getElem? (i := 53) rfl))) (by decide) (t := (.object "com/example/poolwright/poolwright/Copy$Refusal")) (t' := (.object "java/lang/String")) (by decide) (by decide)))
  have f5 : n0 ≤ a1 := g_a1
  have f6 : Keep h0 h2 [a1] := (Keep.refl h0 [a1]).wr W2 (Or.inl (by simp))
  have N2 := Fr.snoc X2 N1 f5
  have Z2 : n0 ≤ h2.size := by rw [W2.size]; exact Z0
  obtain ⟨T3, h3, X3, e3, W3, st3⟩ := putF X2 hx hZ hown (host := "") (Or.inl (hw _ (List.mem_of_getElem? (i := 54) rfl))) Via.refl e2 f3 f1 (Or.inr ⟨(hw _ (List.mem_of_getElem? (i := 55) rfl)), rfl, hnm⟩) (hw _ (List.mem_of_getElem? (i := 41) rfl)) (ty := (.object "java/lang/String")) (by decide) rfl rfl (g := (mkF m 11 #[.val (.ref a1), .val (.ref a2), .val .null, .val (.ref a4)] [.null, (.ref a1)])) rfl rfl (hb hby d9_11)
  have f7 : Exa Z h3 a1 "com/example/poolwright/poolwright/Copy" := f1.wr W3
  have f8 : Fld Z h3 a1 "com/example/poolwright/poolwright/Copy" "source" "Ljava/lang/String;" (.ref a2) := f2.other W3 (Or.inr (slot_ne (Or.inr (hw _ (List.mem_of_getElem? (i := 53) rfl))) (Or.inr (hw _ (List.mem_of_getElem? (i := 55) rfl))) (by decide) (t := (.object "java/lang/String")) (t' := (.object "java/lang/String")) (by decide) (by decide)))
  have f9 : Fld Z h3 a1 "com/example/poolwright/poolwright/Copy" "destination" "Ljava/lang/String;" .null := f3.same W3
  have f10 : Fld Z h3 a1 "com/example/poolwright/poolwright/Copy" "refusal" "Lcom/example/poolwright/poolwright/Copy$Refusal;" .null := f4.other W3 (Or.inr (slot_ne (Or.inr (hw _ (List.mem_of_getElem? (i := 57) rfl))) (Or.inr (hw _ (List.mem_of_getElem? (i := 55) rfl))) (by decide) (t := (.object "com/example/poolwright/poolwright/Copy$Refusal")) (t' := (.object "java/lang/String")) (by decide) (by decide)))
  have f11 : n0 ≤ a1 := f5
  have f12 : Keep h0 h3 [a1] := f6.wr W3 (Or.inl (by simp))
  have N3 := Fr.snoc X3 N2 f11
  have Z3 : n0 ≤ h3.size := by rw [W3.size]; exact Z2
  obtain ⟨T4, h4, X4, e4, W4, st4⟩ := putF X3 hx hZ hown (host := "") (Or.inl (hw _ (List.mem_of_getElem? (i := 56) rfl))) Via.refl e3 f10 f7 (Or.inr ⟨(hw _ (List.mem_of_getElem? (i := 57) rfl)), rfl, hnm⟩) (hw _ (List.mem_of_getElem? (i := 41) rfl)) (ty := (.object "com/example/poolwright/poolwright/Copy$Refusal")) (by decide) rfl rfl (g := (mkF m 16 #[.val (.ref a1), .val (.ref a2), .val .null, .val (.ref a4)] [(.ref a4), (.ref a1)])) rfl rfl (hb hby d9_16)
  have f13 : Exa Z h4 a1 "com/example/poolwright/poolwright/Copy" := f7.wr W4
  have f14 : Fld Z h4 a1 "com/example/poolwright/poolwright/Copy" "source" "Ljava/lang/String;" (.ref a2) := f8.other W4 (Or.inr (slot_ne (Or.inr (hw _ (List.mem_of_getElem? (i := 53) rfl))) (Or.inr (hw _ (List.mem_of_getElem? (i := 57) rfl))) (by decide) (t := (.object "java/lang/String")) (t' := (.object "com/example/poolwright/poolwright/Copy$Refusal")) (by decide) (by decide)))
  have f15 : Fld Z h4 a1 "com/example/poolwright/poolwright/Copy" "destination" "Ljava/lang/String;" .null := f9.other W4 (Or.inr (slot_ne (Or.inr (hw _ (List.mem_of_getElem? (i := 55) rfl))) (Or.inr (hw _ (List.mem_of_getElem? (i := 57) rfl))) (by decide) (t := (.object "java/lang/String")) (t' := (.object "com/example/poolwright/poolwright/Copy$Refusal")) (by decide) (by decide)))
  have f16 : Fld Z h4 a1 "com/example/poolwright/poolwright/Copy" "refusal" "Lcom/example/poolwright/poolwright/Copy$Refusal;" (.ref a4) := f10.same W4
  have f17 : n0 ≤ a1 := f11
  have f18 : Keep h0 h4 [a1] := f12.wr W4 (Or.inl (by simp))
  have N4 := Fr.snoc X4 N3 f17
  have Z4 : n0 ≤ h4.size := by rw [W4.size]; exact Z3
  obtain ⟨fs, hr, hrun, hended, hW, hsame⟩ := X4.leave (v := none) (fun _ => rfl) (hlocks := Bd.notSynchronized)
  refine ⟨_, _, pre0 _ ?_, hrun, hended, _, _, rfl, ?_, ⟨_, rfl⟩, hW, hsame.mono (by decide) (by decide)⟩
  · show Steps p.tables e below (s₁.setTop (mkF m 0 #[.val (.ref a1), .val (.ref a2), .val .null, .val (.ref a4)] [])) _
    refine XS.aloadN X0.here hx rfl (hb hby d9_0) rfl rfl ?_
    show Steps p.tables e below (s₁.setTop (mkF m 1 #[.val (.ref a1), .val (.ref a2), .val .null, .val (.ref a4)] [(.ref a1)])) _
    refine st1.trans ?_
    show Steps p.tables e below (T1.setTop (mkF m 4 #[.val (.ref a1), .val (.ref a2), .val .null, .val (.ref a4)] [])) _
    refine XS.aloadN X1.here hx rfl (hb hby d9_4) rfl rfl ?_
    show Steps p.tables e below (T1.setTop (mkF m 5 #[.val (.ref a1), .val (.ref a2), .val .null, .val (.ref a4)] [(.ref a1)])) _
    refine XS.aloadN X1.here hx rfl (hb hby d9_5) rfl rfl ?_
    show Steps p.tables e below (T1.setTop (mkF m 6 #[.val (.ref a1), .val (.ref a2), .val .null, .val (.ref a4)] [(.ref a2), (.ref a1)])) _
    refine st2 _ ?_
    show Steps p.tables e below (T2.setTop (mkF m 9 #[.val (.ref a1), .val (.ref a2), .val .null, .val (.ref a4)] [])) _
    refine XS.aloadN X2.here hx rfl (hb hby d9_9) rfl rfl ?_
    show Steps p.tables e below (T2.setTop (mkF m 10 #[.val (.ref a1), .val (.ref a2), .val .null, .val (.ref a4)] [(.ref a1)])) _
    refine XS.aloadN X2.here hx rfl (hb hby d9_10) rfl rfl ?_
    show Steps p.tables e below (T2.setTop (mkF m 11 #[.val (.ref a1), .val (.ref a2), .val .null, .val (.ref a4)] [.null, (.ref a1)])) _
    refine st3 _ ?_
    show Steps p.tables e below (T3.setTop (mkF m 14 #[.val (.ref a1), .val (.ref a2), .val .null, .val (.ref a4)] [])) _
    refine XS.aloadN X3.here hx rfl (hb hby d9_14) rfl rfl ?_
    show Steps p.tables e below (T3.setTop (mkF m 15 #[.val (.ref a1), .val (.ref a2), .val .null, .val (.ref a4)] [(.ref a1)])) _
    refine XS.aloadN X3.here hx rfl (hb hby d9_15) rfl rfl ?_
    show Steps p.tables e below (T3.setTop (mkF m 16 #[.val (.ref a1), .val (.ref a2), .val .null, .val (.ref a4)] [(.ref a4), (.ref a1)])) _
    refine st4 _ ?_
    show Steps p.tables e below (T4.setTop (mkF m 19 #[.val (.ref a1), .val (.ref a2), .val .null, .val (.ref a4)] [])) _
    exact X4.returnOut hx Bd.returns (hb hby d9_19) hr
  · show Q_rm_cirnr Z a1 a2 a4 h0 n0 _ T4.heap _
    rw [e4]
    exact ⟨rfl, N4, f18, f13, f15⟩
theorem ef_rm_cirrn (m : MethodId) (x0 : Addr) (x1 : Addr) (x2 : Addr) : entryFrame m #[(.ref x0), (.ref x1), (.ref x2), .null] 4 = mkF m 0 #[.val (.ref x0), .val (.ref x1), .val (.ref x2), .val .null] [] := by first | (simp [entryFrame, mkF, argsToLocals, Value.category]; done) | rfl
def Q_rm_cirrn (Z : State) (a1 : Addr) (a2 : Addr) (a3 : Addr) (h0 : Heap) (n0 : Nat) (v : Option Value) (h : Heap) (L : List Loc) : Prop := v = none ∧ Fr n0 L ∧ Keep h0 h [a1] ∧ Exa Z h a1 "com/example/poolwright/poolwright/Copy" ∧ Fld Z h a1 "com/example/poolwright/poolwright/Copy" "destination" "Ljava/lang/String;" (.ref a3)
set_option maxRecDepth 65536 in
set_option maxHeartbeats 40000000 in
theorem rm_cirrn (l : Launch) (Z : State) (a0 : Array Value) (hw : ∀ d ∈ tables_1, d.before a0 Z = true) (ws : List Jvm.Cond) (a1 : Addr) (a2 : Addr) (a3 : Addr) (h0 : Heap) (n0 : Nat) (Z0 : n0 ≤ h0.size) (F_source_a1 : Fld Z h0 a1 "com/example/poolwright/poolwright/Copy" "source" "Ljava/lang/String;" .null) (F_destination_a1 : Fld Z h0 a1 "com/example/poolwright/poolwright/Copy" "destination" "Ljava/lang/String;" .null) (F_refusal_a1 : Fld Z h0 a1 "com/example/poolwright/poolwright/Copy" "refusal" "Lcom/example/poolwright/poolwright/Copy$Refusal;" .null) (E_a1 : Exa Z h0 a1 "com/example/poolwright/poolwright/Copy") (g_a1 : n0 ≤ a1) :
    MetFree l (⟨"com/example/poolwright/poolwright/Copy", "<init>", "(Ljava/lang/String;Ljava/lang/String;Lcom/example/poolwright/poolwright/Copy$Refusal;)V"⟩ : MethodName) (head1 (Jvm.Cond.code (⟨"com/example/poolwright/poolwright/Copy", "<init>", "(Ljava/lang/String;Ljava/lang/String;Lcom/example/poolwright/poolwright/Copy$Refusal;)V"⟩ : MethodName) prog_11_method_1_code 4 none :: ws) ({ frames := 2, cells := 0, slots := 0, locals := 24 } : Room)) (fun a U => a = #[(.ref a1), (.ref a2), (.ref a3), .null] ∧ Z.Warmed39 U.vm ∧ U.heap = h0) (fun _ _ _ _ _ => True) (fun _ U o U' => ∃ v L, o = .returned v ∧ Q_rm_cirrn Z a1 a2 a3 h0 n0 v U'.heap L ∧ FrameEnd U o U' L ({ frames := 2, cells := 0, slots := 0, locals := 24 } : Room).cells ({ frames := 2, cells := 0, slots := 0, locals := 24 } : Room).slots) := by
  refine MetFree.of_bodySF (plainFor_of_name pn_9) hisR ?_
  intro p e s m args below meth c s₁ Bd hml0 hP hK
  obtain ⟨rfl, hZ, hh⟩ := hP
  have hx := Bd.exec
  have hby := Bd.bytes
  have hml : c.maxLocals = 4 := hml0
  have hown : s.vm.findClass "com/example/poolwright/poolwright/Copy" = some m.cls := findClass_of_methodNamed Bd.named
  have hnm := (name_of_methodNamed Bd.named Bd.method).1
  have X0 : Stand p l e ({ frames := 2, cells := 0, slots := 0, locals := 24 } : Room) s m #[(.ref a1), (.ref a2), (.ref a3), .null] below meth c s₁ [] 0 0 := Stand.of_body Bd
  have e0 : s₁.heap = h0 := by rw [← hh, Bd.state]; rfl
  have N0 := Fr.nil n0
  have pre0 : ∀ t, Steps p.tables e below (s₁.setTop (mkF m 0 #[.val (.ref a1), .val (.ref a2), .val (.ref a3), .val .null] [])) t → Steps p.tables e below (s₁.setTop (entryFrame m #[(.ref a1), (.ref a2), (.ref a3), .null] 4)) t := fun t kt => castTop (ef_rm_cirrn m a1 a2 a3) kt
  obtain ⟨_, _, ⟨T1, L1, k1, n1⟩, -, X1, ⟨Lc1, hQ1, l1, y1, z1⟩, st1⟩ := X0.specialBack hx (y := (⟨"java/lang/Record", "<init>", "()V"⟩ : MethodName)) rfl hown (mvT hZ (hw _ (List.mem_of_getElem? (i := 46) rfl))) (mvT hZ (hw _ (List.mem_of_getElem? (i := 47) rfl))) (mvT hZ (hw _ (List.mem_of_getElem? (i := 50) rfl))) (by decide) (backOf (W := 0) (rm_rec l Z a0 hw [] a1 h0 n0 Z0 ) hZ (hw _ (List.mem_of_getElem? (i := 50) rfl)) (hw _ (List.mem_of_getElem? (i := 49) rfl)) (by decide) (by decide)) (g := (mkF m 1 #[.val (.ref a1), .val (.ref a2), .val (.ref a3), .val .null] [(.ref a1)])) rfl (by rw [hml]; rfl) (Steps.refl _) (a := a1) (argsL := []) (rest := []) (lenOf pd___V_167 rfl) rfl (by show 2 * 0 + _ ≤ _; exact Nat.le_of_eq rfl) (hb hby d9_1) (fun _ _ => ⟨rfl, e0, (by decide : 0 + 0 ≤ _), (by decide : 0 + 0 ≤ _)⟩)
  dsimp only [Pt.U, Pt.locs, Pt.cells, Pt.slots] at X1 l1 y1 z1 st1 hQ1
  subst l1 y1 z1
  obtain ⟨rfl, N1q, e1⟩ := hQ1
  have N1 := Fr.app N0 N1q
  obtain ⟨T2, h2, X2, e2, W2, st2⟩ := putF X1 hx hZ hown (host := "") (Or.inl (hw _ (List.mem_of_getElem? (i := 52) rfl))) Via.refl e1 F_source_a1 E_a1 (Or.inr ⟨(hw _ (List.mem_of_getElem? (i := 53) rfl)), rfl, hnm⟩) (hw _ (List.mem_of_getElem? (i := 41) rfl)) (ty := (.object "java/lang/String")) (by decide) rfl rfl (g := (mkF m 6 #[.val (.ref a1), .val (.ref a2), .val (.ref a3), .val .null] [(.ref a2), (.ref a1)])) rfl rfl (hb hby d9_6)
  have f1 : Exa Z h2 a1 "com/example/poolwright/poolwright/Copy" := E_a1.wr W2
  have f2 : Fld Z h2 a1 "com/example/poolwright/poolwright/Copy" "source" "Ljava/lang/String;" (.ref a2) := F_source_a1.same W2
  have f3 : Fld Z h2 a1 "com/example/poolwright/poolwright/Copy" "destination" "Ljava/lang/String;" .null := F_destination_a1.other W2 (Or.inr (slot_ne (Or.inr (hw _ (List.mem_of_getElem? (i := 55) rfl))) (Or.inr (hw _ (List.mem_of_getElem? (i := 53) rfl))) (by decide) (t := (.object "java/lang/String")) (t' := (.object "java/lang/String")) (by decide) (by decide)))
  have f4 : Fld Z h2 a1 "com/example/poolwright/poolwright/Copy" "refusal" "Lcom/example/poolwright/poolwright/Copy$Refusal;" .null := F_refusal_a1.other W2 (Or.inr (slot_ne (Or.inr (hw _ (List.mem_of_getElem? (i := 57) rfl))) (Or.inr (hw _ (List.mem_of_getElem? (i := 53) rfl))) (by decide) (t := (.object "com/example/poolwright/poolwright/Copy$Refusal")) (t' := (.object "java/lang/String")) (by decide) (by decide)))
  have f5 : n0 ≤ a1 := g_a1
  have f6 : Keep h0 h2 [a1] := (Keep.refl h0 [a1]).wr W2 (Or.inl (by simp))
  have N2 := Fr.snoc X2 N1 f5
  have Z2 : n0 ≤ h2.size := by rw [W2.size]; exact Z0
  obtain ⟨T3, h3, X3, e3, W3, st3⟩ := putF X2 hx hZ hown (host := "") (Or.inl (hw _ (List.mem_of_getElem? (i := 54) rfl))) Via.refl e2 f3 f1 (Or.inr ⟨(hw _ (List.mem_of_getElem? (i := 55) rfl)), rfl, hnm⟩) (hw _ (List.mem_of_getElem? (i := 41) rfl)) (ty := (.object "java/lang/String")) (by decide) rfl rfl (g := (mkF m 11 #[.val (.ref a1), .val (.ref a2), .val (.ref a3), .val .null] [(.ref a3), (.ref a1)])) rfl rfl (hb hby d9_11)
  have f7 : Exa Z h3 a1 "com/example/poolwright/poolwright/Copy" := f1.wr W3
  have f8 : Fld Z h3 a1 "com/example/poolwright/poolwright/Copy" "source" "Ljava/lang/String;" (.ref a2) := f2.other W3 (Or.inr (slot_ne (Or.inr (hw _ (List.mem_of_getElem? (i := 53) rfl))) (Or.inr (hw _ (List.mem_of_getElem? (i := 55) rfl))) (by decide) (t := (.object "java/lang/String")) (t' := (.object "java/lang/String")) (by decide) (by decide)))
  have f9 : Fld Z h3 a1 "com/example/poolwright/poolwright/Copy" "destination" "Ljava/lang/String;" (.ref a3) := f3.same W3
  have f10 : Fld Z h3 a1 "com/example/poolwright/poolwright/Copy" "refusal" "Lcom/example/poolwright/poolwright/Copy$Refusal;" .null := f4.other W3 (Or.inr (slot_ne (Or.inr (hw _ (List.mem_of_getElem? (i := 57) rfl))) (Or.inr (hw _ (List.mem_of_getElem? (i := 55) rfl))) (by decide) (t := (.object "com/example/poolwright/poolwright/Copy$Refusal")) (t' := (.object "java/lang/String")) (by decide) (by decide)))
  have f11 : n0 ≤ a1 := f5
  have f12 : Keep h0 h3 [a1] := f6.wr W3 (Or.inl (by simp))
  have N3 := Fr.snoc X3 N2 f11
  have Z3 : n0 ≤ h3.size := by rw [W3.size]; exact Z2
  obtain ⟨T4, h4, X4, e4, W4, st4⟩ := putF X3 hx hZ hown (host := "") (Or.inl (hw _ (List.mem_of_getElem? (i := 56) rfl))) Via.refl e3 f10 f7 (Or.inr ⟨(hw _ (List.mem_of_getElem? (i := 57) rfl)), rfl, hnm⟩) (hw _ (List.mem_of_getElem? (i := 41) rfl)) (ty := (.object "com/example/poolwright/poolwright/Copy$Refusal")) (by decide) rfl rfl (g := (mkF m 16 #[.val (.ref a1), .val (.ref a2), .val (.ref a3), .val .null] [.null, (.ref a1)])) rfl rfl (hb hby d9_16)
  have f13 : Exa Z h4 a1 "com/example/poolwright/poolwright/Copy" := f7.wr W4
  have f14 : Fld Z h4 a1 "com/example/poolwright/poolwright/Copy" "source" "Ljava/lang/String;" (.ref a2) := f8.other W4 (Or.inr (slot_ne (Or.inr (hw _ (List.mem_of_getElem? (i := 53) rfl))) (Or.inr (hw _ (List.mem_of_getElem? (i := 57) rfl))) (by decide) (t := (.object "java/lang/String")) (t' := (.object "com/example/poolwright/poolwright/Copy$Refusal")) (by decide) (by decide)))
  have f15 : Fld Z h4 a1 "com/example/poolwright/poolwright/Copy" "destination" "Ljava/lang/String;" (.ref a3) := f9.other W4 (Or.inr (slot_ne (Or.inr (hw _ (List.mem_of_getElem? (i := 55) rfl))) (Or.inr (hw _ (List.mem_of_getElem? (i := 57) rfl))) (by decide) (t := (.object "java/lang/String")) (t' := (.object "com/example/poolwright/poolwright/Copy$Refusal")) (by decide) (by decide)))
  have f16 : Fld Z h4 a1 "com/example/poolwright/poolwright/Copy" "refusal" "Lcom/example/poolwright/poolwright/Copy$Refusal;" .null := f10.same W4
  have f17 : n0 ≤ a1 := f11
  have f18 : Keep h0 h4 [a1] := f12.wr W4 (Or.inl (by simp))
  have N4 := Fr.snoc X4 N3 f17
  have Z4 : n0 ≤ h4.size := by rw [W4.size]; exact Z3
  obtain ⟨fs, hr, hrun, hended, hW, hsame⟩ := X4.leave (v := none) (fun _ => rfl) (hlocks := Bd.notSynchronized)
  refine ⟨_, _, pre0 _ ?_, hrun, hended, _, _, rfl, ?_, ⟨_, rfl⟩, hW, hsame.mono (by decide) (by decide)⟩
  · show Steps p.tables e below (s₁.setTop (mkF m 0 #[.val (.ref a1), .val (.ref a2), .val (.ref a3), .val .null] [])) _
    refine XS.aloadN X0.here hx rfl (hb hby d9_0) rfl rfl ?_
    show Steps p.tables e below (s₁.setTop (mkF m 1 #[.val (.ref a1), .val (.ref a2), .val (.ref a3), .val .null] [(.ref a1)])) _
    refine st1.trans ?_
    show Steps p.tables e below (T1.setTop (mkF m 4 #[.val (.ref a1), .val (.ref a2), .val (.ref a3), .val .null] [])) _
    refine XS.aloadN X1.here hx rfl (hb hby d9_4) rfl rfl ?_
    show Steps p.tables e below (T1.setTop (mkF m 5 #[.val (.ref a1), .val (.ref a2), .val (.ref a3), .val .null] [(.ref a1)])) _
    refine XS.aloadN X1.here hx rfl (hb hby d9_5) rfl rfl ?_
    show Steps p.tables e below (T1.setTop (mkF m 6 #[.val (.ref a1), .val (.ref a2), .val (.ref a3), .val .null] [(.ref a2), (.ref a1)])) _
    refine st2 _ ?_
    show Steps p.tables e below (T2.setTop (mkF m 9 #[.val (.ref a1), .val (.ref a2), .val (.ref a3), .val .null] [])) _
    refine XS.aloadN X2.here hx rfl (hb hby d9_9) rfl rfl ?_
    show Steps p.tables e below (T2.setTop (mkF m 10 #[.val (.ref a1), .val (.ref a2), .val (.ref a3), .val .null] [(.ref a1)])) _
    refine XS.aloadN X2.here hx rfl (hb hby d9_10) rfl rfl ?_
    show Steps p.tables e below (T2.setTop (mkF m 11 #[.val (.ref a1), .val (.ref a2), .val (.ref a3), .val .null] [(.ref a3), (.ref a1)])) _
    refine st3 _ ?_
    show Steps p.tables e below (T3.setTop (mkF m 14 #[.val (.ref a1), .val (.ref a2), .val (.ref a3), .val .null] [])) _
    refine XS.aloadN X3.here hx rfl (hb hby d9_14) rfl rfl ?_
    show Steps p.tables e below (T3.setTop (mkF m 15 #[.val (.ref a1), .val (.ref a2), .val (.ref a3), .val .null] [(.ref a1)])) _
    refine XS.aloadN X3.here hx rfl (hb hby d9_15) rfl rfl ?_
    show Steps p.tables e below (T3.setTop (mkF m 16 #[.val (.ref a1), .val (.ref a2), .val (.ref a3), .val .null] [.null, (.ref a1)])) _
    refine st4 _ ?_
    show Steps p.tables e below (T4.setTop (mkF m 19 #[.val (.ref a1), .val (.ref a2), .val (.ref a3), .val .null] [])) _
    exact X4.returnOut hx Bd.returns (hb hby d9_19) hr
  · show Q_rm_cirrn Z a1 a2 a3 h0 n0 _ T4.heap _
    rw [e4]
    exact ⟨rfl, N4, f18, f13, f15⟩
theorem ef_rm_cirrr (m : MethodId) (x0 : Addr) (x1 : Addr) (x2 : Addr) (x3 : Addr) : entryFrame m #[(.ref x0), (.ref x1), (.ref x2), (.ref x3)] 4 = mkF m 0 #[.val (.ref x0), .val (.ref x1), .val (.ref x2), .val (.ref x3)] [] := by first | (simp [entryFrame, mkF, argsToLocals, Value.category]; done) | rfl
def Q_rm_cirrr (Z : State) (a1 : Addr) (a2 : Addr) (a3 : Addr) (a4 : Addr) (h0 : Heap) (n0 : Nat) (v : Option Value) (h : Heap) (L : List Loc) : Prop := v = none ∧ Fr n0 L ∧ Keep h0 h [a1] ∧ Exa Z h a1 "com/example/poolwright/poolwright/Copy" ∧ Fld Z h a1 "com/example/poolwright/poolwright/Copy" "destination" "Ljava/lang/String;" (.ref a3)
set_option maxRecDepth 65536 in
set_option maxHeartbeats 40000000 in
theorem rm_cirrr (l : Launch) (Z : State) (a0 : Array Value) (hw : ∀ d ∈ tables_1, d.before a0 Z = true) (ws : List Jvm.Cond) (a1 : Addr) (a2 : Addr) (a3 : Addr) (a4 : Addr) (h0 : Heap) (n0 : Nat) (Z0 : n0 ≤ h0.size) (F_source_a1 : Fld Z h0 a1 "com/example/poolwright/poolwright/Copy" "source" "Ljava/lang/String;" .null) (F_destination_a1 : Fld Z h0 a1 "com/example/poolwright/poolwright/Copy" "destination" "Ljava/lang/String;" .null) (F_refusal_a1 : Fld Z h0 a1 "com/example/poolwright/poolwright/Copy" "refusal" "Lcom/example/poolwright/poolwright/Copy$Refusal;" .null) (E_a1 : Exa Z h0 a1 "com/example/poolwright/poolwright/Copy") (g_a1 : n0 ≤ a1) :
    MetFree l (⟨"com/example/poolwright/poolwright/Copy", "<init>", "(Ljava/lang/String;Ljava/lang/String;Lcom/example/poolwright/poolwright/Copy$Refusal;)V"⟩ : MethodName) (head1 (Jvm.Cond.code (⟨"com/example/poolwright/poolwright/Copy", "<init>", "(Ljava/lang/String;Ljava/lang/String;Lcom/example/poolwright/poolwright/Copy$Refusal;)V"⟩ : MethodName) prog_11_method_1_code 4 none :: ws) ({ frames := 2, cells := 0, slots := 0, locals := 24 } : Room)) (fun a U => a = #[(.ref a1), (.ref a2), (.ref a3), (.ref a4)] ∧ Z.Warmed39 U.vm ∧ U.heap = h0) (fun _ _ _ _ _ => True) (fun _ U o U' => ∃ v L, o = .returned v ∧ Q_rm_cirrr Z a1 a2 a3 a4 h0 n0 v U'.heap L ∧ FrameEnd U o U' L ({ frames := 2, cells := 0, slots := 0, locals := 24 } : Room).cells ({ frames := 2, cells := 0, slots := 0, locals := 24 } : Room).slots) := by
  refine MetFree.of_bodySF (plainFor_of_name pn_9) hisR ?_
  intro p e s m args below meth c s₁ Bd hml0 hP hK
  obtain ⟨rfl, hZ, hh⟩ := hP
  have hx := Bd.exec
  have hby := Bd.bytes
  have hml : c.maxLocals = 4 := hml0
  have hown : s.vm.findClass "com/example/poolwright/poolwright/Copy" = some m.cls := findClass_of_methodNamed Bd.named
  have hnm := (name_of_methodNamed Bd.named Bd.method).1
  have X0 : Stand p l e ({ frames := 2, cells := 0, slots := 0, locals := 24 } : Room) s m #[(.ref a1), (.ref a2), (.ref a3), (.ref a4)] below meth c s₁ [] 0 0 := Stand.of_body Bd
  have e0 : s₁.heap = h0 := by rw [← hh, Bd.state]; rfl
  have N0 := Fr.nil n0
  have pre0 : ∀ t, Steps p.tables e below (s₁.setTop (mkF m 0 #[.val (.ref a1), .val (.ref a2), .val (.ref a3), .val (.ref a4)] [])) t → Steps p.tables e below (s₁.setTop (entryFrame m #[(.ref a1), (.ref a2), (.ref a3), (.ref a4)] 4)) t := fun t kt => castTop (ef_rm_cirrr m a1 a2 a3 a4) kt
  obtain ⟨_, _, ⟨T1, L1, k1, n1⟩, -, X1, ⟨Lc1, hQ1, l1, y1, z1⟩, st1⟩ := X0.specialBack hx (y := (⟨"java/lang/Record", "<init>", "()V"⟩ : MethodName)) rfl hown (mvT hZ (hw _ (List.mem_of_getElem? (i := 46) rfl))) (mvT hZ (hw _ (List.mem_of_getElem? (i := 47) rfl))) (mvT hZ (hw _ (List.mem_of_getElem? (i := 50) rfl))) (by decide) (backOf (W := 0) (rm_rec l Z a0 hw [] a1 h0 n0 Z0 ) hZ (hw _ (List.mem_of_getElem? (i := 50) rfl)) (hw _ (List.mem_of_getElem? (i := 49) rfl)) (by decide) (by decide)) (g := (mkF m 1 #[.val (.ref a1), .val (.ref a2), .val (.ref a3), .val (.ref a4)] [(.ref a1)])) rfl (by rw [hml]; rfl) (Steps.refl _) (a := a1) (argsL := []) (rest := []) (lenOf pd___V_167 rfl) rfl (by show 2 * 0 + _ ≤ _; exact Nat.le_of_eq rfl) (hb hby d9_1) (fun _ _ => ⟨rfl, e0, (by decide : 0 + 0 ≤ _), (by decide : 0 + 0 ≤ _)⟩)
  dsimp only [Pt.U, Pt.locs, Pt.cells, Pt.slots] at X1 l1 y1 z1 st1 hQ1
  subst l1 y1 z1
  obtain ⟨rfl, N1q, e1⟩ := hQ1
  have N1 := Fr.app N0 N1q
  obtain ⟨T2, h2, X2, e2, W2, st2⟩ := putF X1 hx hZ hown (host := "") (Or.inl (hw _ (List.mem_of_getElem? (i := 52) rfl))) Via.refl e1 F_source_a1 E_a1 (Or.inr ⟨(hw _ (List.mem_of_getElem? (i := 53) rfl)), rfl, hnm⟩) (hw _ (List.mem_of_getElem? (i := 41) rfl)) (ty := (.object "java/lang/String")) (by decide) rfl rfl (g := (mkF m 6 #[.val (.ref a1), .val (.ref a2), .val (.ref a3), .val (.ref a4)] [(.ref a2), (.ref a1)])) rfl rfl (hb hby d9_6)
  have f1 : Exa Z h2 a1 "com/example/poolwright/poolwright/Copy" := E_a1.wr W2
  have f2 : Fld Z h2 a1 "com/example/poolwright/poolwright/Copy" "source" "Ljava/lang/String;" (.ref a2) := F_source_a1.same W2
  have f3 : Fld Z h2 a1 "com/example/poolwright/poolwright/Copy" "destination" "Ljava/lang/String;" .null := F_destination_a1.other W2 (Or.inr (slot_ne (Or.inr (hw _ (List.mem_of_getElem? (i := 55) rfl))) (Or.inr (hw _ (List.mem_of_getElem? (i := 53) rfl))) (by decide) (t := (.object "java/lang/String")) (t' := (.object "java/lang/String")) (by decide) (by decide)))
  have f4 : Fld Z h2 a1 "com/example/poolwright/poolwright/Copy" "refusal" "Lcom/example/poolwright/poolwright/Copy$Refusal;" .null := F_refusal_a1.other W2 (Or.inr (slot_ne (Or.inr (hw _ (List.mem_of_getElem? (i := 57) rfl))) (Or.inr (hw _ (List.mem_of_getElem? (i := 53) rfl))) (by decide) (t := (.object "com/example/poolwright/poolwright/Copy$Refusal")) (t' := (.object "java/lang/String")) (by decide) (by decide)))
  have f5 : n0 ≤ a1 := g_a1
  have f6 : Keep h0 h2 [a1] := (Keep.refl h0 [a1]).wr W2 (Or.inl (by simp))
  have N2 := Fr.snoc X2 N1 f5
  have Z2 : n0 ≤ h2.size := by rw [W2.size]; exact Z0
  obtain ⟨T3, h3, X3, e3, W3, st3⟩ := putF X2 hx hZ hown (host := "") (Or.inl (hw _ (List.mem_of_getElem? (i := 54) rfl))) Via.refl e2 f3 f1 (Or.inr ⟨(hw _ (List.mem_of_getElem? (i := 55) rfl)), rfl, hnm⟩) (hw _ (List.mem_of_getElem? (i := 41) rfl)) (ty := (.object "java/lang/String")) (by decide) rfl rfl (g := (mkF m 11 #[.val (.ref a1), .val (.ref a2), .val (.ref a3), .val (.ref a4)] [(.ref a3), (.ref a1)])) rfl rfl (hb hby d9_11)
  have f7 : Exa Z h3 a1 "com/example/poolwright/poolwright/Copy" := f1.wr W3
  have f8 : Fld Z h3 a1 "com/example/poolwright/poolwright/Copy" "source" "Ljava/lang/String;" (.ref a2) := f2.other W3 (Or.inr (slot_ne (Or.inr (hw _ (List.mem_of_getElem? (i := 53) rfl))) (Or.inr (hw _ (List.mem_of_getElem? (i := 55) rfl))) (by decide) (t := (.object "java/lang/String")) (t' := (.object "java/lang/String")) (by decide) (by decide)))
  have f9 : Fld Z h3 a1 "com/example/poolwright/poolwright/Copy" "destination" "Ljava/lang/String;" (.ref a3) := f3.same W3
  have f10 : Fld Z h3 a1 "com/example/poolwright/poolwright/Copy" "refusal" "Lcom/example/poolwright/poolwright/Copy$Refusal;" .null := f4.other W3 (Or.inr (slot_ne (Or.inr (hw _ (List.mem_of_getElem? (i := 57) rfl))) (Or.inr (hw _ (List.mem_of_getElem? (i := 55) rfl))) (by decide) (t := (.object "com/example/poolwright/poolwright/Copy$Refusal")) (t' := (.object "java/lang/String")) (by decide) (by decide)))
  have f11 : n0 ≤ a1 := f5
  have f12 : Keep h0 h3 [a1] := f6.wr W3 (Or.inl (by simp))
  have N3 := Fr.snoc X3 N2 f11
  have Z3 : n0 ≤ h3.size := by rw [W3.size]; exact Z2
  obtain ⟨T4, h4, X4, e4, W4, st4⟩ := putF X3 hx hZ hown (host := "") (Or.inl (hw _ (List.mem_of_getElem? (i := 56) rfl))) Via.refl e3 f10 f7 (Or.inr ⟨(hw _ (List.mem_of_getElem? (i := 57) rfl)), rfl, hnm⟩) (hw _ (List.mem_of_getElem? (i := 41) rfl)) (ty := (.object "com/example/poolwright/poolwright/Copy$Refusal")) (by decide) rfl rfl (g := (mkF m 16 #[.val (.ref a1), .val (.ref a2), .val (.ref a3), .val (.ref a4)] [(.ref a4), (.ref a1)])) rfl rfl (hb hby d9_16)
  have f13 : Exa Z h4 a1 "com/example/poolwright/poolwright/Copy" := f7.wr W4
  have f14 : Fld Z h4 a1 "com/example/poolwright/poolwright/Copy" "source" "Ljava/lang/String;" (.ref a2) := f8.other W4 (Or.inr (slot_ne (Or.inr (hw _ (List.mem_of_getElem? (i := 53) rfl))) (Or.inr (hw _ (List.mem_of_getElem? (i := 57) rfl))) (by decide) (t := (.object "java/lang/String")) (t' := (.object "com/example/poolwright/poolwright/Copy$Refusal")) (by decide) (by decide)))
  have f15 : Fld Z h4 a1 "com/example/poolwright/poolwright/Copy" "destination" "Ljava/lang/String;" (.ref a3) := f9.other W4 (Or.inr (slot_ne (Or.inr (hw _ (List.mem_of_getElem? (i := 55) rfl))) (Or.inr (hw _ (List.mem_of_getElem? (i := 57) rfl))) (by decide) (t := (.object "java/lang/String")) (t' := (.object "com/example/poolwright/poolwright/Copy$Refusal")) (by decide) (by decide)))
  have f16 : Fld Z h4 a1 "com/example/poolwright/poolwright/Copy" "refusal" "Lcom/example/poolwright/poolwright/Copy$Refusal;" (.ref a4) := f10.same W4
  have f17 : n0 ≤ a1 := f11
  have f18 : Keep h0 h4 [a1] := f12.wr W4 (Or.inl (by simp))
  have N4 := Fr.snoc X4 N3 f17
  have Z4 : n0 ≤ h4.size := by rw [W4.size]; exact Z3
  obtain ⟨fs, hr, hrun, hended, hW, hsame⟩ := X4.leave (v := none) (fun _ => rfl) (hlocks := Bd.notSynchronized)
  refine ⟨_, _, pre0 _ ?_, hrun, hended, _, _, rfl, ?_, ⟨_, rfl⟩, hW, hsame.mono (by decide) (by decide)⟩
  · show Steps p.tables e below (s₁.setTop (mkF m 0 #[.val (.ref a1), .val (.ref a2), .val (.ref a3), .val (.ref a4)] [])) _
    refine XS.aloadN X0.here hx rfl (hb hby d9_0) rfl rfl ?_
    show Steps p.tables e below (s₁.setTop (mkF m 1 #[.val (.ref a1), .val (.ref a2), .val (.ref a3), .val (.ref a4)] [(.ref a1)])) _
    refine st1.trans ?_
    show Steps p.tables e below (T1.setTop (mkF m 4 #[.val (.ref a1), .val (.ref a2), .val (.ref a3), .val (.ref a4)] [])) _
    refine XS.aloadN X1.here hx rfl (hb hby d9_4) rfl rfl ?_
    show Steps p.tables e below (T1.setTop (mkF m 5 #[.val (.ref a1), .val (.ref a2), .val (.ref a3), .val (.ref a4)] [(.ref a1)])) _
    refine XS.aloadN X1.here hx rfl (hb hby d9_5) rfl rfl ?_
    show Steps p.tables e below (T1.setTop (mkF m 6 #[.val (.ref a1), .val (.ref a2), .val (.ref a3), .val (.ref a4)] [(.ref a2), (.ref a1)])) _
    refine st2 _ ?_
    show Steps p.tables e below (T2.setTop (mkF m 9 #[.val (.ref a1), .val (.ref a2), .val (.ref a3), .val (.ref a4)] [])) _
    refine XS.aloadN X2.here hx rfl (hb hby d9_9) rfl rfl ?_
    show Steps p.tables e below (T2.setTop (mkF m 10 #[.val (.ref a1), .val (.ref a2), .val (.ref a3), .val (.ref a4)] [(.ref a1)])) _
    refine XS.aloadN X2.here hx rfl (hb hby d9_10) rfl rfl ?_
    show Steps p.tables e below (T2.setTop (mkF m 11 #[.val (.ref a1), .val (.ref a2), .val (.ref a3), .val (.ref a4)] [(.ref a3), (.ref a1)])) _
    refine st3 _ ?_
    show Steps p.tables e below (T3.setTop (mkF m 14 #[.val (.ref a1), .val (.ref a2), .val (.ref a3), .val (.ref a4)] [])) _
    refine XS.aloadN X3.here hx rfl (hb hby d9_14) rfl rfl ?_
    show Steps p.tables e below (T3.setTop (mkF m 15 #[.val (.ref a1), .val (.ref a2), .val (.ref a3), .val (.ref a4)] [(.ref a1)])) _
    refine XS.aloadN X3.here hx rfl (hb hby d9_15) rfl rfl ?_
    show Steps p.tables e below (T3.setTop (mkF m 16 #[.val (.ref a1), .val (.ref a2), .val (.ref a3), .val (.ref a4)] [(.ref a4), (.ref a1)])) _
    refine st4 _ ?_
    show Steps p.tables e below (T4.setTop (mkF m 19 #[.val (.ref a1), .val (.ref a2), .val (.ref a3), .val (.ref a4)] [])) _
    exact X4.returnOut hx Bd.returns (hb hby d9_19) hr
  · show Q_rm_cirrr Z a1 a2 a3 a4 h0 n0 _ T4.heap _
    rw [e4]
    exact ⟨rfl, N4, f18, f13, f15⟩
theorem pn_11 : plainName "com/example/poolwright/poolwright/Copy" = true := by first | (simp [plainName, overriddenIn]; done) | decide +kernel
theorem ef_rm_stn (m : MethodId) (x0 : Addr) : entryFrame m #[(.ref x0)] 1 = mkF m 0 #[.val (.ref x0)] [] := by first | (simp [entryFrame, mkF, argsToLocals, Value.category]; done) | rfl
def Q_rm_stn (Z : State) (a1 : Addr) (h0 : Heap) (n0 : Nat) (v : Option Value) (h : Heap) (L : List Loc) : Prop := v = some (.int (0 : Int32)) ∧ Fr n0 L ∧ h = h0
theorem d11_0 : decode prog_11_method_4_code 0 = .ok (.aload_n 0, 1) := by decide +kernel
theorem d11_1 : decode prog_11_method_4_code 1 = .ok (.getfield 13, 3) := by decide +kernel
theorem d11_4 : decode prog_11_method_4_code 4 = .ok (.ifnull 7, 3) := by decide +kernel
theorem d11_11 : decode prog_11_method_4_code 11 = .ok (.iconst 0, 1) := by decide +kernel
theorem d11_12 : decode prog_11_method_4_code 12 = .ok (.ireturn, 1) := by decide +kernel
set_option maxRecDepth 65536 in
set_option maxHeartbeats 40000000 in
theorem rm_stn (l : Launch) (Z : State) (a0 : Array Value) (hw : ∀ d ∈ tables_1, d.before a0 Z = true) (ws : List Jvm.Cond) (a1 : Addr) (h0 : Heap) (n0 : Nat) (Z0 : n0 ≤ h0.size) (F_d_a1 : Fld Z h0 a1 "com/example/poolwright/poolwright/Copy" "destination" "Ljava/lang/String;" .null) :
    MetFree l (⟨"com/example/poolwright/poolwright/Copy", "starts", "()Z"⟩ : MethodName) (head1 (Jvm.Cond.code (⟨"com/example/poolwright/poolwright/Copy", "starts", "()Z"⟩ : MethodName) prog_11_method_4_code 1 (some .boolean) :: ws) ({ frames := 0, cells := 0, slots := 0, locals := 0 } : Room)) (fun a U => a = #[(.ref a1)] ∧ Z.Warmed39 U.vm ∧ U.heap = h0) (fun _ _ _ _ _ => True) (fun _ U o U' => ∃ v L, o = .returned v ∧ Q_rm_stn Z a1 h0 n0 v U'.heap L ∧ FrameEnd U o U' L ({ frames := 0, cells := 0, slots := 0, locals := 0 } : Room).cells ({ frames := 0, cells := 0, slots := 0, locals := 0 } : Room).slots) := by
  refine MetFree.of_bodySF (plainFor_of_name pn_11) hisR ?_
  intro p e s m args below meth c s₁ Bd hml0 hP hK
  obtain ⟨rfl, hZ, hh⟩ := hP
  have hx := Bd.exec
  have hby := Bd.bytes
  have hml : c.maxLocals = 1 := hml0
  have hown : s.vm.findClass "com/example/poolwright/poolwright/Copy" = some m.cls := findClass_of_methodNamed Bd.named
  have hnm := (name_of_methodNamed Bd.named Bd.method).1
  have X0 : Stand p l e ({ frames := 0, cells := 0, slots := 0, locals := 0 } : Room) s m #[(.ref a1)] below meth c s₁ [] 0 0 := Stand.of_body Bd
  have e0 : s₁.heap = h0 := by rw [← hh, Bd.state]; rfl
  have N0 := Fr.nil n0
  have pre0 : ∀ t, Steps p.tables e below (s₁.setTop (mkF m 0 #[.val (.ref a1)] [])) t → Steps p.tables e below (s₁.setTop (entryFrame m #[(.ref a1)] 1)) t := fun t kt => castTop (ef_rm_stn m a1) kt
  obtain ⟨T1, X1, e1, st1⟩ := getF X0 hx hZ hown (host := "") (Or.inl (hw _ (List.mem_of_getElem? (i := 54) rfl))) Via.refl e0 F_d_a1 (g := (mkF m 1 #[.val (.ref a1)] [(.ref a1)])) rfl rfl (hb hby d11_1)
  obtain ⟨fs, hr, hrun, hended, hW, hsame⟩ := X1.leave (v := some (.int (0 : Int32))) (fun h => by rw [Bd.returns] at h; cases h) (hlocks := Bd.notSynchronized)
  refine ⟨_, _, pre0 _ ?_, hrun, hended, _, _, rfl, ?_, ⟨_, rfl⟩, hW, hsame.mono (by decide) (by decide)⟩
  · show Steps p.tables e below (s₁.setTop (mkF m 0 #[.val (.ref a1)] [])) _
    refine XS.aloadN X0.here hx rfl (hb hby d11_0) rfl rfl ?_
    show Steps p.tables e below (s₁.setTop (mkF m 1 #[.val (.ref a1)] [(.ref a1)])) _
    refine st1 _ ?_
    show Steps p.tables e below (T1.setTop (mkF m 4 #[.val (.ref a1)] [.null])) _
    refine XS.ifnullYes X1.here hx rfl (pc0 := 4) (pc' := 11) rfl (hb hby d11_4) rfl (by decide) (by decide) ?_
    show Steps p.tables e below (T1.setTop (mkF m 11 #[.val (.ref a1)] [])) _
    refine XS.iconst X1.here hx rfl (hb hby d11_11) ?_
    show Steps p.tables e below (T1.setTop (mkF m 12 #[.val (.ref a1)] [(.int (0 : Int32))])) _
    exact retN X1 hx (t := .boolean) Bd.returns (by simp) (hb hby d11_12) hr
  · show Q_rm_stn Z a1 h0 n0 _ T1.heap _
    rw [e1]
    exact ⟨rfl, N0, rfl⟩
theorem ef_rm_str (m : MethodId) (x0 : Addr) : entryFrame m #[(.ref x0)] 1 = mkF m 0 #[.val (.ref x0)] [] := by first | (simp [entryFrame, mkF, argsToLocals, Value.category]; done) | rfl
def Q_rm_str (Z : State) (a1 : Addr) (dd : Addr) (h0 : Heap) (n0 : Nat) (v : Option Value) (h : Heap) (L : List Loc) : Prop := v = some (.int (1 : Int32)) ∧ Fr n0 L ∧ h = h0
theorem d11_7 : decode prog_11_method_4_code 7 = .ok (.iconst 1, 1) := by decide +kernel
theorem d11_8 : decode prog_11_method_4_code 8 = .ok (.goto 4, 3) := by decide +kernel
set_option maxRecDepth 65536 in
set_option maxHeartbeats 40000000 in
theorem rm_str (l : Launch) (Z : State) (a0 : Array Value) (hw : ∀ d ∈ tables_1, d.before a0 Z = true) (ws : List Jvm.Cond) (a1 : Addr) (dd : Addr) (h0 : Heap) (n0 : Nat) (Z0 : n0 ≤ h0.size) (F_d_a1 : Fld Z h0 a1 "com/example/poolwright/poolwright/Copy" "destination" "Ljava/lang/String;" (.ref dd)) :
    MetFree l (⟨"com/example/poolwright/poolwright/Copy", "starts", "()Z"⟩ : MethodName) (head1 (Jvm.Cond.code (⟨"com/example/poolwright/poolwright/Copy", "starts", "()Z"⟩ : MethodName) prog_11_method_4_code 1 (some .boolean) :: ws) ({ frames := 0, cells := 0, slots := 0, locals := 0 } : Room)) (fun a U => a = #[(.ref a1)] ∧ Z.Warmed39 U.vm ∧ U.heap = h0) (fun _ _ _ _ _ => True) (fun _ U o U' => ∃ v L, o = .returned v ∧ Q_rm_str Z a1 dd h0 n0 v U'.heap L ∧ FrameEnd U o U' L ({ frames := 0, cells := 0, slots := 0, locals := 0 } : Room).cells ({ frames := 0, cells := 0, slots := 0, locals := 0 } : Room).slots) := by
  refine MetFree.of_bodySF (plainFor_of_name pn_11) hisR ?_
  intro p e s m args below meth c s₁ Bd hml0 hP hK
  obtain ⟨rfl, hZ, hh⟩ := hP
  have hx := Bd.exec
  have hby := Bd.bytes
  have hml : c.maxLocals = 1 := hml0
  have hown : s.vm.findClass "com/example/poolwright/poolwright/Copy" = some m.cls := findClass_of_methodNamed Bd.named
  have hnm := (name_of_methodNamed Bd.named Bd.method).1
  have X0 : Stand p l e ({ frames := 0, cells := 0, slots := 0, locals := 0 } : Room) s m #[(.ref a1)] below meth c s₁ [] 0 0 := Stand.of_body Bd
  have e0 : s₁.heap = h0 := by rw [← hh, Bd.state]; rfl
  have N0 := Fr.nil n0
  have pre0 : ∀ t, Steps p.tables e below (s₁.setTop (mkF m 0 #[.val (.ref a1)] [])) t → Steps p.tables e below (s₁.setTop (entryFrame m #[(.ref a1)] 1)) t := fun t kt => castTop (ef_rm_str m a1) kt
  obtain ⟨T1, X1, e1, st1⟩ := getF X0 hx hZ hown (host := "") (Or.inl (hw _ (List.mem_of_getElem? (i := 54) rfl))) Via.refl e0 F_d_a1 (g := (mkF m 1 #[.val (.ref a1)] [(.ref a1)])) rfl rfl (hb hby d11_1)
  obtain ⟨fs, hr, hrun, hended, hW, hsame⟩ := X1.leave (v := some (.int (1 : Int32))) (fun h => by rw [Bd.returns] at h; cases h) (hlocks := Bd.notSynchronized)
  refine ⟨_, _, pre0 _ ?_, hrun, hended, _, _, rfl, ?_, ⟨_, rfl⟩, hW, hsame.mono (by decide) (by decide)⟩
  · show Steps p.tables e below (s₁.setTop (mkF m 0 #[.val (.ref a1)] [])) _
    refine XS.aloadN X0.here hx rfl (hb hby d11_0) rfl rfl ?_
    show Steps p.tables e below (s₁.setTop (mkF m 1 #[.val (.ref a1)] [(.ref a1)])) _
    refine st1 _ ?_
    show Steps p.tables e below (T1.setTop (mkF m 4 #[.val (.ref a1)] [(.ref dd)])) _
    refine XS.ifnullNo X1.here hx rfl (hb hby d11_4) rfl ?_
    show Steps p.tables e below (T1.setTop (mkF m 7 #[.val (.ref a1)] [])) _
    refine XS.iconst X1.here hx rfl (hb hby d11_7) ?_
    show Steps p.tables e below (T1.setTop (mkF m 8 #[.val (.ref a1)] [(.int (1 : Int32))])) _
    refine XS.goto X1.here hx rfl (pc0 := 8) (pc' := 12) rfl (hb hby d11_8) (by decide) (by decide) ?_
    show Steps p.tables e below (T1.setTop (mkF m 12 #[.val (.ref a1)] [(.int (1 : Int32))])) _
    exact retN X1 hx (t := .boolean) Bd.returns (by simp) (hb hby d11_12) hr
  · show Q_rm_str Z a1 dd h0 n0 _ T1.heap _
    rw [e1]
    exact ⟨rfl, N0, rfl⟩
theorem pn_12 : plainName "com/example/poolwright/poolwright/Copy" = true := by first | (simp [plainName, overriddenIn]; done) | decide +kernel
theorem ef_rm_sdn (m : MethodId) (x1 : Addr) : entryFrame m #[.null, (.ref x1)] 2 = mkF m 0 #[.val .null, .val (.ref x1)] [] := by first | (simp [entryFrame, mkF, argsToLocals, Value.category]; done) | rfl
def Q_rm_sdn (Z : State) (a2 : Addr) (h0 : Heap) (n0 : Nat) (v : Option Value) (h : Heap) (L : List Loc) : Prop := ∃ b : Addr, v = some (.ref b) ∧ Fr n0 L ∧ Keep h0 h [] ∧ Exa Z h b "com/example/poolwright/poolwright/Copy" ∧ Fld Z h b "com/example/poolwright/poolwright/Copy" "destination" "Ljava/lang/String;" (.ref a2)
theorem d12_0 : decode prog_11_method_2_code 0 = .ok (.new 8, 3) := by decide +kernel
theorem d12_3 : decode prog_11_method_2_code 3 = .ok (.dup, 1) := by decide +kernel
theorem d12_4 : decode prog_11_method_2_code 4 = .ok (.aload_n 0, 1) := by decide +kernel
theorem d12_5 : decode prog_11_method_2_code 5 = .ok (.aload_n 1, 1) := by decide +kernel
theorem d12_6 : decode prog_11_method_2_code 6 = .ok (.aconst_null, 1) := by decide +kernel
theorem pd__Ljava_lang_String_Ljava_lang_String_Lcom_example_poolwright_8324 : parseMethodDescriptor "(Ljava/lang/String;Ljava/lang/String;Lcom/example/poolwright/poolwright/Copy$Refusal;)V" = some ⟨[(.object "java/lang/String"), (.object "java/lang/String"), (.object "com/example/poolwright/poolwright/Copy$Refusal")], none⟩ := by decide +kernel
theorem d12_7 : decode prog_11_method_2_code 7 = .ok (.invokespecial 20, 3) := by decide +kernel
theorem d12_10 : decode prog_11_method_2_code 10 = .ok (.areturn, 1) := by decide +kernel
set_option maxRecDepth 65536 in
set_option maxHeartbeats 40000000 in
theorem rm_sdn (l : Launch) (Z : State) (a0 : Array Value) (hw : ∀ d ∈ tables_1, d.before a0 Z = true) (ws : List Jvm.Cond) (a2 : Addr) (h0 : Heap) (n0 : Nat) (Z0 : n0 ≤ h0.size)  :
    MetFree l (⟨"com/example/poolwright/poolwright/Copy", "started", "(Ljava/lang/String;Ljava/lang/String;)Lcom/example/poolwright/poolwright/Copy;"⟩ : MethodName) (head1 (Jvm.Cond.code (⟨"com/example/poolwright/poolwright/Copy", "started", "(Ljava/lang/String;Ljava/lang/String;)Lcom/example/poolwright/poolwright/Copy;"⟩ : MethodName) prog_11_method_2_code 2 (some (.object "com/example/poolwright/poolwright/Copy")) :: ws) ({ frames := 3, cells := 1, slots := 3, locals := 40 } : Room)) (fun a U => a = #[.null, (.ref a2)] ∧ Z.Warmed39 U.vm ∧ U.heap = h0) (fun _ _ _ _ _ => True) (fun _ U o U' => ∃ v L, o = .returned v ∧ Q_rm_sdn Z a2 h0 n0 v U'.heap L ∧ FrameEnd U o U' L ({ frames := 3, cells := 1, slots := 3, locals := 40 } : Room).cells ({ frames := 3, cells := 1, slots := 3, locals := 40 } : Room).slots) := by
  refine MetFree.of_bodySF (plainFor_of_name pn_12) hisR ?_
  intro p e s m args below meth c s₁ Bd hml0 hP hK
  obtain ⟨rfl, hZ, hh⟩ := hP
  have hx := Bd.exec
  have hby := Bd.bytes
  have hml : c.maxLocals = 2 := hml0
  have hown : s.vm.findClass "com/example/poolwright/poolwright/Copy" = some m.cls := findClass_of_methodNamed Bd.named
  have hnm := (name_of_methodNamed Bd.named Bd.method).1
  have X0 : Stand p l e ({ frames := 3, cells := 1, slots := 3, locals := 40 } : Room) s m #[.null, (.ref a2)] below meth c s₁ [] 0 0 := Stand.of_body Bd
  have e0 : s₁.heap = h0 := by rw [← hh, Bd.state]; rfl
  have N0 := Fr.nil n0
  have pre0 : ∀ t, Steps p.tables e below (s₁.setTop (mkF m 0 #[.val .null, .val (.ref a2)] [])) t → Steps p.tables e below (s₁.setTop (entryFrame m #[.null, (.ref a2)] 2)) t := fun t kt => castTop (ef_rm_sdn m a2) kt
  obtain ⟨T1, h1, X1, e1, E1, A1, D1, -, st1⟩ := newO X0 hx hZ hown (hw _ (List.mem_of_getElem? (i := 66) rfl)) (hw _ (List.mem_of_getElem? (i := 41) rfl)) (hw _ (List.mem_of_getElem? (i := 42) rfl)) e0 (g := (mkF m 0 #[.val .null, .val (.ref a2)] [])) rfl (hb hby d12_0) (by decide) (by decide)
  obtain ⟨b1, g1⟩ : ∃ z, z = h0.size := ⟨_, rfl⟩
  rw [← g1] at A1 D1 st1
  have sz_b1 : h0.size ≤ b1 := Nat.le_trans (Keep.refl h0 []).1 (Nat.le_of_eq g1.symm)
  have f1 : Keep h0 h1 [] := (Keep.refl h0 []).ext E1
  have g_b1 : n0 ≤ b1 := Nat.le_trans Z0 (Nat.le_of_eq g1.symm)
  have Z1 : n0 ≤ h1.size := Nat.le_trans Z0 E1.1
  have F_source_b1 : Fld Z h1 b1 "com/example/poolwright/poolwright/Copy" "source" "Ljava/lang/String;" .null := D1 (Or.inr (hw _ (List.mem_of_getElem? (i := 53) rfl))) (ty := (.object "java/lang/String")) (by decide)
  have F_destination_b1 : Fld Z h1 b1 "com/example/poolwright/poolwright/Copy" "destination" "Ljava/lang/String;" .null := D1 (Or.inr (hw _ (List.mem_of_getElem? (i := 55) rfl))) (ty := (.object "java/lang/String")) (by decide)
  have F_refusal_b1 : Fld Z h1 b1 "com/example/poolwright/poolwright/Copy" "refusal" "Lcom/example/poolwright/poolwright/Copy$Refusal;" .null := D1 (Or.inr (hw _ (List.mem_of_getElem? (i := 57) rfl))) (ty := (.object "com/example/poolwright/poolwright/Copy$Refusal")) (by decide)
  obtain ⟨_, _, ⟨T2, L2, k2, n2⟩, -, X2, ⟨Lc2, hQ2, l2, y2, z2⟩, st2⟩ := X1.specialBack hx (y := (⟨"com/example/poolwright/poolwright/Copy", "<init>", "(Ljava/lang/String;Ljava/lang/String;Lcom/example/poolwright/poolwright/Copy$Refusal;)V"⟩ : MethodName)) rfl hown (mvT hZ (hw _ (List.mem_of_getElem? (i := 67) rfl))) (mvT hZ (hw _ (List.mem_of_getElem? (i := 44) rfl))) (mvT hZ (hw _ (List.mem_of_getElem? (i := 45) rfl))) (by decide) (backOf (W := 1) (rm_cinrn l Z a0 hw [] b1 a2 h1 n0 Z1 F_source_b1 F_destination_b1 F_refusal_b1 A1 g_b1) hZ (hw _ (List.mem_of_getElem? (i := 45) rfl)) (hw _ (List.mem_of_getElem? (i := 42) rfl)) (by decide) (by decide)) (g := (mkF m 7 #[.val .null, .val (.ref a2)] [.null, (.ref a2), .null, (.ref b1), (.ref b1)])) rfl (by rw [hml]; rfl) (Steps.refl _) (a := b1) (argsL := [.null, (.ref a2), .null]) (rest := [(.ref b1)]) (lenOf pd__Ljava_lang_String_Ljava_lang_String_Lcom_example_poolwright_8324 rfl) rfl (by show 2 * 0 + _ ≤ _; exact Nat.le_of_eq rfl) (hb hby d12_7) (fun _ _ => ⟨rfl, e1, (by decide : 1 + 0 ≤ _), (by decide : 3 + 0 ≤ _)⟩)
  dsimp only [Pt.U, Pt.locs, Pt.cells, Pt.slots] at X2 l2 y2 z2 st2 hQ2
  subst l2 y2 z2
  obtain ⟨rfl, N2q, K2, fk2_0, fk2_1⟩ := hQ2
  have f2 : Keep h0 T2.heap [] := f1.trans K2 (fun x hx => by cases List.mem_singleton.mp hx; exact Or.inr sz_b1)
  have f3 : n0 ≤ b1 := g_b1
  have Z2 : n0 ≤ T2.heap.size := Nat.le_trans Z1 K2.1
  have N2 := Fr.app N0 N2q
  obtain ⟨fs, hr, hrun, hended, hW, hsame⟩ := X2.leave (v := some (.ref b1)) (fun h => by rw [Bd.returns] at h; cases h) (hlocks := Bd.notSynchronized)
  refine ⟨_, _, pre0 _ ?_, hrun, hended, _, _, rfl, ?_, ⟨_, rfl⟩, hW, hsame.mono (by decide) (by decide)⟩
  · show Steps p.tables e below (s₁.setTop (mkF m 0 #[.val .null, .val (.ref a2)] [])) _
    refine st1 _ ?_
    show Steps p.tables e below (T1.setTop (mkF m 3 #[.val .null, .val (.ref a2)] [(.ref b1)])) _
    refine XS.dup X1.here hx rfl (hb hby d12_3) rfl rfl ?_
    show Steps p.tables e below (T1.setTop (mkF m 4 #[.val .null, .val (.ref a2)] [(.ref b1), (.ref b1)])) _
    refine XS.aloadN X1.here hx rfl (hb hby d12_4) rfl rfl ?_
    show Steps p.tables e below (T1.setTop (mkF m 5 #[.val .null, .val (.ref a2)] [.null, (.ref b1), (.ref b1)])) _
    refine XS.aloadN X1.here hx rfl (hb hby d12_5) rfl rfl ?_
    show Steps p.tables e below (T1.setTop (mkF m 6 #[.val .null, .val (.ref a2)] [(.ref a2), .null, (.ref b1), (.ref b1)])) _
    refine XS.aconstNull X1.here hx rfl (hb hby d12_6) ?_
    show Steps p.tables e below (T1.setTop (mkF m 7 #[.val .null, .val (.ref a2)] [.null, (.ref a2), .null, (.ref b1), (.ref b1)])) _
    refine st2.trans ?_
    show Steps p.tables e below (T2.setTop (mkF m 10 #[.val .null, .val (.ref a2)] [(.ref b1)])) _
    exact X2.areturnOut hx rfl Bd.returns rfl (hb hby d12_10) hr
  · show Q_rm_sdn Z a2 h0 n0 _ T2.heap _
    exact ⟨_, rfl, N2, f2, fk2_0, fk2_1⟩
theorem ef_rm_sdr (m : MethodId) (x0 : Addr) (x1 : Addr) : entryFrame m #[(.ref x0), (.ref x1)] 2 = mkF m 0 #[.val (.ref x0), .val (.ref x1)] [] := by first | (simp [entryFrame, mkF, argsToLocals, Value.category]; done) | rfl
def Q_rm_sdr (Z : State) (a1 : Addr) (a2 : Addr) (h0 : Heap) (n0 : Nat) (v : Option Value) (h : Heap) (L : List Loc) : Prop := ∃ b : Addr, v = some (.ref b) ∧ Fr n0 L ∧ Keep h0 h [] ∧ Exa Z h b "com/example/poolwright/poolwright/Copy" ∧ Fld Z h b "com/example/poolwright/poolwright/Copy" "destination" "Ljava/lang/String;" (.ref a2)
set_option maxRecDepth 65536 in
set_option maxHeartbeats 40000000 in
theorem rm_sdr (l : Launch) (Z : State) (a0 : Array Value) (hw : ∀ d ∈ tables_1, d.before a0 Z = true) (ws : List Jvm.Cond) (a1 : Addr) (a2 : Addr) (h0 : Heap) (n0 : Nat) (Z0 : n0 ≤ h0.size)  :
    MetFree l (⟨"com/example/poolwright/poolwright/Copy", "started", "(Ljava/lang/String;Ljava/lang/String;)Lcom/example/poolwright/poolwright/Copy;"⟩ : MethodName) (head1 (Jvm.Cond.code (⟨"com/example/poolwright/poolwright/Copy", "started", "(Ljava/lang/String;Ljava/lang/String;)Lcom/example/poolwright/poolwright/Copy;"⟩ : MethodName) prog_11_method_2_code 2 (some (.object "com/example/poolwright/poolwright/Copy")) :: ws) ({ frames := 3, cells := 1, slots := 3, locals := 40 } : Room)) (fun a U => a = #[(.ref a1), (.ref a2)] ∧ Z.Warmed39 U.vm ∧ U.heap = h0) (fun _ _ _ _ _ => True) (fun _ U o U' => ∃ v L, o = .returned v ∧ Q_rm_sdr Z a1 a2 h0 n0 v U'.heap L ∧ FrameEnd U o U' L ({ frames := 3, cells := 1, slots := 3, locals := 40 } : Room).cells ({ frames := 3, cells := 1, slots := 3, locals := 40 } : Room).slots) := by
  refine MetFree.of_bodySF (plainFor_of_name pn_12) hisR ?_
  intro p e s m args below meth c s₁ Bd hml0 hP hK
  obtain ⟨rfl, hZ, hh⟩ := hP
  have hx := Bd.exec
  have hby := Bd.bytes
  have hml : c.maxLocals = 2 := hml0
  have hown : s.vm.findClass "com/example/poolwright/poolwright/Copy" = some m.cls := findClass_of_methodNamed Bd.named
  have hnm := (name_of_methodNamed Bd.named Bd.method).1
  have X0 : Stand p l e ({ frames := 3, cells := 1, slots := 3, locals := 40 } : Room) s m #[(.ref a1), (.ref a2)] below meth c s₁ [] 0 0 := Stand.of_body Bd
  have e0 : s₁.heap = h0 := by rw [← hh, Bd.state]; rfl
  have N0 := Fr.nil n0
  have pre0 : ∀ t, Steps p.tables e below (s₁.setTop (mkF m 0 #[.val (.ref a1), .val (.ref a2)] [])) t → Steps p.tables e below (s₁.setTop (entryFrame m #[(.ref a1), (.ref a2)] 2)) t := fun t kt => castTop (ef_rm_sdr m a1 a2) kt
  obtain ⟨T1, h1, X1, e1, E1, A1, D1, -, st1⟩ := newO X0 hx hZ hown (hw _ (List.mem_of_getElem? (i := 66) rfl)) (hw _ (List.mem_of_getElem? (i := 41) rfl)) (hw _ (List.mem_of_getElem? (i := 42) rfl)) e0 (g := (mkF m 0 #[.val (.ref a1), .val (.ref a2)] [])) rfl (hb hby d12_0) (by decide) (by decide)
  obtain ⟨b1, g1⟩ : ∃ z, z = h0.size := ⟨_, rfl⟩
  rw [← g1] at A1 D1 st1
  have sz_b1 : h0.size ≤ b1 := Nat.le_trans (Keep.refl h0 []).1 (Nat.le_of_eq g1.symm)
  have f1 : Keep h0 h1 [] := (Keep.refl h0 []).ext E1
  have g_b1 : n0 ≤ b1 := Nat.le_trans Z0 (Nat.le_of_eq g1.symm)
  have Z1 : n0 ≤ h1.size := Nat.le_trans Z0 E1.1
  have F_source_b1 : Fld Z h1 b1 "com/example/poolwright/poolwright/Copy" "source" "Ljava/lang/String;" .null := D1 (Or.inr (hw _ (List.mem_of_getElem? (i := 53) rfl))) (ty := (.object "java/lang/String")) (by decide)
  have F_destination_b1 : Fld Z h1 b1 "com/example/poolwright/poolwright/Copy" "destination" "Ljava/lang/String;" .null := D1 (Or.inr (hw _ (List.mem_of_getElem? (i := 55) rfl))) (ty := (.object "java/lang/String")) (by decide)
  have F_refusal_b1 : Fld Z h1 b1 "com/example/poolwright/poolwright/Copy" "refusal" "Lcom/example/poolwright/poolwright/Copy$Refusal;" .null := D1 (Or.inr (hw _ (List.mem_of_getElem? (i := 57) rfl))) (ty := (.object "com/example/poolwright/poolwright/Copy$Refusal")) (by decide)
  obtain ⟨_, _, ⟨T2, L2, k2, n2⟩, -, X2, ⟨Lc2, hQ2, l2, y2, z2⟩, st2⟩ := X1.specialBack hx (y := (⟨"com/example/poolwright/poolwright/Copy", "<init>", "(Ljava/lang/String;Ljava/lang/String;Lcom/example/poolwright/poolwright/Copy$Refusal;)V"⟩ : MethodName)) rfl hown (mvT hZ (hw _ (List.mem_of_getElem? (i := 67) rfl))) (mvT hZ (hw _ (List.mem_of_getElem? (i := 44) rfl))) (mvT hZ (hw _ (List.mem_of_getElem? (i := 45) rfl))) (by decide) (backOf (W := 1) (rm_cirrn l Z a0 hw [] b1 a1 a2 h1 n0 Z1 F_source_b1 F_destination_b1 F_refusal_b1 A1 g_b1) hZ (hw _ (List.mem_of_getElem? (i := 45) rfl)) (hw _ (List.mem_of_getElem? (i := 42) rfl)) (by decide) (by decide)) (g := (mkF m 7 #[.val (.ref a1), .val (.ref a2)] [.null, (.ref a2), (.ref a1), (.ref b1), (.ref b1)])) rfl (by rw [hml]; rfl) (Steps.refl _) (a := b1) (argsL := [(.ref a1), (.ref a2), .null]) (rest := [(.ref b1)]) (lenOf pd__Ljava_lang_String_Ljava_lang_String_Lcom_example_poolwright_8324 rfl) rfl (by show 2 * 0 + _ ≤ _; exact Nat.le_of_eq rfl) (hb hby d12_7) (fun _ _ => ⟨rfl, e1, (by decide : 1 + 0 ≤ _), (by decide : 3 + 0 ≤ _)⟩)
  dsimp only [Pt.U, Pt.locs, Pt.cells, Pt.slots] at X2 l2 y2 z2 st2 hQ2
  subst l2 y2 z2
  obtain ⟨rfl, N2q, K2, fk2_0, fk2_1⟩ := hQ2
  have f2 : Keep h0 T2.heap [] := f1.trans K2 (fun x hx => by cases List.mem_singleton.mp hx; exact Or.inr sz_b1)
  have f3 : n0 ≤ b1 := g_b1
  have Z2 : n0 ≤ T2.heap.size := Nat.le_trans Z1 K2.1
  have N2 := Fr.app N0 N2q
  obtain ⟨fs, hr, hrun, hended, hW, hsame⟩ := X2.leave (v := some (.ref b1)) (fun h => by rw [Bd.returns] at h; cases h) (hlocks := Bd.notSynchronized)
  refine ⟨_, _, pre0 _ ?_, hrun, hended, _, _, rfl, ?_, ⟨_, rfl⟩, hW, hsame.mono (by decide) (by decide)⟩
  · show Steps p.tables e below (s₁.setTop (mkF m 0 #[.val (.ref a1), .val (.ref a2)] [])) _
    refine st1 _ ?_
    show Steps p.tables e below (T1.setTop (mkF m 3 #[.val (.ref a1), .val (.ref a2)] [(.ref b1)])) _
    refine XS.dup X1.here hx rfl (hb hby d12_3) rfl rfl ?_
    show Steps p.tables e below (T1.setTop (mkF m 4 #[.val (.ref a1), .val (.ref a2)] [(.ref b1), (.ref b1)])) _
    refine XS.aloadN X1.here hx rfl (hb hby d12_4) rfl rfl ?_
    show Steps p.tables e below (T1.setTop (mkF m 5 #[.val (.ref a1), .val (.ref a2)] [(.ref a1), (.ref b1), (.ref b1)])) _
    refine XS.aloadN X1.here hx rfl (hb hby d12_5) rfl rfl ?_
    show Steps p.tables e below (T1.setTop (mkF m 6 #[.val (.ref a1), .val (.ref a2)] [(.ref a2), (.ref a1), (.ref b1), (.ref b1)])) _
    refine XS.aconstNull X1.here hx rfl (hb hby d12_6) ?_
    show Steps p.tables e below (T1.setTop (mkF m 7 #[.val (.ref a1), .val (.ref a2)] [.null, (.ref a2), (.ref a1), (.ref b1), (.ref b1)])) _
    refine st2.trans ?_
    show Steps p.tables e below (T2.setTop (mkF m 10 #[.val (.ref a1), .val (.ref a2)] [(.ref b1)])) _
    exact X2.areturnOut hx rfl Bd.returns rfl (hb hby d12_10) hr
  · show Q_rm_sdr Z a1 a2 h0 n0 _ T2.heap _
    exact ⟨_, rfl, N2, f2, fk2_0, fk2_1⟩
theorem pn_13 : plainName "com/example/poolwright/poolwright/Copy" = true := by first | (simp [plainName, overriddenIn]; done) | decide +kernel
theorem ef_rm_rdnn (m : MethodId)  : entryFrame m #[.null, .null] 2 = mkF m 0 #[.val .null, .val .null] [] := by first | (simp [entryFrame, mkF, argsToLocals, Value.category]; done) | rfl
def Q_rm_rdnn (Z : State)  (h0 : Heap) (n0 : Nat) (v : Option Value) (h : Heap) (L : List Loc) : Prop := ∃ b : Addr, v = some (.ref b) ∧ Fr n0 L ∧ Keep h0 h [] ∧ Exa Z h b "com/example/poolwright/poolwright/Copy" ∧ Fld Z h b "com/example/poolwright/poolwright/Copy" "destination" "Ljava/lang/String;" .null
theorem d13_0 : decode prog_11_method_3_code 0 = .ok (.new 8, 3) := by decide +kernel
theorem d13_3 : decode prog_11_method_3_code 3 = .ok (.dup, 1) := by decide +kernel
theorem d13_4 : decode prog_11_method_3_code 4 = .ok (.aload_n 0, 1) := by decide +kernel
theorem d13_5 : decode prog_11_method_3_code 5 = .ok (.aconst_null, 1) := by decide +kernel
theorem d13_6 : decode prog_11_method_3_code 6 = .ok (.aload_n 1, 1) := by decide +kernel
theorem d13_7 : decode prog_11_method_3_code 7 = .ok (.invokespecial 20, 3) := by decide +kernel
theorem d13_10 : decode prog_11_method_3_code 10 = .ok (.areturn, 1) := by decide +kernel
set_option maxRecDepth 65536 in
set_option maxHeartbeats 40000000 in
theorem rm_rdnn (l : Launch) (Z : State) (a0 : Array Value) (hw : ∀ d ∈ tables_1, d.before a0 Z = true) (ws : List Jvm.Cond)  (h0 : Heap) (n0 : Nat) (Z0 : n0 ≤ h0.size)  :
    MetFree l (⟨"com/example/poolwright/poolwright/Copy", "refused", "(Ljava/lang/String;Lcom/example/poolwright/poolwright/Copy$Refusal;)Lcom/example/poolwright/poolwright/Copy;"⟩ : MethodName) (head1 (Jvm.Cond.code (⟨"com/example/poolwright/poolwright/Copy", "refused", "(Ljava/lang/String;Lcom/example/poolwright/poolwright/Copy$Refusal;)Lcom/example/poolwright/poolwright/Copy;"⟩ : MethodName) prog_11_method_3_code 2 (some (.object "com/example/poolwright/poolwright/Copy")) :: ws) ({ frames := 3, cells := 1, slots := 3, locals := 40 } : Room)) (fun a U => a = #[.null, .null] ∧ Z.Warmed39 U.vm ∧ U.heap = h0) (fun _ _ _ _ _ => True) (fun _ U o U' => ∃ v L, o = .returned v ∧ Q_rm_rdnn Z  h0 n0 v U'.heap L ∧ FrameEnd U o U' L ({ frames := 3, cells := 1, slots := 3, locals := 40 } : Room).cells ({ frames := 3, cells := 1, slots := 3, locals := 40 } : Room).slots) := by
  refine MetFree.of_bodySF (plainFor_of_name pn_13) hisR ?_
  intro p e s m args below meth c s₁ Bd hml0 hP hK
  obtain ⟨rfl, hZ, hh⟩ := hP
  have hx := Bd.exec
  have hby := Bd.bytes
  have hml : c.maxLocals = 2 := hml0
  have hown : s.vm.findClass "com/example/poolwright/poolwright/Copy" = some m.cls := findClass_of_methodNamed Bd.named
  have hnm := (name_of_methodNamed Bd.named Bd.method).1
  have X0 : Stand p l e ({ frames := 3, cells := 1, slots := 3, locals := 40 } : Room) s m #[.null, .null] below meth c s₁ [] 0 0 := Stand.of_body Bd
  have e0 : s₁.heap = h0 := by rw [← hh, Bd.state]; rfl
  have N0 := Fr.nil n0
  have pre0 : ∀ t, Steps p.tables e below (s₁.setTop (mkF m 0 #[.val .null, .val .null] [])) t → Steps p.tables e below (s₁.setTop (entryFrame m #[.null, .null] 2)) t := fun t kt => castTop (ef_rm_rdnn m ) kt
  obtain ⟨T1, h1, X1, e1, E1, A1, D1, -, st1⟩ := newO X0 hx hZ hown (hw _ (List.mem_of_getElem? (i := 66) rfl)) (hw _ (List.mem_of_getElem? (i := 41) rfl)) (hw _ (List.mem_of_getElem? (i := 42) rfl)) e0 (g := (mkF m 0 #[.val .null, .val .null] [])) rfl (hb hby d13_0) (by decide) (by decide)
  obtain ⟨b1, g1⟩ : ∃ z, z = h0.size := ⟨_, rfl⟩
  rw [← g1] at A1 D1 st1
  have sz_b1 : h0.size ≤ b1 := Nat.le_trans (Keep.refl h0 []).1 (Nat.le_of_eq g1.symm)
  have f1 : Keep h0 h1 [] := (Keep.refl h0 []).ext E1
  have g_b1 : n0 ≤ b1 := Nat.le_trans Z0 (Nat.le_of_eq g1.symm)
  have Z1 : n0 ≤ h1.size := Nat.le_trans Z0 E1.1
  have F_source_b1 : Fld Z h1 b1 "com/example/poolwright/poolwright/Copy" "source" "Ljava/lang/String;" .null := D1 (Or.inr (hw _ (List.mem_of_getElem? (i := 53) rfl))) (ty := (.object "java/lang/String")) (by decide)
  have F_destination_b1 : Fld Z h1 b1 "com/example/poolwright/poolwright/Copy" "destination" "Ljava/lang/String;" .null := D1 (Or.inr (hw _ (List.mem_of_getElem? (i := 55) rfl))) (ty := (.object "java/lang/String")) (by decide)
  have F_refusal_b1 : Fld Z h1 b1 "com/example/poolwright/poolwright/Copy" "refusal" "Lcom/example/poolwright/poolwright/Copy$Refusal;" .null := D1 (Or.inr (hw _ (List.mem_of_getElem? (i := 57) rfl))) (ty := (.object "com/example/poolwright/poolwright/Copy$Refusal")) (by decide)
  obtain ⟨_, _, ⟨T2, L2, k2, n2⟩, -, X2, ⟨Lc2, hQ2, l2, y2, z2⟩, st2⟩ := X1.specialBack hx (y := (⟨"com/example/poolwright/poolwright/Copy", "<init>", "(Ljava/lang/String;Ljava/lang/String;Lcom/example/poolwright/poolwright/Copy$Refusal;)V"⟩ : MethodName)) rfl hown (mvT hZ (hw _ (List.mem_of_getElem? (i := 67) rfl))) (mvT hZ (hw _ (List.mem_of_getElem? (i := 44) rfl))) (mvT hZ (hw _ (List.mem_of_getElem? (i := 45) rfl))) (by decide) (backOf (W := 1) (rm_cinnn l Z a0 hw [] b1 h1 n0 Z1 F_source_b1 F_destination_b1 F_refusal_b1 A1 g_b1) hZ (hw _ (List.mem_of_getElem? (i := 45) rfl)) (hw _ (List.mem_of_getElem? (i := 42) rfl)) (by decide) (by decide)) (g := (mkF m 7 #[.val .null, .val .null] [.null, .null, .null, (.ref b1), (.ref b1)])) rfl (by rw [hml]; rfl) (Steps.refl _) (a := b1) (argsL := [.null, .null, .null]) (rest := [(.ref b1)]) (lenOf pd__Ljava_lang_String_Ljava_lang_String_Lcom_example_poolwright_8324 rfl) rfl (by show 2 * 0 + _ ≤ _; exact Nat.le_of_eq rfl) (hb hby d13_7) (fun _ _ => ⟨rfl, e1, (by decide : 1 + 0 ≤ _), (by decide : 3 + 0 ≤ _)⟩)
  dsimp only [Pt.U, Pt.locs, Pt.cells, Pt.slots] at X2 l2 y2 z2 st2 hQ2
  subst l2 y2 z2
  obtain ⟨rfl, N2q, K2, fk2_0, fk2_1⟩ := hQ2
  have f2 : Keep h0 T2.heap [] := f1.trans K2 (fun x hx => by cases List.mem_singleton.mp hx; exact Or.inr sz_b1)
  have f3 : n0 ≤ b1 := g_b1
  have Z2 : n0 ≤ T2.heap.size := Nat.le_trans Z1 K2.1
  have N2 := Fr.app N0 N2q
  obtain ⟨fs, hr, hrun, hended, hW, hsame⟩ := X2.leave (v := some (.ref b1)) (fun h => by rw [Bd.returns] at h; cases h) (hlocks := Bd.notSynchronized)
  refine ⟨_, _, pre0 _ ?_, hrun, hended, _, _, rfl, ?_, ⟨_, rfl⟩, hW, hsame.mono (by decide) (by decide)⟩
  · show Steps p.tables e below (s₁.setTop (mkF m 0 #[.val .null, .val .null] [])) _
    refine st1 _ ?_
    show Steps p.tables e below (T1.setTop (mkF m 3 #[.val .null, .val .null] [(.ref b1)])) _
    refine XS.dup X1.here hx rfl (hb hby d13_3) rfl rfl ?_
    show Steps p.tables e below (T1.setTop (mkF m 4 #[.val .null, .val .null] [(.ref b1), (.ref b1)])) _
    refine XS.aloadN X1.here hx rfl (hb hby d13_4) rfl rfl ?_
    show Steps p.tables e below (T1.setTop (mkF m 5 #[.val .null, .val .null] [.null, (.ref b1), (.ref b1)])) _
    refine XS.aconstNull X1.here hx rfl (hb hby d13_5) ?_
    show Steps p.tables e below (T1.setTop (mkF m 6 #[.val .null, .val .null] [.null, .null, (.ref b1), (.ref b1)])) _
    refine XS.aloadN X1.here hx rfl (hb hby d13_6) rfl rfl ?_
    show Steps p.tables e below (T1.setTop (mkF m 7 #[.val .null, .val .null] [.null, .null, .null, (.ref b1), (.ref b1)])) _
    refine st2.trans ?_
    show Steps p.tables e below (T2.setTop (mkF m 10 #[.val .null, .val .null] [(.ref b1)])) _
    exact X2.areturnOut hx rfl Bd.returns rfl (hb hby d13_10) hr
  · show Q_rm_rdnn Z  h0 n0 _ T2.heap _
    exact ⟨_, rfl, N2, f2, fk2_0, fk2_1⟩
theorem ef_rm_rdnr (m : MethodId) (x1 : Addr) : entryFrame m #[.null, (.ref x1)] 2 = mkF m 0 #[.val .null, .val (.ref x1)] [] := by first | (simp [entryFrame, mkF, argsToLocals, Value.category]; done) | rfl
def Q_rm_rdnr (Z : State) (a2 : Addr) (h0 : Heap) (n0 : Nat) (v : Option Value) (h : Heap) (L : List Loc) : Prop := ∃ b : Addr, v = some (.ref b) ∧ Fr n0 L ∧ Keep h0 h [] ∧ Exa Z h b "com/example/poolwright/poolwright/Copy" ∧ Fld Z h b "com/example/poolwright/poolwright/Copy" "destination" "Ljava/lang/String;" .null
set_option maxRecDepth 65536 in
set_option maxHeartbeats 40000000 in
theorem rm_rdnr (l : Launch) (Z : State) (a0 : Array Value) (hw : ∀ d ∈ tables_1, d.before a0 Z = true) (ws : List Jvm.Cond) (a2 : Addr) (h0 : Heap) (n0 : Nat) (Z0 : n0 ≤ h0.size)  :
    MetFree l (⟨"com/example/poolwright/poolwright/Copy", "refused", "(Ljava/lang/String;Lcom/example/poolwright/poolwright/Copy$Refusal;)Lcom/example/poolwright/poolwright/Copy;"⟩ : MethodName) (head1 (Jvm.Cond.code (⟨"com/example/poolwright/poolwright/Copy", "refused", "(Ljava/lang/String;Lcom/example/poolwright/poolwright/Copy$Refusal;)Lcom/example/poolwright/poolwright/Copy;"⟩ : MethodName) prog_11_method_3_code 2 (some (.object "com/example/poolwright/poolwright/Copy")) :: ws) ({ frames := 3, cells := 1, slots := 3, locals := 40 } : Room)) (fun a U => a = #[.null, (.ref a2)] ∧ Z.Warmed39 U.vm ∧ U.heap = h0) (fun _ _ _ _ _ => True) (fun _ U o U' => ∃ v L, o = .returned v ∧ Q_rm_rdnr Z a2 h0 n0 v U'.heap L ∧ FrameEnd U o U' L ({ frames := 3, cells := 1, slots := 3, locals := 40 } : Room).cells ({ frames := 3, cells := 1, slots := 3, locals := 40 } : Room).slots) := by
  refine MetFree.of_bodySF (plainFor_of_name pn_13) hisR ?_
  intro p e s m args below meth c s₁ Bd hml0 hP hK
  obtain ⟨rfl, hZ, hh⟩ := hP
  have hx := Bd.exec
  have hby := Bd.bytes
  have hml : c.maxLocals = 2 := hml0
  have hown : s.vm.findClass "com/example/poolwright/poolwright/Copy" = some m.cls := findClass_of_methodNamed Bd.named
  have hnm := (name_of_methodNamed Bd.named Bd.method).1
  have X0 : Stand p l e ({ frames := 3, cells := 1, slots := 3, locals := 40 } : Room) s m #[.null, (.ref a2)] below meth c s₁ [] 0 0 := Stand.of_body Bd
  have e0 : s₁.heap = h0 := by rw [← hh, Bd.state]; rfl
  have N0 := Fr.nil n0
  have pre0 : ∀ t, Steps p.tables e below (s₁.setTop (mkF m 0 #[.val .null, .val (.ref a2)] [])) t → Steps p.tables e below (s₁.setTop (entryFrame m #[.null, (.ref a2)] 2)) t := fun t kt => castTop (ef_rm_rdnr m a2) kt
  obtain ⟨T1, h1, X1, e1, E1, A1, D1, -, st1⟩ := newO X0 hx hZ hown (hw _ (List.mem_of_getElem? (i := 66) rfl)) (hw _ (List.mem_of_getElem? (i := 41) rfl)) (hw _ (List.mem_of_getElem? (i := 42) rfl)) e0 (g := (mkF m 0 #[.val .null, .val (.ref a2)] [])) rfl (hb hby d13_0) (by decide) (by decide)
  obtain ⟨b1, g1⟩ : ∃ z, z = h0.size := ⟨_, rfl⟩
  rw [← g1] at A1 D1 st1
  have sz_b1 : h0.size ≤ b1 := Nat.le_trans (Keep.refl h0 []).1 (Nat.le_of_eq g1.symm)
  have f1 : Keep h0 h1 [] := (Keep.refl h0 []).ext E1
  have g_b1 : n0 ≤ b1 := Nat.le_trans Z0 (Nat.le_of_eq g1.symm)
  have Z1 : n0 ≤ h1.size := Nat.le_trans Z0 E1.1
  have F_source_b1 : Fld Z h1 b1 "com/example/poolwright/poolwright/Copy" "source" "Ljava/lang/String;" .null := D1 (Or.inr (hw _ (List.mem_of_getElem? (i := 53) rfl))) (ty := (.object "java/lang/String")) (by decide)
  have F_destination_b1 : Fld Z h1 b1 "com/example/poolwright/poolwright/Copy" "destination" "Ljava/lang/String;" .null := D1 (Or.inr (hw _ (List.mem_of_getElem? (i := 55) rfl))) (ty := (.object "java/lang/String")) (by decide)
  have F_refusal_b1 : Fld Z h1 b1 "com/example/poolwright/poolwright/Copy" "refusal" "Lcom/example/poolwright/poolwright/Copy$Refusal;" .null := D1 (Or.inr (hw _ (List.mem_of_getElem? (i := 57) rfl))) (ty := (.object "com/example/poolwright/poolwright/Copy$Refusal")) (by decide)
  obtain ⟨_, _, ⟨T2, L2, k2, n2⟩, -, X2, ⟨Lc2, hQ2, l2, y2, z2⟩, st2⟩ := X1.specialBack hx (y := (⟨"com/example/poolwright/poolwright/Copy", "<init>", "(Ljava/lang/String;Ljava/lang/String;Lcom/example/poolwright/poolwright/Copy$Refusal;)V"⟩ : MethodName)) rfl hown (mvT hZ (hw _ (List.mem_of_getElem? (i := 67) rfl))) (mvT hZ (hw _ (List.mem_of_getElem? (i := 44) rfl))) (mvT hZ (hw _ (List.mem_of_getElem? (i := 45) rfl))) (by decide) (backOf (W := 1) (rm_cinnr l Z a0 hw [] b1 a2 h1 n0 Z1 F_source_b1 F_destination_b1 F_refusal_b1 A1 g_b1) hZ (hw _ (List.mem_of_getElem? (i := 45) rfl)) (hw _ (List.mem_of_getElem? (i := 42) rfl)) (by decide) (by decide)) (g := (mkF m 7 #[.val .null, .val (.ref a2)] [(.ref a2), .null, .null, (.ref b1), (.ref b1)])) rfl (by rw [hml]; rfl) (Steps.refl _) (a := b1) (argsL := [.null, .null, (.ref a2)]) (rest := [(.ref b1)]) (lenOf pd__Ljava_lang_String_Ljava_lang_String_Lcom_example_poolwright_8324 rfl) rfl (by show 2 * 0 + _ ≤ _; exact Nat.le_of_eq rfl) (hb hby d13_7) (fun _ _ => ⟨rfl, e1, (by decide : 1 + 0 ≤ _), (by decide : 3 + 0 ≤ _)⟩)
  dsimp only [Pt.U, Pt.locs, Pt.cells, Pt.slots] at X2 l2 y2 z2 st2 hQ2
  subst l2 y2 z2
  obtain ⟨rfl, N2q, K2, fk2_0, fk2_1⟩ := hQ2
  have f2 : Keep h0 T2.heap [] := f1.trans K2 (fun x hx => by cases List.mem_singleton.mp hx; exact Or.inr sz_b1)
  have f3 : n0 ≤ b1 := g_b1
  have Z2 : n0 ≤ T2.heap.size := Nat.le_trans Z1 K2.1
  have N2 := Fr.app N0 N2q
  obtain ⟨fs, hr, hrun, hended, hW, hsame⟩ := X2.leave (v := some (.ref b1)) (fun h => by rw [Bd.returns] at h; cases h) (hlocks := Bd.notSynchronized)
  refine ⟨_, _, pre0 _ ?_, hrun, hended, _, _, rfl, ?_, ⟨_, rfl⟩, hW, hsame.mono (by decide) (by decide)⟩
  · show Steps p.tables e below (s₁.setTop (mkF m 0 #[.val .null, .val (.ref a2)] [])) _
    refine st1 _ ?_
    show Steps p.tables e below (T1.setTop (mkF m 3 #[.val .null, .val (.ref a2)] [(.ref b1)])) _
    refine XS.dup X1.here hx rfl (hb hby d13_3) rfl rfl ?_
    show Steps p.tables e below (T1.setTop (mkF m 4 #[.val .null, .val (.ref a2)] [(.ref b1), (.ref b1)])) _
    refine XS.aloadN X1.here hx rfl (hb hby d13_4) rfl rfl ?_
    show Steps p.tables e below (T1.setTop (mkF m 5 #[.val .null, .val (.ref a2)] [.null, (.ref b1), (.ref b1)])) _
    refine XS.aconstNull X1.here hx rfl (hb hby d13_5) ?_
    show Steps p.tables e below (T1.setTop (mkF m 6 #[.val .null, .val (.ref a2)] [.null, .null, (.ref b1), (.ref b1)])) _
    refine XS.aloadN X1.here hx rfl (hb hby d13_6) rfl rfl ?_
    show Steps p.tables e below (T1.setTop (mkF m 7 #[.val .null, .val (.ref a2)] [(.ref a2), .null, .null, (.ref b1), (.ref b1)])) _
    refine st2.trans ?_
    show Steps p.tables e below (T2.setTop (mkF m 10 #[.val .null, .val (.ref a2)] [(.ref b1)])) _
    exact X2.areturnOut hx rfl Bd.returns rfl (hb hby d13_10) hr
  · show Q_rm_rdnr Z a2 h0 n0 _ T2.heap _
    exact ⟨_, rfl, N2, f2, fk2_0, fk2_1⟩
theorem ef_rm_rdrn (m : MethodId) (x0 : Addr) : entryFrame m #[(.ref x0), .null] 2 = mkF m 0 #[.val (.ref x0), .val .null] [] := by first | (simp [entryFrame, mkF, argsToLocals, Value.category]; done) | rfl
def Q_rm_rdrn (Z : State) (a1 : Addr) (h0 : Heap) (n0 : Nat) (v : Option Value) (h : Heap) (L : List Loc) : Prop := ∃ b : Addr, v = some (.ref b) ∧ Fr n0 L ∧ Keep h0 h [] ∧ Exa Z h b "com/example/poolwright/poolwright/Copy" ∧ Fld Z h b "com/example/poolwright/poolwright/Copy" "destination" "Ljava/lang/String;" .null
set_option maxRecDepth 65536 in
set_option maxHeartbeats 40000000 in
theorem rm_rdrn (l : Launch) (Z : State) (a0 : Array Value) (hw : ∀ d ∈ tables_1, d.before a0 Z = true) (ws : List Jvm.Cond) (a1 : Addr) (h0 : Heap) (n0 : Nat) (Z0 : n0 ≤ h0.size)  :
    MetFree l (⟨"com/example/poolwright/poolwright/Copy", "refused", "(Ljava/lang/String;Lcom/example/poolwright/poolwright/Copy$Refusal;)Lcom/example/poolwright/poolwright/Copy;"⟩ : MethodName) (head1 (Jvm.Cond.code (⟨"com/example/poolwright/poolwright/Copy", "refused", "(Ljava/lang/String;Lcom/example/poolwright/poolwright/Copy$Refusal;)Lcom/example/poolwright/poolwright/Copy;"⟩ : MethodName) prog_11_method_3_code 2 (some (.object "com/example/poolwright/poolwright/Copy")) :: ws) ({ frames := 3, cells := 1, slots := 3, locals := 40 } : Room)) (fun a U => a = #[(.ref a1), .null] ∧ Z.Warmed39 U.vm ∧ U.heap = h0) (fun _ _ _ _ _ => True) (fun _ U o U' => ∃ v L, o = .returned v ∧ Q_rm_rdrn Z a1 h0 n0 v U'.heap L ∧ FrameEnd U o U' L ({ frames := 3, cells := 1, slots := 3, locals := 40 } : Room).cells ({ frames := 3, cells := 1, slots := 3, locals := 40 } : Room).slots) := by
  refine MetFree.of_bodySF (plainFor_of_name pn_13) hisR ?_
  intro p e s m args below meth c s₁ Bd hml0 hP hK
  obtain ⟨rfl, hZ, hh⟩ := hP
  have hx := Bd.exec
  have hby := Bd.bytes
  have hml : c.maxLocals = 2 := hml0
  have hown : s.vm.findClass "com/example/poolwright/poolwright/Copy" = some m.cls := findClass_of_methodNamed Bd.named
  have hnm := (name_of_methodNamed Bd.named Bd.method).1
  have X0 : Stand p l e ({ frames := 3, cells := 1, slots := 3, locals := 40 } : Room) s m #[(.ref a1), .null] below meth c s₁ [] 0 0 := Stand.of_body Bd
  have e0 : s₁.heap = h0 := by rw [← hh, Bd.state]; rfl
  have N0 := Fr.nil n0
  have pre0 : ∀ t, Steps p.tables e below (s₁.setTop (mkF m 0 #[.val (.ref a1), .val .null] [])) t → Steps p.tables e below (s₁.setTop (entryFrame m #[(.ref a1), .null] 2)) t := fun t kt => castTop (ef_rm_rdrn m a1) kt
  obtain ⟨T1, h1, X1, e1, E1, A1, D1, -, st1⟩ := newO X0 hx hZ hown (hw _ (List.mem_of_getElem? (i := 66) rfl)) (hw _ (List.mem_of_getElem? (i := 41) rfl)) (hw _ (List.mem_of_getElem? (i := 42) rfl)) e0 (g := (mkF m 0 #[.val (.ref a1), .val .null] [])) rfl (hb hby d13_0) (by decide) (by decide)
  obtain ⟨b1, g1⟩ : ∃ z, z = h0.size := ⟨_, rfl⟩
  rw [← g1] at A1 D1 st1
  have sz_b1 : h0.size ≤ b1 := Nat.le_trans (Keep.refl h0 []).1 (Nat.le_of_eq g1.symm)
  have f1 : Keep h0 h1 [] := (Keep.refl h0 []).ext E1
  have g_b1 : n0 ≤ b1 := Nat.le_trans Z0 (Nat.le_of_eq g1.symm)
  have Z1 : n0 ≤ h1.size := Nat.le_trans Z0 E1.1
  have F_source_b1 : Fld Z h1 b1 "com/example/poolwright/poolwright/Copy" "source" "Ljava/lang/String;" .null := D1 (Or.inr (hw _ (List.mem_of_getElem? (i := 53) rfl))) (ty := (.object "java/lang/String")) (by decide)
  have F_destination_b1 : Fld Z h1 b1 "com/example/poolwright/poolwright/Copy" "destination" "Ljava/lang/String;" .null := D1 (Or.inr (hw _ (List.mem_of_getElem? (i := 55) rfl))) (ty := (.object "java/lang/String")) (by decide)
  have F_refusal_b1 : Fld Z h1 b1 "com/example/poolwright/poolwright/Copy" "refusal" "Lcom/example/poolwright/poolwright/Copy$Refusal;" .null := D1 (Or.inr (hw _ (List.mem_of_getElem? (i := 57) rfl))) (ty := (.object "com/example/poolwright/poolwright/Copy$Refusal")) (by decide)
  obtain ⟨_, _, ⟨T2, L2, k2, n2⟩, -, X2, ⟨Lc2, hQ2, l2, y2, z2⟩, st2⟩ := X1.specialBack hx (y := (⟨"com/example/poolwright/poolwright/Copy", "<init>", "(Ljava/lang/String;Ljava/lang/String;Lcom/example/poolwright/poolwright/Copy$Refusal;)V"⟩ : MethodName)) rfl hown (mvT hZ (hw _ (List.mem_of_getElem? (i := 67) rfl))) (mvT hZ (hw _ (List.mem_of_getElem? (i := 44) rfl))) (mvT hZ (hw _ (List.mem_of_getElem? (i := 45) rfl))) (by decide) (backOf (W := 1) (rm_cirnn l Z a0 hw [] b1 a1 h1 n0 Z1 F_source_b1 F_destination_b1 F_refusal_b1 A1 g_b1) hZ (hw _ (List.mem_of_getElem? (i := 45) rfl)) (hw _ (List.mem_of_getElem? (i := 42) rfl)) (by decide) (by decide)) (g := (mkF m 7 #[.val (.ref a1), .val .null] [.null, .null, (.ref a1), (.ref b1), (.ref b1)])) rfl (by rw [hml]; rfl) (Steps.refl _) (a := b1) (argsL := [(.ref a1), .null, .null]) (rest := [(.ref b1)]) (lenOf pd__Ljava_lang_String_Ljava_lang_String_Lcom_example_poolwright_8324 rfl) rfl (by show 2 * 0 + _ ≤ _; exact Nat.le_of_eq rfl) (hb hby d13_7) (fun _ _ => ⟨rfl, e1, (by decide : 1 + 0 ≤ _), (by decide : 3 + 0 ≤ _)⟩)
  dsimp only [Pt.U, Pt.locs, Pt.cells, Pt.slots] at X2 l2 y2 z2 st2 hQ2
  subst l2 y2 z2
  obtain ⟨rfl, N2q, K2, fk2_0, fk2_1⟩ := hQ2
  have f2 : Keep h0 T2.heap [] := f1.trans K2 (fun x hx => by cases List.mem_singleton.mp hx; exact Or.inr sz_b1)
  have f3 : n0 ≤ b1 := g_b1
  have Z2 : n0 ≤ T2.heap.size := Nat.le_trans Z1 K2.1
  have N2 := Fr.app N0 N2q
  obtain ⟨fs, hr, hrun, hended, hW, hsame⟩ := X2.leave (v := some (.ref b1)) (fun h => by rw [Bd.returns] at h; cases h) (hlocks := Bd.notSynchronized)
  refine ⟨_, _, pre0 _ ?_, hrun, hended, _, _, rfl, ?_, ⟨_, rfl⟩, hW, hsame.mono (by decide) (by decide)⟩
  · show Steps p.tables e below (s₁.setTop (mkF m 0 #[.val (.ref a1), .val .null] [])) _
    refine st1 _ ?_
    show Steps p.tables e below (T1.setTop (mkF m 3 #[.val (.ref a1), .val .null] [(.ref b1)])) _
    refine XS.dup X1.here hx rfl (hb hby d13_3) rfl rfl ?_
    show Steps p.tables e below (T1.setTop (mkF m 4 #[.val (.ref a1), .val .null] [(.ref b1), (.ref b1)])) _
    refine XS.aloadN X1.here hx rfl (hb hby d13_4) rfl rfl ?_
    show Steps p.tables e below (T1.setTop (mkF m 5 #[.val (.ref a1), .val .null] [(.ref a1), (.ref b1), (.ref b1)])) _
    refine XS.aconstNull X1.here hx rfl (hb hby d13_5) ?_
    show Steps p.tables e below (T1.setTop (mkF m 6 #[.val (.ref a1), .val .null] [.null, (.ref a1), (.ref b1), (.ref b1)])) _
    refine XS.aloadN X1.here hx rfl (hb hby d13_6) rfl rfl ?_
    show Steps p.tables e below (T1.setTop (mkF m 7 #[.val (.ref a1), .val .null] [.null, .null, (.ref a1), (.ref b1), (.ref b1)])) _
    refine st2.trans ?_
    show Steps p.tables e below (T2.setTop (mkF m 10 #[.val (.ref a1), .val .null] [(.ref b1)])) _
    exact X2.areturnOut hx rfl Bd.returns rfl (hb hby d13_10) hr
  · show Q_rm_rdrn Z a1 h0 n0 _ T2.heap _
    exact ⟨_, rfl, N2, f2, fk2_0, fk2_1⟩
theorem ef_rm_rdrr (m : MethodId) (x0 : Addr) (x1 : Addr) : entryFrame m #[(.ref x0), (.ref x1)] 2 = mkF m 0 #[.val (.ref x0), .val (.ref x1)] [] := by first | (simp [entryFrame, mkF, argsToLocals, Value.category]; done) | rfl
def Q_rm_rdrr (Z : State) (a1 : Addr) (a2 : Addr) (h0 : Heap) (n0 : Nat) (v : Option Value) (h : Heap) (L : List Loc) : Prop := ∃ b : Addr, v = some (.ref b) ∧ Fr n0 L ∧ Keep h0 h [] ∧ Exa Z h b "com/example/poolwright/poolwright/Copy" ∧ Fld Z h b "com/example/poolwright/poolwright/Copy" "destination" "Ljava/lang/String;" .null
set_option maxRecDepth 65536 in
set_option maxHeartbeats 40000000 in
theorem rm_rdrr (l : Launch) (Z : State) (a0 : Array Value) (hw : ∀ d ∈ tables_1, d.before a0 Z = true) (ws : List Jvm.Cond) (a1 : Addr) (a2 : Addr) (h0 : Heap) (n0 : Nat) (Z0 : n0 ≤ h0.size)  :
    MetFree l (⟨"com/example/poolwright/poolwright/Copy", "refused", "(Ljava/lang/String;Lcom/example/poolwright/poolwright/Copy$Refusal;)Lcom/example/poolwright/poolwright/Copy;"⟩ : MethodName) (head1 (Jvm.Cond.code (⟨"com/example/poolwright/poolwright/Copy", "refused", "(Ljava/lang/String;Lcom/example/poolwright/poolwright/Copy$Refusal;)Lcom/example/poolwright/poolwright/Copy;"⟩ : MethodName) prog_11_method_3_code 2 (some (.object "com/example/poolwright/poolwright/Copy")) :: ws) ({ frames := 3, cells := 1, slots := 3, locals := 40 } : Room)) (fun a U => a = #[(.ref a1), (.ref a2)] ∧ Z.Warmed39 U.vm ∧ U.heap = h0) (fun _ _ _ _ _ => True) (fun _ U o U' => ∃ v L, o = .returned v ∧ Q_rm_rdrr Z a1 a2 h0 n0 v U'.heap L ∧ FrameEnd U o U' L ({ frames := 3, cells := 1, slots := 3, locals := 40 } : Room).cells ({ frames := 3, cells := 1, slots := 3, locals := 40 } : Room).slots) := by
  refine MetFree.of_bodySF (plainFor_of_name pn_13) hisR ?_
  intro p e s m args below meth c s₁ Bd hml0 hP hK
  obtain ⟨rfl, hZ, hh⟩ := hP
  have hx := Bd.exec
  have hby := Bd.bytes
  have hml : c.maxLocals = 2 := hml0
  have hown : s.vm.findClass "com/example/poolwright/poolwright/Copy" = some m.cls := findClass_of_methodNamed Bd.named
  have hnm := (name_of_methodNamed Bd.named Bd.method).1
  have X0 : Stand p l e ({ frames := 3, cells := 1, slots := 3, locals := 40 } : Room) s m #[(.ref a1), (.ref a2)] below meth c s₁ [] 0 0 := Stand.of_body Bd
  have e0 : s₁.heap = h0 := by rw [← hh, Bd.state]; rfl
  have N0 := Fr.nil n0
  have pre0 : ∀ t, Steps p.tables e below (s₁.setTop (mkF m 0 #[.val (.ref a1), .val (.ref a2)] [])) t → Steps p.tables e below (s₁.setTop (entryFrame m #[(.ref a1), (.ref a2)] 2)) t := fun t kt => castTop (ef_rm_rdrr m a1 a2) kt
  obtain ⟨T1, h1, X1, e1, E1, A1, D1, -, st1⟩ := newO X0 hx hZ hown (hw _ (List.mem_of_getElem? (i := 66) rfl)) (hw _ (List.mem_of_getElem? (i := 41) rfl)) (hw _ (List.mem_of_getElem? (i := 42) rfl)) e0 (g := (mkF m 0 #[.val (.ref a1), .val (.ref a2)] [])) rfl (hb hby d13_0) (by decide) (by decide)
  obtain ⟨b1, g1⟩ : ∃ z, z = h0.size := ⟨_, rfl⟩
  rw [← g1] at A1 D1 st1
  have sz_b1 : h0.size ≤ b1 := Nat.le_trans (Keep.refl h0 []).1 (Nat.le_of_eq g1.symm)
  have f1 : Keep h0 h1 [] := (Keep.refl h0 []).ext E1
  have g_b1 : n0 ≤ b1 := Nat.le_trans Z0 (Nat.le_of_eq g1.symm)
  have Z1 : n0 ≤ h1.size := Nat.le_trans Z0 E1.1
  have F_source_b1 : Fld Z h1 b1 "com/example/poolwright/poolwright/Copy" "source" "Ljava/lang/String;" .null := D1 (Or.inr (hw _ (List.mem_of_getElem? (i := 53) rfl))) (ty := (.object "java/lang/String")) (by decide)
  have F_destination_b1 : Fld Z h1 b1 "com/example/poolwright/poolwright/Copy" "destination" "Ljava/lang/String;" .null := D1 (Or.inr (hw _ (List.mem_of_getElem? (i := 55) rfl))) (ty := (.object "java/lang/String")) (by decide)
  have F_refusal_b1 : Fld Z h1 b1 "com/example/poolwright/poolwright/Copy" "refusal" "Lcom/example/poolwright/poolwright/Copy$Refusal;" .null := D1 (Or.inr (hw _ (List.mem_of_getElem? (i := 57) rfl))) (ty := (.object "com/example/poolwright/poolwright/Copy$Refusal")) (by decide)
  obtain ⟨_, _, ⟨T2, L2, k2, n2⟩, -, X2, ⟨Lc2, hQ2, l2, y2, z2⟩, st2⟩ := X1.specialBack hx (y := (⟨"com/example/poolwright/poolwright/Copy", "<init>", "(Ljava/lang/String;Ljava/lang/String;Lcom/example/poolwright/poolwright/Copy$Refusal;)V"⟩ : MethodName)) rfl hown (mvT hZ (hw _ (List.mem_of_getElem? (i := 67) rfl))) (mvT hZ (hw _ (List.mem_of_getElem? (i := 44) rfl))) (mvT hZ (hw _ (List.mem_of_getElem? (i := 45) rfl))) (by decide) (backOf (W := 1) (rm_cirnr l Z a0 hw [] b1 a1 a2 h1 n0 Z1 F_source_b1 F_destination_b1 F_refusal_b1 A1 g_b1) hZ (hw _ (List.mem_of_getElem? (i := 45) rfl)) (hw _ (List.mem_of_getElem? (i := 42) rfl)) (by decide) (by decide)) (g := (mkF m 7 #[.val (.ref a1), .val (.ref a2)] [(.ref a2), .null, (.ref a1), (.ref b1), (.ref b1)])) rfl (by rw [hml]; rfl) (Steps.refl _) (a := b1) (argsL := [(.ref a1), .null, (.ref a2)]) (rest := [(.ref b1)]) (lenOf pd__Ljava_lang_String_Ljava_lang_String_Lcom_example_poolwright_8324 rfl) rfl (by show 2 * 0 + _ ≤ _; exact Nat.le_of_eq rfl) (hb hby d13_7) (fun _ _ => ⟨rfl, e1, (by decide : 1 + 0 ≤ _), (by decide : 3 + 0 ≤ _)⟩)
  dsimp only [Pt.U, Pt.locs, Pt.cells, Pt.slots] at X2 l2 y2 z2 st2 hQ2
  subst l2 y2 z2
  obtain ⟨rfl, N2q, K2, fk2_0, fk2_1⟩ := hQ2
  have f2 : Keep h0 T2.heap [] := f1.trans K2 (fun x hx => by cases List.mem_singleton.mp hx; exact Or.inr sz_b1)
  have f3 : n0 ≤ b1 := g_b1
  have Z2 : n0 ≤ T2.heap.size := Nat.le_trans Z1 K2.1
  have N2 := Fr.app N0 N2q
  obtain ⟨fs, hr, hrun, hended, hW, hsame⟩ := X2.leave (v := some (.ref b1)) (fun h => by rw [Bd.returns] at h; cases h) (hlocks := Bd.notSynchronized)
  refine ⟨_, _, pre0 _ ?_, hrun, hended, _, _, rfl, ?_, ⟨_, rfl⟩, hW, hsame.mono (by decide) (by decide)⟩
  · show Steps p.tables e below (s₁.setTop (mkF m 0 #[.val (.ref a1), .val (.ref a2)] [])) _
    refine st1 _ ?_
    show Steps p.tables e below (T1.setTop (mkF m 3 #[.val (.ref a1), .val (.ref a2)] [(.ref b1)])) _
    refine XS.dup X1.here hx rfl (hb hby d13_3) rfl rfl ?_
    show Steps p.tables e below (T1.setTop (mkF m 4 #[.val (.ref a1), .val (.ref a2)] [(.ref b1), (.ref b1)])) _
    refine XS.aloadN X1.here hx rfl (hb hby d13_4) rfl rfl ?_
    show Steps p.tables e below (T1.setTop (mkF m 5 #[.val (.ref a1), .val (.ref a2)] [(.ref a1), (.ref b1), (.ref b1)])) _
    refine XS.aconstNull X1.here hx rfl (hb hby d13_5) ?_
    show Steps p.tables e below (T1.setTop (mkF m 6 #[.val (.ref a1), .val (.ref a2)] [.null, (.ref a1), (.ref b1), (.ref b1)])) _
    refine XS.aloadN X1.here hx rfl (hb hby d13_6) rfl rfl ?_
    show Steps p.tables e below (T1.setTop (mkF m 7 #[.val (.ref a1), .val (.ref a2)] [(.ref a2), .null, (.ref a1), (.ref b1), (.ref b1)])) _
    refine st2.trans ?_
    show Steps p.tables e below (T2.setTop (mkF m 10 #[.val (.ref a1), .val (.ref a2)] [(.ref b1)])) _
    exact X2.areturnOut hx rfl Bd.returns rfl (hb hby d13_10) hr
  · show Q_rm_rdrr Z a1 a2 h0 n0 _ T2.heap _
    exact ⟨_, rfl, N2, f2, fk2_0, fk2_1⟩
theorem pn_0 : plainName "com/example/poolwright/poolwright/CopyStartsPinLaw" = true := by first | (simp [plainName, overriddenIn]; done) | decide +kernel
theorem ef_rm0 (m : MethodId) (x0 : Int32) (x1 : Int32) (x2 : Int32) : entryFrame m #[(.int x0), (.int x1), (.int x2)] maxLocals = mkF m 0 #[.val (.int x0), .val (.int x1), .val (.int x2), .unset, .unset, .unset, .unset, .unset, .unset, .unset, .unset, .unset] [] := by first | (simp [entryFrame, mkF, argsToLocals, Value.category, maxLocals]; done) | rfl
def Q_rm0 (Z : State) (p1 : Int32) (p2 : Int32) (p3 : Int32) (cs : Int32) (c_ALERT c_OFF c_MAX_COPIES c_NO_DESTINATION : Addr) (h0 : Heap) (n0 : Nat) (v : Option Value) (h : Heap) (L : List Loc) : Prop := v = some (.int 1) ∧ Fr n0 L
theorem pd__III_Ljava_lang_String__1996 : parseMethodDescriptor "(III)Ljava/lang/String;" = some ⟨[.int, .int, .int], some (.object "java/lang/String")⟩ := by decide +kernel
theorem pd__I_Lcom_example_poolwright_poolwright_Copy_Refusal__4919 : parseMethodDescriptor "(I)Lcom/example/poolwright/poolwright/Copy$Refusal;" = some ⟨[.int], some (.object "com/example/poolwright/poolwright/Copy$Refusal")⟩ := by decide +kernel
theorem own_sta {Z : State} {h h' : Heap} {C n d : String} {v : Value} (F : Sta Z h C n d v) (K : Keep h h' []) : Sta Z h' C n d v := by
  obtain ⟨cf, i, k, f, st, cell, h1, h2, h3, h4, h5, r⟩ := F
  exact ⟨cf, i, k, f, st, cell, h1, h2, h3, h4, K.2.1 st cell h5 (by simp), r⟩
theorem pd___Z_171 : parseMethodDescriptor "()Z" = some ⟨[], some .boolean⟩ := by decide +kernel
theorem pd__Ljava_lang_String_Ljava_lang_String__Lcom_example_poolwrigh_7480 : parseMethodDescriptor "(Ljava/lang/String;Ljava/lang/String;)Lcom/example/poolwright/poolwright/Copy;" = some ⟨[(.object "java/lang/String"), (.object "java/lang/String")], some (.object "com/example/poolwright/poolwright/Copy")⟩ := by decide +kernel
theorem pd__Ljava_lang_String_Lcom_example_poolwright_poolwright_Copy_R_576 : parseMethodDescriptor "(Ljava/lang/String;Lcom/example/poolwright/poolwright/Copy$Refusal;)Lcom/example/poolwright/poolwright/Copy;" = some ⟨[(.object "java/lang/String"), (.object "com/example/poolwright/poolwright/Copy$Refusal")], some (.object "com/example/poolwright/poolwright/Copy")⟩ := by decide +kernel
set_option maxRecDepth 65536 in
set_option maxHeartbeats 40000000 in
theorem rm0 (l : Launch) (Z : State) (a0 : Array Value) (hw : ∀ d ∈ tables_1, d.before a0 Z = true) (ws : List Jvm.Cond) (p1 : Int32) (p2 : Int32) (p3 : Int32) (cs : Int32) (c_ALERT c_OFF c_MAX_COPIES c_NO_DESTINATION : Addr) (h0 : Heap) (n0 : Nat) (Z0 : n0 ≤ h0.size) (hEL : EW Z a0 own_EL) (S_CS : Sta Z h0 "java/lang/String" "COMPACT_STRINGS" "Z" (.int cs)) (hcs : ¬ cs = (0 : Int32)) (S_ALERT : Sta Z h0 "com/example/poolwright/poolwright/Copy$Refusal" "ALERT" "Lcom/example/poolwright/poolwright/Copy$Refusal;" (.ref c_ALERT)) (S_OFF : Sta Z h0 "com/example/poolwright/poolwright/Copy$Refusal" "OFF" "Lcom/example/poolwright/poolwright/Copy$Refusal;" (.ref c_OFF)) (S_MAX_COPIES : Sta Z h0 "com/example/poolwright/poolwright/Copy$Refusal" "MAX_COPIES" "Lcom/example/poolwright/poolwright/Copy$Refusal;" (.ref c_MAX_COPIES)) (S_NO_DESTINATION : Sta Z h0 "com/example/poolwright/poolwright/Copy$Refusal" "NO_DESTINATION" "Lcom/example/poolwright/poolwright/Copy$Refusal;" (.ref c_NO_DESTINATION)) :
    MetFree l x (head1 (Jvm.Cond.code x code maxLocals ret :: ws) room_1) (fun a U => a = #[(.int p1), (.int p2), (.int p3)] ∧ Z.Warmed39 U.vm ∧ U.heap = h0 ∧ CHv Z own_EL U.vm h0) (fun _ _ _ _ _ => True) (fun _ U o U' => ∃ v L, o = .returned v ∧ Q_rm0 Z p1 p2 p3 cs c_ALERT c_OFF c_MAX_COPIES c_NO_DESTINATION h0 n0 v U'.heap L ∧ CHr Z own_EL U.vm U.heap U'.vm U'.heap ∧ ReturnedEndW U o U' L room_1.cells room_1.slots) := by
  refine MetFree.of_bodySF (plainFor_of_name pn_0) hisR ?_
  intro p e s m args below meth c s₁ Bd hml0 hP hK
  obtain ⟨rfl, hZ, hh, hCH⟩ := hP
  have hx := Bd.exec
  have hby := Bd.bytes
  have hml : c.maxLocals = 12 := hml0
  have hown : s.vm.findClass "com/example/poolwright/poolwright/CopyStartsPinLaw" = some m.cls := findClass_of_methodNamed Bd.named
  have hnm := (name_of_methodNamed Bd.named Bd.method).1
  have X0 : Stand p l e room_1 s m #[(.int p1), (.int p2), (.int p3)] below meth c s₁ [] 0 0 := Stand.of_body Bd
  have e0 : s₁.heap = h0 := by rw [← hh, Bd.state]; rfl
  have N0 := Fr.nil n0
  have pre0 : ∀ t, Steps p.tables e below (s₁.setTop (mkF m 0 #[.val (.int p1), .val (.int p2), .val (.int p3), .unset, .unset, .unset, .unset, .unset, .unset, .unset, .unset, .unset] [])) t → Steps p.tables e below (s₁.setTop (entryFrame m #[(.int p1), (.int p2), (.int p3)] maxLocals)) t := fun t kt => castTop (ef_rm0 m p1 p2 p3) kt
  have C0 : CHr Z own_EL s.vm h0 s.vm h0 := CHr.refl hCH
  have pre_1 : ∀ t, Steps p.tables e below (s₁.setTop (mkF m 5 #[.val (.int p1), .val (.int p2), .val (.int p3), .unset, .unset, .unset, .unset, .unset, .unset, .unset, .unset, .unset] [(.int p1), (.int p2), (.int ((p3.toUInt32 >>> ((2 : Int32) &&& 31).toUInt32).toInt32))])) t → Steps p.tables e below (s₁.setTop (entryFrame m #[(.int p1), (.int p2), (.int p3)] maxLocals)) t := by
    intro t kt
    refine pre0 _ ?_
    show Steps p.tables e below (s₁.setTop (mkF m 0 #[.val (.int p1), .val (.int p2), .val (.int p3), .unset, .unset, .unset, .unset, .unset, .unset, .unset, .unset, .unset] [])) _
    refine XS.iloadN X0.here hx rfl (hb hby at_0) rfl ?_
    show Steps p.tables e below (s₁.setTop (mkF m 1 #[.val (.int p1), .val (.int p2), .val (.int p3), .unset, .unset, .unset, .unset, .unset, .unset, .unset, .unset, .unset] [(.int p3)])) _
    refine XS.iconst X0.here hx rfl (hb hby at_1) ?_
    show Steps p.tables e below (s₁.setTop (mkF m 2 #[.val (.int p1), .val (.int p2), .val (.int p3), .unset, .unset, .unset, .unset, .unset, .unset, .unset, .unset, .unset] [(.int (2 : Int32)), (.int p3)])) _
    refine XS.iushr X0.here hx rfl (hb hby at_2) rfl ?_
    show Steps p.tables e below (s₁.setTop (mkF m 3 #[.val (.int p1), .val (.int p2), .val (.int p3), .unset, .unset, .unset, .unset, .unset, .unset, .unset, .unset, .unset] [(.int ((p3.toUInt32 >>> ((2 : Int32) &&& 31).toUInt32).toInt32))])) _
    refine XS.iloadN X0.here hx rfl (hb hby at_3) rfl ?_
    show Steps p.tables e below (s₁.setTop (mkF m 4 #[.val (.int p1), .val (.int p2), .val (.int p3), .unset, .unset, .unset, .unset, .unset, .unset, .unset, .unset, .unset] [(.int p2), (.int ((p3.toUInt32 >>> ((2 : Int32) &&& 31).toUInt32).toInt32))])) _
    refine XS.iloadN X0.here hx rfl (hb hby at_4) rfl ?_
    exact kt
  by_cases hd5 : (((p3.toUInt32 >>> ((2 : Int32) &&& 31).toUInt32).toInt32) &&& (3 : Int32)) = 0
  · obtain ⟨_, _, ⟨T2, L2, k2, n2⟩, -, X2, ⟨Lc2, hQ2, l2, y2, z2⟩, st2⟩ := Jvm.LawKit.callS X0 hx (y := (⟨"com/example/poolwright/poolwright/CopyStartsPinLaw", "draw", "(III)Ljava/lang/String;"⟩ : MethodName)) hown (mvT hZ (hw _ (List.mem_of_getElem? (i := 0) rfl))) (mvT hZ (hw _ (List.mem_of_getElem? (i := 1) rfl))) (mvT hZ (hw _ (List.mem_of_getElem? (i := 2) rfl))) (mvT hZ (hw _ (List.mem_of_getElem? (i := 3) rfl))) (by decide) (backOf (W := 0) (rm_d0 l Z a0 hw [] ((p3.toUInt32 >>> ((2 : Int32) &&& 31).toUInt32).toInt32) p2 p1 h0 n0 Z0 hd5) hZ (hw _ (List.mem_of_getElem? (i := 3) rfl)) (hw _ (List.mem_of_getElem? (i := 2) rfl)) (by decide) (by decide)) (g := (mkF m 5 #[.val (.int p1), .val (.int p2), .val (.int p3), .unset, .unset, .unset, .unset, .unset, .unset, .unset, .unset, .unset] [(.int p1), (.int p2), (.int ((p3.toUInt32 >>> ((2 : Int32) &&& 31).toUInt32).toInt32))])) rfl (by rw [hml]; rfl) (argsL := [(.int ((p3.toUInt32 >>> ((2 : Int32) &&& 31).toUInt32).toInt32)), (.int p2), (.int p1)]) (rest := []) (lenOf pd__III_Ljava_lang_String__1996 rfl) rfl (by show 2 * 0 + _ ≤ _; exact Nat.le_of_eq rfl) (hb hby at_5) (fun _ _ => ⟨rfl, e0, (by decide : 0 + 0 ≤ _), (by decide : 0 + 0 ≤ _)⟩)
    dsimp only [Pt.U, Pt.locs, Pt.cells, Pt.slots] at X2 l2 y2 z2 st2 hQ2
    subst l2 y2 z2
    obtain ⟨rfl, N2q, e2⟩ := hQ2
    have N2 := Fr.app N0 N2q
    have pre_3 : ∀ t, Steps p.tables e below (T2.setTop (mkF m 12 #[.val (.int p1), .val (.int p2), .val (.int p3), .val .null, .unset, .unset, .unset, .unset, .unset, .unset, .unset, .unset] [(.int p2), (.int p1), (.int p3)])) t → Steps p.tables e below (s₁.setTop (entryFrame m #[(.int p1), (.int p2), (.int p3)] maxLocals)) t := by
      intro t kt
      refine pre_1 _ ?_
      show Steps p.tables e below (s₁.setTop (mkF m 5 #[.val (.int p1), .val (.int p2), .val (.int p3), .unset, .unset, .unset, .unset, .unset, .unset, .unset, .unset, .unset] [(.int p1), (.int p2), (.int ((p3.toUInt32 >>> ((2 : Int32) &&& 31).toUInt32).toInt32))])) _
      refine st2 _ ?_
      show Steps p.tables e below (T2.setTop (mkF m 8 #[.val (.int p1), .val (.int p2), .val (.int p3), .unset, .unset, .unset, .unset, .unset, .unset, .unset, .unset, .unset] [.null])) _
      refine XS.astoreN X2.here hx rfl (hb hby at_8) rfl rfl (l' := #[.val (.int p1), .val (.int p2), .val (.int p3), .val .null, .unset, .unset, .unset, .unset, .unset, .unset, .unset, .unset]) rfl ?_
      show Steps p.tables e below (T2.setTop (mkF m 9 #[.val (.int p1), .val (.int p2), .val (.int p3), .val .null, .unset, .unset, .unset, .unset, .unset, .unset, .unset, .unset] [])) _
      refine XS.iloadN X2.here hx rfl (hb hby at_9) rfl ?_
      show Steps p.tables e below (T2.setTop (mkF m 10 #[.val (.int p1), .val (.int p2), .val (.int p3), .val .null, .unset, .unset, .unset, .unset, .unset, .unset, .unset, .unset] [(.int p3)])) _
      refine XS.iloadN X2.here hx rfl (hb hby at_10) rfl ?_
      show Steps p.tables e below (T2.setTop (mkF m 11 #[.val (.int p1), .val (.int p2), .val (.int p3), .val .null, .unset, .unset, .unset, .unset, .unset, .unset, .unset, .unset] [(.int p1), (.int p3)])) _
      refine XS.iloadN X2.here hx rfl (hb hby at_11) rfl ?_
      exact kt
    by_cases hd12 : (p3 &&& (3 : Int32)) = 0
    · obtain ⟨_, _, ⟨T4, L4, k4, n4⟩, -, X4, ⟨Lc4, hQ4, l4, y4, z4⟩, st4⟩ := Jvm.LawKit.callS X2 hx (y := (⟨"com/example/poolwright/poolwright/CopyStartsPinLaw", "draw", "(III)Ljava/lang/String;"⟩ : MethodName)) hown (mvT hZ (hw _ (List.mem_of_getElem? (i := 0) rfl))) (mvT hZ (hw _ (List.mem_of_getElem? (i := 1) rfl))) (mvT hZ (hw _ (List.mem_of_getElem? (i := 2) rfl))) (mvT hZ (hw _ (List.mem_of_getElem? (i := 3) rfl))) (by decide) (backOf (W := 0) (rm_d0 l Z a0 hw [] p3 p1 p2 h0 n0 Z0 hd12) hZ (hw _ (List.mem_of_getElem? (i := 3) rfl)) (hw _ (List.mem_of_getElem? (i := 2) rfl)) (by decide) (by decide)) (g := (mkF m 12 #[.val (.int p1), .val (.int p2), .val (.int p3), .val .null, .unset, .unset, .unset, .unset, .unset, .unset, .unset, .unset] [(.int p2), (.int p1), (.int p3)])) rfl (by rw [hml]; rfl) (argsL := [(.int p3), (.int p1), (.int p2)]) (rest := []) (lenOf pd__III_Ljava_lang_String__1996 rfl) rfl (by show 2 * 0 + _ ≤ _; exact Nat.le_of_eq rfl) (hb hby at_12) (fun _ _ => ⟨rfl, e2, (by decide : 0 + 0 ≤ _), (by decide : 0 + 0 ≤ _)⟩)
      dsimp only [Pt.U, Pt.locs, Pt.cells, Pt.slots] at X4 l4 y4 z4 st4 hQ4
      subst l4 y4 z4
      obtain ⟨rfl, N4q, e4⟩ := hQ4
      have N4 := Fr.app N2 N4q
      have pre_5 : ∀ t, Steps p.tables e below (T4.setTop (mkF m 20 #[.val (.int p1), .val (.int p2), .val (.int p3), .val .null, .val .null, .unset, .unset, .unset, .unset, .unset, .unset, .unset] [(.int ((p3.toUInt32 >>> ((4 : Int32) &&& 31).toUInt32).toInt32))])) t → Steps p.tables e below (s₁.setTop (entryFrame m #[(.int p1), (.int p2), (.int p3)] maxLocals)) t := by
        intro t kt
        refine pre_3 _ ?_
        show Steps p.tables e below (T2.setTop (mkF m 12 #[.val (.int p1), .val (.int p2), .val (.int p3), .val .null, .unset, .unset, .unset, .unset, .unset, .unset, .unset, .unset] [(.int p2), (.int p1), (.int p3)])) _
        refine st4 _ ?_
        show Steps p.tables e below (T4.setTop (mkF m 15 #[.val (.int p1), .val (.int p2), .val (.int p3), .val .null, .unset, .unset, .unset, .unset, .unset, .unset, .unset, .unset] [.null])) _
        refine XS.astore X4.here hx rfl (hb hby at_15) rfl rfl (l' := #[.val (.int p1), .val (.int p2), .val (.int p3), .val .null, .val .null, .unset, .unset, .unset, .unset, .unset, .unset, .unset]) rfl ?_
        show Steps p.tables e below (T4.setTop (mkF m 17 #[.val (.int p1), .val (.int p2), .val (.int p3), .val .null, .val .null, .unset, .unset, .unset, .unset, .unset, .unset, .unset] [])) _
        refine XS.iloadN X4.here hx rfl (hb hby at_17) rfl ?_
        show Steps p.tables e below (T4.setTop (mkF m 18 #[.val (.int p1), .val (.int p2), .val (.int p3), .val .null, .val .null, .unset, .unset, .unset, .unset, .unset, .unset, .unset] [(.int p3)])) _
        refine XS.iconst X4.here hx rfl (hb hby at_18) ?_
        show Steps p.tables e below (T4.setTop (mkF m 19 #[.val (.int p1), .val (.int p2), .val (.int p3), .val .null, .val .null, .unset, .unset, .unset, .unset, .unset, .unset, .unset] [(.int (4 : Int32)), (.int p3)])) _
        refine XS.iushr X4.here hx rfl (hb hby at_19) rfl ?_
        exact kt
      by_cases hd20 : ((((p3.toUInt32 >>> ((4 : Int32) &&& 31).toUInt32).toInt32) &&& (7 : Int32)) = (0 : Int32) ∨ (((p3.toUInt32 >>> ((4 : Int32) &&& 31).toUInt32).toInt32) &&& (7 : Int32)) = (1 : Int32) ∨ (((p3.toUInt32 >>> ((4 : Int32) &&& 31).toUInt32).toInt32) &&& (7 : Int32)) = (2 : Int32) ∨ (((p3.toUInt32 >>> ((4 : Int32) &&& 31).toUInt32).toInt32) &&& (7 : Int32)) = (3 : Int32))
      · obtain ⟨_, _, ⟨T6, L6, k6, n6⟩, -, X6, ⟨Lc6, hQ6, l6, y6, z6⟩, st6⟩ := Jvm.LawKit.callS X4 hx (y := (⟨"com/example/poolwright/poolwright/CopyStartsPinLaw", "pick", "(I)Lcom/example/poolwright/poolwright/Copy$Refusal;"⟩ : MethodName)) hown (mvT hZ (hw _ (List.mem_of_getElem? (i := 34) rfl))) (mvT hZ (hw _ (List.mem_of_getElem? (i := 35) rfl))) (mvT hZ (hw _ (List.mem_of_getElem? (i := 2) rfl))) (mvT hZ (hw _ (List.mem_of_getElem? (i := 36) rfl))) (by decide) (backOf (W := 0) (rm_p1 l Z a0 hw [] ((p3.toUInt32 >>> ((4 : Int32) &&& 31).toUInt32).toInt32) c_ALERT c_OFF c_MAX_COPIES c_NO_DESTINATION h0 n0 Z0 S_ALERT S_OFF S_MAX_COPIES S_NO_DESTINATION hd20) hZ (hw _ (List.mem_of_getElem? (i := 36) rfl)) (hw _ (List.mem_of_getElem? (i := 2) rfl)) (by decide) (by decide)) (g := (mkF m 20 #[.val (.int p1), .val (.int p2), .val (.int p3), .val .null, .val .null, .unset, .unset, .unset, .unset, .unset, .unset, .unset] [(.int ((p3.toUInt32 >>> ((4 : Int32) &&& 31).toUInt32).toInt32))])) rfl (by rw [hml]; rfl) (argsL := [(.int ((p3.toUInt32 >>> ((4 : Int32) &&& 31).toUInt32).toInt32))]) (rest := []) (lenOf pd__I_Lcom_example_poolwright_poolwright_Copy_Refusal__4919 rfl) rfl (by show 2 * 0 + _ ≤ _; exact Nat.le_of_eq rfl) (hb hby at_20) (fun _ _ => ⟨rfl, e4, (by decide : 0 + 0 ≤ _), (by decide : 0 + 0 ≤ _)⟩)
        dsimp only [Pt.U, Pt.locs, Pt.cells, Pt.slots] at X6 l6 y6 z6 st6 hQ6
        subst l6 y6 z6
        obtain ⟨rr6, rfl, N6q, e6⟩ := hQ6
        have N6 := Fr.app N4 N6q
        have pre_8 : ∀ t, Steps p.tables e below (T6.setTop (mkF m 48 #[.val (.int p1), .val (.int p2), .val (.int p3), .val .null, .val .null, .val (.ref rr6), .val (.int (0 : Int32)), .unset, .unset, .unset, .unset, .unset] [(.int p2), (.int p1), (.int ((2 : Int32) + (((p3.toUInt32 >>> ((7 : Int32) &&& 31).toUInt32).toInt32) &&& (1 : Int32))))])) t → Steps p.tables e below (s₁.setTop (entryFrame m #[(.int p1), (.int p2), (.int p3)] maxLocals)) t := by
          intro t kt
          refine pre_5 _ ?_
          show Steps p.tables e below (T4.setTop (mkF m 20 #[.val (.int p1), .val (.int p2), .val (.int p3), .val .null, .val .null, .unset, .unset, .unset, .unset, .unset, .unset, .unset] [(.int ((p3.toUInt32 >>> ((4 : Int32) &&& 31).toUInt32).toInt32))])) _
          refine st6 _ ?_
          show Steps p.tables e below (T6.setTop (mkF m 23 #[.val (.int p1), .val (.int p2), .val (.int p3), .val .null, .val .null, .unset, .unset, .unset, .unset, .unset, .unset, .unset] [(.ref rr6)])) _
          refine XS.astore X6.here hx rfl (hb hby at_23) rfl rfl (l' := #[.val (.int p1), .val (.int p2), .val (.int p3), .val .null, .val .null, .val (.ref rr6), .unset, .unset, .unset, .unset, .unset, .unset]) rfl ?_
          show Steps p.tables e below (T6.setTop (mkF m 25 #[.val (.int p1), .val (.int p2), .val (.int p3), .val .null, .val .null, .val (.ref rr6), .unset, .unset, .unset, .unset, .unset, .unset] [])) _
          refine XS.iloadN X6.here hx rfl (hb hby at_25) rfl ?_
          show Steps p.tables e below (T6.setTop (mkF m 26 #[.val (.int p1), .val (.int p2), .val (.int p3), .val .null, .val .null, .val (.ref rr6), .unset, .unset, .unset, .unset, .unset, .unset] [(.int p3)])) _
          refine XS.iconst X6.here hx rfl (hb hby at_26) ?_
          show Steps p.tables e below (T6.setTop (mkF m 27 #[.val (.int p1), .val (.int p2), .val (.int p3), .val .null, .val .null, .val (.ref rr6), .unset, .unset, .unset, .unset, .unset, .unset] [(.int (3 : Int32)), (.int p3)])) _
          refine XS.iand X6.here hx rfl (hb hby at_27) rfl ?_
          show Steps p.tables e below (T6.setTop (mkF m 28 #[.val (.int p1), .val (.int p2), .val (.int p3), .val .null, .val .null, .val (.ref rr6), .unset, .unset, .unset, .unset, .unset, .unset] [(.int (p3 &&& (3 : Int32)))])) _
          refine XS.ifYes X6.here hx rfl (pc0 := 28) (pc' := 35) rfl (hb hby at_28) rfl ((if0 _ _).trans (teq hd12).1) (by decide) (by decide) ?_
          show Steps p.tables e below (T6.setTop (mkF m 35 #[.val (.int p1), .val (.int p2), .val (.int p3), .val .null, .val .null, .val (.ref rr6), .unset, .unset, .unset, .unset, .unset, .unset] [])) _
          refine XS.iconst X6.here hx rfl (hb hby at_35) ?_
          show Steps p.tables e below (T6.setTop (mkF m 36 #[.val (.int p1), .val (.int p2), .val (.int p3), .val .null, .val .null, .val (.ref rr6), .unset, .unset, .unset, .unset, .unset, .unset] [(.int (0 : Int32))])) _
          refine XS.istore X6.here hx rfl (hb hby at_36) rfl (l' := #[.val (.int p1), .val (.int p2), .val (.int p3), .val .null, .val .null, .val (.ref rr6), .val (.int (0 : Int32)), .unset, .unset, .unset, .unset, .unset]) rfl ?_
          show Steps p.tables e below (T6.setTop (mkF m 38 #[.val (.int p1), .val (.int p2), .val (.int p3), .val .null, .val .null, .val (.ref rr6), .val (.int (0 : Int32)), .unset, .unset, .unset, .unset, .unset] [])) _
          refine XS.iconst X6.here hx rfl (hb hby at_38) ?_
          show Steps p.tables e below (T6.setTop (mkF m 39 #[.val (.int p1), .val (.int p2), .val (.int p3), .val .null, .val .null, .val (.ref rr6), .val (.int (0 : Int32)), .unset, .unset, .unset, .unset, .unset] [(.int (2 : Int32))])) _
          refine XS.iloadN X6.here hx rfl (hb hby at_39) rfl ?_
          show Steps p.tables e below (T6.setTop (mkF m 40 #[.val (.int p1), .val (.int p2), .val (.int p3), .val .null, .val .null, .val (.ref rr6), .val (.int (0 : Int32)), .unset, .unset, .unset, .unset, .unset] [(.int p3), (.int (2 : Int32))])) _
          refine XS.bipush X6.here hx rfl (hb hby at_40) ?_
          show Steps p.tables e below (T6.setTop (mkF m 42 #[.val (.int p1), .val (.int p2), .val (.int p3), .val .null, .val .null, .val (.ref rr6), .val (.int (0 : Int32)), .unset, .unset, .unset, .unset, .unset] [(.int (7 : Int32)), (.int p3), (.int (2 : Int32))])) _
          refine XS.iushr X6.here hx rfl (hb hby at_42) rfl ?_
          show Steps p.tables e below (T6.setTop (mkF m 43 #[.val (.int p1), .val (.int p2), .val (.int p3), .val .null, .val .null, .val (.ref rr6), .val (.int (0 : Int32)), .unset, .unset, .unset, .unset, .unset] [(.int ((p3.toUInt32 >>> ((7 : Int32) &&& 31).toUInt32).toInt32)), (.int (2 : Int32))])) _
          refine XS.iconst X6.here hx rfl (hb hby at_43) ?_
          show Steps p.tables e below (T6.setTop (mkF m 44 #[.val (.int p1), .val (.int p2), .val (.int p3), .val .null, .val .null, .val (.ref rr6), .val (.int (0 : Int32)), .unset, .unset, .unset, .unset, .unset] [(.int (1 : Int32)), (.int ((p3.toUInt32 >>> ((7 : Int32) &&& 31).toUInt32).toInt32)), (.int (2 : Int32))])) _
          refine XS.iand X6.here hx rfl (hb hby at_44) rfl ?_
          show Steps p.tables e below (T6.setTop (mkF m 45 #[.val (.int p1), .val (.int p2), .val (.int p3), .val .null, .val .null, .val (.ref rr6), .val (.int (0 : Int32)), .unset, .unset, .unset, .unset, .unset] [(.int (((p3.toUInt32 >>> ((7 : Int32) &&& 31).toUInt32).toInt32) &&& (1 : Int32))), (.int (2 : Int32))])) _
          refine XS.iadd X6.here hx rfl (hb hby at_45) rfl ?_
          show Steps p.tables e below (T6.setTop (mkF m 46 #[.val (.int p1), .val (.int p2), .val (.int p3), .val .null, .val .null, .val (.ref rr6), .val (.int (0 : Int32)), .unset, .unset, .unset, .unset, .unset] [(.int ((2 : Int32) + (((p3.toUInt32 >>> ((7 : Int32) &&& 31).toUInt32).toInt32) &&& (1 : Int32))))])) _
          refine XS.iloadN X6.here hx rfl (hb hby at_46) rfl ?_
          show Steps p.tables e below (T6.setTop (mkF m 47 #[.val (.int p1), .val (.int p2), .val (.int p3), .val .null, .val .null, .val (.ref rr6), .val (.int (0 : Int32)), .unset, .unset, .unset, .unset, .unset] [(.int p1), (.int ((2 : Int32) + (((p3.toUInt32 >>> ((7 : Int32) &&& 31).toUInt32).toInt32) &&& (1 : Int32))))])) _
          refine XS.iloadN X6.here hx rfl (hb hby at_47) rfl ?_
          exact kt
        obtain ⟨_, _, ⟨T7, L7, k7, n7⟩, -, X7', hS7', hge7, ⟨Lc7, hQ7, l7, y7, z7, hC7⟩, st7⟩ := callSS X6 hx (y := (⟨"com/example/poolwright/poolwright/CopyStartsPinLaw", "draw", "(III)Ljava/lang/String;"⟩ : MethodName)) hown (mvT hZ (hw _ (List.mem_of_getElem? (i := 0) rfl))) (mvT hZ (hw _ (List.mem_of_getElem? (i := 1) rfl))) (mvT hZ (hw _ (List.mem_of_getElem? (i := 2) rfl))) (mvT hZ (hw _ (List.mem_of_getElem? (i := 3) rfl))) (by decide) (backOfSH (s := s) (vm0 := s.vm) (W := 0) (rm_d1 l Z a0 hw [] ((2 : Int32) + (((p3.toUInt32 >>> ((7 : Int32) &&& 31).toUInt32).toInt32) &&& (1 : Int32))) p1 p2 cs h0 n0 Z0 hEL S_CS hcs (own_m3 _)) hZ (hw _ (List.mem_of_getElem? (i := 3) rfl)) (hw _ (List.mem_of_getElem? (i := 2) rfl)) (by decide) (by decide) hEL C0.1) (g := (mkF m 48 #[.val (.int p1), .val (.int p2), .val (.int p3), .val .null, .val .null, .val (.ref rr6), .val (.int (0 : Int32)), .unset, .unset, .unset, .unset, .unset] [(.int p2), (.int p1), (.int ((2 : Int32) + (((p3.toUInt32 >>> ((7 : Int32) &&& 31).toUInt32).toInt32) &&& (1 : Int32))))])) rfl (by rw [hml]; rfl) (argsL := [(.int ((2 : Int32) + (((p3.toUInt32 >>> ((7 : Int32) &&& 31).toUInt32).toInt32) &&& (1 : Int32)))), (.int p1), (.int p2)]) (rest := []) (lenOf pd__III_Ljava_lang_String__1996 rfl) rfl (by show 2 * 0 + _ ≤ _; exact Nat.le_of_eq rfl) (hb hby at_48) (fun _ _ => ⟨rfl, e6, (by decide : 0 + 6 ≤ _), (by decide : 0 + 12 ≤ _)⟩)
        dsimp only [Pt.U, Pt.locs, Pt.cells, Pt.slots] at X7' hS7' hge7 l7 y7 z7 st7 hQ7 hC7
        subst l7 y7 z7
        have hS7 : s.Since T7.vm T7.heap.size := hS7'
        have hZ : Z.Warmed39 (s.setVm T7.vm).vm := State.Warmed39.trans (t := s) hZ hS7'.1
        have hown : (s.setVm T7.vm).vm.findClass "com/example/poolwright/poolwright/CopyStartsPinLaw" = some m.cls := by rw [show (s.setVm T7.vm).vm = T7.vm from rfl, hS7'.1.alike.findClass]; exact hown
        have X7 := rebase (vm := T7.vm) X7'
        have C9 : CHr Z own_EL s.vm h0 T7.vm T7.heap := C0.trans hC7
        obtain ⟨bb7, rfl, N7q, K7⟩ := hQ7
        have f1 : Sta Z T7.heap "com/example/poolwright/poolwright/Copy$Refusal" "ALERT" "Lcom/example/poolwright/poolwright/Copy$Refusal;" (.ref c_ALERT) := own_sta S_ALERT K7
        have f2 : Sta Z T7.heap "com/example/poolwright/poolwright/Copy$Refusal" "OFF" "Lcom/example/poolwright/poolwright/Copy$Refusal;" (.ref c_OFF) := own_sta S_OFF K7
        have f3 : Sta Z T7.heap "com/example/poolwright/poolwright/Copy$Refusal" "MAX_COPIES" "Lcom/example/poolwright/poolwright/Copy$Refusal;" (.ref c_MAX_COPIES) := own_sta S_MAX_COPIES K7
        have f4 : Sta Z T7.heap "com/example/poolwright/poolwright/Copy$Refusal" "NO_DESTINATION" "Lcom/example/poolwright/poolwright/Copy$Refusal;" (.ref c_NO_DESTINATION) := own_sta S_NO_DESTINATION K7
        have f5 : Sta Z T7.heap "java/lang/String" "COMPACT_STRINGS" "Z" (.int cs) := own_sta S_CS K7
        have Z7 : n0 ≤ T7.heap.size := Nat.le_trans Z0 K7.1
        have hk7 : T7.heap.size ≤ T7.heap.size := Nat.le_refl _
        have N7 := Fr.app N6 N7q
        obtain ⟨T10, h10, X10, e10, E10, A10, D10, -, st10⟩ := newO X7 hx hZ hown (hw _ (List.mem_of_getElem? (i := 40) rfl)) (hw _ (List.mem_of_getElem? (i := 41) rfl)) (hw _ (List.mem_of_getElem? (i := 42) rfl)) rfl (g := (mkF m 53 #[.val (.int p1), .val (.int p2), .val (.int p3), .val .null, .val .null, .val (.ref rr6), .val (.int (0 : Int32)), .val (.ref bb7), .unset, .unset, .unset, .unset] [])) rfl (hb hby at_53) (by decide) (by decide)
        obtain ⟨b10, g10⟩ : ∃ z, z = T7.heap.size := ⟨_, rfl⟩
        rw [← g10] at A10 D10 st10
        have f6 : Sta Z h10 "com/example/poolwright/poolwright/Copy$Refusal" "ALERT" "Lcom/example/poolwright/poolwright/Copy$Refusal;" (.ref c_ALERT) := f1.ext E10
        have f7 : Sta Z h10 "com/example/poolwright/poolwright/Copy$Refusal" "OFF" "Lcom/example/poolwright/poolwright/Copy$Refusal;" (.ref c_OFF) := f2.ext E10
        have f8 : Sta Z h10 "com/example/poolwright/poolwright/Copy$Refusal" "MAX_COPIES" "Lcom/example/poolwright/poolwright/Copy$Refusal;" (.ref c_MAX_COPIES) := f3.ext E10
        have f9 : Sta Z h10 "com/example/poolwright/poolwright/Copy$Refusal" "NO_DESTINATION" "Lcom/example/poolwright/poolwright/Copy$Refusal;" (.ref c_NO_DESTINATION) := f4.ext E10
        have f10 : Sta Z h10 "java/lang/String" "COMPACT_STRINGS" "Z" (.int cs) := f5.ext E10
        have f11 : T7.heap.size ≤ h10.size := Nat.le_trans hk7 E10.1
        have C11 : CHr Z own_EL s.vm h0 T7.vm h10 := C9.trans (CHr.ext E10 C9.1)
        have sf11_b10 : Safe Z own_EL T7.vm h10 b10 := Safe.ext E10 C9.1 (Safe.new (Nat.le_of_eq g10.symm))
        have g_b10 : n0 ≤ b10 := Nat.le_trans Z7 (Nat.le_of_eq g10.symm)
        have Z10 : n0 ≤ h10.size := Nat.le_trans Z7 E10.1
        have F_source_b10 : Fld Z h10 b10 "com/example/poolwright/poolwright/Copy" "source" "Ljava/lang/String;" .null := D10 (Or.inr (hw _ (List.mem_of_getElem? (i := 53) rfl))) (ty := (.object "java/lang/String")) (by decide)
        have F_destination_b10 : Fld Z h10 b10 "com/example/poolwright/poolwright/Copy" "destination" "Ljava/lang/String;" .null := D10 (Or.inr (hw _ (List.mem_of_getElem? (i := 55) rfl))) (ty := (.object "java/lang/String")) (by decide)
        have F_refusal_b10 : Fld Z h10 b10 "com/example/poolwright/poolwright/Copy" "refusal" "Lcom/example/poolwright/poolwright/Copy$Refusal;" .null := D10 (Or.inr (hw _ (List.mem_of_getElem? (i := 57) rfl))) (ty := (.object "com/example/poolwright/poolwright/Copy$Refusal")) (by decide)
        obtain ⟨_, _, ⟨T12, L12, k12, n12⟩, -, X12, ⟨Lc12, hQ12, l12, y12, z12⟩, st12⟩ := X10.specialBack hx (y := (⟨"com/example/poolwright/poolwright/Copy", "<init>", "(Ljava/lang/String;Ljava/lang/String;Lcom/example/poolwright/poolwright/Copy$Refusal;)V"⟩ : MethodName)) rfl hown (mvT hZ (hw _ (List.mem_of_getElem? (i := 43) rfl))) (mvT hZ (hw _ (List.mem_of_getElem? (i := 44) rfl))) (mvT hZ (hw _ (List.mem_of_getElem? (i := 45) rfl))) (by decide) (backOf (W := 1) (rm_cinnr l Z a0 hw [] b10 rr6 h10 n0 Z10 F_source_b10 F_destination_b10 F_refusal_b10 A10 g_b10) hZ (hw _ (List.mem_of_getElem? (i := 45) rfl)) (hw _ (List.mem_of_getElem? (i := 42) rfl)) (by decide) (by decide)) (g := (mkF m 62 #[.val (.int p1), .val (.int p2), .val (.int p3), .val .null, .val .null, .val (.ref rr6), .val (.int (0 : Int32)), .val (.ref bb7), .unset, .unset, .unset, .unset] [(.ref rr6), .null, .null, (.ref b10), (.ref b10)])) rfl (by rw [hml]; rfl) (Steps.refl _) (a := b10) (argsL := [.null, .null, (.ref rr6)]) (rest := [(.ref b10)]) (lenOf pd__Ljava_lang_String_Ljava_lang_String_Lcom_example_poolwright_8324 rfl) rfl (by show 2 * 0 + _ ≤ _; exact Nat.le_of_eq rfl) (hb hby at_62) (fun _ _ => ⟨rfl, e10, (by decide : 7 + 0 ≤ _), (by decide : 15 + 0 ≤ _)⟩)
        dsimp only [Pt.U, Pt.locs, Pt.cells, Pt.slots] at X12 l12 y12 z12 st12 hQ12
        subst l12 y12 z12
        obtain ⟨rfl, N12q, K12, fk12_0, fk12_1⟩ := hQ12
        have f12 : T7.heap.size ≤ T12.heap.size := Nat.le_trans f11 K12.1
        have f13 : n0 ≤ b10 := g_b10
        have C13 : CHr Z own_EL s.vm h0 T7.vm T12.heap := C11.trans (CHr.keep K12 (sfS sf11_b10 sf0) C11.1)
        have sf13_b10 : Safe Z own_EL T7.vm T12.heap b10 := Safe.keep K12 (sfS sf11_b10 sf0) C11.1 sf11_b10
        have Z12 : n0 ≤ T12.heap.size := Nat.le_trans Z10 K12.1
        have N12 := Fr.app N7 N12q
        obtain ⟨cq14, kq14, q14a, q14b, q14c⟩ := isOf hZ rfl fk12_0
        obtain ⟨_, _, ⟨T14, L14, k14, n14⟩, -, X14, ⟨Lc14, hQ14, l14, y14, z14⟩, st14⟩ := X12.virtualBack hx (y := (⟨"com/example/poolwright/poolwright/Copy", "starts", "()Z"⟩ : MethodName)) (z := (⟨"com/example/poolwright/poolwright/Copy", "starts", "()Z"⟩ : MethodName)) hown (mvT hZ (hw _ (List.mem_of_getElem? (i := 58) rfl))) (mvT hZ (hw _ (List.mem_of_getElem? (i := 59) rfl))) (notFace_of_selects (args := #[]) (mvT hZ (hw _ (List.mem_of_getElem? (i := 61) rfl)))) (mvT hZ (hw _ (List.mem_of_getElem? (i := 61) rfl))) (mvT hZ (hw _ (List.mem_of_getElem? (i := 60) rfl))) (by decide) (backOf (W := 0) (rm_stn l Z a0 hw [] b10 T12.heap n0 Z12 fk12_1) hZ (hw _ (List.mem_of_getElem? (i := 62) rfl)) (hw _ (List.mem_of_getElem? (i := 42) rfl)) (by decide) (by decide)) q14a q14c (g := (mkF m 69 #[.val (.int p1), .val (.int p2), .val (.int p3), .val .null, .val .null, .val (.ref rr6), .val (.int (0 : Int32)), .val (.ref bb7), .val (.ref b10), .unset, .unset, .unset] [(.ref b10)])) rfl (by rw [hml]; rfl) (Steps.refl _) (argsL := []) (rest := []) (lenOf pd___Z_171 rfl) rfl (by show 2 * 0 + _ ≤ _; exact Nat.le_of_eq rfl) (hb hby at_69) (fun _ _ => ⟨rfl, rfl, (by decide : 7 + 0 ≤ _), (by decide : 15 + 0 ≤ _)⟩)
        dsimp only [Pt.U, Pt.locs, Pt.cells, Pt.slots] at X14 l14 y14 z14 st14 hQ14
        subst l14 y14 z14
        obtain ⟨rfl, N14q, e14⟩ := hQ14
        have N14 := Fr.app N12 N14q
        obtain ⟨_, _, ⟨T15, L15, k15, n15⟩, -, X15, ⟨Lc15, hQ15, l15, y15, z15⟩, st15⟩ := Jvm.LawKit.callS X14 hx (y := (⟨"com/example/poolwright/poolwright/Copy", "started", "(Ljava/lang/String;Ljava/lang/String;)Lcom/example/poolwright/poolwright/Copy;"⟩ : MethodName)) hown (mvT hZ (hw _ (List.mem_of_getElem? (i := 63) rfl))) (mvT hZ (hw _ (List.mem_of_getElem? (i := 64) rfl))) (mvT hZ (hw _ (List.mem_of_getElem? (i := 42) rfl))) (mvT hZ (hw _ (List.mem_of_getElem? (i := 65) rfl))) (by decide) (backOf (W := 0) (rm_sdn l Z a0 hw [] bb7 T12.heap n0 Z12 ) hZ (hw _ (List.mem_of_getElem? (i := 65) rfl)) (hw _ (List.mem_of_getElem? (i := 42) rfl)) (by decide) (by decide)) (g := (mkF m 87 #[.val (.int p1), .val (.int p2), .val (.int p3), .val .null, .val .null, .val (.ref rr6), .val (.int (0 : Int32)), .val (.ref bb7), .val (.ref b10), .val (.int (1 : Int32)), .unset, .unset] [(.ref bb7), .null])) rfl (by rw [hml]; rfl) (argsL := [.null, (.ref bb7)]) (rest := []) (lenOf pd__Ljava_lang_String_Ljava_lang_String__Lcom_example_poolwrigh_7480 rfl) rfl (by show 2 * 0 + _ ≤ _; exact Nat.le_of_eq rfl) (hb hby at_87) (fun _ _ => ⟨rfl, e14, (by decide : 7 + 1 ≤ _), (by decide : 15 + 3 ≤ _)⟩)
        dsimp only [Pt.U, Pt.locs, Pt.cells, Pt.slots] at X15 l15 y15 z15 st15 hQ15
        subst l15 y15 z15
        obtain ⟨fb15, rfl, N15q, K15, fk15_0, fk15_1⟩ := hQ15
        have f14 : T7.heap.size ≤ T15.heap.size := Nat.le_trans f12 K15.1
        have f15 : n0 ≤ b10 := f13
        have f16 : Exa Z T15.heap b10 "com/example/poolwright/poolwright/Copy" := fk12_0.keep K15
        have f17 : Fld Z T15.heap b10 "com/example/poolwright/poolwright/Copy" "destination" "Ljava/lang/String;" .null := fk12_1.keep K15 (by simp)
        have C16 : CHr Z own_EL s.vm h0 T7.vm T15.heap := C13.trans (CHr.keep K15 sf0 C13.1)
        have sf16_b10 : Safe Z own_EL T7.vm T15.heap b10 := Safe.keep K15 sf0 C13.1 sf13_b10
        have Z15 : n0 ≤ T15.heap.size := Nat.le_trans Z12 K15.1
        have N15 := Fr.app N14 N15q
        obtain ⟨cq17, kq17, q17a, q17b, q17c⟩ := isOf hZ rfl fk15_0
        obtain ⟨_, _, ⟨T17, L17, k17, n17⟩, -, X17, ⟨Lc17, hQ17, l17, y17, z17⟩, st17⟩ := X15.virtualBack hx (y := (⟨"com/example/poolwright/poolwright/Copy", "starts", "()Z"⟩ : MethodName)) (z := (⟨"com/example/poolwright/poolwright/Copy", "starts", "()Z"⟩ : MethodName)) hown (mvT hZ (hw _ (List.mem_of_getElem? (i := 58) rfl))) (mvT hZ (hw _ (List.mem_of_getElem? (i := 59) rfl))) (notFace_of_selects (args := #[]) (mvT hZ (hw _ (List.mem_of_getElem? (i := 61) rfl)))) (mvT hZ (hw _ (List.mem_of_getElem? (i := 61) rfl))) (mvT hZ (hw _ (List.mem_of_getElem? (i := 60) rfl))) (by decide) (backOf (W := 0) (rm_str l Z a0 hw [] fb15 bb7 T15.heap n0 Z15 fk15_1) hZ (hw _ (List.mem_of_getElem? (i := 62) rfl)) (hw _ (List.mem_of_getElem? (i := 42) rfl)) (by decide) (by decide)) q17a q17c (g := (mkF m 90 #[.val (.int p1), .val (.int p2), .val (.int p3), .val .null, .val .null, .val (.ref rr6), .val (.int (0 : Int32)), .val (.ref bb7), .val (.ref b10), .val (.int (1 : Int32)), .unset, .unset] [(.ref fb15)])) rfl (by rw [hml]; rfl) (Steps.refl _) (argsL := []) (rest := []) (lenOf pd___Z_171 rfl) rfl (by show 2 * 0 + _ ≤ _; exact Nat.le_of_eq rfl) (hb hby at_90) (fun _ _ => ⟨rfl, rfl, (by decide : 8 + 0 ≤ _), (by decide : 18 + 0 ≤ _)⟩)
        dsimp only [Pt.U, Pt.locs, Pt.cells, Pt.slots] at X17 l17 y17 z17 st17 hQ17
        subst l17 y17 z17
        obtain ⟨rfl, N17q, e17⟩ := hQ17
        have N17 := Fr.app N15 N17q
        obtain ⟨_, _, ⟨T18, L18, k18, n18⟩, -, X18, ⟨Lc18, hQ18, l18, y18, z18⟩, st18⟩ := Jvm.LawKit.callS X17 hx (y := (⟨"com/example/poolwright/poolwright/Copy", "refused", "(Ljava/lang/String;Lcom/example/poolwright/poolwright/Copy$Refusal;)Lcom/example/poolwright/poolwright/Copy;"⟩ : MethodName)) hown (mvT hZ (hw _ (List.mem_of_getElem? (i := 68) rfl))) (mvT hZ (hw _ (List.mem_of_getElem? (i := 69) rfl))) (mvT hZ (hw _ (List.mem_of_getElem? (i := 42) rfl))) (mvT hZ (hw _ (List.mem_of_getElem? (i := 70) rfl))) (by decide) (backOf (W := 0) (rm_rdnr l Z a0 hw [] rr6 T15.heap n0 Z15 ) hZ (hw _ (List.mem_of_getElem? (i := 70) rfl)) (hw _ (List.mem_of_getElem? (i := 42) rfl)) (by decide) (by decide)) (g := (mkF m 98 #[.val (.int p1), .val (.int p2), .val (.int p3), .val .null, .val .null, .val (.ref rr6), .val (.int (0 : Int32)), .val (.ref bb7), .val (.ref b10), .val (.int (1 : Int32)), .val (.int (1 : Int32)), .unset] [(.ref rr6), .null])) rfl (by rw [hml]; rfl) (argsL := [.null, (.ref rr6)]) (rest := []) (lenOf pd__Ljava_lang_String_Lcom_example_poolwright_poolwright_Copy_R_576 rfl) rfl (by show 2 * 0 + _ ≤ _; exact Nat.le_of_eq rfl) (hb hby at_98) (fun _ _ => ⟨rfl, e17, (by decide : 8 + 1 ≤ _), (by decide : 18 + 3 ≤ _)⟩)
        dsimp only [Pt.U, Pt.locs, Pt.cells, Pt.slots] at X18 l18 y18 z18 st18 hQ18
        subst l18 y18 z18
        obtain ⟨fb18, rfl, N18q, K18, fk18_0, fk18_1⟩ := hQ18
        have f18 : T7.heap.size ≤ T18.heap.size := Nat.le_trans f14 K18.1
        have f19 : n0 ≤ b10 := f15
        have f20 : Exa Z T18.heap b10 "com/example/poolwright/poolwright/Copy" := f16.keep K18
        have f21 : Fld Z T18.heap b10 "com/example/poolwright/poolwright/Copy" "destination" "Ljava/lang/String;" .null := f17.keep K18 (by simp)
        have f22 : Exa Z T18.heap fb15 "com/example/poolwright/poolwright/Copy" := fk15_0.keep K18
        have f23 : Fld Z T18.heap fb15 "com/example/poolwright/poolwright/Copy" "destination" "Ljava/lang/String;" (.ref bb7) := fk15_1.keep K18 (by simp)
        have C19 : CHr Z own_EL s.vm h0 T7.vm T18.heap := C16.trans (CHr.keep K18 sf0 C16.1)
        have sf19_b10 : Safe Z own_EL T7.vm T18.heap b10 := Safe.keep K18 sf0 C16.1 sf16_b10
        have Z18 : n0 ≤ T18.heap.size := Nat.le_trans Z15 K18.1
        have N18 := Fr.app N17 N18q
        obtain ⟨cq20, kq20, q20a, q20b, q20c⟩ := isOf hZ rfl fk18_0
        obtain ⟨_, _, ⟨T20, L20, k20, n20⟩, -, X20, ⟨Lc20, hQ20, l20, y20, z20⟩, st20⟩ := X18.virtualBack hx (y := (⟨"com/example/poolwright/poolwright/Copy", "starts", "()Z"⟩ : MethodName)) (z := (⟨"com/example/poolwright/poolwright/Copy", "starts", "()Z"⟩ : MethodName)) hown (mvT hZ (hw _ (List.mem_of_getElem? (i := 58) rfl))) (mvT hZ (hw _ (List.mem_of_getElem? (i := 59) rfl))) (notFace_of_selects (args := #[]) (mvT hZ (hw _ (List.mem_of_getElem? (i := 61) rfl)))) (mvT hZ (hw _ (List.mem_of_getElem? (i := 61) rfl))) (mvT hZ (hw _ (List.mem_of_getElem? (i := 60) rfl))) (by decide) (backOf (W := 0) (rm_stn l Z a0 hw [] fb18 T18.heap n0 Z18 fk18_1) hZ (hw _ (List.mem_of_getElem? (i := 62) rfl)) (hw _ (List.mem_of_getElem? (i := 42) rfl)) (by decide) (by decide)) q20a q20c (g := (mkF m 101 #[.val (.int p1), .val (.int p2), .val (.int p3), .val .null, .val .null, .val (.ref rr6), .val (.int (0 : Int32)), .val (.ref bb7), .val (.ref b10), .val (.int (1 : Int32)), .val (.int (1 : Int32)), .unset] [(.ref fb18)])) rfl (by rw [hml]; rfl) (Steps.refl _) (argsL := []) (rest := []) (lenOf pd___Z_171 rfl) rfl (by show 2 * 0 + _ ≤ _; exact Nat.le_of_eq rfl) (hb hby at_101) (fun _ _ => ⟨rfl, rfl, (by decide : 9 + 0 ≤ _), (by decide : 21 + 0 ≤ _)⟩)
        dsimp only [Pt.U, Pt.locs, Pt.cells, Pt.slots] at X20 l20 y20 z20 st20 hQ20
        subst l20 y20 z20
        obtain ⟨rfl, N20q, e20⟩ := hQ20
        have N20 := Fr.app N18 N20q
        obtain ⟨fs, hr, hrun, hended, hRW⟩ := X20.leaveW (s := s) hS7 (by rw [e20]; exact f18) (v := some (.int (1 : Int32))) (fun h => by rw [Bd.returns] at h; cases h) (hlocks := Bd.notSynchronized)
        refine ⟨_, _, pre_8 _ ?_, hrun, hended, _, _, rfl, ?_, (by show CHr Z own_EL s.vm s.heap T20.vm T20.heap; rw [hh, e20]; exact C19.trans (CHv.at (s := s) (vm0 := T7.vm) X20 hZ hEL C19.1)), hRW.1, hRW.2.1, hRW.2.2.1, hRW.2.2.2.mono (by decide) (by decide)⟩
        · show Steps p.tables e below (T6.setTop (mkF m 48 #[.val (.int p1), .val (.int p2), .val (.int p3), .val .null, .val .null, .val (.ref rr6), .val (.int (0 : Int32)), .unset, .unset, .unset, .unset, .unset] [(.int p2), (.int p1), (.int ((2 : Int32) + (((p3.toUInt32 >>> ((7 : Int32) &&& 31).toUInt32).toInt32) &&& (1 : Int32))))])) _
          refine st7.trans ?_
          show Steps p.tables e below (T7.setTop (mkF m 51 #[.val (.int p1), .val (.int p2), .val (.int p3), .val .null, .val .null, .val (.ref rr6), .val (.int (0 : Int32)), .unset, .unset, .unset, .unset, .unset] [(.ref bb7)])) _
          refine XS.astore X7.here hx rfl (hb hby at_51) rfl rfl (l' := #[.val (.int p1), .val (.int p2), .val (.int p3), .val .null, .val .null, .val (.ref rr6), .val (.int (0 : Int32)), .val (.ref bb7), .unset, .unset, .unset, .unset]) rfl ?_
          show Steps p.tables e below (T7.setTop (mkF m 53 #[.val (.int p1), .val (.int p2), .val (.int p3), .val .null, .val .null, .val (.ref rr6), .val (.int (0 : Int32)), .val (.ref bb7), .unset, .unset, .unset, .unset] [])) _
          refine st10 _ ?_
          show Steps p.tables e below (T10.setTop (mkF m 56 #[.val (.int p1), .val (.int p2), .val (.int p3), .val .null, .val .null, .val (.ref rr6), .val (.int (0 : Int32)), .val (.ref bb7), .unset, .unset, .unset, .unset] [(.ref b10)])) _
          refine XS.dup X10.here hx rfl (hb hby at_56) rfl rfl ?_
          show Steps p.tables e below (T10.setTop (mkF m 57 #[.val (.int p1), .val (.int p2), .val (.int p3), .val .null, .val .null, .val (.ref rr6), .val (.int (0 : Int32)), .val (.ref bb7), .unset, .unset, .unset, .unset] [(.ref b10), (.ref b10)])) _
          refine XS.aloadN X10.here hx rfl (hb hby at_57) rfl rfl ?_
          show Steps p.tables e below (T10.setTop (mkF m 58 #[.val (.int p1), .val (.int p2), .val (.int p3), .val .null, .val .null, .val (.ref rr6), .val (.int (0 : Int32)), .val (.ref bb7), .unset, .unset, .unset, .unset] [.null, (.ref b10), (.ref b10)])) _
          refine XS.aload X10.here hx rfl (hb hby at_58) rfl rfl ?_
          show Steps p.tables e below (T10.setTop (mkF m 60 #[.val (.int p1), .val (.int p2), .val (.int p3), .val .null, .val .null, .val (.ref rr6), .val (.int (0 : Int32)), .val (.ref bb7), .unset, .unset, .unset, .unset] [.null, .null, (.ref b10), (.ref b10)])) _
          refine XS.aload X10.here hx rfl (hb hby at_60) rfl rfl ?_
          show Steps p.tables e below (T10.setTop (mkF m 62 #[.val (.int p1), .val (.int p2), .val (.int p3), .val .null, .val .null, .val (.ref rr6), .val (.int (0 : Int32)), .val (.ref bb7), .unset, .unset, .unset, .unset] [(.ref rr6), .null, .null, (.ref b10), (.ref b10)])) _
          refine st12.trans ?_
          show Steps p.tables e below (T12.setTop (mkF m 65 #[.val (.int p1), .val (.int p2), .val (.int p3), .val .null, .val .null, .val (.ref rr6), .val (.int (0 : Int32)), .val (.ref bb7), .unset, .unset, .unset, .unset] [(.ref b10)])) _
          refine XS.astore X12.here hx rfl (hb hby at_65) rfl rfl (l' := #[.val (.int p1), .val (.int p2), .val (.int p3), .val .null, .val .null, .val (.ref rr6), .val (.int (0 : Int32)), .val (.ref bb7), .val (.ref b10), .unset, .unset, .unset]) rfl ?_
          show Steps p.tables e below (T12.setTop (mkF m 67 #[.val (.int p1), .val (.int p2), .val (.int p3), .val .null, .val .null, .val (.ref rr6), .val (.int (0 : Int32)), .val (.ref bb7), .val (.ref b10), .unset, .unset, .unset] [])) _
          refine XS.aload X12.here hx rfl (hb hby at_67) rfl rfl ?_
          show Steps p.tables e below (T12.setTop (mkF m 69 #[.val (.int p1), .val (.int p2), .val (.int p3), .val .null, .val .null, .val (.ref rr6), .val (.int (0 : Int32)), .val (.ref bb7), .val (.ref b10), .unset, .unset, .unset] [(.ref b10)])) _
          refine st14.trans ?_
          show Steps p.tables e below (T14.setTop (mkF m 72 #[.val (.int p1), .val (.int p2), .val (.int p3), .val .null, .val .null, .val (.ref rr6), .val (.int (0 : Int32)), .val (.ref bb7), .val (.ref b10), .unset, .unset, .unset] [(.int (0 : Int32))])) _
          refine XS.iload X14.here hx rfl (hb hby at_72) rfl ?_
          show Steps p.tables e below (T14.setTop (mkF m 74 #[.val (.int p1), .val (.int p2), .val (.int p3), .val .null, .val .null, .val (.ref rr6), .val (.int (0 : Int32)), .val (.ref bb7), .val (.ref b10), .unset, .unset, .unset] [(.int (0 : Int32)), (.int (0 : Int32))])) _
          refine XS.icmpNo X14.here hx rfl (hb hby at_74) rfl (teq (by decide : (0 : Int32) = (0 : Int32))).2 ?_
          show Steps p.tables e below (T14.setTop (mkF m 77 #[.val (.int p1), .val (.int p2), .val (.int p3), .val .null, .val .null, .val (.ref rr6), .val (.int (0 : Int32)), .val (.ref bb7), .val (.ref b10), .unset, .unset, .unset] [])) _
          refine XS.iconst X14.here hx rfl (hb hby at_77) ?_
          show Steps p.tables e below (T14.setTop (mkF m 78 #[.val (.int p1), .val (.int p2), .val (.int p3), .val .null, .val .null, .val (.ref rr6), .val (.int (0 : Int32)), .val (.ref bb7), .val (.ref b10), .unset, .unset, .unset] [(.int (1 : Int32))])) _
          refine XS.goto X14.here hx rfl (pc0 := 78) (pc' := 82) rfl (hb hby at_78) (by decide) (by decide) ?_
          show Steps p.tables e below (T14.setTop (mkF m 82 #[.val (.int p1), .val (.int p2), .val (.int p3), .val .null, .val .null, .val (.ref rr6), .val (.int (0 : Int32)), .val (.ref bb7), .val (.ref b10), .unset, .unset, .unset] [(.int (1 : Int32))])) _
          refine XS.istore X14.here hx rfl (hb hby at_82) rfl (l' := #[.val (.int p1), .val (.int p2), .val (.int p3), .val .null, .val .null, .val (.ref rr6), .val (.int (0 : Int32)), .val (.ref bb7), .val (.ref b10), .val (.int (1 : Int32)), .unset, .unset]) rfl ?_
          show Steps p.tables e below (T14.setTop (mkF m 84 #[.val (.int p1), .val (.int p2), .val (.int p3), .val .null, .val .null, .val (.ref rr6), .val (.int (0 : Int32)), .val (.ref bb7), .val (.ref b10), .val (.int (1 : Int32)), .unset, .unset] [])) _
          refine XS.aloadN X14.here hx rfl (hb hby at_84) rfl rfl ?_
          show Steps p.tables e below (T14.setTop (mkF m 85 #[.val (.int p1), .val (.int p2), .val (.int p3), .val .null, .val .null, .val (.ref rr6), .val (.int (0 : Int32)), .val (.ref bb7), .val (.ref b10), .val (.int (1 : Int32)), .unset, .unset] [.null])) _
          refine XS.aload X14.here hx rfl (hb hby at_85) rfl rfl ?_
          show Steps p.tables e below (T14.setTop (mkF m 87 #[.val (.int p1), .val (.int p2), .val (.int p3), .val .null, .val .null, .val (.ref rr6), .val (.int (0 : Int32)), .val (.ref bb7), .val (.ref b10), .val (.int (1 : Int32)), .unset, .unset] [(.ref bb7), .null])) _
          refine st15 _ ?_
          show Steps p.tables e below (T15.setTop (mkF m 90 #[.val (.int p1), .val (.int p2), .val (.int p3), .val .null, .val .null, .val (.ref rr6), .val (.int (0 : Int32)), .val (.ref bb7), .val (.ref b10), .val (.int (1 : Int32)), .unset, .unset] [(.ref fb15)])) _
          refine st17.trans ?_
          show Steps p.tables e below (T17.setTop (mkF m 93 #[.val (.int p1), .val (.int p2), .val (.int p3), .val .null, .val .null, .val (.ref rr6), .val (.int (0 : Int32)), .val (.ref bb7), .val (.ref b10), .val (.int (1 : Int32)), .unset, .unset] [(.int (1 : Int32))])) _
          refine XS.istore X17.here hx rfl (hb hby at_93) rfl (l' := #[.val (.int p1), .val (.int p2), .val (.int p3), .val .null, .val .null, .val (.ref rr6), .val (.int (0 : Int32)), .val (.ref bb7), .val (.ref b10), .val (.int (1 : Int32)), .val (.int (1 : Int32)), .unset]) rfl ?_
          show Steps p.tables e below (T17.setTop (mkF m 95 #[.val (.int p1), .val (.int p2), .val (.int p3), .val .null, .val .null, .val (.ref rr6), .val (.int (0 : Int32)), .val (.ref bb7), .val (.ref b10), .val (.int (1 : Int32)), .val (.int (1 : Int32)), .unset] [])) _
          refine XS.aloadN X17.here hx rfl (hb hby at_95) rfl rfl ?_
          show Steps p.tables e below (T17.setTop (mkF m 96 #[.val (.int p1), .val (.int p2), .val (.int p3), .val .null, .val .null, .val (.ref rr6), .val (.int (0 : Int32)), .val (.ref bb7), .val (.ref b10), .val (.int (1 : Int32)), .val (.int (1 : Int32)), .unset] [.null])) _
          refine XS.aload X17.here hx rfl (hb hby at_96) rfl rfl ?_
          show Steps p.tables e below (T17.setTop (mkF m 98 #[.val (.int p1), .val (.int p2), .val (.int p3), .val .null, .val .null, .val (.ref rr6), .val (.int (0 : Int32)), .val (.ref bb7), .val (.ref b10), .val (.int (1 : Int32)), .val (.int (1 : Int32)), .unset] [(.ref rr6), .null])) _
          refine st18 _ ?_
          show Steps p.tables e below (T18.setTop (mkF m 101 #[.val (.int p1), .val (.int p2), .val (.int p3), .val .null, .val .null, .val (.ref rr6), .val (.int (0 : Int32)), .val (.ref bb7), .val (.ref b10), .val (.int (1 : Int32)), .val (.int (1 : Int32)), .unset] [(.ref fb18)])) _
          refine st20.trans ?_
          show Steps p.tables e below (T20.setTop (mkF m 104 #[.val (.int p1), .val (.int p2), .val (.int p3), .val .null, .val .null, .val (.ref rr6), .val (.int (0 : Int32)), .val (.ref bb7), .val (.ref b10), .val (.int (1 : Int32)), .val (.int (1 : Int32)), .unset] [(.int (0 : Int32))])) _
          refine XS.ifNo X20.here hx rfl (hb hby at_104) rfl ((if0 _ _).trans (teq (by decide : (0 : Int32) = (0 : Int32))).2) ?_
          show Steps p.tables e below (T20.setTop (mkF m 107 #[.val (.int p1), .val (.int p2), .val (.int p3), .val .null, .val .null, .val (.ref rr6), .val (.int (0 : Int32)), .val (.ref bb7), .val (.ref b10), .val (.int (1 : Int32)), .val (.int (1 : Int32)), .unset] [])) _
          refine XS.iconst X20.here hx rfl (hb hby at_107) ?_
          show Steps p.tables e below (T20.setTop (mkF m 108 #[.val (.int p1), .val (.int p2), .val (.int p3), .val .null, .val .null, .val (.ref rr6), .val (.int (0 : Int32)), .val (.ref bb7), .val (.ref b10), .val (.int (1 : Int32)), .val (.int (1 : Int32)), .unset] [(.int (1 : Int32))])) _
          refine XS.goto X20.here hx rfl (pc0 := 108) (pc' := 112) rfl (hb hby at_108) (by decide) (by decide) ?_
          show Steps p.tables e below (T20.setTop (mkF m 112 #[.val (.int p1), .val (.int p2), .val (.int p3), .val .null, .val .null, .val (.ref rr6), .val (.int (0 : Int32)), .val (.ref bb7), .val (.ref b10), .val (.int (1 : Int32)), .val (.int (1 : Int32)), .unset] [(.int (1 : Int32))])) _
          refine XS.istore X20.here hx rfl (hb hby at_112) rfl (l' := #[.val (.int p1), .val (.int p2), .val (.int p3), .val .null, .val .null, .val (.ref rr6), .val (.int (0 : Int32)), .val (.ref bb7), .val (.ref b10), .val (.int (1 : Int32)), .val (.int (1 : Int32)), .val (.int (1 : Int32))]) rfl ?_
          show Steps p.tables e below (T20.setTop (mkF m 114 #[.val (.int p1), .val (.int p2), .val (.int p3), .val .null, .val .null, .val (.ref rr6), .val (.int (0 : Int32)), .val (.ref bb7), .val (.ref b10), .val (.int (1 : Int32)), .val (.int (1 : Int32)), .val (.int (1 : Int32))] [])) _
          refine XS.iload X20.here hx rfl (hb hby at_114) rfl ?_
          show Steps p.tables e below (T20.setTop (mkF m 116 #[.val (.int p1), .val (.int p2), .val (.int p3), .val .null, .val .null, .val (.ref rr6), .val (.int (0 : Int32)), .val (.ref bb7), .val (.ref b10), .val (.int (1 : Int32)), .val (.int (1 : Int32)), .val (.int (1 : Int32))] [(.int (1 : Int32))])) _
          refine XS.ifNo X20.here hx rfl (hb hby at_116) rfl ((if0 _ _).trans (feq (by decide : ¬ ((1 : Int32) = (0 : Int32)))).1) ?_
          show Steps p.tables e below (T20.setTop (mkF m 119 #[.val (.int p1), .val (.int p2), .val (.int p3), .val .null, .val .null, .val (.ref rr6), .val (.int (0 : Int32)), .val (.ref bb7), .val (.ref b10), .val (.int (1 : Int32)), .val (.int (1 : Int32)), .val (.int (1 : Int32))] [])) _
          refine XS.iload X20.here hx rfl (hb hby at_119) rfl ?_
          show Steps p.tables e below (T20.setTop (mkF m 121 #[.val (.int p1), .val (.int p2), .val (.int p3), .val .null, .val .null, .val (.ref rr6), .val (.int (0 : Int32)), .val (.ref bb7), .val (.ref b10), .val (.int (1 : Int32)), .val (.int (1 : Int32)), .val (.int (1 : Int32))] [(.int (1 : Int32))])) _
          refine XS.ifNo X20.here hx rfl (hb hby at_121) rfl ((if0 _ _).trans (feq (by decide : ¬ ((1 : Int32) = (0 : Int32)))).1) ?_
          show Steps p.tables e below (T20.setTop (mkF m 124 #[.val (.int p1), .val (.int p2), .val (.int p3), .val .null, .val .null, .val (.ref rr6), .val (.int (0 : Int32)), .val (.ref bb7), .val (.ref b10), .val (.int (1 : Int32)), .val (.int (1 : Int32)), .val (.int (1 : Int32))] [])) _
          refine XS.iload X20.here hx rfl (hb hby at_124) rfl ?_
          show Steps p.tables e below (T20.setTop (mkF m 126 #[.val (.int p1), .val (.int p2), .val (.int p3), .val .null, .val .null, .val (.ref rr6), .val (.int (0 : Int32)), .val (.ref bb7), .val (.ref b10), .val (.int (1 : Int32)), .val (.int (1 : Int32)), .val (.int (1 : Int32))] [(.int (1 : Int32))])) _
          refine XS.ifNo X20.here hx rfl (hb hby at_126) rfl ((if0 _ _).trans (feq (by decide : ¬ ((1 : Int32) = (0 : Int32)))).1) ?_
          show Steps p.tables e below (T20.setTop (mkF m 129 #[.val (.int p1), .val (.int p2), .val (.int p3), .val .null, .val .null, .val (.ref rr6), .val (.int (0 : Int32)), .val (.ref bb7), .val (.ref b10), .val (.int (1 : Int32)), .val (.int (1 : Int32)), .val (.int (1 : Int32))] [])) _
          refine XS.iconst X20.here hx rfl (hb hby at_129) ?_
          show Steps p.tables e below (T20.setTop (mkF m 130 #[.val (.int p1), .val (.int p2), .val (.int p3), .val .null, .val .null, .val (.ref rr6), .val (.int (0 : Int32)), .val (.ref bb7), .val (.ref b10), .val (.int (1 : Int32)), .val (.int (1 : Int32)), .val (.int (1 : Int32))] [(.int (1 : Int32))])) _
          refine XS.goto X20.here hx rfl (pc0 := 130) (pc' := 134) rfl (hb hby at_130) (by decide) (by decide) ?_
          show Steps p.tables e below (T20.setTop (mkF m 134 #[.val (.int p1), .val (.int p2), .val (.int p3), .val .null, .val .null, .val (.ref rr6), .val (.int (0 : Int32)), .val (.ref bb7), .val (.ref b10), .val (.int (1 : Int32)), .val (.int (1 : Int32)), .val (.int (1 : Int32))] [(.int (1 : Int32))])) _
          exact retN X20 hx (t := .boolean) Bd.returns (by simp) (hb hby at_134) hr
        · show Q_rm0 Z p1 p2 p3 cs c_ALERT c_OFF c_MAX_COPIES c_NO_DESTINATION h0 n0 _ T20.heap _
          rw [e20]
          exact ⟨rfl, N20⟩
      · obtain ⟨_, _, ⟨T21, L21, k21, n21⟩, -, X21, ⟨Lc21, hQ21, l21, y21, z21⟩, st21⟩ := Jvm.LawKit.callS X4 hx (y := (⟨"com/example/poolwright/poolwright/CopyStartsPinLaw", "pick", "(I)Lcom/example/poolwright/poolwright/Copy$Refusal;"⟩ : MethodName)) hown (mvT hZ (hw _ (List.mem_of_getElem? (i := 34) rfl))) (mvT hZ (hw _ (List.mem_of_getElem? (i := 35) rfl))) (mvT hZ (hw _ (List.mem_of_getElem? (i := 2) rfl))) (mvT hZ (hw _ (List.mem_of_getElem? (i := 36) rfl))) (by decide) (backOf (W := 0) (rm_p0 l Z a0 hw [] ((p3.toUInt32 >>> ((4 : Int32) &&& 31).toUInt32).toInt32) h0 n0 Z0 hd20) hZ (hw _ (List.mem_of_getElem? (i := 36) rfl)) (hw _ (List.mem_of_getElem? (i := 2) rfl)) (by decide) (by decide)) (g := (mkF m 20 #[.val (.int p1), .val (.int p2), .val (.int p3), .val .null, .val .null, .unset, .unset, .unset, .unset, .unset, .unset, .unset] [(.int ((p3.toUInt32 >>> ((4 : Int32) &&& 31).toUInt32).toInt32))])) rfl (by rw [hml]; rfl) (argsL := [(.int ((p3.toUInt32 >>> ((4 : Int32) &&& 31).toUInt32).toInt32))]) (rest := []) (lenOf pd__I_Lcom_example_poolwright_poolwright_Copy_Refusal__4919 rfl) rfl (by show 2 * 0 + _ ≤ _; exact Nat.le_of_eq rfl) (hb hby at_20) (fun _ _ => ⟨rfl, e4, (by decide : 0 + 0 ≤ _), (by decide : 0 + 0 ≤ _)⟩)
        dsimp only [Pt.U, Pt.locs, Pt.cells, Pt.slots] at X21 l21 y21 z21 st21 hQ21
        subst l21 y21 z21
        obtain ⟨rfl, N21q, e21⟩ := hQ21
        have N21 := Fr.app N4 N21q
        have pre_23 : ∀ t, Steps p.tables e below (T21.setTop (mkF m 48 #[.val (.int p1), .val (.int p2), .val (.int p3), .val .null, .val .null, .val .null, .val (.int (0 : Int32)), .unset, .unset, .unset, .unset, .unset] [(.int p2), (.int p1), (.int ((2 : Int32) + (((p3.toUInt32 >>> ((7 : Int32) &&& 31).toUInt32).toInt32) &&& (1 : Int32))))])) t → Steps p.tables e below (s₁.setTop (entryFrame m #[(.int p1), (.int p2), (.int p3)] maxLocals)) t := by
          intro t kt
          refine pre_5 _ ?_
          show Steps p.tables e below (T4.setTop (mkF m 20 #[.val (.int p1), .val (.int p2), .val (.int p3), .val .null, .val .null, .unset, .unset, .unset, .unset, .unset, .unset, .unset] [(.int ((p3.toUInt32 >>> ((4 : Int32) &&& 31).toUInt32).toInt32))])) _
          refine st21 _ ?_
          show Steps p.tables e below (T21.setTop (mkF m 23 #[.val (.int p1), .val (.int p2), .val (.int p3), .val .null, .val .null, .unset, .unset, .unset, .unset, .unset, .unset, .unset] [.null])) _
          refine XS.astore X21.here hx rfl (hb hby at_23) rfl rfl (l' := #[.val (.int p1), .val (.int p2), .val (.int p3), .val .null, .val .null, .val .null, .unset, .unset, .unset, .unset, .unset, .unset]) rfl ?_
          show Steps p.tables e below (T21.setTop (mkF m 25 #[.val (.int p1), .val (.int p2), .val (.int p3), .val .null, .val .null, .val .null, .unset, .unset, .unset, .unset, .unset, .unset] [])) _
          refine XS.iloadN X21.here hx rfl (hb hby at_25) rfl ?_
          show Steps p.tables e below (T21.setTop (mkF m 26 #[.val (.int p1), .val (.int p2), .val (.int p3), .val .null, .val .null, .val .null, .unset, .unset, .unset, .unset, .unset, .unset] [(.int p3)])) _
          refine XS.iconst X21.here hx rfl (hb hby at_26) ?_
          show Steps p.tables e below (T21.setTop (mkF m 27 #[.val (.int p1), .val (.int p2), .val (.int p3), .val .null, .val .null, .val .null, .unset, .unset, .unset, .unset, .unset, .unset] [(.int (3 : Int32)), (.int p3)])) _
          refine XS.iand X21.here hx rfl (hb hby at_27) rfl ?_
          show Steps p.tables e below (T21.setTop (mkF m 28 #[.val (.int p1), .val (.int p2), .val (.int p3), .val .null, .val .null, .val .null, .unset, .unset, .unset, .unset, .unset, .unset] [(.int (p3 &&& (3 : Int32)))])) _
          refine XS.ifYes X21.here hx rfl (pc0 := 28) (pc' := 35) rfl (hb hby at_28) rfl ((if0 _ _).trans (teq hd12).1) (by decide) (by decide) ?_
          show Steps p.tables e below (T21.setTop (mkF m 35 #[.val (.int p1), .val (.int p2), .val (.int p3), .val .null, .val .null, .val .null, .unset, .unset, .unset, .unset, .unset, .unset] [])) _
          refine XS.iconst X21.here hx rfl (hb hby at_35) ?_
          show Steps p.tables e below (T21.setTop (mkF m 36 #[.val (.int p1), .val (.int p2), .val (.int p3), .val .null, .val .null, .val .null, .unset, .unset, .unset, .unset, .unset, .unset] [(.int (0 : Int32))])) _
          refine XS.istore X21.here hx rfl (hb hby at_36) rfl (l' := #[.val (.int p1), .val (.int p2), .val (.int p3), .val .null, .val .null, .val .null, .val (.int (0 : Int32)), .unset, .unset, .unset, .unset, .unset]) rfl ?_
          show Steps p.tables e below (T21.setTop (mkF m 38 #[.val (.int p1), .val (.int p2), .val (.int p3), .val .null, .val .null, .val .null, .val (.int (0 : Int32)), .unset, .unset, .unset, .unset, .unset] [])) _
          refine XS.iconst X21.here hx rfl (hb hby at_38) ?_
          show Steps p.tables e below (T21.setTop (mkF m 39 #[.val (.int p1), .val (.int p2), .val (.int p3), .val .null, .val .null, .val .null, .val (.int (0 : Int32)), .unset, .unset, .unset, .unset, .unset] [(.int (2 : Int32))])) _
          refine XS.iloadN X21.here hx rfl (hb hby at_39) rfl ?_
          show Steps p.tables e below (T21.setTop (mkF m 40 #[.val (.int p1), .val (.int p2), .val (.int p3), .val .null, .val .null, .val .null, .val (.int (0 : Int32)), .unset, .unset, .unset, .unset, .unset] [(.int p3), (.int (2 : Int32))])) _
          refine XS.bipush X21.here hx rfl (hb hby at_40) ?_
          show Steps p.tables e below (T21.setTop (mkF m 42 #[.val (.int p1), .val (.int p2), .val (.int p3), .val .null, .val .null, .val .null, .val (.int (0 : Int32)), .unset, .unset, .unset, .unset, .unset] [(.int (7 : Int32)), (.int p3), (.int (2 : Int32))])) _
          refine XS.iushr X21.here hx rfl (hb hby at_42) rfl ?_
          show Steps p.tables e below (T21.setTop (mkF m 43 #[.val (.int p1), .val (.int p2), .val (.int p3), .val .null, .val .null, .val .null, .val (.int (0 : Int32)), .unset, .unset, .unset, .unset, .unset] [(.int ((p3.toUInt32 >>> ((7 : Int32) &&& 31).toUInt32).toInt32)), (.int (2 : Int32))])) _
          refine XS.iconst X21.here hx rfl (hb hby at_43) ?_
          show Steps p.tables e below (T21.setTop (mkF m 44 #[.val (.int p1), .val (.int p2), .val (.int p3), .val .null, .val .null, .val .null, .val (.int (0 : Int32)), .unset, .unset, .unset, .unset, .unset] [(.int (1 : Int32)), (.int ((p3.toUInt32 >>> ((7 : Int32) &&& 31).toUInt32).toInt32)), (.int (2 : Int32))])) _
          refine XS.iand X21.here hx rfl (hb hby at_44) rfl ?_
          show Steps p.tables e below (T21.setTop (mkF m 45 #[.val (.int p1), .val (.int p2), .val (.int p3), .val .null, .val .null, .val .null, .val (.int (0 : Int32)), .unset, .unset, .unset, .unset, .unset] [(.int (((p3.toUInt32 >>> ((7 : Int32) &&& 31).toUInt32).toInt32) &&& (1 : Int32))), (.int (2 : Int32))])) _
          refine XS.iadd X21.here hx rfl (hb hby at_45) rfl ?_
          show Steps p.tables e below (T21.setTop (mkF m 46 #[.val (.int p1), .val (.int p2), .val (.int p3), .val .null, .val .null, .val .null, .val (.int (0 : Int32)), .unset, .unset, .unset, .unset, .unset] [(.int ((2 : Int32) + (((p3.toUInt32 >>> ((7 : Int32) &&& 31).toUInt32).toInt32) &&& (1 : Int32))))])) _
          refine XS.iloadN X21.here hx rfl (hb hby at_46) rfl ?_
          show Steps p.tables e below (T21.setTop (mkF m 47 #[.val (.int p1), .val (.int p2), .val (.int p3), .val .null, .val .null, .val .null, .val (.int (0 : Int32)), .unset, .unset, .unset, .unset, .unset] [(.int p1), (.int ((2 : Int32) + (((p3.toUInt32 >>> ((7 : Int32) &&& 31).toUInt32).toInt32) &&& (1 : Int32))))])) _
          refine XS.iloadN X21.here hx rfl (hb hby at_47) rfl ?_
          exact kt
        obtain ⟨_, _, ⟨T22, L22, k22, n22⟩, -, X22', hS22', hge22, ⟨Lc22, hQ22, l22, y22, z22, hC22⟩, st22⟩ := callSS X21 hx (y := (⟨"com/example/poolwright/poolwright/CopyStartsPinLaw", "draw", "(III)Ljava/lang/String;"⟩ : MethodName)) hown (mvT hZ (hw _ (List.mem_of_getElem? (i := 0) rfl))) (mvT hZ (hw _ (List.mem_of_getElem? (i := 1) rfl))) (mvT hZ (hw _ (List.mem_of_getElem? (i := 2) rfl))) (mvT hZ (hw _ (List.mem_of_getElem? (i := 3) rfl))) (by decide) (backOfSH (s := s) (vm0 := s.vm) (W := 0) (rm_d1 l Z a0 hw [] ((2 : Int32) + (((p3.toUInt32 >>> ((7 : Int32) &&& 31).toUInt32).toInt32) &&& (1 : Int32))) p1 p2 cs h0 n0 Z0 hEL S_CS hcs (own_m3 _)) hZ (hw _ (List.mem_of_getElem? (i := 3) rfl)) (hw _ (List.mem_of_getElem? (i := 2) rfl)) (by decide) (by decide) hEL C0.1) (g := (mkF m 48 #[.val (.int p1), .val (.int p2), .val (.int p3), .val .null, .val .null, .val .null, .val (.int (0 : Int32)), .unset, .unset, .unset, .unset, .unset] [(.int p2), (.int p1), (.int ((2 : Int32) + (((p3.toUInt32 >>> ((7 : Int32) &&& 31).toUInt32).toInt32) &&& (1 : Int32))))])) rfl (by rw [hml]; rfl) (argsL := [(.int ((2 : Int32) + (((p3.toUInt32 >>> ((7 : Int32) &&& 31).toUInt32).toInt32) &&& (1 : Int32)))), (.int p1), (.int p2)]) (rest := []) (lenOf pd__III_Ljava_lang_String__1996 rfl) rfl (by show 2 * 0 + _ ≤ _; exact Nat.le_of_eq rfl) (hb hby at_48) (fun _ _ => ⟨rfl, e21, (by decide : 0 + 6 ≤ _), (by decide : 0 + 12 ≤ _)⟩)
        dsimp only [Pt.U, Pt.locs, Pt.cells, Pt.slots] at X22' hS22' hge22 l22 y22 z22 st22 hQ22 hC22
        subst l22 y22 z22
        have hS22 : s.Since T22.vm T22.heap.size := hS22'
        have hZ : Z.Warmed39 (s.setVm T22.vm).vm := State.Warmed39.trans (t := s) hZ hS22'.1
        have hown : (s.setVm T22.vm).vm.findClass "com/example/poolwright/poolwright/CopyStartsPinLaw" = some m.cls := by rw [show (s.setVm T22.vm).vm = T22.vm from rfl, hS22'.1.alike.findClass]; exact hown
        have X22 := rebase (vm := T22.vm) X22'
        have C24 : CHr Z own_EL s.vm h0 T22.vm T22.heap := C0.trans hC22
        obtain ⟨bb22, rfl, N22q, K22⟩ := hQ22
        have f24 : Sta Z T22.heap "com/example/poolwright/poolwright/Copy$Refusal" "ALERT" "Lcom/example/poolwright/poolwright/Copy$Refusal;" (.ref c_ALERT) := own_sta S_ALERT K22
        have f25 : Sta Z T22.heap "com/example/poolwright/poolwright/Copy$Refusal" "OFF" "Lcom/example/poolwright/poolwright/Copy$Refusal;" (.ref c_OFF) := own_sta S_OFF K22
        have f26 : Sta Z T22.heap "com/example/poolwright/poolwright/Copy$Refusal" "MAX_COPIES" "Lcom/example/poolwright/poolwright/Copy$Refusal;" (.ref c_MAX_COPIES) := own_sta S_MAX_COPIES K22
        have f27 : Sta Z T22.heap "com/example/poolwright/poolwright/Copy$Refusal" "NO_DESTINATION" "Lcom/example/poolwright/poolwright/Copy$Refusal;" (.ref c_NO_DESTINATION) := own_sta S_NO_DESTINATION K22
        have f28 : Sta Z T22.heap "java/lang/String" "COMPACT_STRINGS" "Z" (.int cs) := own_sta S_CS K22
        have Z22 : n0 ≤ T22.heap.size := Nat.le_trans Z0 K22.1
        have hk22 : T22.heap.size ≤ T22.heap.size := Nat.le_refl _
        have N22 := Fr.app N21 N22q
        obtain ⟨T25, h25, X25, e25, E25, A25, D25, -, st25⟩ := newO X22 hx hZ hown (hw _ (List.mem_of_getElem? (i := 40) rfl)) (hw _ (List.mem_of_getElem? (i := 41) rfl)) (hw _ (List.mem_of_getElem? (i := 42) rfl)) rfl (g := (mkF m 53 #[.val (.int p1), .val (.int p2), .val (.int p3), .val .null, .val .null, .val .null, .val (.int (0 : Int32)), .val (.ref bb22), .unset, .unset, .unset, .unset] [])) rfl (hb hby at_53) (by decide) (by decide)
        obtain ⟨b25, g25⟩ : ∃ z, z = T22.heap.size := ⟨_, rfl⟩
        rw [← g25] at A25 D25 st25
        have f29 : Sta Z h25 "com/example/poolwright/poolwright/Copy$Refusal" "ALERT" "Lcom/example/poolwright/poolwright/Copy$Refusal;" (.ref c_ALERT) := f24.ext E25
        have f30 : Sta Z h25 "com/example/poolwright/poolwright/Copy$Refusal" "OFF" "Lcom/example/poolwright/poolwright/Copy$Refusal;" (.ref c_OFF) := f25.ext E25
        have f31 : Sta Z h25 "com/example/poolwright/poolwright/Copy$Refusal" "MAX_COPIES" "Lcom/example/poolwright/poolwright/Copy$Refusal;" (.ref c_MAX_COPIES) := f26.ext E25
        have f32 : Sta Z h25 "com/example/poolwright/poolwright/Copy$Refusal" "NO_DESTINATION" "Lcom/example/poolwright/poolwright/Copy$Refusal;" (.ref c_NO_DESTINATION) := f27.ext E25
        have f33 : Sta Z h25 "java/lang/String" "COMPACT_STRINGS" "Z" (.int cs) := f28.ext E25
        have f34 : T22.heap.size ≤ h25.size := Nat.le_trans hk22 E25.1
        have C26 : CHr Z own_EL s.vm h0 T22.vm h25 := C24.trans (CHr.ext E25 C24.1)
        have sf26_b25 : Safe Z own_EL T22.vm h25 b25 := Safe.ext E25 C24.1 (Safe.new (Nat.le_of_eq g25.symm))
        have g_b25 : n0 ≤ b25 := Nat.le_trans Z22 (Nat.le_of_eq g25.symm)
        have Z25 : n0 ≤ h25.size := Nat.le_trans Z22 E25.1
        have F_source_b25 : Fld Z h25 b25 "com/example/poolwright/poolwright/Copy" "source" "Ljava/lang/String;" .null := D25 (Or.inr (hw _ (List.mem_of_getElem? (i := 53) rfl))) (ty := (.object "java/lang/String")) (by decide)
        have F_destination_b25 : Fld Z h25 b25 "com/example/poolwright/poolwright/Copy" "destination" "Ljava/lang/String;" .null := D25 (Or.inr (hw _ (List.mem_of_getElem? (i := 55) rfl))) (ty := (.object "java/lang/String")) (by decide)
        have F_refusal_b25 : Fld Z h25 b25 "com/example/poolwright/poolwright/Copy" "refusal" "Lcom/example/poolwright/poolwright/Copy$Refusal;" .null := D25 (Or.inr (hw _ (List.mem_of_getElem? (i := 57) rfl))) (ty := (.object "com/example/poolwright/poolwright/Copy$Refusal")) (by decide)
        obtain ⟨_, _, ⟨T27, L27, k27, n27⟩, -, X27, ⟨Lc27, hQ27, l27, y27, z27⟩, st27⟩ := X25.specialBack hx (y := (⟨"com/example/poolwright/poolwright/Copy", "<init>", "(Ljava/lang/String;Ljava/lang/String;Lcom/example/poolwright/poolwright/Copy$Refusal;)V"⟩ : MethodName)) rfl hown (mvT hZ (hw _ (List.mem_of_getElem? (i := 43) rfl))) (mvT hZ (hw _ (List.mem_of_getElem? (i := 44) rfl))) (mvT hZ (hw _ (List.mem_of_getElem? (i := 45) rfl))) (by decide) (backOf (W := 1) (rm_cinnn l Z a0 hw [] b25 h25 n0 Z25 F_source_b25 F_destination_b25 F_refusal_b25 A25 g_b25) hZ (hw _ (List.mem_of_getElem? (i := 45) rfl)) (hw _ (List.mem_of_getElem? (i := 42) rfl)) (by decide) (by decide)) (g := (mkF m 62 #[.val (.int p1), .val (.int p2), .val (.int p3), .val .null, .val .null, .val .null, .val (.int (0 : Int32)), .val (.ref bb22), .unset, .unset, .unset, .unset] [.null, .null, .null, (.ref b25), (.ref b25)])) rfl (by rw [hml]; rfl) (Steps.refl _) (a := b25) (argsL := [.null, .null, .null]) (rest := [(.ref b25)]) (lenOf pd__Ljava_lang_String_Ljava_lang_String_Lcom_example_poolwright_8324 rfl) rfl (by show 2 * 0 + _ ≤ _; exact Nat.le_of_eq rfl) (hb hby at_62) (fun _ _ => ⟨rfl, e25, (by decide : 7 + 0 ≤ _), (by decide : 15 + 0 ≤ _)⟩)
        dsimp only [Pt.U, Pt.locs, Pt.cells, Pt.slots] at X27 l27 y27 z27 st27 hQ27
        subst l27 y27 z27
        obtain ⟨rfl, N27q, K27, fk27_0, fk27_1⟩ := hQ27
        have f35 : T22.heap.size ≤ T27.heap.size := Nat.le_trans f34 K27.1
        have f36 : n0 ≤ b25 := g_b25
        have C28 : CHr Z own_EL s.vm h0 T22.vm T27.heap := C26.trans (CHr.keep K27 (sfS sf26_b25 sf0) C26.1)
        have sf28_b25 : Safe Z own_EL T22.vm T27.heap b25 := Safe.keep K27 (sfS sf26_b25 sf0) C26.1 sf26_b25
        have Z27 : n0 ≤ T27.heap.size := Nat.le_trans Z25 K27.1
        have N27 := Fr.app N22 N27q
        obtain ⟨cq29, kq29, q29a, q29b, q29c⟩ := isOf hZ rfl fk27_0
        obtain ⟨_, _, ⟨T29, L29, k29, n29⟩, -, X29, ⟨Lc29, hQ29, l29, y29, z29⟩, st29⟩ := X27.virtualBack hx (y := (⟨"com/example/poolwright/poolwright/Copy", "starts", "()Z"⟩ : MethodName)) (z := (⟨"com/example/poolwright/poolwright/Copy", "starts", "()Z"⟩ : MethodName)) hown (mvT hZ (hw _ (List.mem_of_getElem? (i := 58) rfl))) (mvT hZ (hw _ (List.mem_of_getElem? (i := 59) rfl))) (notFace_of_selects (args := #[]) (mvT hZ (hw _ (List.mem_of_getElem? (i := 61) rfl)))) (mvT hZ (hw _ (List.mem_of_getElem? (i := 61) rfl))) (mvT hZ (hw _ (List.mem_of_getElem? (i := 60) rfl))) (by decide) (backOf (W := 0) (rm_stn l Z a0 hw [] b25 T27.heap n0 Z27 fk27_1) hZ (hw _ (List.mem_of_getElem? (i := 62) rfl)) (hw _ (List.mem_of_getElem? (i := 42) rfl)) (by decide) (by decide)) q29a q29c (g := (mkF m 69 #[.val (.int p1), .val (.int p2), .val (.int p3), .val .null, .val .null, .val .null, .val (.int (0 : Int32)), .val (.ref bb22), .val (.ref b25), .unset, .unset, .unset] [(.ref b25)])) rfl (by rw [hml]; rfl) (Steps.refl _) (argsL := []) (rest := []) (lenOf pd___Z_171 rfl) rfl (by show 2 * 0 + _ ≤ _; exact Nat.le_of_eq rfl) (hb hby at_69) (fun _ _ => ⟨rfl, rfl, (by decide : 7 + 0 ≤ _), (by decide : 15 + 0 ≤ _)⟩)
        dsimp only [Pt.U, Pt.locs, Pt.cells, Pt.slots] at X29 l29 y29 z29 st29 hQ29
        subst l29 y29 z29
        obtain ⟨rfl, N29q, e29⟩ := hQ29
        have N29 := Fr.app N27 N29q
        obtain ⟨_, _, ⟨T30, L30, k30, n30⟩, -, X30, ⟨Lc30, hQ30, l30, y30, z30⟩, st30⟩ := Jvm.LawKit.callS X29 hx (y := (⟨"com/example/poolwright/poolwright/Copy", "started", "(Ljava/lang/String;Ljava/lang/String;)Lcom/example/poolwright/poolwright/Copy;"⟩ : MethodName)) hown (mvT hZ (hw _ (List.mem_of_getElem? (i := 63) rfl))) (mvT hZ (hw _ (List.mem_of_getElem? (i := 64) rfl))) (mvT hZ (hw _ (List.mem_of_getElem? (i := 42) rfl))) (mvT hZ (hw _ (List.mem_of_getElem? (i := 65) rfl))) (by decide) (backOf (W := 0) (rm_sdn l Z a0 hw [] bb22 T27.heap n0 Z27 ) hZ (hw _ (List.mem_of_getElem? (i := 65) rfl)) (hw _ (List.mem_of_getElem? (i := 42) rfl)) (by decide) (by decide)) (g := (mkF m 87 #[.val (.int p1), .val (.int p2), .val (.int p3), .val .null, .val .null, .val .null, .val (.int (0 : Int32)), .val (.ref bb22), .val (.ref b25), .val (.int (1 : Int32)), .unset, .unset] [(.ref bb22), .null])) rfl (by rw [hml]; rfl) (argsL := [.null, (.ref bb22)]) (rest := []) (lenOf pd__Ljava_lang_String_Ljava_lang_String__Lcom_example_poolwrigh_7480 rfl) rfl (by show 2 * 0 + _ ≤ _; exact Nat.le_of_eq rfl) (hb hby at_87) (fun _ _ => ⟨rfl, e29, (by decide : 7 + 1 ≤ _), (by decide : 15 + 3 ≤ _)⟩)
        dsimp only [Pt.U, Pt.locs, Pt.cells, Pt.slots] at X30 l30 y30 z30 st30 hQ30
        subst l30 y30 z30
        obtain ⟨fb30, rfl, N30q, K30, fk30_0, fk30_1⟩ := hQ30
        have f37 : T22.heap.size ≤ T30.heap.size := Nat.le_trans f35 K30.1
        have f38 : n0 ≤ b25 := f36
        have f39 : Exa Z T30.heap b25 "com/example/poolwright/poolwright/Copy" := fk27_0.keep K30
        have f40 : Fld Z T30.heap b25 "com/example/poolwright/poolwright/Copy" "destination" "Ljava/lang/String;" .null := fk27_1.keep K30 (by simp)
        have C31 : CHr Z own_EL s.vm h0 T22.vm T30.heap := C28.trans (CHr.keep K30 sf0 C28.1)
        have sf31_b25 : Safe Z own_EL T22.vm T30.heap b25 := Safe.keep K30 sf0 C28.1 sf28_b25
        have Z30 : n0 ≤ T30.heap.size := Nat.le_trans Z27 K30.1
        have N30 := Fr.app N29 N30q
        obtain ⟨cq32, kq32, q32a, q32b, q32c⟩ := isOf hZ rfl fk30_0
        obtain ⟨_, _, ⟨T32, L32, k32, n32⟩, -, X32, ⟨Lc32, hQ32, l32, y32, z32⟩, st32⟩ := X30.virtualBack hx (y := (⟨"com/example/poolwright/poolwright/Copy", "starts", "()Z"⟩ : MethodName)) (z := (⟨"com/example/poolwright/poolwright/Copy", "starts", "()Z"⟩ : MethodName)) hown (mvT hZ (hw _ (List.mem_of_getElem? (i := 58) rfl))) (mvT hZ (hw _ (List.mem_of_getElem? (i := 59) rfl))) (notFace_of_selects (args := #[]) (mvT hZ (hw _ (List.mem_of_getElem? (i := 61) rfl)))) (mvT hZ (hw _ (List.mem_of_getElem? (i := 61) rfl))) (mvT hZ (hw _ (List.mem_of_getElem? (i := 60) rfl))) (by decide) (backOf (W := 0) (rm_str l Z a0 hw [] fb30 bb22 T30.heap n0 Z30 fk30_1) hZ (hw _ (List.mem_of_getElem? (i := 62) rfl)) (hw _ (List.mem_of_getElem? (i := 42) rfl)) (by decide) (by decide)) q32a q32c (g := (mkF m 90 #[.val (.int p1), .val (.int p2), .val (.int p3), .val .null, .val .null, .val .null, .val (.int (0 : Int32)), .val (.ref bb22), .val (.ref b25), .val (.int (1 : Int32)), .unset, .unset] [(.ref fb30)])) rfl (by rw [hml]; rfl) (Steps.refl _) (argsL := []) (rest := []) (lenOf pd___Z_171 rfl) rfl (by show 2 * 0 + _ ≤ _; exact Nat.le_of_eq rfl) (hb hby at_90) (fun _ _ => ⟨rfl, rfl, (by decide : 8 + 0 ≤ _), (by decide : 18 + 0 ≤ _)⟩)
        dsimp only [Pt.U, Pt.locs, Pt.cells, Pt.slots] at X32 l32 y32 z32 st32 hQ32
        subst l32 y32 z32
        obtain ⟨rfl, N32q, e32⟩ := hQ32
        have N32 := Fr.app N30 N32q
        obtain ⟨_, _, ⟨T33, L33, k33, n33⟩, -, X33, ⟨Lc33, hQ33, l33, y33, z33⟩, st33⟩ := Jvm.LawKit.callS X32 hx (y := (⟨"com/example/poolwright/poolwright/Copy", "refused", "(Ljava/lang/String;Lcom/example/poolwright/poolwright/Copy$Refusal;)Lcom/example/poolwright/poolwright/Copy;"⟩ : MethodName)) hown (mvT hZ (hw _ (List.mem_of_getElem? (i := 68) rfl))) (mvT hZ (hw _ (List.mem_of_getElem? (i := 69) rfl))) (mvT hZ (hw _ (List.mem_of_getElem? (i := 42) rfl))) (mvT hZ (hw _ (List.mem_of_getElem? (i := 70) rfl))) (by decide) (backOf (W := 0) (rm_rdnn l Z a0 hw []  T30.heap n0 Z30 ) hZ (hw _ (List.mem_of_getElem? (i := 70) rfl)) (hw _ (List.mem_of_getElem? (i := 42) rfl)) (by decide) (by decide)) (g := (mkF m 98 #[.val (.int p1), .val (.int p2), .val (.int p3), .val .null, .val .null, .val .null, .val (.int (0 : Int32)), .val (.ref bb22), .val (.ref b25), .val (.int (1 : Int32)), .val (.int (1 : Int32)), .unset] [.null, .null])) rfl (by rw [hml]; rfl) (argsL := [.null, .null]) (rest := []) (lenOf pd__Ljava_lang_String_Lcom_example_poolwright_poolwright_Copy_R_576 rfl) rfl (by show 2 * 0 + _ ≤ _; exact Nat.le_of_eq rfl) (hb hby at_98) (fun _ _ => ⟨rfl, e32, (by decide : 8 + 1 ≤ _), (by decide : 18 + 3 ≤ _)⟩)
        dsimp only [Pt.U, Pt.locs, Pt.cells, Pt.slots] at X33 l33 y33 z33 st33 hQ33
        subst l33 y33 z33
        obtain ⟨fb33, rfl, N33q, K33, fk33_0, fk33_1⟩ := hQ33
        have f41 : T22.heap.size ≤ T33.heap.size := Nat.le_trans f37 K33.1
        have f42 : n0 ≤ b25 := f38
        have f43 : Exa Z T33.heap b25 "com/example/poolwright/poolwright/Copy" := f39.keep K33
        have f44 : Fld Z T33.heap b25 "com/example/poolwright/poolwright/Copy" "destination" "Ljava/lang/String;" .null := f40.keep K33 (by simp)
        have f45 : Exa Z T33.heap fb30 "com/example/poolwright/poolwright/Copy" := fk30_0.keep K33
        have f46 : Fld Z T33.heap fb30 "com/example/poolwright/poolwright/Copy" "destination" "Ljava/lang/String;" (.ref bb22) := fk30_1.keep K33 (by simp)
        have C34 : CHr Z own_EL s.vm h0 T22.vm T33.heap := C31.trans (CHr.keep K33 sf0 C31.1)
        have sf34_b25 : Safe Z own_EL T22.vm T33.heap b25 := Safe.keep K33 sf0 C31.1 sf31_b25
        have Z33 : n0 ≤ T33.heap.size := Nat.le_trans Z30 K33.1
        have N33 := Fr.app N32 N33q
        obtain ⟨cq35, kq35, q35a, q35b, q35c⟩ := isOf hZ rfl fk33_0
        obtain ⟨_, _, ⟨T35, L35, k35, n35⟩, -, X35, ⟨Lc35, hQ35, l35, y35, z35⟩, st35⟩ := X33.virtualBack hx (y := (⟨"com/example/poolwright/poolwright/Copy", "starts", "()Z"⟩ : MethodName)) (z := (⟨"com/example/poolwright/poolwright/Copy", "starts", "()Z"⟩ : MethodName)) hown (mvT hZ (hw _ (List.mem_of_getElem? (i := 58) rfl))) (mvT hZ (hw _ (List.mem_of_getElem? (i := 59) rfl))) (notFace_of_selects (args := #[]) (mvT hZ (hw _ (List.mem_of_getElem? (i := 61) rfl)))) (mvT hZ (hw _ (List.mem_of_getElem? (i := 61) rfl))) (mvT hZ (hw _ (List.mem_of_getElem? (i := 60) rfl))) (by decide) (backOf (W := 0) (rm_stn l Z a0 hw [] fb33 T33.heap n0 Z33 fk33_1) hZ (hw _ (List.mem_of_getElem? (i := 62) rfl)) (hw _ (List.mem_of_getElem? (i := 42) rfl)) (by decide) (by decide)) q35a q35c (g := (mkF m 101 #[.val (.int p1), .val (.int p2), .val (.int p3), .val .null, .val .null, .val .null, .val (.int (0 : Int32)), .val (.ref bb22), .val (.ref b25), .val (.int (1 : Int32)), .val (.int (1 : Int32)), .unset] [(.ref fb33)])) rfl (by rw [hml]; rfl) (Steps.refl _) (argsL := []) (rest := []) (lenOf pd___Z_171 rfl) rfl (by show 2 * 0 + _ ≤ _; exact Nat.le_of_eq rfl) (hb hby at_101) (fun _ _ => ⟨rfl, rfl, (by decide : 9 + 0 ≤ _), (by decide : 21 + 0 ≤ _)⟩)
        dsimp only [Pt.U, Pt.locs, Pt.cells, Pt.slots] at X35 l35 y35 z35 st35 hQ35
        subst l35 y35 z35
        obtain ⟨rfl, N35q, e35⟩ := hQ35
        have N35 := Fr.app N33 N35q
        obtain ⟨fs, hr, hrun, hended, hRW⟩ := X35.leaveW (s := s) hS22 (by rw [e35]; exact f41) (v := some (.int (1 : Int32))) (fun h => by rw [Bd.returns] at h; cases h) (hlocks := Bd.notSynchronized)
        refine ⟨_, _, pre_23 _ ?_, hrun, hended, _, _, rfl, ?_, (by show CHr Z own_EL s.vm s.heap T35.vm T35.heap; rw [hh, e35]; exact C34.trans (CHv.at (s := s) (vm0 := T22.vm) X35 hZ hEL C34.1)), hRW.1, hRW.2.1, hRW.2.2.1, hRW.2.2.2.mono (by decide) (by decide)⟩
        · show Steps p.tables e below (T21.setTop (mkF m 48 #[.val (.int p1), .val (.int p2), .val (.int p3), .val .null, .val .null, .val .null, .val (.int (0 : Int32)), .unset, .unset, .unset, .unset, .unset] [(.int p2), (.int p1), (.int ((2 : Int32) + (((p3.toUInt32 >>> ((7 : Int32) &&& 31).toUInt32).toInt32) &&& (1 : Int32))))])) _
          refine st22.trans ?_
          show Steps p.tables e below (T22.setTop (mkF m 51 #[.val (.int p1), .val (.int p2), .val (.int p3), .val .null, .val .null, .val .null, .val (.int (0 : Int32)), .unset, .unset, .unset, .unset, .unset] [(.ref bb22)])) _
          refine XS.astore X22.here hx rfl (hb hby at_51) rfl rfl (l' := #[.val (.int p1), .val (.int p2), .val (.int p3), .val .null, .val .null, .val .null, .val (.int (0 : Int32)), .val (.ref bb22), .unset, .unset, .unset, .unset]) rfl ?_
          show Steps p.tables e below (T22.setTop (mkF m 53 #[.val (.int p1), .val (.int p2), .val (.int p3), .val .null, .val .null, .val .null, .val (.int (0 : Int32)), .val (.ref bb22), .unset, .unset, .unset, .unset] [])) _
          refine st25 _ ?_
          show Steps p.tables e below (T25.setTop (mkF m 56 #[.val (.int p1), .val (.int p2), .val (.int p3), .val .null, .val .null, .val .null, .val (.int (0 : Int32)), .val (.ref bb22), .unset, .unset, .unset, .unset] [(.ref b25)])) _
          refine XS.dup X25.here hx rfl (hb hby at_56) rfl rfl ?_
          show Steps p.tables e below (T25.setTop (mkF m 57 #[.val (.int p1), .val (.int p2), .val (.int p3), .val .null, .val .null, .val .null, .val (.int (0 : Int32)), .val (.ref bb22), .unset, .unset, .unset, .unset] [(.ref b25), (.ref b25)])) _
          refine XS.aloadN X25.here hx rfl (hb hby at_57) rfl rfl ?_
          show Steps p.tables e below (T25.setTop (mkF m 58 #[.val (.int p1), .val (.int p2), .val (.int p3), .val .null, .val .null, .val .null, .val (.int (0 : Int32)), .val (.ref bb22), .unset, .unset, .unset, .unset] [.null, (.ref b25), (.ref b25)])) _
          refine XS.aload X25.here hx rfl (hb hby at_58) rfl rfl ?_
          show Steps p.tables e below (T25.setTop (mkF m 60 #[.val (.int p1), .val (.int p2), .val (.int p3), .val .null, .val .null, .val .null, .val (.int (0 : Int32)), .val (.ref bb22), .unset, .unset, .unset, .unset] [.null, .null, (.ref b25), (.ref b25)])) _
          refine XS.aload X25.here hx rfl (hb hby at_60) rfl rfl ?_
          show Steps p.tables e below (T25.setTop (mkF m 62 #[.val (.int p1), .val (.int p2), .val (.int p3), .val .null, .val .null, .val .null, .val (.int (0 : Int32)), .val (.ref bb22), .unset, .unset, .unset, .unset] [.null, .null, .null, (.ref b25), (.ref b25)])) _
          refine st27.trans ?_
          show Steps p.tables e below (T27.setTop (mkF m 65 #[.val (.int p1), .val (.int p2), .val (.int p3), .val .null, .val .null, .val .null, .val (.int (0 : Int32)), .val (.ref bb22), .unset, .unset, .unset, .unset] [(.ref b25)])) _
          refine XS.astore X27.here hx rfl (hb hby at_65) rfl rfl (l' := #[.val (.int p1), .val (.int p2), .val (.int p3), .val .null, .val .null, .val .null, .val (.int (0 : Int32)), .val (.ref bb22), .val (.ref b25), .unset, .unset, .unset]) rfl ?_
          show Steps p.tables e below (T27.setTop (mkF m 67 #[.val (.int p1), .val (.int p2), .val (.int p3), .val .null, .val .null, .val .null, .val (.int (0 : Int32)), .val (.ref bb22), .val (.ref b25), .unset, .unset, .unset] [])) _
          refine XS.aload X27.here hx rfl (hb hby at_67) rfl rfl ?_
          show Steps p.tables e below (T27.setTop (mkF m 69 #[.val (.int p1), .val (.int p2), .val (.int p3), .val .null, .val .null, .val .null, .val (.int (0 : Int32)), .val (.ref bb22), .val (.ref b25), .unset, .unset, .unset] [(.ref b25)])) _
          refine st29.trans ?_
          show Steps p.tables e below (T29.setTop (mkF m 72 #[.val (.int p1), .val (.int p2), .val (.int p3), .val .null, .val .null, .val .null, .val (.int (0 : Int32)), .val (.ref bb22), .val (.ref b25), .unset, .unset, .unset] [(.int (0 : Int32))])) _
          refine XS.iload X29.here hx rfl (hb hby at_72) rfl ?_
          show Steps p.tables e below (T29.setTop (mkF m 74 #[.val (.int p1), .val (.int p2), .val (.int p3), .val .null, .val .null, .val .null, .val (.int (0 : Int32)), .val (.ref bb22), .val (.ref b25), .unset, .unset, .unset] [(.int (0 : Int32)), (.int (0 : Int32))])) _
          refine XS.icmpNo X29.here hx rfl (hb hby at_74) rfl (teq (by decide : (0 : Int32) = (0 : Int32))).2 ?_
          show Steps p.tables e below (T29.setTop (mkF m 77 #[.val (.int p1), .val (.int p2), .val (.int p3), .val .null, .val .null, .val .null, .val (.int (0 : Int32)), .val (.ref bb22), .val (.ref b25), .unset, .unset, .unset] [])) _
          refine XS.iconst X29.here hx rfl (hb hby at_77) ?_
          show Steps p.tables e below (T29.setTop (mkF m 78 #[.val (.int p1), .val (.int p2), .val (.int p3), .val .null, .val .null, .val .null, .val (.int (0 : Int32)), .val (.ref bb22), .val (.ref b25), .unset, .unset, .unset] [(.int (1 : Int32))])) _
          refine XS.goto X29.here hx rfl (pc0 := 78) (pc' := 82) rfl (hb hby at_78) (by decide) (by decide) ?_
          show Steps p.tables e below (T29.setTop (mkF m 82 #[.val (.int p1), .val (.int p2), .val (.int p3), .val .null, .val .null, .val .null, .val (.int (0 : Int32)), .val (.ref bb22), .val (.ref b25), .unset, .unset, .unset] [(.int (1 : Int32))])) _
          refine XS.istore X29.here hx rfl (hb hby at_82) rfl (l' := #[.val (.int p1), .val (.int p2), .val (.int p3), .val .null, .val .null, .val .null, .val (.int (0 : Int32)), .val (.ref bb22), .val (.ref b25), .val (.int (1 : Int32)), .unset, .unset]) rfl ?_
          show Steps p.tables e below (T29.setTop (mkF m 84 #[.val (.int p1), .val (.int p2), .val (.int p3), .val .null, .val .null, .val .null, .val (.int (0 : Int32)), .val (.ref bb22), .val (.ref b25), .val (.int (1 : Int32)), .unset, .unset] [])) _
          refine XS.aloadN X29.here hx rfl (hb hby at_84) rfl rfl ?_
          show Steps p.tables e below (T29.setTop (mkF m 85 #[.val (.int p1), .val (.int p2), .val (.int p3), .val .null, .val .null, .val .null, .val (.int (0 : Int32)), .val (.ref bb22), .val (.ref b25), .val (.int (1 : Int32)), .unset, .unset] [.null])) _
          refine XS.aload X29.here hx rfl (hb hby at_85) rfl rfl ?_
          show Steps p.tables e below (T29.setTop (mkF m 87 #[.val (.int p1), .val (.int p2), .val (.int p3), .val .null, .val .null, .val .null, .val (.int (0 : Int32)), .val (.ref bb22), .val (.ref b25), .val (.int (1 : Int32)), .unset, .unset] [(.ref bb22), .null])) _
          refine st30 _ ?_
          show Steps p.tables e below (T30.setTop (mkF m 90 #[.val (.int p1), .val (.int p2), .val (.int p3), .val .null, .val .null, .val .null, .val (.int (0 : Int32)), .val (.ref bb22), .val (.ref b25), .val (.int (1 : Int32)), .unset, .unset] [(.ref fb30)])) _
          refine st32.trans ?_
          show Steps p.tables e below (T32.setTop (mkF m 93 #[.val (.int p1), .val (.int p2), .val (.int p3), .val .null, .val .null, .val .null, .val (.int (0 : Int32)), .val (.ref bb22), .val (.ref b25), .val (.int (1 : Int32)), .unset, .unset] [(.int (1 : Int32))])) _
          refine XS.istore X32.here hx rfl (hb hby at_93) rfl (l' := #[.val (.int p1), .val (.int p2), .val (.int p3), .val .null, .val .null, .val .null, .val (.int (0 : Int32)), .val (.ref bb22), .val (.ref b25), .val (.int (1 : Int32)), .val (.int (1 : Int32)), .unset]) rfl ?_
          show Steps p.tables e below (T32.setTop (mkF m 95 #[.val (.int p1), .val (.int p2), .val (.int p3), .val .null, .val .null, .val .null, .val (.int (0 : Int32)), .val (.ref bb22), .val (.ref b25), .val (.int (1 : Int32)), .val (.int (1 : Int32)), .unset] [])) _
          refine XS.aloadN X32.here hx rfl (hb hby at_95) rfl rfl ?_
          show Steps p.tables e below (T32.setTop (mkF m 96 #[.val (.int p1), .val (.int p2), .val (.int p3), .val .null, .val .null, .val .null, .val (.int (0 : Int32)), .val (.ref bb22), .val (.ref b25), .val (.int (1 : Int32)), .val (.int (1 : Int32)), .unset] [.null])) _
          refine XS.aload X32.here hx rfl (hb hby at_96) rfl rfl ?_
          show Steps p.tables e below (T32.setTop (mkF m 98 #[.val (.int p1), .val (.int p2), .val (.int p3), .val .null, .val .null, .val .null, .val (.int (0 : Int32)), .val (.ref bb22), .val (.ref b25), .val (.int (1 : Int32)), .val (.int (1 : Int32)), .unset] [.null, .null])) _
          refine st33 _ ?_
          show Steps p.tables e below (T33.setTop (mkF m 101 #[.val (.int p1), .val (.int p2), .val (.int p3), .val .null, .val .null, .val .null, .val (.int (0 : Int32)), .val (.ref bb22), .val (.ref b25), .val (.int (1 : Int32)), .val (.int (1 : Int32)), .unset] [(.ref fb33)])) _
          refine st35.trans ?_
          show Steps p.tables e below (T35.setTop (mkF m 104 #[.val (.int p1), .val (.int p2), .val (.int p3), .val .null, .val .null, .val .null, .val (.int (0 : Int32)), .val (.ref bb22), .val (.ref b25), .val (.int (1 : Int32)), .val (.int (1 : Int32)), .unset] [(.int (0 : Int32))])) _
          refine XS.ifNo X35.here hx rfl (hb hby at_104) rfl ((if0 _ _).trans (teq (by decide : (0 : Int32) = (0 : Int32))).2) ?_
          show Steps p.tables e below (T35.setTop (mkF m 107 #[.val (.int p1), .val (.int p2), .val (.int p3), .val .null, .val .null, .val .null, .val (.int (0 : Int32)), .val (.ref bb22), .val (.ref b25), .val (.int (1 : Int32)), .val (.int (1 : Int32)), .unset] [])) _
          refine XS.iconst X35.here hx rfl (hb hby at_107) ?_
          show Steps p.tables e below (T35.setTop (mkF m 108 #[.val (.int p1), .val (.int p2), .val (.int p3), .val .null, .val .null, .val .null, .val (.int (0 : Int32)), .val (.ref bb22), .val (.ref b25), .val (.int (1 : Int32)), .val (.int (1 : Int32)), .unset] [(.int (1 : Int32))])) _
          refine XS.goto X35.here hx rfl (pc0 := 108) (pc' := 112) rfl (hb hby at_108) (by decide) (by decide) ?_
          show Steps p.tables e below (T35.setTop (mkF m 112 #[.val (.int p1), .val (.int p2), .val (.int p3), .val .null, .val .null, .val .null, .val (.int (0 : Int32)), .val (.ref bb22), .val (.ref b25), .val (.int (1 : Int32)), .val (.int (1 : Int32)), .unset] [(.int (1 : Int32))])) _
          refine XS.istore X35.here hx rfl (hb hby at_112) rfl (l' := #[.val (.int p1), .val (.int p2), .val (.int p3), .val .null, .val .null, .val .null, .val (.int (0 : Int32)), .val (.ref bb22), .val (.ref b25), .val (.int (1 : Int32)), .val (.int (1 : Int32)), .val (.int (1 : Int32))]) rfl ?_
          show Steps p.tables e below (T35.setTop (mkF m 114 #[.val (.int p1), .val (.int p2), .val (.int p3), .val .null, .val .null, .val .null, .val (.int (0 : Int32)), .val (.ref bb22), .val (.ref b25), .val (.int (1 : Int32)), .val (.int (1 : Int32)), .val (.int (1 : Int32))] [])) _
          refine XS.iload X35.here hx rfl (hb hby at_114) rfl ?_
          show Steps p.tables e below (T35.setTop (mkF m 116 #[.val (.int p1), .val (.int p2), .val (.int p3), .val .null, .val .null, .val .null, .val (.int (0 : Int32)), .val (.ref bb22), .val (.ref b25), .val (.int (1 : Int32)), .val (.int (1 : Int32)), .val (.int (1 : Int32))] [(.int (1 : Int32))])) _
          refine XS.ifNo X35.here hx rfl (hb hby at_116) rfl ((if0 _ _).trans (feq (by decide : ¬ ((1 : Int32) = (0 : Int32)))).1) ?_
          show Steps p.tables e below (T35.setTop (mkF m 119 #[.val (.int p1), .val (.int p2), .val (.int p3), .val .null, .val .null, .val .null, .val (.int (0 : Int32)), .val (.ref bb22), .val (.ref b25), .val (.int (1 : Int32)), .val (.int (1 : Int32)), .val (.int (1 : Int32))] [])) _
          refine XS.iload X35.here hx rfl (hb hby at_119) rfl ?_
          show Steps p.tables e below (T35.setTop (mkF m 121 #[.val (.int p1), .val (.int p2), .val (.int p3), .val .null, .val .null, .val .null, .val (.int (0 : Int32)), .val (.ref bb22), .val (.ref b25), .val (.int (1 : Int32)), .val (.int (1 : Int32)), .val (.int (1 : Int32))] [(.int (1 : Int32))])) _
          refine XS.ifNo X35.here hx rfl (hb hby at_121) rfl ((if0 _ _).trans (feq (by decide : ¬ ((1 : Int32) = (0 : Int32)))).1) ?_
          show Steps p.tables e below (T35.setTop (mkF m 124 #[.val (.int p1), .val (.int p2), .val (.int p3), .val .null, .val .null, .val .null, .val (.int (0 : Int32)), .val (.ref bb22), .val (.ref b25), .val (.int (1 : Int32)), .val (.int (1 : Int32)), .val (.int (1 : Int32))] [])) _
          refine XS.iload X35.here hx rfl (hb hby at_124) rfl ?_
          show Steps p.tables e below (T35.setTop (mkF m 126 #[.val (.int p1), .val (.int p2), .val (.int p3), .val .null, .val .null, .val .null, .val (.int (0 : Int32)), .val (.ref bb22), .val (.ref b25), .val (.int (1 : Int32)), .val (.int (1 : Int32)), .val (.int (1 : Int32))] [(.int (1 : Int32))])) _
          refine XS.ifNo X35.here hx rfl (hb hby at_126) rfl ((if0 _ _).trans (feq (by decide : ¬ ((1 : Int32) = (0 : Int32)))).1) ?_
          show Steps p.tables e below (T35.setTop (mkF m 129 #[.val (.int p1), .val (.int p2), .val (.int p3), .val .null, .val .null, .val .null, .val (.int (0 : Int32)), .val (.ref bb22), .val (.ref b25), .val (.int (1 : Int32)), .val (.int (1 : Int32)), .val (.int (1 : Int32))] [])) _
          refine XS.iconst X35.here hx rfl (hb hby at_129) ?_
          show Steps p.tables e below (T35.setTop (mkF m 130 #[.val (.int p1), .val (.int p2), .val (.int p3), .val .null, .val .null, .val .null, .val (.int (0 : Int32)), .val (.ref bb22), .val (.ref b25), .val (.int (1 : Int32)), .val (.int (1 : Int32)), .val (.int (1 : Int32))] [(.int (1 : Int32))])) _
          refine XS.goto X35.here hx rfl (pc0 := 130) (pc' := 134) rfl (hb hby at_130) (by decide) (by decide) ?_
          show Steps p.tables e below (T35.setTop (mkF m 134 #[.val (.int p1), .val (.int p2), .val (.int p3), .val .null, .val .null, .val .null, .val (.int (0 : Int32)), .val (.ref bb22), .val (.ref b25), .val (.int (1 : Int32)), .val (.int (1 : Int32)), .val (.int (1 : Int32))] [(.int (1 : Int32))])) _
          exact retN X35 hx (t := .boolean) Bd.returns (by simp) (hb hby at_134) hr
        · show Q_rm0 Z p1 p2 p3 cs c_ALERT c_OFF c_MAX_COPIES c_NO_DESTINATION h0 n0 _ T35.heap _
          rw [e35]
          exact ⟨rfl, N35⟩
    · obtain ⟨_, _, ⟨T36, L36, k36, n36⟩, -, X36', hS36', hge36, ⟨Lc36, hQ36, l36, y36, z36, hC36⟩, st36⟩ := callSS X2 hx (y := (⟨"com/example/poolwright/poolwright/CopyStartsPinLaw", "draw", "(III)Ljava/lang/String;"⟩ : MethodName)) hown (mvT hZ (hw _ (List.mem_of_getElem? (i := 0) rfl))) (mvT hZ (hw _ (List.mem_of_getElem? (i := 1) rfl))) (mvT hZ (hw _ (List.mem_of_getElem? (i := 2) rfl))) (mvT hZ (hw _ (List.mem_of_getElem? (i := 3) rfl))) (by decide) (backOfSH (s := s) (vm0 := s.vm) (W := 0) (rm_d1 l Z a0 hw [] p3 p1 p2 cs h0 n0 Z0 hEL S_CS hcs hd12) hZ (hw _ (List.mem_of_getElem? (i := 3) rfl)) (hw _ (List.mem_of_getElem? (i := 2) rfl)) (by decide) (by decide) hEL C0.1) (g := (mkF m 12 #[.val (.int p1), .val (.int p2), .val (.int p3), .val .null, .unset, .unset, .unset, .unset, .unset, .unset, .unset, .unset] [(.int p2), (.int p1), (.int p3)])) rfl (by rw [hml]; rfl) (argsL := [(.int p3), (.int p1), (.int p2)]) (rest := []) (lenOf pd__III_Ljava_lang_String__1996 rfl) rfl (by show 2 * 0 + _ ≤ _; exact Nat.le_of_eq rfl) (hb hby at_12) (fun _ _ => ⟨rfl, e2, (by decide : 0 + 6 ≤ _), (by decide : 0 + 12 ≤ _)⟩)
      dsimp only [Pt.U, Pt.locs, Pt.cells, Pt.slots] at X36' hS36' hge36 l36 y36 z36 st36 hQ36 hC36
      subst l36 y36 z36
      have hS36 : s.Since T36.vm T36.heap.size := hS36'
      have hZ : Z.Warmed39 (s.setVm T36.vm).vm := State.Warmed39.trans (t := s) hZ hS36'.1
      have hown : (s.setVm T36.vm).vm.findClass "com/example/poolwright/poolwright/CopyStartsPinLaw" = some m.cls := by rw [show (s.setVm T36.vm).vm = T36.vm from rfl, hS36'.1.alike.findClass]; exact hown
      have X36 := rebase (vm := T36.vm) X36'
      have C37 : CHr Z own_EL s.vm h0 T36.vm T36.heap := C0.trans hC36
      obtain ⟨bb36, rfl, N36q, K36⟩ := hQ36
      have f47 : Sta Z T36.heap "com/example/poolwright/poolwright/Copy$Refusal" "ALERT" "Lcom/example/poolwright/poolwright/Copy$Refusal;" (.ref c_ALERT) := own_sta S_ALERT K36
      have f48 : Sta Z T36.heap "com/example/poolwright/poolwright/Copy$Refusal" "OFF" "Lcom/example/poolwright/poolwright/Copy$Refusal;" (.ref c_OFF) := own_sta S_OFF K36
      have f49 : Sta Z T36.heap "com/example/poolwright/poolwright/Copy$Refusal" "MAX_COPIES" "Lcom/example/poolwright/poolwright/Copy$Refusal;" (.ref c_MAX_COPIES) := own_sta S_MAX_COPIES K36
      have f50 : Sta Z T36.heap "com/example/poolwright/poolwright/Copy$Refusal" "NO_DESTINATION" "Lcom/example/poolwright/poolwright/Copy$Refusal;" (.ref c_NO_DESTINATION) := own_sta S_NO_DESTINATION K36
      have f51 : Sta Z T36.heap "java/lang/String" "COMPACT_STRINGS" "Z" (.int cs) := own_sta S_CS K36
      have Z36 : n0 ≤ T36.heap.size := Nat.le_trans Z0 K36.1
      have hk36 : T36.heap.size ≤ T36.heap.size := Nat.le_refl _
      have N36 := Fr.app N2 N36q
      have pre_38 : ∀ t, Steps p.tables e below (T36.setTop (mkF m 20 #[.val (.int p1), .val (.int p2), .val (.int p3), .val .null, .val (.ref bb36), .unset, .unset, .unset, .unset, .unset, .unset, .unset] [(.int ((p3.toUInt32 >>> ((4 : Int32) &&& 31).toUInt32).toInt32))])) t → Steps p.tables e below (s₁.setTop (entryFrame m #[(.int p1), (.int p2), (.int p3)] maxLocals)) t := by
        intro t kt
        refine pre_3 _ ?_
        show Steps p.tables e below (T2.setTop (mkF m 12 #[.val (.int p1), .val (.int p2), .val (.int p3), .val .null, .unset, .unset, .unset, .unset, .unset, .unset, .unset, .unset] [(.int p2), (.int p1), (.int p3)])) _
        refine st36.trans ?_
        show Steps p.tables e below (T36.setTop (mkF m 15 #[.val (.int p1), .val (.int p2), .val (.int p3), .val .null, .unset, .unset, .unset, .unset, .unset, .unset, .unset, .unset] [(.ref bb36)])) _
        refine XS.astore X36.here hx rfl (hb hby at_15) rfl rfl (l' := #[.val (.int p1), .val (.int p2), .val (.int p3), .val .null, .val (.ref bb36), .unset, .unset, .unset, .unset, .unset, .unset, .unset]) rfl ?_
        show Steps p.tables e below (T36.setTop (mkF m 17 #[.val (.int p1), .val (.int p2), .val (.int p3), .val .null, .val (.ref bb36), .unset, .unset, .unset, .unset, .unset, .unset, .unset] [])) _
        refine XS.iloadN X36.here hx rfl (hb hby at_17) rfl ?_
        show Steps p.tables e below (T36.setTop (mkF m 18 #[.val (.int p1), .val (.int p2), .val (.int p3), .val .null, .val (.ref bb36), .unset, .unset, .unset, .unset, .unset, .unset, .unset] [(.int p3)])) _
        refine XS.iconst X36.here hx rfl (hb hby at_18) ?_
        show Steps p.tables e below (T36.setTop (mkF m 19 #[.val (.int p1), .val (.int p2), .val (.int p3), .val .null, .val (.ref bb36), .unset, .unset, .unset, .unset, .unset, .unset, .unset] [(.int (4 : Int32)), (.int p3)])) _
        refine XS.iushr X36.here hx rfl (hb hby at_19) rfl ?_
        exact kt
      by_cases hd20 : ((((p3.toUInt32 >>> ((4 : Int32) &&& 31).toUInt32).toInt32) &&& (7 : Int32)) = (0 : Int32) ∨ (((p3.toUInt32 >>> ((4 : Int32) &&& 31).toUInt32).toInt32) &&& (7 : Int32)) = (1 : Int32) ∨ (((p3.toUInt32 >>> ((4 : Int32) &&& 31).toUInt32).toInt32) &&& (7 : Int32)) = (2 : Int32) ∨ (((p3.toUInt32 >>> ((4 : Int32) &&& 31).toUInt32).toInt32) &&& (7 : Int32)) = (3 : Int32))
      · obtain ⟨_, _, ⟨T39, L39, k39, n39⟩, -, X39, ⟨Lc39, hQ39, l39, y39, z39⟩, st39⟩ := Jvm.LawKit.callS X36 hx (y := (⟨"com/example/poolwright/poolwright/CopyStartsPinLaw", "pick", "(I)Lcom/example/poolwright/poolwright/Copy$Refusal;"⟩ : MethodName)) hown (mvT hZ (hw _ (List.mem_of_getElem? (i := 34) rfl))) (mvT hZ (hw _ (List.mem_of_getElem? (i := 35) rfl))) (mvT hZ (hw _ (List.mem_of_getElem? (i := 2) rfl))) (mvT hZ (hw _ (List.mem_of_getElem? (i := 36) rfl))) (by decide) (backOf (W := 0) (rm_p1 l Z a0 hw [] ((p3.toUInt32 >>> ((4 : Int32) &&& 31).toUInt32).toInt32) c_ALERT c_OFF c_MAX_COPIES c_NO_DESTINATION T36.heap n0 Z36 f47 f48 f49 f50 hd20) hZ (hw _ (List.mem_of_getElem? (i := 36) rfl)) (hw _ (List.mem_of_getElem? (i := 2) rfl)) (by decide) (by decide)) (g := (mkF m 20 #[.val (.int p1), .val (.int p2), .val (.int p3), .val .null, .val (.ref bb36), .unset, .unset, .unset, .unset, .unset, .unset, .unset] [(.int ((p3.toUInt32 >>> ((4 : Int32) &&& 31).toUInt32).toInt32))])) rfl (by rw [hml]; rfl) (argsL := [(.int ((p3.toUInt32 >>> ((4 : Int32) &&& 31).toUInt32).toInt32))]) (rest := []) (lenOf pd__I_Lcom_example_poolwright_poolwright_Copy_Refusal__4919 rfl) rfl (by show 2 * 0 + _ ≤ _; exact Nat.le_of_eq rfl) (hb hby at_20) (fun _ _ => ⟨rfl, rfl, (by decide : 6 + 0 ≤ _), (by decide : 12 + 0 ≤ _)⟩)
        dsimp only [Pt.U, Pt.locs, Pt.cells, Pt.slots] at X39 l39 y39 z39 st39 hQ39
        subst l39 y39 z39
        obtain ⟨rr39, rfl, N39q, e39⟩ := hQ39
        have N39 := Fr.app N36 N39q
        have pre_41 : ∀ t, Steps p.tables e below (T39.setTop (mkF m 48 #[.val (.int p1), .val (.int p2), .val (.int p3), .val .null, .val (.ref bb36), .val (.ref rr39), .val (.int (1 : Int32)), .unset, .unset, .unset, .unset, .unset] [(.int p2), (.int p1), (.int ((2 : Int32) + (((p3.toUInt32 >>> ((7 : Int32) &&& 31).toUInt32).toInt32) &&& (1 : Int32))))])) t → Steps p.tables e below (s₁.setTop (entryFrame m #[(.int p1), (.int p2), (.int p3)] maxLocals)) t := by
          intro t kt
          refine pre_38 _ ?_
          show Steps p.tables e below (T36.setTop (mkF m 20 #[.val (.int p1), .val (.int p2), .val (.int p3), .val .null, .val (.ref bb36), .unset, .unset, .unset, .unset, .unset, .unset, .unset] [(.int ((p3.toUInt32 >>> ((4 : Int32) &&& 31).toUInt32).toInt32))])) _
          refine st39 _ ?_
          show Steps p.tables e below (T39.setTop (mkF m 23 #[.val (.int p1), .val (.int p2), .val (.int p3), .val .null, .val (.ref bb36), .unset, .unset, .unset, .unset, .unset, .unset, .unset] [(.ref rr39)])) _
          refine XS.astore X39.here hx rfl (hb hby at_23) rfl rfl (l' := #[.val (.int p1), .val (.int p2), .val (.int p3), .val .null, .val (.ref bb36), .val (.ref rr39), .unset, .unset, .unset, .unset, .unset, .unset]) rfl ?_
          show Steps p.tables e below (T39.setTop (mkF m 25 #[.val (.int p1), .val (.int p2), .val (.int p3), .val .null, .val (.ref bb36), .val (.ref rr39), .unset, .unset, .unset, .unset, .unset, .unset] [])) _
          refine XS.iloadN X39.here hx rfl (hb hby at_25) rfl ?_
          show Steps p.tables e below (T39.setTop (mkF m 26 #[.val (.int p1), .val (.int p2), .val (.int p3), .val .null, .val (.ref bb36), .val (.ref rr39), .unset, .unset, .unset, .unset, .unset, .unset] [(.int p3)])) _
          refine XS.iconst X39.here hx rfl (hb hby at_26) ?_
          show Steps p.tables e below (T39.setTop (mkF m 27 #[.val (.int p1), .val (.int p2), .val (.int p3), .val .null, .val (.ref bb36), .val (.ref rr39), .unset, .unset, .unset, .unset, .unset, .unset] [(.int (3 : Int32)), (.int p3)])) _
          refine XS.iand X39.here hx rfl (hb hby at_27) rfl ?_
          show Steps p.tables e below (T39.setTop (mkF m 28 #[.val (.int p1), .val (.int p2), .val (.int p3), .val .null, .val (.ref bb36), .val (.ref rr39), .unset, .unset, .unset, .unset, .unset, .unset] [(.int (p3 &&& (3 : Int32)))])) _
          refine XS.ifNo X39.here hx rfl (hb hby at_28) rfl ((if0 _ _).trans (feq hd12).1) ?_
          show Steps p.tables e below (T39.setTop (mkF m 31 #[.val (.int p1), .val (.int p2), .val (.int p3), .val .null, .val (.ref bb36), .val (.ref rr39), .unset, .unset, .unset, .unset, .unset, .unset] [])) _
          refine XS.iconst X39.here hx rfl (hb hby at_31) ?_
          show Steps p.tables e below (T39.setTop (mkF m 32 #[.val (.int p1), .val (.int p2), .val (.int p3), .val .null, .val (.ref bb36), .val (.ref rr39), .unset, .unset, .unset, .unset, .unset, .unset] [(.int (1 : Int32))])) _
          refine XS.goto X39.here hx rfl (pc0 := 32) (pc' := 36) rfl (hb hby at_32) (by decide) (by decide) ?_
          show Steps p.tables e below (T39.setTop (mkF m 36 #[.val (.int p1), .val (.int p2), .val (.int p3), .val .null, .val (.ref bb36), .val (.ref rr39), .unset, .unset, .unset, .unset, .unset, .unset] [(.int (1 : Int32))])) _
          refine XS.istore X39.here hx rfl (hb hby at_36) rfl (l' := #[.val (.int p1), .val (.int p2), .val (.int p3), .val .null, .val (.ref bb36), .val (.ref rr39), .val (.int (1 : Int32)), .unset, .unset, .unset, .unset, .unset]) rfl ?_
          show Steps p.tables e below (T39.setTop (mkF m 38 #[.val (.int p1), .val (.int p2), .val (.int p3), .val .null, .val (.ref bb36), .val (.ref rr39), .val (.int (1 : Int32)), .unset, .unset, .unset, .unset, .unset] [])) _
          refine XS.iconst X39.here hx rfl (hb hby at_38) ?_
          show Steps p.tables e below (T39.setTop (mkF m 39 #[.val (.int p1), .val (.int p2), .val (.int p3), .val .null, .val (.ref bb36), .val (.ref rr39), .val (.int (1 : Int32)), .unset, .unset, .unset, .unset, .unset] [(.int (2 : Int32))])) _
          refine XS.iloadN X39.here hx rfl (hb hby at_39) rfl ?_
          show Steps p.tables e below (T39.setTop (mkF m 40 #[.val (.int p1), .val (.int p2), .val (.int p3), .val .null, .val (.ref bb36), .val (.ref rr39), .val (.int (1 : Int32)), .unset, .unset, .unset, .unset, .unset] [(.int p3), (.int (2 : Int32))])) _
          refine XS.bipush X39.here hx rfl (hb hby at_40) ?_
          show Steps p.tables e below (T39.setTop (mkF m 42 #[.val (.int p1), .val (.int p2), .val (.int p3), .val .null, .val (.ref bb36), .val (.ref rr39), .val (.int (1 : Int32)), .unset, .unset, .unset, .unset, .unset] [(.int (7 : Int32)), (.int p3), (.int (2 : Int32))])) _
          refine XS.iushr X39.here hx rfl (hb hby at_42) rfl ?_
          show Steps p.tables e below (T39.setTop (mkF m 43 #[.val (.int p1), .val (.int p2), .val (.int p3), .val .null, .val (.ref bb36), .val (.ref rr39), .val (.int (1 : Int32)), .unset, .unset, .unset, .unset, .unset] [(.int ((p3.toUInt32 >>> ((7 : Int32) &&& 31).toUInt32).toInt32)), (.int (2 : Int32))])) _
          refine XS.iconst X39.here hx rfl (hb hby at_43) ?_
          show Steps p.tables e below (T39.setTop (mkF m 44 #[.val (.int p1), .val (.int p2), .val (.int p3), .val .null, .val (.ref bb36), .val (.ref rr39), .val (.int (1 : Int32)), .unset, .unset, .unset, .unset, .unset] [(.int (1 : Int32)), (.int ((p3.toUInt32 >>> ((7 : Int32) &&& 31).toUInt32).toInt32)), (.int (2 : Int32))])) _
          refine XS.iand X39.here hx rfl (hb hby at_44) rfl ?_
          show Steps p.tables e below (T39.setTop (mkF m 45 #[.val (.int p1), .val (.int p2), .val (.int p3), .val .null, .val (.ref bb36), .val (.ref rr39), .val (.int (1 : Int32)), .unset, .unset, .unset, .unset, .unset] [(.int (((p3.toUInt32 >>> ((7 : Int32) &&& 31).toUInt32).toInt32) &&& (1 : Int32))), (.int (2 : Int32))])) _
          refine XS.iadd X39.here hx rfl (hb hby at_45) rfl ?_
          show Steps p.tables e below (T39.setTop (mkF m 46 #[.val (.int p1), .val (.int p2), .val (.int p3), .val .null, .val (.ref bb36), .val (.ref rr39), .val (.int (1 : Int32)), .unset, .unset, .unset, .unset, .unset] [(.int ((2 : Int32) + (((p3.toUInt32 >>> ((7 : Int32) &&& 31).toUInt32).toInt32) &&& (1 : Int32))))])) _
          refine XS.iloadN X39.here hx rfl (hb hby at_46) rfl ?_
          show Steps p.tables e below (T39.setTop (mkF m 47 #[.val (.int p1), .val (.int p2), .val (.int p3), .val .null, .val (.ref bb36), .val (.ref rr39), .val (.int (1 : Int32)), .unset, .unset, .unset, .unset, .unset] [(.int p1), (.int ((2 : Int32) + (((p3.toUInt32 >>> ((7 : Int32) &&& 31).toUInt32).toInt32) &&& (1 : Int32))))])) _
          refine XS.iloadN X39.here hx rfl (hb hby at_47) rfl ?_
          exact kt
        obtain ⟨_, _, ⟨T40, L40, k40, n40⟩, -, X40', hS40', hge40, ⟨Lc40, hQ40, l40, y40, z40, hC40⟩, st40⟩ := callSS X39 hx (y := (⟨"com/example/poolwright/poolwright/CopyStartsPinLaw", "draw", "(III)Ljava/lang/String;"⟩ : MethodName)) hown (mvT hZ (hw _ (List.mem_of_getElem? (i := 0) rfl))) (mvT hZ (hw _ (List.mem_of_getElem? (i := 1) rfl))) (mvT hZ (hw _ (List.mem_of_getElem? (i := 2) rfl))) (mvT hZ (hw _ (List.mem_of_getElem? (i := 3) rfl))) (by decide) (backOfSH (s := s) (vm0 := T36.vm) (W := 0) (rm_d1 l Z a0 hw [] ((2 : Int32) + (((p3.toUInt32 >>> ((7 : Int32) &&& 31).toUInt32).toInt32) &&& (1 : Int32))) p1 p2 cs T36.heap n0 Z36 hEL f51 hcs (own_m3 _)) hZ (hw _ (List.mem_of_getElem? (i := 3) rfl)) (hw _ (List.mem_of_getElem? (i := 2) rfl)) (by decide) (by decide) hEL C37.1) (g := (mkF m 48 #[.val (.int p1), .val (.int p2), .val (.int p3), .val .null, .val (.ref bb36), .val (.ref rr39), .val (.int (1 : Int32)), .unset, .unset, .unset, .unset, .unset] [(.int p2), (.int p1), (.int ((2 : Int32) + (((p3.toUInt32 >>> ((7 : Int32) &&& 31).toUInt32).toInt32) &&& (1 : Int32))))])) rfl (by rw [hml]; rfl) (argsL := [(.int ((2 : Int32) + (((p3.toUInt32 >>> ((7 : Int32) &&& 31).toUInt32).toInt32) &&& (1 : Int32)))), (.int p1), (.int p2)]) (rest := []) (lenOf pd__III_Ljava_lang_String__1996 rfl) rfl (by show 2 * 0 + _ ≤ _; exact Nat.le_of_eq rfl) (hb hby at_48) (fun _ _ => ⟨rfl, e39, (by decide : 6 + 6 ≤ _), (by decide : 12 + 12 ≤ _)⟩)
        dsimp only [Pt.U, Pt.locs, Pt.cells, Pt.slots] at X40' hS40' hge40 l40 y40 z40 st40 hQ40 hC40
        subst l40 y40 z40
        have hS40 : s.Since T40.vm T40.heap.size := foldS hS36 (by rw [e39]; exact hk36) hS40' hge40
        have hZ : Z.Warmed39 (s.setVm T40.vm).vm := State.Warmed39.trans (t := (s.setVm T36.vm)) hZ hS40'.1
        have hown : (s.setVm T40.vm).vm.findClass "com/example/poolwright/poolwright/CopyStartsPinLaw" = some m.cls := by rw [show (s.setVm T40.vm).vm = T40.vm from rfl, hS40'.1.alike.findClass]; exact hown
        have X40 := rebase (vm := T40.vm) X40'
        have C42 : CHr Z own_EL s.vm h0 T40.vm T40.heap := C37.trans hC40
        obtain ⟨bb40, rfl, N40q, K40⟩ := hQ40
        have f52 : Sta Z T40.heap "com/example/poolwright/poolwright/Copy$Refusal" "ALERT" "Lcom/example/poolwright/poolwright/Copy$Refusal;" (.ref c_ALERT) := own_sta f47 K40
        have f53 : Sta Z T40.heap "com/example/poolwright/poolwright/Copy$Refusal" "OFF" "Lcom/example/poolwright/poolwright/Copy$Refusal;" (.ref c_OFF) := own_sta f48 K40
        have f54 : Sta Z T40.heap "com/example/poolwright/poolwright/Copy$Refusal" "MAX_COPIES" "Lcom/example/poolwright/poolwright/Copy$Refusal;" (.ref c_MAX_COPIES) := own_sta f49 K40
        have f55 : Sta Z T40.heap "com/example/poolwright/poolwright/Copy$Refusal" "NO_DESTINATION" "Lcom/example/poolwright/poolwright/Copy$Refusal;" (.ref c_NO_DESTINATION) := own_sta f50 K40
        have f56 : Sta Z T40.heap "java/lang/String" "COMPACT_STRINGS" "Z" (.int cs) := own_sta f51 K40
        have Z40 : n0 ≤ T40.heap.size := Nat.le_trans Z36 K40.1
        have hk40 : T40.heap.size ≤ T40.heap.size := Nat.le_refl _
        have N40 := Fr.app N39 N40q
        obtain ⟨T43, h43, X43, e43, E43, A43, D43, -, st43⟩ := newO X40 hx hZ hown (hw _ (List.mem_of_getElem? (i := 40) rfl)) (hw _ (List.mem_of_getElem? (i := 41) rfl)) (hw _ (List.mem_of_getElem? (i := 42) rfl)) rfl (g := (mkF m 53 #[.val (.int p1), .val (.int p2), .val (.int p3), .val .null, .val (.ref bb36), .val (.ref rr39), .val (.int (1 : Int32)), .val (.ref bb40), .unset, .unset, .unset, .unset] [])) rfl (hb hby at_53) (by decide) (by decide)
        obtain ⟨b43, g43⟩ : ∃ z, z = T40.heap.size := ⟨_, rfl⟩
        rw [← g43] at A43 D43 st43
        have f57 : Sta Z h43 "com/example/poolwright/poolwright/Copy$Refusal" "ALERT" "Lcom/example/poolwright/poolwright/Copy$Refusal;" (.ref c_ALERT) := f52.ext E43
        have f58 : Sta Z h43 "com/example/poolwright/poolwright/Copy$Refusal" "OFF" "Lcom/example/poolwright/poolwright/Copy$Refusal;" (.ref c_OFF) := f53.ext E43
        have f59 : Sta Z h43 "com/example/poolwright/poolwright/Copy$Refusal" "MAX_COPIES" "Lcom/example/poolwright/poolwright/Copy$Refusal;" (.ref c_MAX_COPIES) := f54.ext E43
        have f60 : Sta Z h43 "com/example/poolwright/poolwright/Copy$Refusal" "NO_DESTINATION" "Lcom/example/poolwright/poolwright/Copy$Refusal;" (.ref c_NO_DESTINATION) := f55.ext E43
        have f61 : Sta Z h43 "java/lang/String" "COMPACT_STRINGS" "Z" (.int cs) := f56.ext E43
        have f62 : T40.heap.size ≤ h43.size := Nat.le_trans hk40 E43.1
        have C44 : CHr Z own_EL s.vm h0 T40.vm h43 := C42.trans (CHr.ext E43 C42.1)
        have sf44_b43 : Safe Z own_EL T40.vm h43 b43 := Safe.ext E43 C42.1 (Safe.new (Nat.le_of_eq g43.symm))
        have g_b43 : n0 ≤ b43 := Nat.le_trans Z40 (Nat.le_of_eq g43.symm)
        have Z43 : n0 ≤ h43.size := Nat.le_trans Z40 E43.1
        have F_source_b43 : Fld Z h43 b43 "com/example/poolwright/poolwright/Copy" "source" "Ljava/lang/String;" .null := D43 (Or.inr (hw _ (List.mem_of_getElem? (i := 53) rfl))) (ty := (.object "java/lang/String")) (by decide)
        have F_destination_b43 : Fld Z h43 b43 "com/example/poolwright/poolwright/Copy" "destination" "Ljava/lang/String;" .null := D43 (Or.inr (hw _ (List.mem_of_getElem? (i := 55) rfl))) (ty := (.object "java/lang/String")) (by decide)
        have F_refusal_b43 : Fld Z h43 b43 "com/example/poolwright/poolwright/Copy" "refusal" "Lcom/example/poolwright/poolwright/Copy$Refusal;" .null := D43 (Or.inr (hw _ (List.mem_of_getElem? (i := 57) rfl))) (ty := (.object "com/example/poolwright/poolwright/Copy$Refusal")) (by decide)
        obtain ⟨_, _, ⟨T45, L45, k45, n45⟩, -, X45, ⟨Lc45, hQ45, l45, y45, z45⟩, st45⟩ := X43.specialBack hx (y := (⟨"com/example/poolwright/poolwright/Copy", "<init>", "(Ljava/lang/String;Ljava/lang/String;Lcom/example/poolwright/poolwright/Copy$Refusal;)V"⟩ : MethodName)) rfl hown (mvT hZ (hw _ (List.mem_of_getElem? (i := 43) rfl))) (mvT hZ (hw _ (List.mem_of_getElem? (i := 44) rfl))) (mvT hZ (hw _ (List.mem_of_getElem? (i := 45) rfl))) (by decide) (backOf (W := 1) (rm_cinrr l Z a0 hw [] b43 bb36 rr39 h43 n0 Z43 F_source_b43 F_destination_b43 F_refusal_b43 A43 g_b43) hZ (hw _ (List.mem_of_getElem? (i := 45) rfl)) (hw _ (List.mem_of_getElem? (i := 42) rfl)) (by decide) (by decide)) (g := (mkF m 62 #[.val (.int p1), .val (.int p2), .val (.int p3), .val .null, .val (.ref bb36), .val (.ref rr39), .val (.int (1 : Int32)), .val (.ref bb40), .unset, .unset, .unset, .unset] [(.ref rr39), (.ref bb36), .null, (.ref b43), (.ref b43)])) rfl (by rw [hml]; rfl) (Steps.refl _) (a := b43) (argsL := [.null, (.ref bb36), (.ref rr39)]) (rest := [(.ref b43)]) (lenOf pd__Ljava_lang_String_Ljava_lang_String_Lcom_example_poolwright_8324 rfl) rfl (by show 2 * 0 + _ ≤ _; exact Nat.le_of_eq rfl) (hb hby at_62) (fun _ _ => ⟨rfl, e43, (by decide : 13 + 0 ≤ _), (by decide : 27 + 0 ≤ _)⟩)
        dsimp only [Pt.U, Pt.locs, Pt.cells, Pt.slots] at X45 l45 y45 z45 st45 hQ45
        subst l45 y45 z45
        obtain ⟨rfl, N45q, K45, fk45_0, fk45_1⟩ := hQ45
        have f63 : T40.heap.size ≤ T45.heap.size := Nat.le_trans f62 K45.1
        have f64 : n0 ≤ b43 := g_b43
        have C46 : CHr Z own_EL s.vm h0 T40.vm T45.heap := C44.trans (CHr.keep K45 (sfS sf44_b43 sf0) C44.1)
        have sf46_b43 : Safe Z own_EL T40.vm T45.heap b43 := Safe.keep K45 (sfS sf44_b43 sf0) C44.1 sf44_b43
        have Z45 : n0 ≤ T45.heap.size := Nat.le_trans Z43 K45.1
        have N45 := Fr.app N40 N45q
        obtain ⟨cq47, kq47, q47a, q47b, q47c⟩ := isOf hZ rfl fk45_0
        obtain ⟨_, _, ⟨T47, L47, k47, n47⟩, -, X47, ⟨Lc47, hQ47, l47, y47, z47⟩, st47⟩ := X45.virtualBack hx (y := (⟨"com/example/poolwright/poolwright/Copy", "starts", "()Z"⟩ : MethodName)) (z := (⟨"com/example/poolwright/poolwright/Copy", "starts", "()Z"⟩ : MethodName)) hown (mvT hZ (hw _ (List.mem_of_getElem? (i := 58) rfl))) (mvT hZ (hw _ (List.mem_of_getElem? (i := 59) rfl))) (notFace_of_selects (args := #[]) (mvT hZ (hw _ (List.mem_of_getElem? (i := 61) rfl)))) (mvT hZ (hw _ (List.mem_of_getElem? (i := 61) rfl))) (mvT hZ (hw _ (List.mem_of_getElem? (i := 60) rfl))) (by decide) (backOf (W := 0) (rm_str l Z a0 hw [] b43 bb36 T45.heap n0 Z45 fk45_1) hZ (hw _ (List.mem_of_getElem? (i := 62) rfl)) (hw _ (List.mem_of_getElem? (i := 42) rfl)) (by decide) (by decide)) q47a q47c (g := (mkF m 69 #[.val (.int p1), .val (.int p2), .val (.int p3), .val .null, .val (.ref bb36), .val (.ref rr39), .val (.int (1 : Int32)), .val (.ref bb40), .val (.ref b43), .unset, .unset, .unset] [(.ref b43)])) rfl (by rw [hml]; rfl) (Steps.refl _) (argsL := []) (rest := []) (lenOf pd___Z_171 rfl) rfl (by show 2 * 0 + _ ≤ _; exact Nat.le_of_eq rfl) (hb hby at_69) (fun _ _ => ⟨rfl, rfl, (by decide : 13 + 0 ≤ _), (by decide : 27 + 0 ≤ _)⟩)
        dsimp only [Pt.U, Pt.locs, Pt.cells, Pt.slots] at X47 l47 y47 z47 st47 hQ47
        subst l47 y47 z47
        obtain ⟨rfl, N47q, e47⟩ := hQ47
        have N47 := Fr.app N45 N47q
        obtain ⟨_, _, ⟨T48, L48, k48, n48⟩, -, X48, ⟨Lc48, hQ48, l48, y48, z48⟩, st48⟩ := Jvm.LawKit.callS X47 hx (y := (⟨"com/example/poolwright/poolwright/Copy", "started", "(Ljava/lang/String;Ljava/lang/String;)Lcom/example/poolwright/poolwright/Copy;"⟩ : MethodName)) hown (mvT hZ (hw _ (List.mem_of_getElem? (i := 63) rfl))) (mvT hZ (hw _ (List.mem_of_getElem? (i := 64) rfl))) (mvT hZ (hw _ (List.mem_of_getElem? (i := 42) rfl))) (mvT hZ (hw _ (List.mem_of_getElem? (i := 65) rfl))) (by decide) (backOf (W := 0) (rm_sdn l Z a0 hw [] bb40 T45.heap n0 Z45 ) hZ (hw _ (List.mem_of_getElem? (i := 65) rfl)) (hw _ (List.mem_of_getElem? (i := 42) rfl)) (by decide) (by decide)) (g := (mkF m 87 #[.val (.int p1), .val (.int p2), .val (.int p3), .val .null, .val (.ref bb36), .val (.ref rr39), .val (.int (1 : Int32)), .val (.ref bb40), .val (.ref b43), .val (.int (1 : Int32)), .unset, .unset] [(.ref bb40), .null])) rfl (by rw [hml]; rfl) (argsL := [.null, (.ref bb40)]) (rest := []) (lenOf pd__Ljava_lang_String_Ljava_lang_String__Lcom_example_poolwrigh_7480 rfl) rfl (by show 2 * 0 + _ ≤ _; exact Nat.le_of_eq rfl) (hb hby at_87) (fun _ _ => ⟨rfl, e47, (by decide : 13 + 1 ≤ _), (by decide : 27 + 3 ≤ _)⟩)
        dsimp only [Pt.U, Pt.locs, Pt.cells, Pt.slots] at X48 l48 y48 z48 st48 hQ48
        subst l48 y48 z48
        obtain ⟨fb48, rfl, N48q, K48, fk48_0, fk48_1⟩ := hQ48
        have f65 : T40.heap.size ≤ T48.heap.size := Nat.le_trans f63 K48.1
        have f66 : n0 ≤ b43 := f64
        have f67 : Exa Z T48.heap b43 "com/example/poolwright/poolwright/Copy" := fk45_0.keep K48
        have f68 : Fld Z T48.heap b43 "com/example/poolwright/poolwright/Copy" "destination" "Ljava/lang/String;" (.ref bb36) := fk45_1.keep K48 (by simp)
        have C49 : CHr Z own_EL s.vm h0 T40.vm T48.heap := C46.trans (CHr.keep K48 sf0 C46.1)
        have sf49_b43 : Safe Z own_EL T40.vm T48.heap b43 := Safe.keep K48 sf0 C46.1 sf46_b43
        have Z48 : n0 ≤ T48.heap.size := Nat.le_trans Z45 K48.1
        have N48 := Fr.app N47 N48q
        obtain ⟨cq50, kq50, q50a, q50b, q50c⟩ := isOf hZ rfl fk48_0
        obtain ⟨_, _, ⟨T50, L50, k50, n50⟩, -, X50, ⟨Lc50, hQ50, l50, y50, z50⟩, st50⟩ := X48.virtualBack hx (y := (⟨"com/example/poolwright/poolwright/Copy", "starts", "()Z"⟩ : MethodName)) (z := (⟨"com/example/poolwright/poolwright/Copy", "starts", "()Z"⟩ : MethodName)) hown (mvT hZ (hw _ (List.mem_of_getElem? (i := 58) rfl))) (mvT hZ (hw _ (List.mem_of_getElem? (i := 59) rfl))) (notFace_of_selects (args := #[]) (mvT hZ (hw _ (List.mem_of_getElem? (i := 61) rfl)))) (mvT hZ (hw _ (List.mem_of_getElem? (i := 61) rfl))) (mvT hZ (hw _ (List.mem_of_getElem? (i := 60) rfl))) (by decide) (backOf (W := 0) (rm_str l Z a0 hw [] fb48 bb40 T48.heap n0 Z48 fk48_1) hZ (hw _ (List.mem_of_getElem? (i := 62) rfl)) (hw _ (List.mem_of_getElem? (i := 42) rfl)) (by decide) (by decide)) q50a q50c (g := (mkF m 90 #[.val (.int p1), .val (.int p2), .val (.int p3), .val .null, .val (.ref bb36), .val (.ref rr39), .val (.int (1 : Int32)), .val (.ref bb40), .val (.ref b43), .val (.int (1 : Int32)), .unset, .unset] [(.ref fb48)])) rfl (by rw [hml]; rfl) (Steps.refl _) (argsL := []) (rest := []) (lenOf pd___Z_171 rfl) rfl (by show 2 * 0 + _ ≤ _; exact Nat.le_of_eq rfl) (hb hby at_90) (fun _ _ => ⟨rfl, rfl, (by decide : 14 + 0 ≤ _), (by decide : 30 + 0 ≤ _)⟩)
        dsimp only [Pt.U, Pt.locs, Pt.cells, Pt.slots] at X50 l50 y50 z50 st50 hQ50
        subst l50 y50 z50
        obtain ⟨rfl, N50q, e50⟩ := hQ50
        have N50 := Fr.app N48 N50q
        obtain ⟨_, _, ⟨T51, L51, k51, n51⟩, -, X51, ⟨Lc51, hQ51, l51, y51, z51⟩, st51⟩ := Jvm.LawKit.callS X50 hx (y := (⟨"com/example/poolwright/poolwright/Copy", "refused", "(Ljava/lang/String;Lcom/example/poolwright/poolwright/Copy$Refusal;)Lcom/example/poolwright/poolwright/Copy;"⟩ : MethodName)) hown (mvT hZ (hw _ (List.mem_of_getElem? (i := 68) rfl))) (mvT hZ (hw _ (List.mem_of_getElem? (i := 69) rfl))) (mvT hZ (hw _ (List.mem_of_getElem? (i := 42) rfl))) (mvT hZ (hw _ (List.mem_of_getElem? (i := 70) rfl))) (by decide) (backOf (W := 0) (rm_rdnr l Z a0 hw [] rr39 T48.heap n0 Z48 ) hZ (hw _ (List.mem_of_getElem? (i := 70) rfl)) (hw _ (List.mem_of_getElem? (i := 42) rfl)) (by decide) (by decide)) (g := (mkF m 98 #[.val (.int p1), .val (.int p2), .val (.int p3), .val .null, .val (.ref bb36), .val (.ref rr39), .val (.int (1 : Int32)), .val (.ref bb40), .val (.ref b43), .val (.int (1 : Int32)), .val (.int (1 : Int32)), .unset] [(.ref rr39), .null])) rfl (by rw [hml]; rfl) (argsL := [.null, (.ref rr39)]) (rest := []) (lenOf pd__Ljava_lang_String_Lcom_example_poolwright_poolwright_Copy_R_576 rfl) rfl (by show 2 * 0 + _ ≤ _; exact Nat.le_of_eq rfl) (hb hby at_98) (fun _ _ => ⟨rfl, e50, (by decide : 14 + 1 ≤ _), (by decide : 30 + 3 ≤ _)⟩)
        dsimp only [Pt.U, Pt.locs, Pt.cells, Pt.slots] at X51 l51 y51 z51 st51 hQ51
        subst l51 y51 z51
        obtain ⟨fb51, rfl, N51q, K51, fk51_0, fk51_1⟩ := hQ51
        have f69 : T40.heap.size ≤ T51.heap.size := Nat.le_trans f65 K51.1
        have f70 : n0 ≤ b43 := f66
        have f71 : Exa Z T51.heap b43 "com/example/poolwright/poolwright/Copy" := f67.keep K51
        have f72 : Fld Z T51.heap b43 "com/example/poolwright/poolwright/Copy" "destination" "Ljava/lang/String;" (.ref bb36) := f68.keep K51 (by simp)
        have f73 : Exa Z T51.heap fb48 "com/example/poolwright/poolwright/Copy" := fk48_0.keep K51
        have f74 : Fld Z T51.heap fb48 "com/example/poolwright/poolwright/Copy" "destination" "Ljava/lang/String;" (.ref bb40) := fk48_1.keep K51 (by simp)
        have C52 : CHr Z own_EL s.vm h0 T40.vm T51.heap := C49.trans (CHr.keep K51 sf0 C49.1)
        have sf52_b43 : Safe Z own_EL T40.vm T51.heap b43 := Safe.keep K51 sf0 C49.1 sf49_b43
        have Z51 : n0 ≤ T51.heap.size := Nat.le_trans Z48 K51.1
        have N51 := Fr.app N50 N51q
        obtain ⟨cq53, kq53, q53a, q53b, q53c⟩ := isOf hZ rfl fk51_0
        obtain ⟨_, _, ⟨T53, L53, k53, n53⟩, -, X53, ⟨Lc53, hQ53, l53, y53, z53⟩, st53⟩ := X51.virtualBack hx (y := (⟨"com/example/poolwright/poolwright/Copy", "starts", "()Z"⟩ : MethodName)) (z := (⟨"com/example/poolwright/poolwright/Copy", "starts", "()Z"⟩ : MethodName)) hown (mvT hZ (hw _ (List.mem_of_getElem? (i := 58) rfl))) (mvT hZ (hw _ (List.mem_of_getElem? (i := 59) rfl))) (notFace_of_selects (args := #[]) (mvT hZ (hw _ (List.mem_of_getElem? (i := 61) rfl)))) (mvT hZ (hw _ (List.mem_of_getElem? (i := 61) rfl))) (mvT hZ (hw _ (List.mem_of_getElem? (i := 60) rfl))) (by decide) (backOf (W := 0) (rm_stn l Z a0 hw [] fb51 T51.heap n0 Z51 fk51_1) hZ (hw _ (List.mem_of_getElem? (i := 62) rfl)) (hw _ (List.mem_of_getElem? (i := 42) rfl)) (by decide) (by decide)) q53a q53c (g := (mkF m 101 #[.val (.int p1), .val (.int p2), .val (.int p3), .val .null, .val (.ref bb36), .val (.ref rr39), .val (.int (1 : Int32)), .val (.ref bb40), .val (.ref b43), .val (.int (1 : Int32)), .val (.int (1 : Int32)), .unset] [(.ref fb51)])) rfl (by rw [hml]; rfl) (Steps.refl _) (argsL := []) (rest := []) (lenOf pd___Z_171 rfl) rfl (by show 2 * 0 + _ ≤ _; exact Nat.le_of_eq rfl) (hb hby at_101) (fun _ _ => ⟨rfl, rfl, (by decide : 15 + 0 ≤ _), (by decide : 33 + 0 ≤ _)⟩)
        dsimp only [Pt.U, Pt.locs, Pt.cells, Pt.slots] at X53 l53 y53 z53 st53 hQ53
        subst l53 y53 z53
        obtain ⟨rfl, N53q, e53⟩ := hQ53
        have N53 := Fr.app N51 N53q
        obtain ⟨fs, hr, hrun, hended, hRW⟩ := X53.leaveW (s := s) hS40 (by rw [e53]; exact f69) (v := some (.int (1 : Int32))) (fun h => by rw [Bd.returns] at h; cases h) (hlocks := Bd.notSynchronized)
        refine ⟨_, _, pre_41 _ ?_, hrun, hended, _, _, rfl, ?_, (by show CHr Z own_EL s.vm s.heap T53.vm T53.heap; rw [hh, e53]; exact C52.trans (CHv.at (s := s) (vm0 := T40.vm) X53 hZ hEL C52.1)), hRW.1, hRW.2.1, hRW.2.2.1, hRW.2.2.2.mono (by decide) (by decide)⟩
        · show Steps p.tables e below (T39.setTop (mkF m 48 #[.val (.int p1), .val (.int p2), .val (.int p3), .val .null, .val (.ref bb36), .val (.ref rr39), .val (.int (1 : Int32)), .unset, .unset, .unset, .unset, .unset] [(.int p2), (.int p1), (.int ((2 : Int32) + (((p3.toUInt32 >>> ((7 : Int32) &&& 31).toUInt32).toInt32) &&& (1 : Int32))))])) _
          refine st40.trans ?_
          show Steps p.tables e below (T40.setTop (mkF m 51 #[.val (.int p1), .val (.int p2), .val (.int p3), .val .null, .val (.ref bb36), .val (.ref rr39), .val (.int (1 : Int32)), .unset, .unset, .unset, .unset, .unset] [(.ref bb40)])) _
          refine XS.astore X40.here hx rfl (hb hby at_51) rfl rfl (l' := #[.val (.int p1), .val (.int p2), .val (.int p3), .val .null, .val (.ref bb36), .val (.ref rr39), .val (.int (1 : Int32)), .val (.ref bb40), .unset, .unset, .unset, .unset]) rfl ?_
          show Steps p.tables e below (T40.setTop (mkF m 53 #[.val (.int p1), .val (.int p2), .val (.int p3), .val .null, .val (.ref bb36), .val (.ref rr39), .val (.int (1 : Int32)), .val (.ref bb40), .unset, .unset, .unset, .unset] [])) _
          refine st43 _ ?_
          show Steps p.tables e below (T43.setTop (mkF m 56 #[.val (.int p1), .val (.int p2), .val (.int p3), .val .null, .val (.ref bb36), .val (.ref rr39), .val (.int (1 : Int32)), .val (.ref bb40), .unset, .unset, .unset, .unset] [(.ref b43)])) _
          refine XS.dup X43.here hx rfl (hb hby at_56) rfl rfl ?_
          show Steps p.tables e below (T43.setTop (mkF m 57 #[.val (.int p1), .val (.int p2), .val (.int p3), .val .null, .val (.ref bb36), .val (.ref rr39), .val (.int (1 : Int32)), .val (.ref bb40), .unset, .unset, .unset, .unset] [(.ref b43), (.ref b43)])) _
          refine XS.aloadN X43.here hx rfl (hb hby at_57) rfl rfl ?_
          show Steps p.tables e below (T43.setTop (mkF m 58 #[.val (.int p1), .val (.int p2), .val (.int p3), .val .null, .val (.ref bb36), .val (.ref rr39), .val (.int (1 : Int32)), .val (.ref bb40), .unset, .unset, .unset, .unset] [.null, (.ref b43), (.ref b43)])) _
          refine XS.aload X43.here hx rfl (hb hby at_58) rfl rfl ?_
          show Steps p.tables e below (T43.setTop (mkF m 60 #[.val (.int p1), .val (.int p2), .val (.int p3), .val .null, .val (.ref bb36), .val (.ref rr39), .val (.int (1 : Int32)), .val (.ref bb40), .unset, .unset, .unset, .unset] [(.ref bb36), .null, (.ref b43), (.ref b43)])) _
          refine XS.aload X43.here hx rfl (hb hby at_60) rfl rfl ?_
          show Steps p.tables e below (T43.setTop (mkF m 62 #[.val (.int p1), .val (.int p2), .val (.int p3), .val .null, .val (.ref bb36), .val (.ref rr39), .val (.int (1 : Int32)), .val (.ref bb40), .unset, .unset, .unset, .unset] [(.ref rr39), (.ref bb36), .null, (.ref b43), (.ref b43)])) _
          refine st45.trans ?_
          show Steps p.tables e below (T45.setTop (mkF m 65 #[.val (.int p1), .val (.int p2), .val (.int p3), .val .null, .val (.ref bb36), .val (.ref rr39), .val (.int (1 : Int32)), .val (.ref bb40), .unset, .unset, .unset, .unset] [(.ref b43)])) _
          refine XS.astore X45.here hx rfl (hb hby at_65) rfl rfl (l' := #[.val (.int p1), .val (.int p2), .val (.int p3), .val .null, .val (.ref bb36), .val (.ref rr39), .val (.int (1 : Int32)), .val (.ref bb40), .val (.ref b43), .unset, .unset, .unset]) rfl ?_
          show Steps p.tables e below (T45.setTop (mkF m 67 #[.val (.int p1), .val (.int p2), .val (.int p3), .val .null, .val (.ref bb36), .val (.ref rr39), .val (.int (1 : Int32)), .val (.ref bb40), .val (.ref b43), .unset, .unset, .unset] [])) _
          refine XS.aload X45.here hx rfl (hb hby at_67) rfl rfl ?_
          show Steps p.tables e below (T45.setTop (mkF m 69 #[.val (.int p1), .val (.int p2), .val (.int p3), .val .null, .val (.ref bb36), .val (.ref rr39), .val (.int (1 : Int32)), .val (.ref bb40), .val (.ref b43), .unset, .unset, .unset] [(.ref b43)])) _
          refine st47.trans ?_
          show Steps p.tables e below (T47.setTop (mkF m 72 #[.val (.int p1), .val (.int p2), .val (.int p3), .val .null, .val (.ref bb36), .val (.ref rr39), .val (.int (1 : Int32)), .val (.ref bb40), .val (.ref b43), .unset, .unset, .unset] [(.int (1 : Int32))])) _
          refine XS.iload X47.here hx rfl (hb hby at_72) rfl ?_
          show Steps p.tables e below (T47.setTop (mkF m 74 #[.val (.int p1), .val (.int p2), .val (.int p3), .val .null, .val (.ref bb36), .val (.ref rr39), .val (.int (1 : Int32)), .val (.ref bb40), .val (.ref b43), .unset, .unset, .unset] [(.int (1 : Int32)), (.int (1 : Int32))])) _
          refine XS.icmpNo X47.here hx rfl (hb hby at_74) rfl (teq (by decide : (1 : Int32) = (1 : Int32))).2 ?_
          show Steps p.tables e below (T47.setTop (mkF m 77 #[.val (.int p1), .val (.int p2), .val (.int p3), .val .null, .val (.ref bb36), .val (.ref rr39), .val (.int (1 : Int32)), .val (.ref bb40), .val (.ref b43), .unset, .unset, .unset] [])) _
          refine XS.iconst X47.here hx rfl (hb hby at_77) ?_
          show Steps p.tables e below (T47.setTop (mkF m 78 #[.val (.int p1), .val (.int p2), .val (.int p3), .val .null, .val (.ref bb36), .val (.ref rr39), .val (.int (1 : Int32)), .val (.ref bb40), .val (.ref b43), .unset, .unset, .unset] [(.int (1 : Int32))])) _
          refine XS.goto X47.here hx rfl (pc0 := 78) (pc' := 82) rfl (hb hby at_78) (by decide) (by decide) ?_
          show Steps p.tables e below (T47.setTop (mkF m 82 #[.val (.int p1), .val (.int p2), .val (.int p3), .val .null, .val (.ref bb36), .val (.ref rr39), .val (.int (1 : Int32)), .val (.ref bb40), .val (.ref b43), .unset, .unset, .unset] [(.int (1 : Int32))])) _
          refine XS.istore X47.here hx rfl (hb hby at_82) rfl (l' := #[.val (.int p1), .val (.int p2), .val (.int p3), .val .null, .val (.ref bb36), .val (.ref rr39), .val (.int (1 : Int32)), .val (.ref bb40), .val (.ref b43), .val (.int (1 : Int32)), .unset, .unset]) rfl ?_
          show Steps p.tables e below (T47.setTop (mkF m 84 #[.val (.int p1), .val (.int p2), .val (.int p3), .val .null, .val (.ref bb36), .val (.ref rr39), .val (.int (1 : Int32)), .val (.ref bb40), .val (.ref b43), .val (.int (1 : Int32)), .unset, .unset] [])) _
          refine XS.aloadN X47.here hx rfl (hb hby at_84) rfl rfl ?_
          show Steps p.tables e below (T47.setTop (mkF m 85 #[.val (.int p1), .val (.int p2), .val (.int p3), .val .null, .val (.ref bb36), .val (.ref rr39), .val (.int (1 : Int32)), .val (.ref bb40), .val (.ref b43), .val (.int (1 : Int32)), .unset, .unset] [.null])) _
          refine XS.aload X47.here hx rfl (hb hby at_85) rfl rfl ?_
          show Steps p.tables e below (T47.setTop (mkF m 87 #[.val (.int p1), .val (.int p2), .val (.int p3), .val .null, .val (.ref bb36), .val (.ref rr39), .val (.int (1 : Int32)), .val (.ref bb40), .val (.ref b43), .val (.int (1 : Int32)), .unset, .unset] [(.ref bb40), .null])) _
          refine st48 _ ?_
          show Steps p.tables e below (T48.setTop (mkF m 90 #[.val (.int p1), .val (.int p2), .val (.int p3), .val .null, .val (.ref bb36), .val (.ref rr39), .val (.int (1 : Int32)), .val (.ref bb40), .val (.ref b43), .val (.int (1 : Int32)), .unset, .unset] [(.ref fb48)])) _
          refine st50.trans ?_
          show Steps p.tables e below (T50.setTop (mkF m 93 #[.val (.int p1), .val (.int p2), .val (.int p3), .val .null, .val (.ref bb36), .val (.ref rr39), .val (.int (1 : Int32)), .val (.ref bb40), .val (.ref b43), .val (.int (1 : Int32)), .unset, .unset] [(.int (1 : Int32))])) _
          refine XS.istore X50.here hx rfl (hb hby at_93) rfl (l' := #[.val (.int p1), .val (.int p2), .val (.int p3), .val .null, .val (.ref bb36), .val (.ref rr39), .val (.int (1 : Int32)), .val (.ref bb40), .val (.ref b43), .val (.int (1 : Int32)), .val (.int (1 : Int32)), .unset]) rfl ?_
          show Steps p.tables e below (T50.setTop (mkF m 95 #[.val (.int p1), .val (.int p2), .val (.int p3), .val .null, .val (.ref bb36), .val (.ref rr39), .val (.int (1 : Int32)), .val (.ref bb40), .val (.ref b43), .val (.int (1 : Int32)), .val (.int (1 : Int32)), .unset] [])) _
          refine XS.aloadN X50.here hx rfl (hb hby at_95) rfl rfl ?_
          show Steps p.tables e below (T50.setTop (mkF m 96 #[.val (.int p1), .val (.int p2), .val (.int p3), .val .null, .val (.ref bb36), .val (.ref rr39), .val (.int (1 : Int32)), .val (.ref bb40), .val (.ref b43), .val (.int (1 : Int32)), .val (.int (1 : Int32)), .unset] [.null])) _
          refine XS.aload X50.here hx rfl (hb hby at_96) rfl rfl ?_
          show Steps p.tables e below (T50.setTop (mkF m 98 #[.val (.int p1), .val (.int p2), .val (.int p3), .val .null, .val (.ref bb36), .val (.ref rr39), .val (.int (1 : Int32)), .val (.ref bb40), .val (.ref b43), .val (.int (1 : Int32)), .val (.int (1 : Int32)), .unset] [(.ref rr39), .null])) _
          refine st51 _ ?_
          show Steps p.tables e below (T51.setTop (mkF m 101 #[.val (.int p1), .val (.int p2), .val (.int p3), .val .null, .val (.ref bb36), .val (.ref rr39), .val (.int (1 : Int32)), .val (.ref bb40), .val (.ref b43), .val (.int (1 : Int32)), .val (.int (1 : Int32)), .unset] [(.ref fb51)])) _
          refine st53.trans ?_
          show Steps p.tables e below (T53.setTop (mkF m 104 #[.val (.int p1), .val (.int p2), .val (.int p3), .val .null, .val (.ref bb36), .val (.ref rr39), .val (.int (1 : Int32)), .val (.ref bb40), .val (.ref b43), .val (.int (1 : Int32)), .val (.int (1 : Int32)), .unset] [(.int (0 : Int32))])) _
          refine XS.ifNo X53.here hx rfl (hb hby at_104) rfl ((if0 _ _).trans (teq (by decide : (0 : Int32) = (0 : Int32))).2) ?_
          show Steps p.tables e below (T53.setTop (mkF m 107 #[.val (.int p1), .val (.int p2), .val (.int p3), .val .null, .val (.ref bb36), .val (.ref rr39), .val (.int (1 : Int32)), .val (.ref bb40), .val (.ref b43), .val (.int (1 : Int32)), .val (.int (1 : Int32)), .unset] [])) _
          refine XS.iconst X53.here hx rfl (hb hby at_107) ?_
          show Steps p.tables e below (T53.setTop (mkF m 108 #[.val (.int p1), .val (.int p2), .val (.int p3), .val .null, .val (.ref bb36), .val (.ref rr39), .val (.int (1 : Int32)), .val (.ref bb40), .val (.ref b43), .val (.int (1 : Int32)), .val (.int (1 : Int32)), .unset] [(.int (1 : Int32))])) _
          refine XS.goto X53.here hx rfl (pc0 := 108) (pc' := 112) rfl (hb hby at_108) (by decide) (by decide) ?_
          show Steps p.tables e below (T53.setTop (mkF m 112 #[.val (.int p1), .val (.int p2), .val (.int p3), .val .null, .val (.ref bb36), .val (.ref rr39), .val (.int (1 : Int32)), .val (.ref bb40), .val (.ref b43), .val (.int (1 : Int32)), .val (.int (1 : Int32)), .unset] [(.int (1 : Int32))])) _
          refine XS.istore X53.here hx rfl (hb hby at_112) rfl (l' := #[.val (.int p1), .val (.int p2), .val (.int p3), .val .null, .val (.ref bb36), .val (.ref rr39), .val (.int (1 : Int32)), .val (.ref bb40), .val (.ref b43), .val (.int (1 : Int32)), .val (.int (1 : Int32)), .val (.int (1 : Int32))]) rfl ?_
          show Steps p.tables e below (T53.setTop (mkF m 114 #[.val (.int p1), .val (.int p2), .val (.int p3), .val .null, .val (.ref bb36), .val (.ref rr39), .val (.int (1 : Int32)), .val (.ref bb40), .val (.ref b43), .val (.int (1 : Int32)), .val (.int (1 : Int32)), .val (.int (1 : Int32))] [])) _
          refine XS.iload X53.here hx rfl (hb hby at_114) rfl ?_
          show Steps p.tables e below (T53.setTop (mkF m 116 #[.val (.int p1), .val (.int p2), .val (.int p3), .val .null, .val (.ref bb36), .val (.ref rr39), .val (.int (1 : Int32)), .val (.ref bb40), .val (.ref b43), .val (.int (1 : Int32)), .val (.int (1 : Int32)), .val (.int (1 : Int32))] [(.int (1 : Int32))])) _
          refine XS.ifNo X53.here hx rfl (hb hby at_116) rfl ((if0 _ _).trans (feq (by decide : ¬ ((1 : Int32) = (0 : Int32)))).1) ?_
          show Steps p.tables e below (T53.setTop (mkF m 119 #[.val (.int p1), .val (.int p2), .val (.int p3), .val .null, .val (.ref bb36), .val (.ref rr39), .val (.int (1 : Int32)), .val (.ref bb40), .val (.ref b43), .val (.int (1 : Int32)), .val (.int (1 : Int32)), .val (.int (1 : Int32))] [])) _
          refine XS.iload X53.here hx rfl (hb hby at_119) rfl ?_
          show Steps p.tables e below (T53.setTop (mkF m 121 #[.val (.int p1), .val (.int p2), .val (.int p3), .val .null, .val (.ref bb36), .val (.ref rr39), .val (.int (1 : Int32)), .val (.ref bb40), .val (.ref b43), .val (.int (1 : Int32)), .val (.int (1 : Int32)), .val (.int (1 : Int32))] [(.int (1 : Int32))])) _
          refine XS.ifNo X53.here hx rfl (hb hby at_121) rfl ((if0 _ _).trans (feq (by decide : ¬ ((1 : Int32) = (0 : Int32)))).1) ?_
          show Steps p.tables e below (T53.setTop (mkF m 124 #[.val (.int p1), .val (.int p2), .val (.int p3), .val .null, .val (.ref bb36), .val (.ref rr39), .val (.int (1 : Int32)), .val (.ref bb40), .val (.ref b43), .val (.int (1 : Int32)), .val (.int (1 : Int32)), .val (.int (1 : Int32))] [])) _
          refine XS.iload X53.here hx rfl (hb hby at_124) rfl ?_
          show Steps p.tables e below (T53.setTop (mkF m 126 #[.val (.int p1), .val (.int p2), .val (.int p3), .val .null, .val (.ref bb36), .val (.ref rr39), .val (.int (1 : Int32)), .val (.ref bb40), .val (.ref b43), .val (.int (1 : Int32)), .val (.int (1 : Int32)), .val (.int (1 : Int32))] [(.int (1 : Int32))])) _
          refine XS.ifNo X53.here hx rfl (hb hby at_126) rfl ((if0 _ _).trans (feq (by decide : ¬ ((1 : Int32) = (0 : Int32)))).1) ?_
          show Steps p.tables e below (T53.setTop (mkF m 129 #[.val (.int p1), .val (.int p2), .val (.int p3), .val .null, .val (.ref bb36), .val (.ref rr39), .val (.int (1 : Int32)), .val (.ref bb40), .val (.ref b43), .val (.int (1 : Int32)), .val (.int (1 : Int32)), .val (.int (1 : Int32))] [])) _
          refine XS.iconst X53.here hx rfl (hb hby at_129) ?_
          show Steps p.tables e below (T53.setTop (mkF m 130 #[.val (.int p1), .val (.int p2), .val (.int p3), .val .null, .val (.ref bb36), .val (.ref rr39), .val (.int (1 : Int32)), .val (.ref bb40), .val (.ref b43), .val (.int (1 : Int32)), .val (.int (1 : Int32)), .val (.int (1 : Int32))] [(.int (1 : Int32))])) _
          refine XS.goto X53.here hx rfl (pc0 := 130) (pc' := 134) rfl (hb hby at_130) (by decide) (by decide) ?_
          show Steps p.tables e below (T53.setTop (mkF m 134 #[.val (.int p1), .val (.int p2), .val (.int p3), .val .null, .val (.ref bb36), .val (.ref rr39), .val (.int (1 : Int32)), .val (.ref bb40), .val (.ref b43), .val (.int (1 : Int32)), .val (.int (1 : Int32)), .val (.int (1 : Int32))] [(.int (1 : Int32))])) _
          exact retN X53 hx (t := .boolean) Bd.returns (by simp) (hb hby at_134) hr
        · show Q_rm0 Z p1 p2 p3 cs c_ALERT c_OFF c_MAX_COPIES c_NO_DESTINATION h0 n0 _ T53.heap _
          rw [e53]
          exact ⟨rfl, N53⟩
      · obtain ⟨_, _, ⟨T54, L54, k54, n54⟩, -, X54, ⟨Lc54, hQ54, l54, y54, z54⟩, st54⟩ := Jvm.LawKit.callS X36 hx (y := (⟨"com/example/poolwright/poolwright/CopyStartsPinLaw", "pick", "(I)Lcom/example/poolwright/poolwright/Copy$Refusal;"⟩ : MethodName)) hown (mvT hZ (hw _ (List.mem_of_getElem? (i := 34) rfl))) (mvT hZ (hw _ (List.mem_of_getElem? (i := 35) rfl))) (mvT hZ (hw _ (List.mem_of_getElem? (i := 2) rfl))) (mvT hZ (hw _ (List.mem_of_getElem? (i := 36) rfl))) (by decide) (backOf (W := 0) (rm_p0 l Z a0 hw [] ((p3.toUInt32 >>> ((4 : Int32) &&& 31).toUInt32).toInt32) T36.heap n0 Z36 hd20) hZ (hw _ (List.mem_of_getElem? (i := 36) rfl)) (hw _ (List.mem_of_getElem? (i := 2) rfl)) (by decide) (by decide)) (g := (mkF m 20 #[.val (.int p1), .val (.int p2), .val (.int p3), .val .null, .val (.ref bb36), .unset, .unset, .unset, .unset, .unset, .unset, .unset] [(.int ((p3.toUInt32 >>> ((4 : Int32) &&& 31).toUInt32).toInt32))])) rfl (by rw [hml]; rfl) (argsL := [(.int ((p3.toUInt32 >>> ((4 : Int32) &&& 31).toUInt32).toInt32))]) (rest := []) (lenOf pd__I_Lcom_example_poolwright_poolwright_Copy_Refusal__4919 rfl) rfl (by show 2 * 0 + _ ≤ _; exact Nat.le_of_eq rfl) (hb hby at_20) (fun _ _ => ⟨rfl, rfl, (by decide : 6 + 0 ≤ _), (by decide : 12 + 0 ≤ _)⟩)
        dsimp only [Pt.U, Pt.locs, Pt.cells, Pt.slots] at X54 l54 y54 z54 st54 hQ54
        subst l54 y54 z54
        obtain ⟨rfl, N54q, e54⟩ := hQ54
        have N54 := Fr.app N36 N54q
        have pre_56 : ∀ t, Steps p.tables e below (T54.setTop (mkF m 48 #[.val (.int p1), .val (.int p2), .val (.int p3), .val .null, .val (.ref bb36), .val .null, .val (.int (1 : Int32)), .unset, .unset, .unset, .unset, .unset] [(.int p2), (.int p1), (.int ((2 : Int32) + (((p3.toUInt32 >>> ((7 : Int32) &&& 31).toUInt32).toInt32) &&& (1 : Int32))))])) t → Steps p.tables e below (s₁.setTop (entryFrame m #[(.int p1), (.int p2), (.int p3)] maxLocals)) t := by
          intro t kt
          refine pre_38 _ ?_
          show Steps p.tables e below (T36.setTop (mkF m 20 #[.val (.int p1), .val (.int p2), .val (.int p3), .val .null, .val (.ref bb36), .unset, .unset, .unset, .unset, .unset, .unset, .unset] [(.int ((p3.toUInt32 >>> ((4 : Int32) &&& 31).toUInt32).toInt32))])) _
          refine st54 _ ?_
          show Steps p.tables e below (T54.setTop (mkF m 23 #[.val (.int p1), .val (.int p2), .val (.int p3), .val .null, .val (.ref bb36), .unset, .unset, .unset, .unset, .unset, .unset, .unset] [.null])) _
          refine XS.astore X54.here hx rfl (hb hby at_23) rfl rfl (l' := #[.val (.int p1), .val (.int p2), .val (.int p3), .val .null, .val (.ref bb36), .val .null, .unset, .unset, .unset, .unset, .unset, .unset]) rfl ?_
          show Steps p.tables e below (T54.setTop (mkF m 25 #[.val (.int p1), .val (.int p2), .val (.int p3), .val .null, .val (.ref bb36), .val .null, .unset, .unset, .unset, .unset, .unset, .unset] [])) _
          refine XS.iloadN X54.here hx rfl (hb hby at_25) rfl ?_
          show Steps p.tables e below (T54.setTop (mkF m 26 #[.val (.int p1), .val (.int p2), .val (.int p3), .val .null, .val (.ref bb36), .val .null, .unset, .unset, .unset, .unset, .unset, .unset] [(.int p3)])) _
          refine XS.iconst X54.here hx rfl (hb hby at_26) ?_
          show Steps p.tables e below (T54.setTop (mkF m 27 #[.val (.int p1), .val (.int p2), .val (.int p3), .val .null, .val (.ref bb36), .val .null, .unset, .unset, .unset, .unset, .unset, .unset] [(.int (3 : Int32)), (.int p3)])) _
          refine XS.iand X54.here hx rfl (hb hby at_27) rfl ?_
          show Steps p.tables e below (T54.setTop (mkF m 28 #[.val (.int p1), .val (.int p2), .val (.int p3), .val .null, .val (.ref bb36), .val .null, .unset, .unset, .unset, .unset, .unset, .unset] [(.int (p3 &&& (3 : Int32)))])) _
          refine XS.ifNo X54.here hx rfl (hb hby at_28) rfl ((if0 _ _).trans (feq hd12).1) ?_
          show Steps p.tables e below (T54.setTop (mkF m 31 #[.val (.int p1), .val (.int p2), .val (.int p3), .val .null, .val (.ref bb36), .val .null, .unset, .unset, .unset, .unset, .unset, .unset] [])) _
          refine XS.iconst X54.here hx rfl (hb hby at_31) ?_
          show Steps p.tables e below (T54.setTop (mkF m 32 #[.val (.int p1), .val (.int p2), .val (.int p3), .val .null, .val (.ref bb36), .val .null, .unset, .unset, .unset, .unset, .unset, .unset] [(.int (1 : Int32))])) _
          refine XS.goto X54.here hx rfl (pc0 := 32) (pc' := 36) rfl (hb hby at_32) (by decide) (by decide) ?_
          show Steps p.tables e below (T54.setTop (mkF m 36 #[.val (.int p1), .val (.int p2), .val (.int p3), .val .null, .val (.ref bb36), .val .null, .unset, .unset, .unset, .unset, .unset, .unset] [(.int (1 : Int32))])) _
          refine XS.istore X54.here hx rfl (hb hby at_36) rfl (l' := #[.val (.int p1), .val (.int p2), .val (.int p3), .val .null, .val (.ref bb36), .val .null, .val (.int (1 : Int32)), .unset, .unset, .unset, .unset, .unset]) rfl ?_
          show Steps p.tables e below (T54.setTop (mkF m 38 #[.val (.int p1), .val (.int p2), .val (.int p3), .val .null, .val (.ref bb36), .val .null, .val (.int (1 : Int32)), .unset, .unset, .unset, .unset, .unset] [])) _
          refine XS.iconst X54.here hx rfl (hb hby at_38) ?_
          show Steps p.tables e below (T54.setTop (mkF m 39 #[.val (.int p1), .val (.int p2), .val (.int p3), .val .null, .val (.ref bb36), .val .null, .val (.int (1 : Int32)), .unset, .unset, .unset, .unset, .unset] [(.int (2 : Int32))])) _
          refine XS.iloadN X54.here hx rfl (hb hby at_39) rfl ?_
          show Steps p.tables e below (T54.setTop (mkF m 40 #[.val (.int p1), .val (.int p2), .val (.int p3), .val .null, .val (.ref bb36), .val .null, .val (.int (1 : Int32)), .unset, .unset, .unset, .unset, .unset] [(.int p3), (.int (2 : Int32))])) _
          refine XS.bipush X54.here hx rfl (hb hby at_40) ?_
          show Steps p.tables e below (T54.setTop (mkF m 42 #[.val (.int p1), .val (.int p2), .val (.int p3), .val .null, .val (.ref bb36), .val .null, .val (.int (1 : Int32)), .unset, .unset, .unset, .unset, .unset] [(.int (7 : Int32)), (.int p3), (.int (2 : Int32))])) _
          refine XS.iushr X54.here hx rfl (hb hby at_42) rfl ?_
          show Steps p.tables e below (T54.setTop (mkF m 43 #[.val (.int p1), .val (.int p2), .val (.int p3), .val .null, .val (.ref bb36), .val .null, .val (.int (1 : Int32)), .unset, .unset, .unset, .unset, .unset] [(.int ((p3.toUInt32 >>> ((7 : Int32) &&& 31).toUInt32).toInt32)), (.int (2 : Int32))])) _
          refine XS.iconst X54.here hx rfl (hb hby at_43) ?_
          show Steps p.tables e below (T54.setTop (mkF m 44 #[.val (.int p1), .val (.int p2), .val (.int p3), .val .null, .val (.ref bb36), .val .null, .val (.int (1 : Int32)), .unset, .unset, .unset, .unset, .unset] [(.int (1 : Int32)), (.int ((p3.toUInt32 >>> ((7 : Int32) &&& 31).toUInt32).toInt32)), (.int (2 : Int32))])) _
          refine XS.iand X54.here hx rfl (hb hby at_44) rfl ?_
          show Steps p.tables e below (T54.setTop (mkF m 45 #[.val (.int p1), .val (.int p2), .val (.int p3), .val .null, .val (.ref bb36), .val .null, .val (.int (1 : Int32)), .unset, .unset, .unset, .unset, .unset] [(.int (((p3.toUInt32 >>> ((7 : Int32) &&& 31).toUInt32).toInt32) &&& (1 : Int32))), (.int (2 : Int32))])) _
          refine XS.iadd X54.here hx rfl (hb hby at_45) rfl ?_
          show Steps p.tables e below (T54.setTop (mkF m 46 #[.val (.int p1), .val (.int p2), .val (.int p3), .val .null, .val (.ref bb36), .val .null, .val (.int (1 : Int32)), .unset, .unset, .unset, .unset, .unset] [(.int ((2 : Int32) + (((p3.toUInt32 >>> ((7 : Int32) &&& 31).toUInt32).toInt32) &&& (1 : Int32))))])) _
          refine XS.iloadN X54.here hx rfl (hb hby at_46) rfl ?_
          show Steps p.tables e below (T54.setTop (mkF m 47 #[.val (.int p1), .val (.int p2), .val (.int p3), .val .null, .val (.ref bb36), .val .null, .val (.int (1 : Int32)), .unset, .unset, .unset, .unset, .unset] [(.int p1), (.int ((2 : Int32) + (((p3.toUInt32 >>> ((7 : Int32) &&& 31).toUInt32).toInt32) &&& (1 : Int32))))])) _
          refine XS.iloadN X54.here hx rfl (hb hby at_47) rfl ?_
          exact kt
        obtain ⟨_, _, ⟨T55, L55, k55, n55⟩, -, X55', hS55', hge55, ⟨Lc55, hQ55, l55, y55, z55, hC55⟩, st55⟩ := callSS X54 hx (y := (⟨"com/example/poolwright/poolwright/CopyStartsPinLaw", "draw", "(III)Ljava/lang/String;"⟩ : MethodName)) hown (mvT hZ (hw _ (List.mem_of_getElem? (i := 0) rfl))) (mvT hZ (hw _ (List.mem_of_getElem? (i := 1) rfl))) (mvT hZ (hw _ (List.mem_of_getElem? (i := 2) rfl))) (mvT hZ (hw _ (List.mem_of_getElem? (i := 3) rfl))) (by decide) (backOfSH (s := s) (vm0 := T36.vm) (W := 0) (rm_d1 l Z a0 hw [] ((2 : Int32) + (((p3.toUInt32 >>> ((7 : Int32) &&& 31).toUInt32).toInt32) &&& (1 : Int32))) p1 p2 cs T36.heap n0 Z36 hEL f51 hcs (own_m3 _)) hZ (hw _ (List.mem_of_getElem? (i := 3) rfl)) (hw _ (List.mem_of_getElem? (i := 2) rfl)) (by decide) (by decide) hEL C37.1) (g := (mkF m 48 #[.val (.int p1), .val (.int p2), .val (.int p3), .val .null, .val (.ref bb36), .val .null, .val (.int (1 : Int32)), .unset, .unset, .unset, .unset, .unset] [(.int p2), (.int p1), (.int ((2 : Int32) + (((p3.toUInt32 >>> ((7 : Int32) &&& 31).toUInt32).toInt32) &&& (1 : Int32))))])) rfl (by rw [hml]; rfl) (argsL := [(.int ((2 : Int32) + (((p3.toUInt32 >>> ((7 : Int32) &&& 31).toUInt32).toInt32) &&& (1 : Int32)))), (.int p1), (.int p2)]) (rest := []) (lenOf pd__III_Ljava_lang_String__1996 rfl) rfl (by show 2 * 0 + _ ≤ _; exact Nat.le_of_eq rfl) (hb hby at_48) (fun _ _ => ⟨rfl, e54, (by decide : 6 + 6 ≤ _), (by decide : 12 + 12 ≤ _)⟩)
        dsimp only [Pt.U, Pt.locs, Pt.cells, Pt.slots] at X55' hS55' hge55 l55 y55 z55 st55 hQ55 hC55
        subst l55 y55 z55
        have hS55 : s.Since T55.vm T55.heap.size := foldS hS36 (by rw [e54]; exact hk36) hS55' hge55
        have hZ : Z.Warmed39 (s.setVm T55.vm).vm := State.Warmed39.trans (t := (s.setVm T36.vm)) hZ hS55'.1
        have hown : (s.setVm T55.vm).vm.findClass "com/example/poolwright/poolwright/CopyStartsPinLaw" = some m.cls := by rw [show (s.setVm T55.vm).vm = T55.vm from rfl, hS55'.1.alike.findClass]; exact hown
        have X55 := rebase (vm := T55.vm) X55'
        have C57 : CHr Z own_EL s.vm h0 T55.vm T55.heap := C37.trans hC55
        obtain ⟨bb55, rfl, N55q, K55⟩ := hQ55
        have f75 : Sta Z T55.heap "com/example/poolwright/poolwright/Copy$Refusal" "ALERT" "Lcom/example/poolwright/poolwright/Copy$Refusal;" (.ref c_ALERT) := own_sta f47 K55
        have f76 : Sta Z T55.heap "com/example/poolwright/poolwright/Copy$Refusal" "OFF" "Lcom/example/poolwright/poolwright/Copy$Refusal;" (.ref c_OFF) := own_sta f48 K55
        have f77 : Sta Z T55.heap "com/example/poolwright/poolwright/Copy$Refusal" "MAX_COPIES" "Lcom/example/poolwright/poolwright/Copy$Refusal;" (.ref c_MAX_COPIES) := own_sta f49 K55
        have f78 : Sta Z T55.heap "com/example/poolwright/poolwright/Copy$Refusal" "NO_DESTINATION" "Lcom/example/poolwright/poolwright/Copy$Refusal;" (.ref c_NO_DESTINATION) := own_sta f50 K55
        have f79 : Sta Z T55.heap "java/lang/String" "COMPACT_STRINGS" "Z" (.int cs) := own_sta f51 K55
        have Z55 : n0 ≤ T55.heap.size := Nat.le_trans Z36 K55.1
        have hk55 : T55.heap.size ≤ T55.heap.size := Nat.le_refl _
        have N55 := Fr.app N54 N55q
        obtain ⟨T58, h58, X58, e58, E58, A58, D58, -, st58⟩ := newO X55 hx hZ hown (hw _ (List.mem_of_getElem? (i := 40) rfl)) (hw _ (List.mem_of_getElem? (i := 41) rfl)) (hw _ (List.mem_of_getElem? (i := 42) rfl)) rfl (g := (mkF m 53 #[.val (.int p1), .val (.int p2), .val (.int p3), .val .null, .val (.ref bb36), .val .null, .val (.int (1 : Int32)), .val (.ref bb55), .unset, .unset, .unset, .unset] [])) rfl (hb hby at_53) (by decide) (by decide)
        obtain ⟨b58, g58⟩ : ∃ z, z = T55.heap.size := ⟨_, rfl⟩
        rw [← g58] at A58 D58 st58
        have f80 : Sta Z h58 "com/example/poolwright/poolwright/Copy$Refusal" "ALERT" "Lcom/example/poolwright/poolwright/Copy$Refusal;" (.ref c_ALERT) := f75.ext E58
        have f81 : Sta Z h58 "com/example/poolwright/poolwright/Copy$Refusal" "OFF" "Lcom/example/poolwright/poolwright/Copy$Refusal;" (.ref c_OFF) := f76.ext E58
        have f82 : Sta Z h58 "com/example/poolwright/poolwright/Copy$Refusal" "MAX_COPIES" "Lcom/example/poolwright/poolwright/Copy$Refusal;" (.ref c_MAX_COPIES) := f77.ext E58
        have f83 : Sta Z h58 "com/example/poolwright/poolwright/Copy$Refusal" "NO_DESTINATION" "Lcom/example/poolwright/poolwright/Copy$Refusal;" (.ref c_NO_DESTINATION) := f78.ext E58
        have f84 : Sta Z h58 "java/lang/String" "COMPACT_STRINGS" "Z" (.int cs) := f79.ext E58
        have f85 : T55.heap.size ≤ h58.size := Nat.le_trans hk55 E58.1
        have C59 : CHr Z own_EL s.vm h0 T55.vm h58 := C57.trans (CHr.ext E58 C57.1)
        have sf59_b58 : Safe Z own_EL T55.vm h58 b58 := Safe.ext E58 C57.1 (Safe.new (Nat.le_of_eq g58.symm))
        have g_b58 : n0 ≤ b58 := Nat.le_trans Z55 (Nat.le_of_eq g58.symm)
        have Z58 : n0 ≤ h58.size := Nat.le_trans Z55 E58.1
        have F_source_b58 : Fld Z h58 b58 "com/example/poolwright/poolwright/Copy" "source" "Ljava/lang/String;" .null := D58 (Or.inr (hw _ (List.mem_of_getElem? (i := 53) rfl))) (ty := (.object "java/lang/String")) (by decide)
        have F_destination_b58 : Fld Z h58 b58 "com/example/poolwright/poolwright/Copy" "destination" "Ljava/lang/String;" .null := D58 (Or.inr (hw _ (List.mem_of_getElem? (i := 55) rfl))) (ty := (.object "java/lang/String")) (by decide)
        have F_refusal_b58 : Fld Z h58 b58 "com/example/poolwright/poolwright/Copy" "refusal" "Lcom/example/poolwright/poolwright/Copy$Refusal;" .null := D58 (Or.inr (hw _ (List.mem_of_getElem? (i := 57) rfl))) (ty := (.object "com/example/poolwright/poolwright/Copy$Refusal")) (by decide)
        obtain ⟨_, _, ⟨T60, L60, k60, n60⟩, -, X60, ⟨Lc60, hQ60, l60, y60, z60⟩, st60⟩ := X58.specialBack hx (y := (⟨"com/example/poolwright/poolwright/Copy", "<init>", "(Ljava/lang/String;Ljava/lang/String;Lcom/example/poolwright/poolwright/Copy$Refusal;)V"⟩ : MethodName)) rfl hown (mvT hZ (hw _ (List.mem_of_getElem? (i := 43) rfl))) (mvT hZ (hw _ (List.mem_of_getElem? (i := 44) rfl))) (mvT hZ (hw _ (List.mem_of_getElem? (i := 45) rfl))) (by decide) (backOf (W := 1) (rm_cinrn l Z a0 hw [] b58 bb36 h58 n0 Z58 F_source_b58 F_destination_b58 F_refusal_b58 A58 g_b58) hZ (hw _ (List.mem_of_getElem? (i := 45) rfl)) (hw _ (List.mem_of_getElem? (i := 42) rfl)) (by decide) (by decide)) (g := (mkF m 62 #[.val (.int p1), .val (.int p2), .val (.int p3), .val .null, .val (.ref bb36), .val .null, .val (.int (1 : Int32)), .val (.ref bb55), .unset, .unset, .unset, .unset] [.null, (.ref bb36), .null, (.ref b58), (.ref b58)])) rfl (by rw [hml]; rfl) (Steps.refl _) (a := b58) (argsL := [.null, (.ref bb36), .null]) (rest := [(.ref b58)]) (lenOf pd__Ljava_lang_String_Ljava_lang_String_Lcom_example_poolwright_8324 rfl) rfl (by show 2 * 0 + _ ≤ _; exact Nat.le_of_eq rfl) (hb hby at_62) (fun _ _ => ⟨rfl, e58, (by decide : 13 + 0 ≤ _), (by decide : 27 + 0 ≤ _)⟩)
        dsimp only [Pt.U, Pt.locs, Pt.cells, Pt.slots] at X60 l60 y60 z60 st60 hQ60
        subst l60 y60 z60
        obtain ⟨rfl, N60q, K60, fk60_0, fk60_1⟩ := hQ60
        have f86 : T55.heap.size ≤ T60.heap.size := Nat.le_trans f85 K60.1
        have f87 : n0 ≤ b58 := g_b58
        have C61 : CHr Z own_EL s.vm h0 T55.vm T60.heap := C59.trans (CHr.keep K60 (sfS sf59_b58 sf0) C59.1)
        have sf61_b58 : Safe Z own_EL T55.vm T60.heap b58 := Safe.keep K60 (sfS sf59_b58 sf0) C59.1 sf59_b58
        have Z60 : n0 ≤ T60.heap.size := Nat.le_trans Z58 K60.1
        have N60 := Fr.app N55 N60q
        obtain ⟨cq62, kq62, q62a, q62b, q62c⟩ := isOf hZ rfl fk60_0
        obtain ⟨_, _, ⟨T62, L62, k62, n62⟩, -, X62, ⟨Lc62, hQ62, l62, y62, z62⟩, st62⟩ := X60.virtualBack hx (y := (⟨"com/example/poolwright/poolwright/Copy", "starts", "()Z"⟩ : MethodName)) (z := (⟨"com/example/poolwright/poolwright/Copy", "starts", "()Z"⟩ : MethodName)) hown (mvT hZ (hw _ (List.mem_of_getElem? (i := 58) rfl))) (mvT hZ (hw _ (List.mem_of_getElem? (i := 59) rfl))) (notFace_of_selects (args := #[]) (mvT hZ (hw _ (List.mem_of_getElem? (i := 61) rfl)))) (mvT hZ (hw _ (List.mem_of_getElem? (i := 61) rfl))) (mvT hZ (hw _ (List.mem_of_getElem? (i := 60) rfl))) (by decide) (backOf (W := 0) (rm_str l Z a0 hw [] b58 bb36 T60.heap n0 Z60 fk60_1) hZ (hw _ (List.mem_of_getElem? (i := 62) rfl)) (hw _ (List.mem_of_getElem? (i := 42) rfl)) (by decide) (by decide)) q62a q62c (g := (mkF m 69 #[.val (.int p1), .val (.int p2), .val (.int p3), .val .null, .val (.ref bb36), .val .null, .val (.int (1 : Int32)), .val (.ref bb55), .val (.ref b58), .unset, .unset, .unset] [(.ref b58)])) rfl (by rw [hml]; rfl) (Steps.refl _) (argsL := []) (rest := []) (lenOf pd___Z_171 rfl) rfl (by show 2 * 0 + _ ≤ _; exact Nat.le_of_eq rfl) (hb hby at_69) (fun _ _ => ⟨rfl, rfl, (by decide : 13 + 0 ≤ _), (by decide : 27 + 0 ≤ _)⟩)
        dsimp only [Pt.U, Pt.locs, Pt.cells, Pt.slots] at X62 l62 y62 z62 st62 hQ62
        subst l62 y62 z62
        obtain ⟨rfl, N62q, e62⟩ := hQ62
        have N62 := Fr.app N60 N62q
        obtain ⟨_, _, ⟨T63, L63, k63, n63⟩, -, X63, ⟨Lc63, hQ63, l63, y63, z63⟩, st63⟩ := Jvm.LawKit.callS X62 hx (y := (⟨"com/example/poolwright/poolwright/Copy", "started", "(Ljava/lang/String;Ljava/lang/String;)Lcom/example/poolwright/poolwright/Copy;"⟩ : MethodName)) hown (mvT hZ (hw _ (List.mem_of_getElem? (i := 63) rfl))) (mvT hZ (hw _ (List.mem_of_getElem? (i := 64) rfl))) (mvT hZ (hw _ (List.mem_of_getElem? (i := 42) rfl))) (mvT hZ (hw _ (List.mem_of_getElem? (i := 65) rfl))) (by decide) (backOf (W := 0) (rm_sdn l Z a0 hw [] bb55 T60.heap n0 Z60 ) hZ (hw _ (List.mem_of_getElem? (i := 65) rfl)) (hw _ (List.mem_of_getElem? (i := 42) rfl)) (by decide) (by decide)) (g := (mkF m 87 #[.val (.int p1), .val (.int p2), .val (.int p3), .val .null, .val (.ref bb36), .val .null, .val (.int (1 : Int32)), .val (.ref bb55), .val (.ref b58), .val (.int (1 : Int32)), .unset, .unset] [(.ref bb55), .null])) rfl (by rw [hml]; rfl) (argsL := [.null, (.ref bb55)]) (rest := []) (lenOf pd__Ljava_lang_String_Ljava_lang_String__Lcom_example_poolwrigh_7480 rfl) rfl (by show 2 * 0 + _ ≤ _; exact Nat.le_of_eq rfl) (hb hby at_87) (fun _ _ => ⟨rfl, e62, (by decide : 13 + 1 ≤ _), (by decide : 27 + 3 ≤ _)⟩)
        dsimp only [Pt.U, Pt.locs, Pt.cells, Pt.slots] at X63 l63 y63 z63 st63 hQ63
        subst l63 y63 z63
        obtain ⟨fb63, rfl, N63q, K63, fk63_0, fk63_1⟩ := hQ63
        have f88 : T55.heap.size ≤ T63.heap.size := Nat.le_trans f86 K63.1
        have f89 : n0 ≤ b58 := f87
        have f90 : Exa Z T63.heap b58 "com/example/poolwright/poolwright/Copy" := fk60_0.keep K63
        have f91 : Fld Z T63.heap b58 "com/example/poolwright/poolwright/Copy" "destination" "Ljava/lang/String;" (.ref bb36) := fk60_1.keep K63 (by simp)
        have C64 : CHr Z own_EL s.vm h0 T55.vm T63.heap := C61.trans (CHr.keep K63 sf0 C61.1)
        have sf64_b58 : Safe Z own_EL T55.vm T63.heap b58 := Safe.keep K63 sf0 C61.1 sf61_b58
        have Z63 : n0 ≤ T63.heap.size := Nat.le_trans Z60 K63.1
        have N63 := Fr.app N62 N63q
        obtain ⟨cq65, kq65, q65a, q65b, q65c⟩ := isOf hZ rfl fk63_0
        obtain ⟨_, _, ⟨T65, L65, k65, n65⟩, -, X65, ⟨Lc65, hQ65, l65, y65, z65⟩, st65⟩ := X63.virtualBack hx (y := (⟨"com/example/poolwright/poolwright/Copy", "starts", "()Z"⟩ : MethodName)) (z := (⟨"com/example/poolwright/poolwright/Copy", "starts", "()Z"⟩ : MethodName)) hown (mvT hZ (hw _ (List.mem_of_getElem? (i := 58) rfl))) (mvT hZ (hw _ (List.mem_of_getElem? (i := 59) rfl))) (notFace_of_selects (args := #[]) (mvT hZ (hw _ (List.mem_of_getElem? (i := 61) rfl)))) (mvT hZ (hw _ (List.mem_of_getElem? (i := 61) rfl))) (mvT hZ (hw _ (List.mem_of_getElem? (i := 60) rfl))) (by decide) (backOf (W := 0) (rm_str l Z a0 hw [] fb63 bb55 T63.heap n0 Z63 fk63_1) hZ (hw _ (List.mem_of_getElem? (i := 62) rfl)) (hw _ (List.mem_of_getElem? (i := 42) rfl)) (by decide) (by decide)) q65a q65c (g := (mkF m 90 #[.val (.int p1), .val (.int p2), .val (.int p3), .val .null, .val (.ref bb36), .val .null, .val (.int (1 : Int32)), .val (.ref bb55), .val (.ref b58), .val (.int (1 : Int32)), .unset, .unset] [(.ref fb63)])) rfl (by rw [hml]; rfl) (Steps.refl _) (argsL := []) (rest := []) (lenOf pd___Z_171 rfl) rfl (by show 2 * 0 + _ ≤ _; exact Nat.le_of_eq rfl) (hb hby at_90) (fun _ _ => ⟨rfl, rfl, (by decide : 14 + 0 ≤ _), (by decide : 30 + 0 ≤ _)⟩)
        dsimp only [Pt.U, Pt.locs, Pt.cells, Pt.slots] at X65 l65 y65 z65 st65 hQ65
        subst l65 y65 z65
        obtain ⟨rfl, N65q, e65⟩ := hQ65
        have N65 := Fr.app N63 N65q
        obtain ⟨_, _, ⟨T66, L66, k66, n66⟩, -, X66, ⟨Lc66, hQ66, l66, y66, z66⟩, st66⟩ := Jvm.LawKit.callS X65 hx (y := (⟨"com/example/poolwright/poolwright/Copy", "refused", "(Ljava/lang/String;Lcom/example/poolwright/poolwright/Copy$Refusal;)Lcom/example/poolwright/poolwright/Copy;"⟩ : MethodName)) hown (mvT hZ (hw _ (List.mem_of_getElem? (i := 68) rfl))) (mvT hZ (hw _ (List.mem_of_getElem? (i := 69) rfl))) (mvT hZ (hw _ (List.mem_of_getElem? (i := 42) rfl))) (mvT hZ (hw _ (List.mem_of_getElem? (i := 70) rfl))) (by decide) (backOf (W := 0) (rm_rdnn l Z a0 hw []  T63.heap n0 Z63 ) hZ (hw _ (List.mem_of_getElem? (i := 70) rfl)) (hw _ (List.mem_of_getElem? (i := 42) rfl)) (by decide) (by decide)) (g := (mkF m 98 #[.val (.int p1), .val (.int p2), .val (.int p3), .val .null, .val (.ref bb36), .val .null, .val (.int (1 : Int32)), .val (.ref bb55), .val (.ref b58), .val (.int (1 : Int32)), .val (.int (1 : Int32)), .unset] [.null, .null])) rfl (by rw [hml]; rfl) (argsL := [.null, .null]) (rest := []) (lenOf pd__Ljava_lang_String_Lcom_example_poolwright_poolwright_Copy_R_576 rfl) rfl (by show 2 * 0 + _ ≤ _; exact Nat.le_of_eq rfl) (hb hby at_98) (fun _ _ => ⟨rfl, e65, (by decide : 14 + 1 ≤ _), (by decide : 30 + 3 ≤ _)⟩)
        dsimp only [Pt.U, Pt.locs, Pt.cells, Pt.slots] at X66 l66 y66 z66 st66 hQ66
        subst l66 y66 z66
        obtain ⟨fb66, rfl, N66q, K66, fk66_0, fk66_1⟩ := hQ66
        have f92 : T55.heap.size ≤ T66.heap.size := Nat.le_trans f88 K66.1
        have f93 : n0 ≤ b58 := f89
        have f94 : Exa Z T66.heap b58 "com/example/poolwright/poolwright/Copy" := f90.keep K66
        have f95 : Fld Z T66.heap b58 "com/example/poolwright/poolwright/Copy" "destination" "Ljava/lang/String;" (.ref bb36) := f91.keep K66 (by simp)
        have f96 : Exa Z T66.heap fb63 "com/example/poolwright/poolwright/Copy" := fk63_0.keep K66
        have f97 : Fld Z T66.heap fb63 "com/example/poolwright/poolwright/Copy" "destination" "Ljava/lang/String;" (.ref bb55) := fk63_1.keep K66 (by simp)
        have C67 : CHr Z own_EL s.vm h0 T55.vm T66.heap := C64.trans (CHr.keep K66 sf0 C64.1)
        have sf67_b58 : Safe Z own_EL T55.vm T66.heap b58 := Safe.keep K66 sf0 C64.1 sf64_b58
        have Z66 : n0 ≤ T66.heap.size := Nat.le_trans Z63 K66.1
        have N66 := Fr.app N65 N66q
        obtain ⟨cq68, kq68, q68a, q68b, q68c⟩ := isOf hZ rfl fk66_0
        obtain ⟨_, _, ⟨T68, L68, k68, n68⟩, -, X68, ⟨Lc68, hQ68, l68, y68, z68⟩, st68⟩ := X66.virtualBack hx (y := (⟨"com/example/poolwright/poolwright/Copy", "starts", "()Z"⟩ : MethodName)) (z := (⟨"com/example/poolwright/poolwright/Copy", "starts", "()Z"⟩ : MethodName)) hown (mvT hZ (hw _ (List.mem_of_getElem? (i := 58) rfl))) (mvT hZ (hw _ (List.mem_of_getElem? (i := 59) rfl))) (notFace_of_selects (args := #[]) (mvT hZ (hw _ (List.mem_of_getElem? (i := 61) rfl)))) (mvT hZ (hw _ (List.mem_of_getElem? (i := 61) rfl))) (mvT hZ (hw _ (List.mem_of_getElem? (i := 60) rfl))) (by decide) (backOf (W := 0) (rm_stn l Z a0 hw [] fb66 T66.heap n0 Z66 fk66_1) hZ (hw _ (List.mem_of_getElem? (i := 62) rfl)) (hw _ (List.mem_of_getElem? (i := 42) rfl)) (by decide) (by decide)) q68a q68c (g := (mkF m 101 #[.val (.int p1), .val (.int p2), .val (.int p3), .val .null, .val (.ref bb36), .val .null, .val (.int (1 : Int32)), .val (.ref bb55), .val (.ref b58), .val (.int (1 : Int32)), .val (.int (1 : Int32)), .unset] [(.ref fb66)])) rfl (by rw [hml]; rfl) (Steps.refl _) (argsL := []) (rest := []) (lenOf pd___Z_171 rfl) rfl (by show 2 * 0 + _ ≤ _; exact Nat.le_of_eq rfl) (hb hby at_101) (fun _ _ => ⟨rfl, rfl, (by decide : 15 + 0 ≤ _), (by decide : 33 + 0 ≤ _)⟩)
        dsimp only [Pt.U, Pt.locs, Pt.cells, Pt.slots] at X68 l68 y68 z68 st68 hQ68
        subst l68 y68 z68
        obtain ⟨rfl, N68q, e68⟩ := hQ68
        have N68 := Fr.app N66 N68q
        obtain ⟨fs, hr, hrun, hended, hRW⟩ := X68.leaveW (s := s) hS55 (by rw [e68]; exact f92) (v := some (.int (1 : Int32))) (fun h => by rw [Bd.returns] at h; cases h) (hlocks := Bd.notSynchronized)
        refine ⟨_, _, pre_56 _ ?_, hrun, hended, _, _, rfl, ?_, (by show CHr Z own_EL s.vm s.heap T68.vm T68.heap; rw [hh, e68]; exact C67.trans (CHv.at (s := s) (vm0 := T55.vm) X68 hZ hEL C67.1)), hRW.1, hRW.2.1, hRW.2.2.1, hRW.2.2.2.mono (by decide) (by decide)⟩
        · show Steps p.tables e below (T54.setTop (mkF m 48 #[.val (.int p1), .val (.int p2), .val (.int p3), .val .null, .val (.ref bb36), .val .null, .val (.int (1 : Int32)), .unset, .unset, .unset, .unset, .unset] [(.int p2), (.int p1), (.int ((2 : Int32) + (((p3.toUInt32 >>> ((7 : Int32) &&& 31).toUInt32).toInt32) &&& (1 : Int32))))])) _
          refine st55.trans ?_
          show Steps p.tables e below (T55.setTop (mkF m 51 #[.val (.int p1), .val (.int p2), .val (.int p3), .val .null, .val (.ref bb36), .val .null, .val (.int (1 : Int32)), .unset, .unset, .unset, .unset, .unset] [(.ref bb55)])) _
          refine XS.astore X55.here hx rfl (hb hby at_51) rfl rfl (l' := #[.val (.int p1), .val (.int p2), .val (.int p3), .val .null, .val (.ref bb36), .val .null, .val (.int (1 : Int32)), .val (.ref bb55), .unset, .unset, .unset, .unset]) rfl ?_
          show Steps p.tables e below (T55.setTop (mkF m 53 #[.val (.int p1), .val (.int p2), .val (.int p3), .val .null, .val (.ref bb36), .val .null, .val (.int (1 : Int32)), .val (.ref bb55), .unset, .unset, .unset, .unset] [])) _
          refine st58 _ ?_
          show Steps p.tables e below (T58.setTop (mkF m 56 #[.val (.int p1), .val (.int p2), .val (.int p3), .val .null, .val (.ref bb36), .val .null, .val (.int (1 : Int32)), .val (.ref bb55), .unset, .unset, .unset, .unset] [(.ref b58)])) _
          refine XS.dup X58.here hx rfl (hb hby at_56) rfl rfl ?_
          show Steps p.tables e below (T58.setTop (mkF m 57 #[.val (.int p1), .val (.int p2), .val (.int p3), .val .null, .val (.ref bb36), .val .null, .val (.int (1 : Int32)), .val (.ref bb55), .unset, .unset, .unset, .unset] [(.ref b58), (.ref b58)])) _
          refine XS.aloadN X58.here hx rfl (hb hby at_57) rfl rfl ?_
          show Steps p.tables e below (T58.setTop (mkF m 58 #[.val (.int p1), .val (.int p2), .val (.int p3), .val .null, .val (.ref bb36), .val .null, .val (.int (1 : Int32)), .val (.ref bb55), .unset, .unset, .unset, .unset] [.null, (.ref b58), (.ref b58)])) _
          refine XS.aload X58.here hx rfl (hb hby at_58) rfl rfl ?_
          show Steps p.tables e below (T58.setTop (mkF m 60 #[.val (.int p1), .val (.int p2), .val (.int p3), .val .null, .val (.ref bb36), .val .null, .val (.int (1 : Int32)), .val (.ref bb55), .unset, .unset, .unset, .unset] [(.ref bb36), .null, (.ref b58), (.ref b58)])) _
          refine XS.aload X58.here hx rfl (hb hby at_60) rfl rfl ?_
          show Steps p.tables e below (T58.setTop (mkF m 62 #[.val (.int p1), .val (.int p2), .val (.int p3), .val .null, .val (.ref bb36), .val .null, .val (.int (1 : Int32)), .val (.ref bb55), .unset, .unset, .unset, .unset] [.null, (.ref bb36), .null, (.ref b58), (.ref b58)])) _
          refine st60.trans ?_
          show Steps p.tables e below (T60.setTop (mkF m 65 #[.val (.int p1), .val (.int p2), .val (.int p3), .val .null, .val (.ref bb36), .val .null, .val (.int (1 : Int32)), .val (.ref bb55), .unset, .unset, .unset, .unset] [(.ref b58)])) _
          refine XS.astore X60.here hx rfl (hb hby at_65) rfl rfl (l' := #[.val (.int p1), .val (.int p2), .val (.int p3), .val .null, .val (.ref bb36), .val .null, .val (.int (1 : Int32)), .val (.ref bb55), .val (.ref b58), .unset, .unset, .unset]) rfl ?_
          show Steps p.tables e below (T60.setTop (mkF m 67 #[.val (.int p1), .val (.int p2), .val (.int p3), .val .null, .val (.ref bb36), .val .null, .val (.int (1 : Int32)), .val (.ref bb55), .val (.ref b58), .unset, .unset, .unset] [])) _
          refine XS.aload X60.here hx rfl (hb hby at_67) rfl rfl ?_
          show Steps p.tables e below (T60.setTop (mkF m 69 #[.val (.int p1), .val (.int p2), .val (.int p3), .val .null, .val (.ref bb36), .val .null, .val (.int (1 : Int32)), .val (.ref bb55), .val (.ref b58), .unset, .unset, .unset] [(.ref b58)])) _
          refine st62.trans ?_
          show Steps p.tables e below (T62.setTop (mkF m 72 #[.val (.int p1), .val (.int p2), .val (.int p3), .val .null, .val (.ref bb36), .val .null, .val (.int (1 : Int32)), .val (.ref bb55), .val (.ref b58), .unset, .unset, .unset] [(.int (1 : Int32))])) _
          refine XS.iload X62.here hx rfl (hb hby at_72) rfl ?_
          show Steps p.tables e below (T62.setTop (mkF m 74 #[.val (.int p1), .val (.int p2), .val (.int p3), .val .null, .val (.ref bb36), .val .null, .val (.int (1 : Int32)), .val (.ref bb55), .val (.ref b58), .unset, .unset, .unset] [(.int (1 : Int32)), (.int (1 : Int32))])) _
          refine XS.icmpNo X62.here hx rfl (hb hby at_74) rfl (teq (by decide : (1 : Int32) = (1 : Int32))).2 ?_
          show Steps p.tables e below (T62.setTop (mkF m 77 #[.val (.int p1), .val (.int p2), .val (.int p3), .val .null, .val (.ref bb36), .val .null, .val (.int (1 : Int32)), .val (.ref bb55), .val (.ref b58), .unset, .unset, .unset] [])) _
          refine XS.iconst X62.here hx rfl (hb hby at_77) ?_
          show Steps p.tables e below (T62.setTop (mkF m 78 #[.val (.int p1), .val (.int p2), .val (.int p3), .val .null, .val (.ref bb36), .val .null, .val (.int (1 : Int32)), .val (.ref bb55), .val (.ref b58), .unset, .unset, .unset] [(.int (1 : Int32))])) _
          refine XS.goto X62.here hx rfl (pc0 := 78) (pc' := 82) rfl (hb hby at_78) (by decide) (by decide) ?_
          show Steps p.tables e below (T62.setTop (mkF m 82 #[.val (.int p1), .val (.int p2), .val (.int p3), .val .null, .val (.ref bb36), .val .null, .val (.int (1 : Int32)), .val (.ref bb55), .val (.ref b58), .unset, .unset, .unset] [(.int (1 : Int32))])) _
          refine XS.istore X62.here hx rfl (hb hby at_82) rfl (l' := #[.val (.int p1), .val (.int p2), .val (.int p3), .val .null, .val (.ref bb36), .val .null, .val (.int (1 : Int32)), .val (.ref bb55), .val (.ref b58), .val (.int (1 : Int32)), .unset, .unset]) rfl ?_
          show Steps p.tables e below (T62.setTop (mkF m 84 #[.val (.int p1), .val (.int p2), .val (.int p3), .val .null, .val (.ref bb36), .val .null, .val (.int (1 : Int32)), .val (.ref bb55), .val (.ref b58), .val (.int (1 : Int32)), .unset, .unset] [])) _
          refine XS.aloadN X62.here hx rfl (hb hby at_84) rfl rfl ?_
          show Steps p.tables e below (T62.setTop (mkF m 85 #[.val (.int p1), .val (.int p2), .val (.int p3), .val .null, .val (.ref bb36), .val .null, .val (.int (1 : Int32)), .val (.ref bb55), .val (.ref b58), .val (.int (1 : Int32)), .unset, .unset] [.null])) _
          refine XS.aload X62.here hx rfl (hb hby at_85) rfl rfl ?_
          show Steps p.tables e below (T62.setTop (mkF m 87 #[.val (.int p1), .val (.int p2), .val (.int p3), .val .null, .val (.ref bb36), .val .null, .val (.int (1 : Int32)), .val (.ref bb55), .val (.ref b58), .val (.int (1 : Int32)), .unset, .unset] [(.ref bb55), .null])) _
          refine st63 _ ?_
          show Steps p.tables e below (T63.setTop (mkF m 90 #[.val (.int p1), .val (.int p2), .val (.int p3), .val .null, .val (.ref bb36), .val .null, .val (.int (1 : Int32)), .val (.ref bb55), .val (.ref b58), .val (.int (1 : Int32)), .unset, .unset] [(.ref fb63)])) _
          refine st65.trans ?_
          show Steps p.tables e below (T65.setTop (mkF m 93 #[.val (.int p1), .val (.int p2), .val (.int p3), .val .null, .val (.ref bb36), .val .null, .val (.int (1 : Int32)), .val (.ref bb55), .val (.ref b58), .val (.int (1 : Int32)), .unset, .unset] [(.int (1 : Int32))])) _
          refine XS.istore X65.here hx rfl (hb hby at_93) rfl (l' := #[.val (.int p1), .val (.int p2), .val (.int p3), .val .null, .val (.ref bb36), .val .null, .val (.int (1 : Int32)), .val (.ref bb55), .val (.ref b58), .val (.int (1 : Int32)), .val (.int (1 : Int32)), .unset]) rfl ?_
          show Steps p.tables e below (T65.setTop (mkF m 95 #[.val (.int p1), .val (.int p2), .val (.int p3), .val .null, .val (.ref bb36), .val .null, .val (.int (1 : Int32)), .val (.ref bb55), .val (.ref b58), .val (.int (1 : Int32)), .val (.int (1 : Int32)), .unset] [])) _
          refine XS.aloadN X65.here hx rfl (hb hby at_95) rfl rfl ?_
          show Steps p.tables e below (T65.setTop (mkF m 96 #[.val (.int p1), .val (.int p2), .val (.int p3), .val .null, .val (.ref bb36), .val .null, .val (.int (1 : Int32)), .val (.ref bb55), .val (.ref b58), .val (.int (1 : Int32)), .val (.int (1 : Int32)), .unset] [.null])) _
          refine XS.aload X65.here hx rfl (hb hby at_96) rfl rfl ?_
          show Steps p.tables e below (T65.setTop (mkF m 98 #[.val (.int p1), .val (.int p2), .val (.int p3), .val .null, .val (.ref bb36), .val .null, .val (.int (1 : Int32)), .val (.ref bb55), .val (.ref b58), .val (.int (1 : Int32)), .val (.int (1 : Int32)), .unset] [.null, .null])) _
          refine st66 _ ?_
          show Steps p.tables e below (T66.setTop (mkF m 101 #[.val (.int p1), .val (.int p2), .val (.int p3), .val .null, .val (.ref bb36), .val .null, .val (.int (1 : Int32)), .val (.ref bb55), .val (.ref b58), .val (.int (1 : Int32)), .val (.int (1 : Int32)), .unset] [(.ref fb66)])) _
          refine st68.trans ?_
          show Steps p.tables e below (T68.setTop (mkF m 104 #[.val (.int p1), .val (.int p2), .val (.int p3), .val .null, .val (.ref bb36), .val .null, .val (.int (1 : Int32)), .val (.ref bb55), .val (.ref b58), .val (.int (1 : Int32)), .val (.int (1 : Int32)), .unset] [(.int (0 : Int32))])) _
          refine XS.ifNo X68.here hx rfl (hb hby at_104) rfl ((if0 _ _).trans (teq (by decide : (0 : Int32) = (0 : Int32))).2) ?_
          show Steps p.tables e below (T68.setTop (mkF m 107 #[.val (.int p1), .val (.int p2), .val (.int p3), .val .null, .val (.ref bb36), .val .null, .val (.int (1 : Int32)), .val (.ref bb55), .val (.ref b58), .val (.int (1 : Int32)), .val (.int (1 : Int32)), .unset] [])) _
          refine XS.iconst X68.here hx rfl (hb hby at_107) ?_
          show Steps p.tables e below (T68.setTop (mkF m 108 #[.val (.int p1), .val (.int p2), .val (.int p3), .val .null, .val (.ref bb36), .val .null, .val (.int (1 : Int32)), .val (.ref bb55), .val (.ref b58), .val (.int (1 : Int32)), .val (.int (1 : Int32)), .unset] [(.int (1 : Int32))])) _
          refine XS.goto X68.here hx rfl (pc0 := 108) (pc' := 112) rfl (hb hby at_108) (by decide) (by decide) ?_
          show Steps p.tables e below (T68.setTop (mkF m 112 #[.val (.int p1), .val (.int p2), .val (.int p3), .val .null, .val (.ref bb36), .val .null, .val (.int (1 : Int32)), .val (.ref bb55), .val (.ref b58), .val (.int (1 : Int32)), .val (.int (1 : Int32)), .unset] [(.int (1 : Int32))])) _
          refine XS.istore X68.here hx rfl (hb hby at_112) rfl (l' := #[.val (.int p1), .val (.int p2), .val (.int p3), .val .null, .val (.ref bb36), .val .null, .val (.int (1 : Int32)), .val (.ref bb55), .val (.ref b58), .val (.int (1 : Int32)), .val (.int (1 : Int32)), .val (.int (1 : Int32))]) rfl ?_
          show Steps p.tables e below (T68.setTop (mkF m 114 #[.val (.int p1), .val (.int p2), .val (.int p3), .val .null, .val (.ref bb36), .val .null, .val (.int (1 : Int32)), .val (.ref bb55), .val (.ref b58), .val (.int (1 : Int32)), .val (.int (1 : Int32)), .val (.int (1 : Int32))] [])) _
          refine XS.iload X68.here hx rfl (hb hby at_114) rfl ?_
          show Steps p.tables e below (T68.setTop (mkF m 116 #[.val (.int p1), .val (.int p2), .val (.int p3), .val .null, .val (.ref bb36), .val .null, .val (.int (1 : Int32)), .val (.ref bb55), .val (.ref b58), .val (.int (1 : Int32)), .val (.int (1 : Int32)), .val (.int (1 : Int32))] [(.int (1 : Int32))])) _
          refine XS.ifNo X68.here hx rfl (hb hby at_116) rfl ((if0 _ _).trans (feq (by decide : ¬ ((1 : Int32) = (0 : Int32)))).1) ?_
          show Steps p.tables e below (T68.setTop (mkF m 119 #[.val (.int p1), .val (.int p2), .val (.int p3), .val .null, .val (.ref bb36), .val .null, .val (.int (1 : Int32)), .val (.ref bb55), .val (.ref b58), .val (.int (1 : Int32)), .val (.int (1 : Int32)), .val (.int (1 : Int32))] [])) _
          refine XS.iload X68.here hx rfl (hb hby at_119) rfl ?_
          show Steps p.tables e below (T68.setTop (mkF m 121 #[.val (.int p1), .val (.int p2), .val (.int p3), .val .null, .val (.ref bb36), .val .null, .val (.int (1 : Int32)), .val (.ref bb55), .val (.ref b58), .val (.int (1 : Int32)), .val (.int (1 : Int32)), .val (.int (1 : Int32))] [(.int (1 : Int32))])) _
          refine XS.ifNo X68.here hx rfl (hb hby at_121) rfl ((if0 _ _).trans (feq (by decide : ¬ ((1 : Int32) = (0 : Int32)))).1) ?_
          show Steps p.tables e below (T68.setTop (mkF m 124 #[.val (.int p1), .val (.int p2), .val (.int p3), .val .null, .val (.ref bb36), .val .null, .val (.int (1 : Int32)), .val (.ref bb55), .val (.ref b58), .val (.int (1 : Int32)), .val (.int (1 : Int32)), .val (.int (1 : Int32))] [])) _
          refine XS.iload X68.here hx rfl (hb hby at_124) rfl ?_
          show Steps p.tables e below (T68.setTop (mkF m 126 #[.val (.int p1), .val (.int p2), .val (.int p3), .val .null, .val (.ref bb36), .val .null, .val (.int (1 : Int32)), .val (.ref bb55), .val (.ref b58), .val (.int (1 : Int32)), .val (.int (1 : Int32)), .val (.int (1 : Int32))] [(.int (1 : Int32))])) _
          refine XS.ifNo X68.here hx rfl (hb hby at_126) rfl ((if0 _ _).trans (feq (by decide : ¬ ((1 : Int32) = (0 : Int32)))).1) ?_
          show Steps p.tables e below (T68.setTop (mkF m 129 #[.val (.int p1), .val (.int p2), .val (.int p3), .val .null, .val (.ref bb36), .val .null, .val (.int (1 : Int32)), .val (.ref bb55), .val (.ref b58), .val (.int (1 : Int32)), .val (.int (1 : Int32)), .val (.int (1 : Int32))] [])) _
          refine XS.iconst X68.here hx rfl (hb hby at_129) ?_
          show Steps p.tables e below (T68.setTop (mkF m 130 #[.val (.int p1), .val (.int p2), .val (.int p3), .val .null, .val (.ref bb36), .val .null, .val (.int (1 : Int32)), .val (.ref bb55), .val (.ref b58), .val (.int (1 : Int32)), .val (.int (1 : Int32)), .val (.int (1 : Int32))] [(.int (1 : Int32))])) _
          refine XS.goto X68.here hx rfl (pc0 := 130) (pc' := 134) rfl (hb hby at_130) (by decide) (by decide) ?_
          show Steps p.tables e below (T68.setTop (mkF m 134 #[.val (.int p1), .val (.int p2), .val (.int p3), .val .null, .val (.ref bb36), .val .null, .val (.int (1 : Int32)), .val (.ref bb55), .val (.ref b58), .val (.int (1 : Int32)), .val (.int (1 : Int32)), .val (.int (1 : Int32))] [(.int (1 : Int32))])) _
          exact retN X68 hx (t := .boolean) Bd.returns (by simp) (hb hby at_134) hr
        · show Q_rm0 Z p1 p2 p3 cs c_ALERT c_OFF c_MAX_COPIES c_NO_DESTINATION h0 n0 _ T68.heap _
          rw [e68]
          exact ⟨rfl, N68⟩
  · obtain ⟨_, _, ⟨T69, L69, k69, n69⟩, -, X69', hS69', hge69, ⟨Lc69, hQ69, l69, y69, z69, hC69⟩, st69⟩ := callSS X0 hx (y := (⟨"com/example/poolwright/poolwright/CopyStartsPinLaw", "draw", "(III)Ljava/lang/String;"⟩ : MethodName)) hown (mvT hZ (hw _ (List.mem_of_getElem? (i := 0) rfl))) (mvT hZ (hw _ (List.mem_of_getElem? (i := 1) rfl))) (mvT hZ (hw _ (List.mem_of_getElem? (i := 2) rfl))) (mvT hZ (hw _ (List.mem_of_getElem? (i := 3) rfl))) (by decide) (backOfSH (s := s) (vm0 := s.vm) (W := 0) (rm_d1 l Z a0 hw [] ((p3.toUInt32 >>> ((2 : Int32) &&& 31).toUInt32).toInt32) p2 p1 cs h0 n0 Z0 hEL S_CS hcs hd5) hZ (hw _ (List.mem_of_getElem? (i := 3) rfl)) (hw _ (List.mem_of_getElem? (i := 2) rfl)) (by decide) (by decide) hEL C0.1) (g := (mkF m 5 #[.val (.int p1), .val (.int p2), .val (.int p3), .unset, .unset, .unset, .unset, .unset, .unset, .unset, .unset, .unset] [(.int p1), (.int p2), (.int ((p3.toUInt32 >>> ((2 : Int32) &&& 31).toUInt32).toInt32))])) rfl (by rw [hml]; rfl) (argsL := [(.int ((p3.toUInt32 >>> ((2 : Int32) &&& 31).toUInt32).toInt32)), (.int p2), (.int p1)]) (rest := []) (lenOf pd__III_Ljava_lang_String__1996 rfl) rfl (by show 2 * 0 + _ ≤ _; exact Nat.le_of_eq rfl) (hb hby at_5) (fun _ _ => ⟨rfl, e0, (by decide : 0 + 6 ≤ _), (by decide : 0 + 12 ≤ _)⟩)
    dsimp only [Pt.U, Pt.locs, Pt.cells, Pt.slots] at X69' hS69' hge69 l69 y69 z69 st69 hQ69 hC69
    subst l69 y69 z69
    have hS69 : s.Since T69.vm T69.heap.size := hS69'
    have hZ : Z.Warmed39 (s.setVm T69.vm).vm := State.Warmed39.trans (t := s) hZ hS69'.1
    have hown : (s.setVm T69.vm).vm.findClass "com/example/poolwright/poolwright/CopyStartsPinLaw" = some m.cls := by rw [show (s.setVm T69.vm).vm = T69.vm from rfl, hS69'.1.alike.findClass]; exact hown
    have X69 := rebase (vm := T69.vm) X69'
    have C70 : CHr Z own_EL s.vm h0 T69.vm T69.heap := C0.trans hC69
    obtain ⟨bb69, rfl, N69q, K69⟩ := hQ69
    have f98 : Sta Z T69.heap "com/example/poolwright/poolwright/Copy$Refusal" "ALERT" "Lcom/example/poolwright/poolwright/Copy$Refusal;" (.ref c_ALERT) := own_sta S_ALERT K69
    have f99 : Sta Z T69.heap "com/example/poolwright/poolwright/Copy$Refusal" "OFF" "Lcom/example/poolwright/poolwright/Copy$Refusal;" (.ref c_OFF) := own_sta S_OFF K69
    have f100 : Sta Z T69.heap "com/example/poolwright/poolwright/Copy$Refusal" "MAX_COPIES" "Lcom/example/poolwright/poolwright/Copy$Refusal;" (.ref c_MAX_COPIES) := own_sta S_MAX_COPIES K69
    have f101 : Sta Z T69.heap "com/example/poolwright/poolwright/Copy$Refusal" "NO_DESTINATION" "Lcom/example/poolwright/poolwright/Copy$Refusal;" (.ref c_NO_DESTINATION) := own_sta S_NO_DESTINATION K69
    have f102 : Sta Z T69.heap "java/lang/String" "COMPACT_STRINGS" "Z" (.int cs) := own_sta S_CS K69
    have Z69 : n0 ≤ T69.heap.size := Nat.le_trans Z0 K69.1
    have hk69 : T69.heap.size ≤ T69.heap.size := Nat.le_refl _
    have N69 := Fr.app N0 N69q
    have pre_71 : ∀ t, Steps p.tables e below (T69.setTop (mkF m 12 #[.val (.int p1), .val (.int p2), .val (.int p3), .val (.ref bb69), .unset, .unset, .unset, .unset, .unset, .unset, .unset, .unset] [(.int p2), (.int p1), (.int p3)])) t → Steps p.tables e below (s₁.setTop (entryFrame m #[(.int p1), (.int p2), (.int p3)] maxLocals)) t := by
      intro t kt
      refine pre_1 _ ?_
      show Steps p.tables e below (s₁.setTop (mkF m 5 #[.val (.int p1), .val (.int p2), .val (.int p3), .unset, .unset, .unset, .unset, .unset, .unset, .unset, .unset, .unset] [(.int p1), (.int p2), (.int ((p3.toUInt32 >>> ((2 : Int32) &&& 31).toUInt32).toInt32))])) _
      refine st69.trans ?_
      show Steps p.tables e below (T69.setTop (mkF m 8 #[.val (.int p1), .val (.int p2), .val (.int p3), .unset, .unset, .unset, .unset, .unset, .unset, .unset, .unset, .unset] [(.ref bb69)])) _
      refine XS.astoreN X69.here hx rfl (hb hby at_8) rfl rfl (l' := #[.val (.int p1), .val (.int p2), .val (.int p3), .val (.ref bb69), .unset, .unset, .unset, .unset, .unset, .unset, .unset, .unset]) rfl ?_
      show Steps p.tables e below (T69.setTop (mkF m 9 #[.val (.int p1), .val (.int p2), .val (.int p3), .val (.ref bb69), .unset, .unset, .unset, .unset, .unset, .unset, .unset, .unset] [])) _
      refine XS.iloadN X69.here hx rfl (hb hby at_9) rfl ?_
      show Steps p.tables e below (T69.setTop (mkF m 10 #[.val (.int p1), .val (.int p2), .val (.int p3), .val (.ref bb69), .unset, .unset, .unset, .unset, .unset, .unset, .unset, .unset] [(.int p3)])) _
      refine XS.iloadN X69.here hx rfl (hb hby at_10) rfl ?_
      show Steps p.tables e below (T69.setTop (mkF m 11 #[.val (.int p1), .val (.int p2), .val (.int p3), .val (.ref bb69), .unset, .unset, .unset, .unset, .unset, .unset, .unset, .unset] [(.int p1), (.int p3)])) _
      refine XS.iloadN X69.here hx rfl (hb hby at_11) rfl ?_
      exact kt
    by_cases hd12 : (p3 &&& (3 : Int32)) = 0
    · obtain ⟨_, _, ⟨T72, L72, k72, n72⟩, -, X72, ⟨Lc72, hQ72, l72, y72, z72⟩, st72⟩ := Jvm.LawKit.callS X69 hx (y := (⟨"com/example/poolwright/poolwright/CopyStartsPinLaw", "draw", "(III)Ljava/lang/String;"⟩ : MethodName)) hown (mvT hZ (hw _ (List.mem_of_getElem? (i := 0) rfl))) (mvT hZ (hw _ (List.mem_of_getElem? (i := 1) rfl))) (mvT hZ (hw _ (List.mem_of_getElem? (i := 2) rfl))) (mvT hZ (hw _ (List.mem_of_getElem? (i := 3) rfl))) (by decide) (backOf (W := 0) (rm_d0 l Z a0 hw [] p3 p1 p2 T69.heap n0 Z69 hd12) hZ (hw _ (List.mem_of_getElem? (i := 3) rfl)) (hw _ (List.mem_of_getElem? (i := 2) rfl)) (by decide) (by decide)) (g := (mkF m 12 #[.val (.int p1), .val (.int p2), .val (.int p3), .val (.ref bb69), .unset, .unset, .unset, .unset, .unset, .unset, .unset, .unset] [(.int p2), (.int p1), (.int p3)])) rfl (by rw [hml]; rfl) (argsL := [(.int p3), (.int p1), (.int p2)]) (rest := []) (lenOf pd__III_Ljava_lang_String__1996 rfl) rfl (by show 2 * 0 + _ ≤ _; exact Nat.le_of_eq rfl) (hb hby at_12) (fun _ _ => ⟨rfl, rfl, (by decide : 6 + 0 ≤ _), (by decide : 12 + 0 ≤ _)⟩)
      dsimp only [Pt.U, Pt.locs, Pt.cells, Pt.slots] at X72 l72 y72 z72 st72 hQ72
      subst l72 y72 z72
      obtain ⟨rfl, N72q, e72⟩ := hQ72
      have N72 := Fr.app N69 N72q
      have pre_73 : ∀ t, Steps p.tables e below (T72.setTop (mkF m 20 #[.val (.int p1), .val (.int p2), .val (.int p3), .val (.ref bb69), .val .null, .unset, .unset, .unset, .unset, .unset, .unset, .unset] [(.int ((p3.toUInt32 >>> ((4 : Int32) &&& 31).toUInt32).toInt32))])) t → Steps p.tables e below (s₁.setTop (entryFrame m #[(.int p1), (.int p2), (.int p3)] maxLocals)) t := by
        intro t kt
        refine pre_71 _ ?_
        show Steps p.tables e below (T69.setTop (mkF m 12 #[.val (.int p1), .val (.int p2), .val (.int p3), .val (.ref bb69), .unset, .unset, .unset, .unset, .unset, .unset, .unset, .unset] [(.int p2), (.int p1), (.int p3)])) _
        refine st72 _ ?_
        show Steps p.tables e below (T72.setTop (mkF m 15 #[.val (.int p1), .val (.int p2), .val (.int p3), .val (.ref bb69), .unset, .unset, .unset, .unset, .unset, .unset, .unset, .unset] [.null])) _
        refine XS.astore X72.here hx rfl (hb hby at_15) rfl rfl (l' := #[.val (.int p1), .val (.int p2), .val (.int p3), .val (.ref bb69), .val .null, .unset, .unset, .unset, .unset, .unset, .unset, .unset]) rfl ?_
        show Steps p.tables e below (T72.setTop (mkF m 17 #[.val (.int p1), .val (.int p2), .val (.int p3), .val (.ref bb69), .val .null, .unset, .unset, .unset, .unset, .unset, .unset, .unset] [])) _
        refine XS.iloadN X72.here hx rfl (hb hby at_17) rfl ?_
        show Steps p.tables e below (T72.setTop (mkF m 18 #[.val (.int p1), .val (.int p2), .val (.int p3), .val (.ref bb69), .val .null, .unset, .unset, .unset, .unset, .unset, .unset, .unset] [(.int p3)])) _
        refine XS.iconst X72.here hx rfl (hb hby at_18) ?_
        show Steps p.tables e below (T72.setTop (mkF m 19 #[.val (.int p1), .val (.int p2), .val (.int p3), .val (.ref bb69), .val .null, .unset, .unset, .unset, .unset, .unset, .unset, .unset] [(.int (4 : Int32)), (.int p3)])) _
        refine XS.iushr X72.here hx rfl (hb hby at_19) rfl ?_
        exact kt
      by_cases hd20 : ((((p3.toUInt32 >>> ((4 : Int32) &&& 31).toUInt32).toInt32) &&& (7 : Int32)) = (0 : Int32) ∨ (((p3.toUInt32 >>> ((4 : Int32) &&& 31).toUInt32).toInt32) &&& (7 : Int32)) = (1 : Int32) ∨ (((p3.toUInt32 >>> ((4 : Int32) &&& 31).toUInt32).toInt32) &&& (7 : Int32)) = (2 : Int32) ∨ (((p3.toUInt32 >>> ((4 : Int32) &&& 31).toUInt32).toInt32) &&& (7 : Int32)) = (3 : Int32))
      · obtain ⟨_, _, ⟨T74, L74, k74, n74⟩, -, X74, ⟨Lc74, hQ74, l74, y74, z74⟩, st74⟩ := Jvm.LawKit.callS X72 hx (y := (⟨"com/example/poolwright/poolwright/CopyStartsPinLaw", "pick", "(I)Lcom/example/poolwright/poolwright/Copy$Refusal;"⟩ : MethodName)) hown (mvT hZ (hw _ (List.mem_of_getElem? (i := 34) rfl))) (mvT hZ (hw _ (List.mem_of_getElem? (i := 35) rfl))) (mvT hZ (hw _ (List.mem_of_getElem? (i := 2) rfl))) (mvT hZ (hw _ (List.mem_of_getElem? (i := 36) rfl))) (by decide) (backOf (W := 0) (rm_p1 l Z a0 hw [] ((p3.toUInt32 >>> ((4 : Int32) &&& 31).toUInt32).toInt32) c_ALERT c_OFF c_MAX_COPIES c_NO_DESTINATION T69.heap n0 Z69 f98 f99 f100 f101 hd20) hZ (hw _ (List.mem_of_getElem? (i := 36) rfl)) (hw _ (List.mem_of_getElem? (i := 2) rfl)) (by decide) (by decide)) (g := (mkF m 20 #[.val (.int p1), .val (.int p2), .val (.int p3), .val (.ref bb69), .val .null, .unset, .unset, .unset, .unset, .unset, .unset, .unset] [(.int ((p3.toUInt32 >>> ((4 : Int32) &&& 31).toUInt32).toInt32))])) rfl (by rw [hml]; rfl) (argsL := [(.int ((p3.toUInt32 >>> ((4 : Int32) &&& 31).toUInt32).toInt32))]) (rest := []) (lenOf pd__I_Lcom_example_poolwright_poolwright_Copy_Refusal__4919 rfl) rfl (by show 2 * 0 + _ ≤ _; exact Nat.le_of_eq rfl) (hb hby at_20) (fun _ _ => ⟨rfl, e72, (by decide : 6 + 0 ≤ _), (by decide : 12 + 0 ≤ _)⟩)
        dsimp only [Pt.U, Pt.locs, Pt.cells, Pt.slots] at X74 l74 y74 z74 st74 hQ74
        subst l74 y74 z74
        obtain ⟨rr74, rfl, N74q, e74⟩ := hQ74
        have N74 := Fr.app N72 N74q
        have pre_76 : ∀ t, Steps p.tables e below (T74.setTop (mkF m 48 #[.val (.int p1), .val (.int p2), .val (.int p3), .val (.ref bb69), .val .null, .val (.ref rr74), .val (.int (0 : Int32)), .unset, .unset, .unset, .unset, .unset] [(.int p2), (.int p1), (.int ((2 : Int32) + (((p3.toUInt32 >>> ((7 : Int32) &&& 31).toUInt32).toInt32) &&& (1 : Int32))))])) t → Steps p.tables e below (s₁.setTop (entryFrame m #[(.int p1), (.int p2), (.int p3)] maxLocals)) t := by
          intro t kt
          refine pre_73 _ ?_
          show Steps p.tables e below (T72.setTop (mkF m 20 #[.val (.int p1), .val (.int p2), .val (.int p3), .val (.ref bb69), .val .null, .unset, .unset, .unset, .unset, .unset, .unset, .unset] [(.int ((p3.toUInt32 >>> ((4 : Int32) &&& 31).toUInt32).toInt32))])) _
          refine st74 _ ?_
          show Steps p.tables e below (T74.setTop (mkF m 23 #[.val (.int p1), .val (.int p2), .val (.int p3), .val (.ref bb69), .val .null, .unset, .unset, .unset, .unset, .unset, .unset, .unset] [(.ref rr74)])) _
          refine XS.astore X74.here hx rfl (hb hby at_23) rfl rfl (l' := #[.val (.int p1), .val (.int p2), .val (.int p3), .val (.ref bb69), .val .null, .val (.ref rr74), .unset, .unset, .unset, .unset, .unset, .unset]) rfl ?_
          show Steps p.tables e below (T74.setTop (mkF m 25 #[.val (.int p1), .val (.int p2), .val (.int p3), .val (.ref bb69), .val .null, .val (.ref rr74), .unset, .unset, .unset, .unset, .unset, .unset] [])) _
          refine XS.iloadN X74.here hx rfl (hb hby at_25) rfl ?_
          show Steps p.tables e below (T74.setTop (mkF m 26 #[.val (.int p1), .val (.int p2), .val (.int p3), .val (.ref bb69), .val .null, .val (.ref rr74), .unset, .unset, .unset, .unset, .unset, .unset] [(.int p3)])) _
          refine XS.iconst X74.here hx rfl (hb hby at_26) ?_
          show Steps p.tables e below (T74.setTop (mkF m 27 #[.val (.int p1), .val (.int p2), .val (.int p3), .val (.ref bb69), .val .null, .val (.ref rr74), .unset, .unset, .unset, .unset, .unset, .unset] [(.int (3 : Int32)), (.int p3)])) _
          refine XS.iand X74.here hx rfl (hb hby at_27) rfl ?_
          show Steps p.tables e below (T74.setTop (mkF m 28 #[.val (.int p1), .val (.int p2), .val (.int p3), .val (.ref bb69), .val .null, .val (.ref rr74), .unset, .unset, .unset, .unset, .unset, .unset] [(.int (p3 &&& (3 : Int32)))])) _
          refine XS.ifYes X74.here hx rfl (pc0 := 28) (pc' := 35) rfl (hb hby at_28) rfl ((if0 _ _).trans (teq hd12).1) (by decide) (by decide) ?_
          show Steps p.tables e below (T74.setTop (mkF m 35 #[.val (.int p1), .val (.int p2), .val (.int p3), .val (.ref bb69), .val .null, .val (.ref rr74), .unset, .unset, .unset, .unset, .unset, .unset] [])) _
          refine XS.iconst X74.here hx rfl (hb hby at_35) ?_
          show Steps p.tables e below (T74.setTop (mkF m 36 #[.val (.int p1), .val (.int p2), .val (.int p3), .val (.ref bb69), .val .null, .val (.ref rr74), .unset, .unset, .unset, .unset, .unset, .unset] [(.int (0 : Int32))])) _
          refine XS.istore X74.here hx rfl (hb hby at_36) rfl (l' := #[.val (.int p1), .val (.int p2), .val (.int p3), .val (.ref bb69), .val .null, .val (.ref rr74), .val (.int (0 : Int32)), .unset, .unset, .unset, .unset, .unset]) rfl ?_
          show Steps p.tables e below (T74.setTop (mkF m 38 #[.val (.int p1), .val (.int p2), .val (.int p3), .val (.ref bb69), .val .null, .val (.ref rr74), .val (.int (0 : Int32)), .unset, .unset, .unset, .unset, .unset] [])) _
          refine XS.iconst X74.here hx rfl (hb hby at_38) ?_
          show Steps p.tables e below (T74.setTop (mkF m 39 #[.val (.int p1), .val (.int p2), .val (.int p3), .val (.ref bb69), .val .null, .val (.ref rr74), .val (.int (0 : Int32)), .unset, .unset, .unset, .unset, .unset] [(.int (2 : Int32))])) _
          refine XS.iloadN X74.here hx rfl (hb hby at_39) rfl ?_
          show Steps p.tables e below (T74.setTop (mkF m 40 #[.val (.int p1), .val (.int p2), .val (.int p3), .val (.ref bb69), .val .null, .val (.ref rr74), .val (.int (0 : Int32)), .unset, .unset, .unset, .unset, .unset] [(.int p3), (.int (2 : Int32))])) _
          refine XS.bipush X74.here hx rfl (hb hby at_40) ?_
          show Steps p.tables e below (T74.setTop (mkF m 42 #[.val (.int p1), .val (.int p2), .val (.int p3), .val (.ref bb69), .val .null, .val (.ref rr74), .val (.int (0 : Int32)), .unset, .unset, .unset, .unset, .unset] [(.int (7 : Int32)), (.int p3), (.int (2 : Int32))])) _
          refine XS.iushr X74.here hx rfl (hb hby at_42) rfl ?_
          show Steps p.tables e below (T74.setTop (mkF m 43 #[.val (.int p1), .val (.int p2), .val (.int p3), .val (.ref bb69), .val .null, .val (.ref rr74), .val (.int (0 : Int32)), .unset, .unset, .unset, .unset, .unset] [(.int ((p3.toUInt32 >>> ((7 : Int32) &&& 31).toUInt32).toInt32)), (.int (2 : Int32))])) _
          refine XS.iconst X74.here hx rfl (hb hby at_43) ?_
          show Steps p.tables e below (T74.setTop (mkF m 44 #[.val (.int p1), .val (.int p2), .val (.int p3), .val (.ref bb69), .val .null, .val (.ref rr74), .val (.int (0 : Int32)), .unset, .unset, .unset, .unset, .unset] [(.int (1 : Int32)), (.int ((p3.toUInt32 >>> ((7 : Int32) &&& 31).toUInt32).toInt32)), (.int (2 : Int32))])) _
          refine XS.iand X74.here hx rfl (hb hby at_44) rfl ?_
          show Steps p.tables e below (T74.setTop (mkF m 45 #[.val (.int p1), .val (.int p2), .val (.int p3), .val (.ref bb69), .val .null, .val (.ref rr74), .val (.int (0 : Int32)), .unset, .unset, .unset, .unset, .unset] [(.int (((p3.toUInt32 >>> ((7 : Int32) &&& 31).toUInt32).toInt32) &&& (1 : Int32))), (.int (2 : Int32))])) _
          refine XS.iadd X74.here hx rfl (hb hby at_45) rfl ?_
          show Steps p.tables e below (T74.setTop (mkF m 46 #[.val (.int p1), .val (.int p2), .val (.int p3), .val (.ref bb69), .val .null, .val (.ref rr74), .val (.int (0 : Int32)), .unset, .unset, .unset, .unset, .unset] [(.int ((2 : Int32) + (((p3.toUInt32 >>> ((7 : Int32) &&& 31).toUInt32).toInt32) &&& (1 : Int32))))])) _
          refine XS.iloadN X74.here hx rfl (hb hby at_46) rfl ?_
          show Steps p.tables e below (T74.setTop (mkF m 47 #[.val (.int p1), .val (.int p2), .val (.int p3), .val (.ref bb69), .val .null, .val (.ref rr74), .val (.int (0 : Int32)), .unset, .unset, .unset, .unset, .unset] [(.int p1), (.int ((2 : Int32) + (((p3.toUInt32 >>> ((7 : Int32) &&& 31).toUInt32).toInt32) &&& (1 : Int32))))])) _
          refine XS.iloadN X74.here hx rfl (hb hby at_47) rfl ?_
          exact kt
        obtain ⟨_, _, ⟨T75, L75, k75, n75⟩, -, X75', hS75', hge75, ⟨Lc75, hQ75, l75, y75, z75, hC75⟩, st75⟩ := callSS X74 hx (y := (⟨"com/example/poolwright/poolwright/CopyStartsPinLaw", "draw", "(III)Ljava/lang/String;"⟩ : MethodName)) hown (mvT hZ (hw _ (List.mem_of_getElem? (i := 0) rfl))) (mvT hZ (hw _ (List.mem_of_getElem? (i := 1) rfl))) (mvT hZ (hw _ (List.mem_of_getElem? (i := 2) rfl))) (mvT hZ (hw _ (List.mem_of_getElem? (i := 3) rfl))) (by decide) (backOfSH (s := s) (vm0 := T69.vm) (W := 0) (rm_d1 l Z a0 hw [] ((2 : Int32) + (((p3.toUInt32 >>> ((7 : Int32) &&& 31).toUInt32).toInt32) &&& (1 : Int32))) p1 p2 cs T69.heap n0 Z69 hEL f102 hcs (own_m3 _)) hZ (hw _ (List.mem_of_getElem? (i := 3) rfl)) (hw _ (List.mem_of_getElem? (i := 2) rfl)) (by decide) (by decide) hEL C70.1) (g := (mkF m 48 #[.val (.int p1), .val (.int p2), .val (.int p3), .val (.ref bb69), .val .null, .val (.ref rr74), .val (.int (0 : Int32)), .unset, .unset, .unset, .unset, .unset] [(.int p2), (.int p1), (.int ((2 : Int32) + (((p3.toUInt32 >>> ((7 : Int32) &&& 31).toUInt32).toInt32) &&& (1 : Int32))))])) rfl (by rw [hml]; rfl) (argsL := [(.int ((2 : Int32) + (((p3.toUInt32 >>> ((7 : Int32) &&& 31).toUInt32).toInt32) &&& (1 : Int32)))), (.int p1), (.int p2)]) (rest := []) (lenOf pd__III_Ljava_lang_String__1996 rfl) rfl (by show 2 * 0 + _ ≤ _; exact Nat.le_of_eq rfl) (hb hby at_48) (fun _ _ => ⟨rfl, e74, (by decide : 6 + 6 ≤ _), (by decide : 12 + 12 ≤ _)⟩)
        dsimp only [Pt.U, Pt.locs, Pt.cells, Pt.slots] at X75' hS75' hge75 l75 y75 z75 st75 hQ75 hC75
        subst l75 y75 z75
        have hS75 : s.Since T75.vm T75.heap.size := foldS hS69 (by rw [e74]; exact hk69) hS75' hge75
        have hZ : Z.Warmed39 (s.setVm T75.vm).vm := State.Warmed39.trans (t := (s.setVm T69.vm)) hZ hS75'.1
        have hown : (s.setVm T75.vm).vm.findClass "com/example/poolwright/poolwright/CopyStartsPinLaw" = some m.cls := by rw [show (s.setVm T75.vm).vm = T75.vm from rfl, hS75'.1.alike.findClass]; exact hown
        have X75 := rebase (vm := T75.vm) X75'
        have C77 : CHr Z own_EL s.vm h0 T75.vm T75.heap := C70.trans hC75
        obtain ⟨bb75, rfl, N75q, K75⟩ := hQ75
        have f103 : Sta Z T75.heap "com/example/poolwright/poolwright/Copy$Refusal" "ALERT" "Lcom/example/poolwright/poolwright/Copy$Refusal;" (.ref c_ALERT) := own_sta f98 K75
        have f104 : Sta Z T75.heap "com/example/poolwright/poolwright/Copy$Refusal" "OFF" "Lcom/example/poolwright/poolwright/Copy$Refusal;" (.ref c_OFF) := own_sta f99 K75
        have f105 : Sta Z T75.heap "com/example/poolwright/poolwright/Copy$Refusal" "MAX_COPIES" "Lcom/example/poolwright/poolwright/Copy$Refusal;" (.ref c_MAX_COPIES) := own_sta f100 K75
        have f106 : Sta Z T75.heap "com/example/poolwright/poolwright/Copy$Refusal" "NO_DESTINATION" "Lcom/example/poolwright/poolwright/Copy$Refusal;" (.ref c_NO_DESTINATION) := own_sta f101 K75
        have f107 : Sta Z T75.heap "java/lang/String" "COMPACT_STRINGS" "Z" (.int cs) := own_sta f102 K75
        have Z75 : n0 ≤ T75.heap.size := Nat.le_trans Z69 K75.1
        have hk75 : T75.heap.size ≤ T75.heap.size := Nat.le_refl _
        have N75 := Fr.app N74 N75q
        obtain ⟨T78, h78, X78, e78, E78, A78, D78, -, st78⟩ := newO X75 hx hZ hown (hw _ (List.mem_of_getElem? (i := 40) rfl)) (hw _ (List.mem_of_getElem? (i := 41) rfl)) (hw _ (List.mem_of_getElem? (i := 42) rfl)) rfl (g := (mkF m 53 #[.val (.int p1), .val (.int p2), .val (.int p3), .val (.ref bb69), .val .null, .val (.ref rr74), .val (.int (0 : Int32)), .val (.ref bb75), .unset, .unset, .unset, .unset] [])) rfl (hb hby at_53) (by decide) (by decide)
        obtain ⟨b78, g78⟩ : ∃ z, z = T75.heap.size := ⟨_, rfl⟩
        rw [← g78] at A78 D78 st78
        have f108 : Sta Z h78 "com/example/poolwright/poolwright/Copy$Refusal" "ALERT" "Lcom/example/poolwright/poolwright/Copy$Refusal;" (.ref c_ALERT) := f103.ext E78
        have f109 : Sta Z h78 "com/example/poolwright/poolwright/Copy$Refusal" "OFF" "Lcom/example/poolwright/poolwright/Copy$Refusal;" (.ref c_OFF) := f104.ext E78
        have f110 : Sta Z h78 "com/example/poolwright/poolwright/Copy$Refusal" "MAX_COPIES" "Lcom/example/poolwright/poolwright/Copy$Refusal;" (.ref c_MAX_COPIES) := f105.ext E78
        have f111 : Sta Z h78 "com/example/poolwright/poolwright/Copy$Refusal" "NO_DESTINATION" "Lcom/example/poolwright/poolwright/Copy$Refusal;" (.ref c_NO_DESTINATION) := f106.ext E78
        have f112 : Sta Z h78 "java/lang/String" "COMPACT_STRINGS" "Z" (.int cs) := f107.ext E78
        have f113 : T75.heap.size ≤ h78.size := Nat.le_trans hk75 E78.1
        have C79 : CHr Z own_EL s.vm h0 T75.vm h78 := C77.trans (CHr.ext E78 C77.1)
        have sf79_b78 : Safe Z own_EL T75.vm h78 b78 := Safe.ext E78 C77.1 (Safe.new (Nat.le_of_eq g78.symm))
        have g_b78 : n0 ≤ b78 := Nat.le_trans Z75 (Nat.le_of_eq g78.symm)
        have Z78 : n0 ≤ h78.size := Nat.le_trans Z75 E78.1
        have F_source_b78 : Fld Z h78 b78 "com/example/poolwright/poolwright/Copy" "source" "Ljava/lang/String;" .null := D78 (Or.inr (hw _ (List.mem_of_getElem? (i := 53) rfl))) (ty := (.object "java/lang/String")) (by decide)
        have F_destination_b78 : Fld Z h78 b78 "com/example/poolwright/poolwright/Copy" "destination" "Ljava/lang/String;" .null := D78 (Or.inr (hw _ (List.mem_of_getElem? (i := 55) rfl))) (ty := (.object "java/lang/String")) (by decide)
        have F_refusal_b78 : Fld Z h78 b78 "com/example/poolwright/poolwright/Copy" "refusal" "Lcom/example/poolwright/poolwright/Copy$Refusal;" .null := D78 (Or.inr (hw _ (List.mem_of_getElem? (i := 57) rfl))) (ty := (.object "com/example/poolwright/poolwright/Copy$Refusal")) (by decide)
        obtain ⟨_, _, ⟨T80, L80, k80, n80⟩, -, X80, ⟨Lc80, hQ80, l80, y80, z80⟩, st80⟩ := X78.specialBack hx (y := (⟨"com/example/poolwright/poolwright/Copy", "<init>", "(Ljava/lang/String;Ljava/lang/String;Lcom/example/poolwright/poolwright/Copy$Refusal;)V"⟩ : MethodName)) rfl hown (mvT hZ (hw _ (List.mem_of_getElem? (i := 43) rfl))) (mvT hZ (hw _ (List.mem_of_getElem? (i := 44) rfl))) (mvT hZ (hw _ (List.mem_of_getElem? (i := 45) rfl))) (by decide) (backOf (W := 1) (rm_cirnr l Z a0 hw [] b78 bb69 rr74 h78 n0 Z78 F_source_b78 F_destination_b78 F_refusal_b78 A78 g_b78) hZ (hw _ (List.mem_of_getElem? (i := 45) rfl)) (hw _ (List.mem_of_getElem? (i := 42) rfl)) (by decide) (by decide)) (g := (mkF m 62 #[.val (.int p1), .val (.int p2), .val (.int p3), .val (.ref bb69), .val .null, .val (.ref rr74), .val (.int (0 : Int32)), .val (.ref bb75), .unset, .unset, .unset, .unset] [(.ref rr74), .null, (.ref bb69), (.ref b78), (.ref b78)])) rfl (by rw [hml]; rfl) (Steps.refl _) (a := b78) (argsL := [(.ref bb69), .null, (.ref rr74)]) (rest := [(.ref b78)]) (lenOf pd__Ljava_lang_String_Ljava_lang_String_Lcom_example_poolwright_8324 rfl) rfl (by show 2 * 0 + _ ≤ _; exact Nat.le_of_eq rfl) (hb hby at_62) (fun _ _ => ⟨rfl, e78, (by decide : 13 + 0 ≤ _), (by decide : 27 + 0 ≤ _)⟩)
        dsimp only [Pt.U, Pt.locs, Pt.cells, Pt.slots] at X80 l80 y80 z80 st80 hQ80
        subst l80 y80 z80
        obtain ⟨rfl, N80q, K80, fk80_0, fk80_1⟩ := hQ80
        have f114 : T75.heap.size ≤ T80.heap.size := Nat.le_trans f113 K80.1
        have f115 : n0 ≤ b78 := g_b78
        have C81 : CHr Z own_EL s.vm h0 T75.vm T80.heap := C79.trans (CHr.keep K80 (sfS sf79_b78 sf0) C79.1)
        have sf81_b78 : Safe Z own_EL T75.vm T80.heap b78 := Safe.keep K80 (sfS sf79_b78 sf0) C79.1 sf79_b78
        have Z80 : n0 ≤ T80.heap.size := Nat.le_trans Z78 K80.1
        have N80 := Fr.app N75 N80q
        obtain ⟨cq82, kq82, q82a, q82b, q82c⟩ := isOf hZ rfl fk80_0
        obtain ⟨_, _, ⟨T82, L82, k82, n82⟩, -, X82, ⟨Lc82, hQ82, l82, y82, z82⟩, st82⟩ := X80.virtualBack hx (y := (⟨"com/example/poolwright/poolwright/Copy", "starts", "()Z"⟩ : MethodName)) (z := (⟨"com/example/poolwright/poolwright/Copy", "starts", "()Z"⟩ : MethodName)) hown (mvT hZ (hw _ (List.mem_of_getElem? (i := 58) rfl))) (mvT hZ (hw _ (List.mem_of_getElem? (i := 59) rfl))) (notFace_of_selects (args := #[]) (mvT hZ (hw _ (List.mem_of_getElem? (i := 61) rfl)))) (mvT hZ (hw _ (List.mem_of_getElem? (i := 61) rfl))) (mvT hZ (hw _ (List.mem_of_getElem? (i := 60) rfl))) (by decide) (backOf (W := 0) (rm_stn l Z a0 hw [] b78 T80.heap n0 Z80 fk80_1) hZ (hw _ (List.mem_of_getElem? (i := 62) rfl)) (hw _ (List.mem_of_getElem? (i := 42) rfl)) (by decide) (by decide)) q82a q82c (g := (mkF m 69 #[.val (.int p1), .val (.int p2), .val (.int p3), .val (.ref bb69), .val .null, .val (.ref rr74), .val (.int (0 : Int32)), .val (.ref bb75), .val (.ref b78), .unset, .unset, .unset] [(.ref b78)])) rfl (by rw [hml]; rfl) (Steps.refl _) (argsL := []) (rest := []) (lenOf pd___Z_171 rfl) rfl (by show 2 * 0 + _ ≤ _; exact Nat.le_of_eq rfl) (hb hby at_69) (fun _ _ => ⟨rfl, rfl, (by decide : 13 + 0 ≤ _), (by decide : 27 + 0 ≤ _)⟩)
        dsimp only [Pt.U, Pt.locs, Pt.cells, Pt.slots] at X82 l82 y82 z82 st82 hQ82
        subst l82 y82 z82
        obtain ⟨rfl, N82q, e82⟩ := hQ82
        have N82 := Fr.app N80 N82q
        obtain ⟨_, _, ⟨T83, L83, k83, n83⟩, -, X83, ⟨Lc83, hQ83, l83, y83, z83⟩, st83⟩ := Jvm.LawKit.callS X82 hx (y := (⟨"com/example/poolwright/poolwright/Copy", "started", "(Ljava/lang/String;Ljava/lang/String;)Lcom/example/poolwright/poolwright/Copy;"⟩ : MethodName)) hown (mvT hZ (hw _ (List.mem_of_getElem? (i := 63) rfl))) (mvT hZ (hw _ (List.mem_of_getElem? (i := 64) rfl))) (mvT hZ (hw _ (List.mem_of_getElem? (i := 42) rfl))) (mvT hZ (hw _ (List.mem_of_getElem? (i := 65) rfl))) (by decide) (backOf (W := 0) (rm_sdr l Z a0 hw [] bb69 bb75 T80.heap n0 Z80 ) hZ (hw _ (List.mem_of_getElem? (i := 65) rfl)) (hw _ (List.mem_of_getElem? (i := 42) rfl)) (by decide) (by decide)) (g := (mkF m 87 #[.val (.int p1), .val (.int p2), .val (.int p3), .val (.ref bb69), .val .null, .val (.ref rr74), .val (.int (0 : Int32)), .val (.ref bb75), .val (.ref b78), .val (.int (1 : Int32)), .unset, .unset] [(.ref bb75), (.ref bb69)])) rfl (by rw [hml]; rfl) (argsL := [(.ref bb69), (.ref bb75)]) (rest := []) (lenOf pd__Ljava_lang_String_Ljava_lang_String__Lcom_example_poolwrigh_7480 rfl) rfl (by show 2 * 0 + _ ≤ _; exact Nat.le_of_eq rfl) (hb hby at_87) (fun _ _ => ⟨rfl, e82, (by decide : 13 + 1 ≤ _), (by decide : 27 + 3 ≤ _)⟩)
        dsimp only [Pt.U, Pt.locs, Pt.cells, Pt.slots] at X83 l83 y83 z83 st83 hQ83
        subst l83 y83 z83
        obtain ⟨fb83, rfl, N83q, K83, fk83_0, fk83_1⟩ := hQ83
        have f116 : T75.heap.size ≤ T83.heap.size := Nat.le_trans f114 K83.1
        have f117 : n0 ≤ b78 := f115
        have f118 : Exa Z T83.heap b78 "com/example/poolwright/poolwright/Copy" := fk80_0.keep K83
        have f119 : Fld Z T83.heap b78 "com/example/poolwright/poolwright/Copy" "destination" "Ljava/lang/String;" .null := fk80_1.keep K83 (by simp)
        have C84 : CHr Z own_EL s.vm h0 T75.vm T83.heap := C81.trans (CHr.keep K83 sf0 C81.1)
        have sf84_b78 : Safe Z own_EL T75.vm T83.heap b78 := Safe.keep K83 sf0 C81.1 sf81_b78
        have Z83 : n0 ≤ T83.heap.size := Nat.le_trans Z80 K83.1
        have N83 := Fr.app N82 N83q
        obtain ⟨cq85, kq85, q85a, q85b, q85c⟩ := isOf hZ rfl fk83_0
        obtain ⟨_, _, ⟨T85, L85, k85, n85⟩, -, X85, ⟨Lc85, hQ85, l85, y85, z85⟩, st85⟩ := X83.virtualBack hx (y := (⟨"com/example/poolwright/poolwright/Copy", "starts", "()Z"⟩ : MethodName)) (z := (⟨"com/example/poolwright/poolwright/Copy", "starts", "()Z"⟩ : MethodName)) hown (mvT hZ (hw _ (List.mem_of_getElem? (i := 58) rfl))) (mvT hZ (hw _ (List.mem_of_getElem? (i := 59) rfl))) (notFace_of_selects (args := #[]) (mvT hZ (hw _ (List.mem_of_getElem? (i := 61) rfl)))) (mvT hZ (hw _ (List.mem_of_getElem? (i := 61) rfl))) (mvT hZ (hw _ (List.mem_of_getElem? (i := 60) rfl))) (by decide) (backOf (W := 0) (rm_str l Z a0 hw [] fb83 bb75 T83.heap n0 Z83 fk83_1) hZ (hw _ (List.mem_of_getElem? (i := 62) rfl)) (hw _ (List.mem_of_getElem? (i := 42) rfl)) (by decide) (by decide)) q85a q85c (g := (mkF m 90 #[.val (.int p1), .val (.int p2), .val (.int p3), .val (.ref bb69), .val .null, .val (.ref rr74), .val (.int (0 : Int32)), .val (.ref bb75), .val (.ref b78), .val (.int (1 : Int32)), .unset, .unset] [(.ref fb83)])) rfl (by rw [hml]; rfl) (Steps.refl _) (argsL := []) (rest := []) (lenOf pd___Z_171 rfl) rfl (by show 2 * 0 + _ ≤ _; exact Nat.le_of_eq rfl) (hb hby at_90) (fun _ _ => ⟨rfl, rfl, (by decide : 14 + 0 ≤ _), (by decide : 30 + 0 ≤ _)⟩)
        dsimp only [Pt.U, Pt.locs, Pt.cells, Pt.slots] at X85 l85 y85 z85 st85 hQ85
        subst l85 y85 z85
        obtain ⟨rfl, N85q, e85⟩ := hQ85
        have N85 := Fr.app N83 N85q
        obtain ⟨_, _, ⟨T86, L86, k86, n86⟩, -, X86, ⟨Lc86, hQ86, l86, y86, z86⟩, st86⟩ := Jvm.LawKit.callS X85 hx (y := (⟨"com/example/poolwright/poolwright/Copy", "refused", "(Ljava/lang/String;Lcom/example/poolwright/poolwright/Copy$Refusal;)Lcom/example/poolwright/poolwright/Copy;"⟩ : MethodName)) hown (mvT hZ (hw _ (List.mem_of_getElem? (i := 68) rfl))) (mvT hZ (hw _ (List.mem_of_getElem? (i := 69) rfl))) (mvT hZ (hw _ (List.mem_of_getElem? (i := 42) rfl))) (mvT hZ (hw _ (List.mem_of_getElem? (i := 70) rfl))) (by decide) (backOf (W := 0) (rm_rdrr l Z a0 hw [] bb69 rr74 T83.heap n0 Z83 ) hZ (hw _ (List.mem_of_getElem? (i := 70) rfl)) (hw _ (List.mem_of_getElem? (i := 42) rfl)) (by decide) (by decide)) (g := (mkF m 98 #[.val (.int p1), .val (.int p2), .val (.int p3), .val (.ref bb69), .val .null, .val (.ref rr74), .val (.int (0 : Int32)), .val (.ref bb75), .val (.ref b78), .val (.int (1 : Int32)), .val (.int (1 : Int32)), .unset] [(.ref rr74), (.ref bb69)])) rfl (by rw [hml]; rfl) (argsL := [(.ref bb69), (.ref rr74)]) (rest := []) (lenOf pd__Ljava_lang_String_Lcom_example_poolwright_poolwright_Copy_R_576 rfl) rfl (by show 2 * 0 + _ ≤ _; exact Nat.le_of_eq rfl) (hb hby at_98) (fun _ _ => ⟨rfl, e85, (by decide : 14 + 1 ≤ _), (by decide : 30 + 3 ≤ _)⟩)
        dsimp only [Pt.U, Pt.locs, Pt.cells, Pt.slots] at X86 l86 y86 z86 st86 hQ86
        subst l86 y86 z86
        obtain ⟨fb86, rfl, N86q, K86, fk86_0, fk86_1⟩ := hQ86
        have f120 : T75.heap.size ≤ T86.heap.size := Nat.le_trans f116 K86.1
        have f121 : n0 ≤ b78 := f117
        have f122 : Exa Z T86.heap b78 "com/example/poolwright/poolwright/Copy" := f118.keep K86
        have f123 : Fld Z T86.heap b78 "com/example/poolwright/poolwright/Copy" "destination" "Ljava/lang/String;" .null := f119.keep K86 (by simp)
        have f124 : Exa Z T86.heap fb83 "com/example/poolwright/poolwright/Copy" := fk83_0.keep K86
        have f125 : Fld Z T86.heap fb83 "com/example/poolwright/poolwright/Copy" "destination" "Ljava/lang/String;" (.ref bb75) := fk83_1.keep K86 (by simp)
        have C87 : CHr Z own_EL s.vm h0 T75.vm T86.heap := C84.trans (CHr.keep K86 sf0 C84.1)
        have sf87_b78 : Safe Z own_EL T75.vm T86.heap b78 := Safe.keep K86 sf0 C84.1 sf84_b78
        have Z86 : n0 ≤ T86.heap.size := Nat.le_trans Z83 K86.1
        have N86 := Fr.app N85 N86q
        obtain ⟨cq88, kq88, q88a, q88b, q88c⟩ := isOf hZ rfl fk86_0
        obtain ⟨_, _, ⟨T88, L88, k88, n88⟩, -, X88, ⟨Lc88, hQ88, l88, y88, z88⟩, st88⟩ := X86.virtualBack hx (y := (⟨"com/example/poolwright/poolwright/Copy", "starts", "()Z"⟩ : MethodName)) (z := (⟨"com/example/poolwright/poolwright/Copy", "starts", "()Z"⟩ : MethodName)) hown (mvT hZ (hw _ (List.mem_of_getElem? (i := 58) rfl))) (mvT hZ (hw _ (List.mem_of_getElem? (i := 59) rfl))) (notFace_of_selects (args := #[]) (mvT hZ (hw _ (List.mem_of_getElem? (i := 61) rfl)))) (mvT hZ (hw _ (List.mem_of_getElem? (i := 61) rfl))) (mvT hZ (hw _ (List.mem_of_getElem? (i := 60) rfl))) (by decide) (backOf (W := 0) (rm_stn l Z a0 hw [] fb86 T86.heap n0 Z86 fk86_1) hZ (hw _ (List.mem_of_getElem? (i := 62) rfl)) (hw _ (List.mem_of_getElem? (i := 42) rfl)) (by decide) (by decide)) q88a q88c (g := (mkF m 101 #[.val (.int p1), .val (.int p2), .val (.int p3), .val (.ref bb69), .val .null, .val (.ref rr74), .val (.int (0 : Int32)), .val (.ref bb75), .val (.ref b78), .val (.int (1 : Int32)), .val (.int (1 : Int32)), .unset] [(.ref fb86)])) rfl (by rw [hml]; rfl) (Steps.refl _) (argsL := []) (rest := []) (lenOf pd___Z_171 rfl) rfl (by show 2 * 0 + _ ≤ _; exact Nat.le_of_eq rfl) (hb hby at_101) (fun _ _ => ⟨rfl, rfl, (by decide : 15 + 0 ≤ _), (by decide : 33 + 0 ≤ _)⟩)
        dsimp only [Pt.U, Pt.locs, Pt.cells, Pt.slots] at X88 l88 y88 z88 st88 hQ88
        subst l88 y88 z88
        obtain ⟨rfl, N88q, e88⟩ := hQ88
        have N88 := Fr.app N86 N88q
        obtain ⟨fs, hr, hrun, hended, hRW⟩ := X88.leaveW (s := s) hS75 (by rw [e88]; exact f120) (v := some (.int (1 : Int32))) (fun h => by rw [Bd.returns] at h; cases h) (hlocks := Bd.notSynchronized)
        refine ⟨_, _, pre_76 _ ?_, hrun, hended, _, _, rfl, ?_, (by show CHr Z own_EL s.vm s.heap T88.vm T88.heap; rw [hh, e88]; exact C87.trans (CHv.at (s := s) (vm0 := T75.vm) X88 hZ hEL C87.1)), hRW.1, hRW.2.1, hRW.2.2.1, hRW.2.2.2.mono (by decide) (by decide)⟩
        · show Steps p.tables e below (T74.setTop (mkF m 48 #[.val (.int p1), .val (.int p2), .val (.int p3), .val (.ref bb69), .val .null, .val (.ref rr74), .val (.int (0 : Int32)), .unset, .unset, .unset, .unset, .unset] [(.int p2), (.int p1), (.int ((2 : Int32) + (((p3.toUInt32 >>> ((7 : Int32) &&& 31).toUInt32).toInt32) &&& (1 : Int32))))])) _
          refine st75.trans ?_
          show Steps p.tables e below (T75.setTop (mkF m 51 #[.val (.int p1), .val (.int p2), .val (.int p3), .val (.ref bb69), .val .null, .val (.ref rr74), .val (.int (0 : Int32)), .unset, .unset, .unset, .unset, .unset] [(.ref bb75)])) _
          refine XS.astore X75.here hx rfl (hb hby at_51) rfl rfl (l' := #[.val (.int p1), .val (.int p2), .val (.int p3), .val (.ref bb69), .val .null, .val (.ref rr74), .val (.int (0 : Int32)), .val (.ref bb75), .unset, .unset, .unset, .unset]) rfl ?_
          show Steps p.tables e below (T75.setTop (mkF m 53 #[.val (.int p1), .val (.int p2), .val (.int p3), .val (.ref bb69), .val .null, .val (.ref rr74), .val (.int (0 : Int32)), .val (.ref bb75), .unset, .unset, .unset, .unset] [])) _
          refine st78 _ ?_
          show Steps p.tables e below (T78.setTop (mkF m 56 #[.val (.int p1), .val (.int p2), .val (.int p3), .val (.ref bb69), .val .null, .val (.ref rr74), .val (.int (0 : Int32)), .val (.ref bb75), .unset, .unset, .unset, .unset] [(.ref b78)])) _
          refine XS.dup X78.here hx rfl (hb hby at_56) rfl rfl ?_
          show Steps p.tables e below (T78.setTop (mkF m 57 #[.val (.int p1), .val (.int p2), .val (.int p3), .val (.ref bb69), .val .null, .val (.ref rr74), .val (.int (0 : Int32)), .val (.ref bb75), .unset, .unset, .unset, .unset] [(.ref b78), (.ref b78)])) _
          refine XS.aloadN X78.here hx rfl (hb hby at_57) rfl rfl ?_
          show Steps p.tables e below (T78.setTop (mkF m 58 #[.val (.int p1), .val (.int p2), .val (.int p3), .val (.ref bb69), .val .null, .val (.ref rr74), .val (.int (0 : Int32)), .val (.ref bb75), .unset, .unset, .unset, .unset] [(.ref bb69), (.ref b78), (.ref b78)])) _
          refine XS.aload X78.here hx rfl (hb hby at_58) rfl rfl ?_
          show Steps p.tables e below (T78.setTop (mkF m 60 #[.val (.int p1), .val (.int p2), .val (.int p3), .val (.ref bb69), .val .null, .val (.ref rr74), .val (.int (0 : Int32)), .val (.ref bb75), .unset, .unset, .unset, .unset] [.null, (.ref bb69), (.ref b78), (.ref b78)])) _
          refine XS.aload X78.here hx rfl (hb hby at_60) rfl rfl ?_
          show Steps p.tables e below (T78.setTop (mkF m 62 #[.val (.int p1), .val (.int p2), .val (.int p3), .val (.ref bb69), .val .null, .val (.ref rr74), .val (.int (0 : Int32)), .val (.ref bb75), .unset, .unset, .unset, .unset] [(.ref rr74), .null, (.ref bb69), (.ref b78), (.ref b78)])) _
          refine st80.trans ?_
          show Steps p.tables e below (T80.setTop (mkF m 65 #[.val (.int p1), .val (.int p2), .val (.int p3), .val (.ref bb69), .val .null, .val (.ref rr74), .val (.int (0 : Int32)), .val (.ref bb75), .unset, .unset, .unset, .unset] [(.ref b78)])) _
          refine XS.astore X80.here hx rfl (hb hby at_65) rfl rfl (l' := #[.val (.int p1), .val (.int p2), .val (.int p3), .val (.ref bb69), .val .null, .val (.ref rr74), .val (.int (0 : Int32)), .val (.ref bb75), .val (.ref b78), .unset, .unset, .unset]) rfl ?_
          show Steps p.tables e below (T80.setTop (mkF m 67 #[.val (.int p1), .val (.int p2), .val (.int p3), .val (.ref bb69), .val .null, .val (.ref rr74), .val (.int (0 : Int32)), .val (.ref bb75), .val (.ref b78), .unset, .unset, .unset] [])) _
          refine XS.aload X80.here hx rfl (hb hby at_67) rfl rfl ?_
          show Steps p.tables e below (T80.setTop (mkF m 69 #[.val (.int p1), .val (.int p2), .val (.int p3), .val (.ref bb69), .val .null, .val (.ref rr74), .val (.int (0 : Int32)), .val (.ref bb75), .val (.ref b78), .unset, .unset, .unset] [(.ref b78)])) _
          refine st82.trans ?_
          show Steps p.tables e below (T82.setTop (mkF m 72 #[.val (.int p1), .val (.int p2), .val (.int p3), .val (.ref bb69), .val .null, .val (.ref rr74), .val (.int (0 : Int32)), .val (.ref bb75), .val (.ref b78), .unset, .unset, .unset] [(.int (0 : Int32))])) _
          refine XS.iload X82.here hx rfl (hb hby at_72) rfl ?_
          show Steps p.tables e below (T82.setTop (mkF m 74 #[.val (.int p1), .val (.int p2), .val (.int p3), .val (.ref bb69), .val .null, .val (.ref rr74), .val (.int (0 : Int32)), .val (.ref bb75), .val (.ref b78), .unset, .unset, .unset] [(.int (0 : Int32)), (.int (0 : Int32))])) _
          refine XS.icmpNo X82.here hx rfl (hb hby at_74) rfl (teq (by decide : (0 : Int32) = (0 : Int32))).2 ?_
          show Steps p.tables e below (T82.setTop (mkF m 77 #[.val (.int p1), .val (.int p2), .val (.int p3), .val (.ref bb69), .val .null, .val (.ref rr74), .val (.int (0 : Int32)), .val (.ref bb75), .val (.ref b78), .unset, .unset, .unset] [])) _
          refine XS.iconst X82.here hx rfl (hb hby at_77) ?_
          show Steps p.tables e below (T82.setTop (mkF m 78 #[.val (.int p1), .val (.int p2), .val (.int p3), .val (.ref bb69), .val .null, .val (.ref rr74), .val (.int (0 : Int32)), .val (.ref bb75), .val (.ref b78), .unset, .unset, .unset] [(.int (1 : Int32))])) _
          refine XS.goto X82.here hx rfl (pc0 := 78) (pc' := 82) rfl (hb hby at_78) (by decide) (by decide) ?_
          show Steps p.tables e below (T82.setTop (mkF m 82 #[.val (.int p1), .val (.int p2), .val (.int p3), .val (.ref bb69), .val .null, .val (.ref rr74), .val (.int (0 : Int32)), .val (.ref bb75), .val (.ref b78), .unset, .unset, .unset] [(.int (1 : Int32))])) _
          refine XS.istore X82.here hx rfl (hb hby at_82) rfl (l' := #[.val (.int p1), .val (.int p2), .val (.int p3), .val (.ref bb69), .val .null, .val (.ref rr74), .val (.int (0 : Int32)), .val (.ref bb75), .val (.ref b78), .val (.int (1 : Int32)), .unset, .unset]) rfl ?_
          show Steps p.tables e below (T82.setTop (mkF m 84 #[.val (.int p1), .val (.int p2), .val (.int p3), .val (.ref bb69), .val .null, .val (.ref rr74), .val (.int (0 : Int32)), .val (.ref bb75), .val (.ref b78), .val (.int (1 : Int32)), .unset, .unset] [])) _
          refine XS.aloadN X82.here hx rfl (hb hby at_84) rfl rfl ?_
          show Steps p.tables e below (T82.setTop (mkF m 85 #[.val (.int p1), .val (.int p2), .val (.int p3), .val (.ref bb69), .val .null, .val (.ref rr74), .val (.int (0 : Int32)), .val (.ref bb75), .val (.ref b78), .val (.int (1 : Int32)), .unset, .unset] [(.ref bb69)])) _
          refine XS.aload X82.here hx rfl (hb hby at_85) rfl rfl ?_
          show Steps p.tables e below (T82.setTop (mkF m 87 #[.val (.int p1), .val (.int p2), .val (.int p3), .val (.ref bb69), .val .null, .val (.ref rr74), .val (.int (0 : Int32)), .val (.ref bb75), .val (.ref b78), .val (.int (1 : Int32)), .unset, .unset] [(.ref bb75), (.ref bb69)])) _
          refine st83 _ ?_
          show Steps p.tables e below (T83.setTop (mkF m 90 #[.val (.int p1), .val (.int p2), .val (.int p3), .val (.ref bb69), .val .null, .val (.ref rr74), .val (.int (0 : Int32)), .val (.ref bb75), .val (.ref b78), .val (.int (1 : Int32)), .unset, .unset] [(.ref fb83)])) _
          refine st85.trans ?_
          show Steps p.tables e below (T85.setTop (mkF m 93 #[.val (.int p1), .val (.int p2), .val (.int p3), .val (.ref bb69), .val .null, .val (.ref rr74), .val (.int (0 : Int32)), .val (.ref bb75), .val (.ref b78), .val (.int (1 : Int32)), .unset, .unset] [(.int (1 : Int32))])) _
          refine XS.istore X85.here hx rfl (hb hby at_93) rfl (l' := #[.val (.int p1), .val (.int p2), .val (.int p3), .val (.ref bb69), .val .null, .val (.ref rr74), .val (.int (0 : Int32)), .val (.ref bb75), .val (.ref b78), .val (.int (1 : Int32)), .val (.int (1 : Int32)), .unset]) rfl ?_
          show Steps p.tables e below (T85.setTop (mkF m 95 #[.val (.int p1), .val (.int p2), .val (.int p3), .val (.ref bb69), .val .null, .val (.ref rr74), .val (.int (0 : Int32)), .val (.ref bb75), .val (.ref b78), .val (.int (1 : Int32)), .val (.int (1 : Int32)), .unset] [])) _
          refine XS.aloadN X85.here hx rfl (hb hby at_95) rfl rfl ?_
          show Steps p.tables e below (T85.setTop (mkF m 96 #[.val (.int p1), .val (.int p2), .val (.int p3), .val (.ref bb69), .val .null, .val (.ref rr74), .val (.int (0 : Int32)), .val (.ref bb75), .val (.ref b78), .val (.int (1 : Int32)), .val (.int (1 : Int32)), .unset] [(.ref bb69)])) _
          refine XS.aload X85.here hx rfl (hb hby at_96) rfl rfl ?_
          show Steps p.tables e below (T85.setTop (mkF m 98 #[.val (.int p1), .val (.int p2), .val (.int p3), .val (.ref bb69), .val .null, .val (.ref rr74), .val (.int (0 : Int32)), .val (.ref bb75), .val (.ref b78), .val (.int (1 : Int32)), .val (.int (1 : Int32)), .unset] [(.ref rr74), (.ref bb69)])) _
          refine st86 _ ?_
          show Steps p.tables e below (T86.setTop (mkF m 101 #[.val (.int p1), .val (.int p2), .val (.int p3), .val (.ref bb69), .val .null, .val (.ref rr74), .val (.int (0 : Int32)), .val (.ref bb75), .val (.ref b78), .val (.int (1 : Int32)), .val (.int (1 : Int32)), .unset] [(.ref fb86)])) _
          refine st88.trans ?_
          show Steps p.tables e below (T88.setTop (mkF m 104 #[.val (.int p1), .val (.int p2), .val (.int p3), .val (.ref bb69), .val .null, .val (.ref rr74), .val (.int (0 : Int32)), .val (.ref bb75), .val (.ref b78), .val (.int (1 : Int32)), .val (.int (1 : Int32)), .unset] [(.int (0 : Int32))])) _
          refine XS.ifNo X88.here hx rfl (hb hby at_104) rfl ((if0 _ _).trans (teq (by decide : (0 : Int32) = (0 : Int32))).2) ?_
          show Steps p.tables e below (T88.setTop (mkF m 107 #[.val (.int p1), .val (.int p2), .val (.int p3), .val (.ref bb69), .val .null, .val (.ref rr74), .val (.int (0 : Int32)), .val (.ref bb75), .val (.ref b78), .val (.int (1 : Int32)), .val (.int (1 : Int32)), .unset] [])) _
          refine XS.iconst X88.here hx rfl (hb hby at_107) ?_
          show Steps p.tables e below (T88.setTop (mkF m 108 #[.val (.int p1), .val (.int p2), .val (.int p3), .val (.ref bb69), .val .null, .val (.ref rr74), .val (.int (0 : Int32)), .val (.ref bb75), .val (.ref b78), .val (.int (1 : Int32)), .val (.int (1 : Int32)), .unset] [(.int (1 : Int32))])) _
          refine XS.goto X88.here hx rfl (pc0 := 108) (pc' := 112) rfl (hb hby at_108) (by decide) (by decide) ?_
          show Steps p.tables e below (T88.setTop (mkF m 112 #[.val (.int p1), .val (.int p2), .val (.int p3), .val (.ref bb69), .val .null, .val (.ref rr74), .val (.int (0 : Int32)), .val (.ref bb75), .val (.ref b78), .val (.int (1 : Int32)), .val (.int (1 : Int32)), .unset] [(.int (1 : Int32))])) _
          refine XS.istore X88.here hx rfl (hb hby at_112) rfl (l' := #[.val (.int p1), .val (.int p2), .val (.int p3), .val (.ref bb69), .val .null, .val (.ref rr74), .val (.int (0 : Int32)), .val (.ref bb75), .val (.ref b78), .val (.int (1 : Int32)), .val (.int (1 : Int32)), .val (.int (1 : Int32))]) rfl ?_
          show Steps p.tables e below (T88.setTop (mkF m 114 #[.val (.int p1), .val (.int p2), .val (.int p3), .val (.ref bb69), .val .null, .val (.ref rr74), .val (.int (0 : Int32)), .val (.ref bb75), .val (.ref b78), .val (.int (1 : Int32)), .val (.int (1 : Int32)), .val (.int (1 : Int32))] [])) _
          refine XS.iload X88.here hx rfl (hb hby at_114) rfl ?_
          show Steps p.tables e below (T88.setTop (mkF m 116 #[.val (.int p1), .val (.int p2), .val (.int p3), .val (.ref bb69), .val .null, .val (.ref rr74), .val (.int (0 : Int32)), .val (.ref bb75), .val (.ref b78), .val (.int (1 : Int32)), .val (.int (1 : Int32)), .val (.int (1 : Int32))] [(.int (1 : Int32))])) _
          refine XS.ifNo X88.here hx rfl (hb hby at_116) rfl ((if0 _ _).trans (feq (by decide : ¬ ((1 : Int32) = (0 : Int32)))).1) ?_
          show Steps p.tables e below (T88.setTop (mkF m 119 #[.val (.int p1), .val (.int p2), .val (.int p3), .val (.ref bb69), .val .null, .val (.ref rr74), .val (.int (0 : Int32)), .val (.ref bb75), .val (.ref b78), .val (.int (1 : Int32)), .val (.int (1 : Int32)), .val (.int (1 : Int32))] [])) _
          refine XS.iload X88.here hx rfl (hb hby at_119) rfl ?_
          show Steps p.tables e below (T88.setTop (mkF m 121 #[.val (.int p1), .val (.int p2), .val (.int p3), .val (.ref bb69), .val .null, .val (.ref rr74), .val (.int (0 : Int32)), .val (.ref bb75), .val (.ref b78), .val (.int (1 : Int32)), .val (.int (1 : Int32)), .val (.int (1 : Int32))] [(.int (1 : Int32))])) _
          refine XS.ifNo X88.here hx rfl (hb hby at_121) rfl ((if0 _ _).trans (feq (by decide : ¬ ((1 : Int32) = (0 : Int32)))).1) ?_
          show Steps p.tables e below (T88.setTop (mkF m 124 #[.val (.int p1), .val (.int p2), .val (.int p3), .val (.ref bb69), .val .null, .val (.ref rr74), .val (.int (0 : Int32)), .val (.ref bb75), .val (.ref b78), .val (.int (1 : Int32)), .val (.int (1 : Int32)), .val (.int (1 : Int32))] [])) _
          refine XS.iload X88.here hx rfl (hb hby at_124) rfl ?_
          show Steps p.tables e below (T88.setTop (mkF m 126 #[.val (.int p1), .val (.int p2), .val (.int p3), .val (.ref bb69), .val .null, .val (.ref rr74), .val (.int (0 : Int32)), .val (.ref bb75), .val (.ref b78), .val (.int (1 : Int32)), .val (.int (1 : Int32)), .val (.int (1 : Int32))] [(.int (1 : Int32))])) _
          refine XS.ifNo X88.here hx rfl (hb hby at_126) rfl ((if0 _ _).trans (feq (by decide : ¬ ((1 : Int32) = (0 : Int32)))).1) ?_
          show Steps p.tables e below (T88.setTop (mkF m 129 #[.val (.int p1), .val (.int p2), .val (.int p3), .val (.ref bb69), .val .null, .val (.ref rr74), .val (.int (0 : Int32)), .val (.ref bb75), .val (.ref b78), .val (.int (1 : Int32)), .val (.int (1 : Int32)), .val (.int (1 : Int32))] [])) _
          refine XS.iconst X88.here hx rfl (hb hby at_129) ?_
          show Steps p.tables e below (T88.setTop (mkF m 130 #[.val (.int p1), .val (.int p2), .val (.int p3), .val (.ref bb69), .val .null, .val (.ref rr74), .val (.int (0 : Int32)), .val (.ref bb75), .val (.ref b78), .val (.int (1 : Int32)), .val (.int (1 : Int32)), .val (.int (1 : Int32))] [(.int (1 : Int32))])) _
          refine XS.goto X88.here hx rfl (pc0 := 130) (pc' := 134) rfl (hb hby at_130) (by decide) (by decide) ?_
          show Steps p.tables e below (T88.setTop (mkF m 134 #[.val (.int p1), .val (.int p2), .val (.int p3), .val (.ref bb69), .val .null, .val (.ref rr74), .val (.int (0 : Int32)), .val (.ref bb75), .val (.ref b78), .val (.int (1 : Int32)), .val (.int (1 : Int32)), .val (.int (1 : Int32))] [(.int (1 : Int32))])) _
          exact retN X88 hx (t := .boolean) Bd.returns (by simp) (hb hby at_134) hr
        · show Q_rm0 Z p1 p2 p3 cs c_ALERT c_OFF c_MAX_COPIES c_NO_DESTINATION h0 n0 _ T88.heap _
          rw [e88]
          exact ⟨rfl, N88⟩
      · obtain ⟨_, _, ⟨T89, L89, k89, n89⟩, -, X89, ⟨Lc89, hQ89, l89, y89, z89⟩, st89⟩ := Jvm.LawKit.callS X72 hx (y := (⟨"com/example/poolwright/poolwright/CopyStartsPinLaw", "pick", "(I)Lcom/example/poolwright/poolwright/Copy$Refusal;"⟩ : MethodName)) hown (mvT hZ (hw _ (List.mem_of_getElem? (i := 34) rfl))) (mvT hZ (hw _ (List.mem_of_getElem? (i := 35) rfl))) (mvT hZ (hw _ (List.mem_of_getElem? (i := 2) rfl))) (mvT hZ (hw _ (List.mem_of_getElem? (i := 36) rfl))) (by decide) (backOf (W := 0) (rm_p0 l Z a0 hw [] ((p3.toUInt32 >>> ((4 : Int32) &&& 31).toUInt32).toInt32) T69.heap n0 Z69 hd20) hZ (hw _ (List.mem_of_getElem? (i := 36) rfl)) (hw _ (List.mem_of_getElem? (i := 2) rfl)) (by decide) (by decide)) (g := (mkF m 20 #[.val (.int p1), .val (.int p2), .val (.int p3), .val (.ref bb69), .val .null, .unset, .unset, .unset, .unset, .unset, .unset, .unset] [(.int ((p3.toUInt32 >>> ((4 : Int32) &&& 31).toUInt32).toInt32))])) rfl (by rw [hml]; rfl) (argsL := [(.int ((p3.toUInt32 >>> ((4 : Int32) &&& 31).toUInt32).toInt32))]) (rest := []) (lenOf pd__I_Lcom_example_poolwright_poolwright_Copy_Refusal__4919 rfl) rfl (by show 2 * 0 + _ ≤ _; exact Nat.le_of_eq rfl) (hb hby at_20) (fun _ _ => ⟨rfl, e72, (by decide : 6 + 0 ≤ _), (by decide : 12 + 0 ≤ _)⟩)
        dsimp only [Pt.U, Pt.locs, Pt.cells, Pt.slots] at X89 l89 y89 z89 st89 hQ89
        subst l89 y89 z89
        obtain ⟨rfl, N89q, e89⟩ := hQ89
        have N89 := Fr.app N72 N89q
        have pre_91 : ∀ t, Steps p.tables e below (T89.setTop (mkF m 48 #[.val (.int p1), .val (.int p2), .val (.int p3), .val (.ref bb69), .val .null, .val .null, .val (.int (0 : Int32)), .unset, .unset, .unset, .unset, .unset] [(.int p2), (.int p1), (.int ((2 : Int32) + (((p3.toUInt32 >>> ((7 : Int32) &&& 31).toUInt32).toInt32) &&& (1 : Int32))))])) t → Steps p.tables e below (s₁.setTop (entryFrame m #[(.int p1), (.int p2), (.int p3)] maxLocals)) t := by
          intro t kt
          refine pre_73 _ ?_
          show Steps p.tables e below (T72.setTop (mkF m 20 #[.val (.int p1), .val (.int p2), .val (.int p3), .val (.ref bb69), .val .null, .unset, .unset, .unset, .unset, .unset, .unset, .unset] [(.int ((p3.toUInt32 >>> ((4 : Int32) &&& 31).toUInt32).toInt32))])) _
          refine st89 _ ?_
          show Steps p.tables e below (T89.setTop (mkF m 23 #[.val (.int p1), .val (.int p2), .val (.int p3), .val (.ref bb69), .val .null, .unset, .unset, .unset, .unset, .unset, .unset, .unset] [.null])) _
          refine XS.astore X89.here hx rfl (hb hby at_23) rfl rfl (l' := #[.val (.int p1), .val (.int p2), .val (.int p3), .val (.ref bb69), .val .null, .val .null, .unset, .unset, .unset, .unset, .unset, .unset]) rfl ?_
          show Steps p.tables e below (T89.setTop (mkF m 25 #[.val (.int p1), .val (.int p2), .val (.int p3), .val (.ref bb69), .val .null, .val .null, .unset, .unset, .unset, .unset, .unset, .unset] [])) _
          refine XS.iloadN X89.here hx rfl (hb hby at_25) rfl ?_
          show Steps p.tables e below (T89.setTop (mkF m 26 #[.val (.int p1), .val (.int p2), .val (.int p3), .val (.ref bb69), .val .null, .val .null, .unset, .unset, .unset, .unset, .unset, .unset] [(.int p3)])) _
          refine XS.iconst X89.here hx rfl (hb hby at_26) ?_
          show Steps p.tables e below (T89.setTop (mkF m 27 #[.val (.int p1), .val (.int p2), .val (.int p3), .val (.ref bb69), .val .null, .val .null, .unset, .unset, .unset, .unset, .unset, .unset] [(.int (3 : Int32)), (.int p3)])) _
          refine XS.iand X89.here hx rfl (hb hby at_27) rfl ?_
          show Steps p.tables e below (T89.setTop (mkF m 28 #[.val (.int p1), .val (.int p2), .val (.int p3), .val (.ref bb69), .val .null, .val .null, .unset, .unset, .unset, .unset, .unset, .unset] [(.int (p3 &&& (3 : Int32)))])) _
          refine XS.ifYes X89.here hx rfl (pc0 := 28) (pc' := 35) rfl (hb hby at_28) rfl ((if0 _ _).trans (teq hd12).1) (by decide) (by decide) ?_
          show Steps p.tables e below (T89.setTop (mkF m 35 #[.val (.int p1), .val (.int p2), .val (.int p3), .val (.ref bb69), .val .null, .val .null, .unset, .unset, .unset, .unset, .unset, .unset] [])) _
          refine XS.iconst X89.here hx rfl (hb hby at_35) ?_
          show Steps p.tables e below (T89.setTop (mkF m 36 #[.val (.int p1), .val (.int p2), .val (.int p3), .val (.ref bb69), .val .null, .val .null, .unset, .unset, .unset, .unset, .unset, .unset] [(.int (0 : Int32))])) _
          refine XS.istore X89.here hx rfl (hb hby at_36) rfl (l' := #[.val (.int p1), .val (.int p2), .val (.int p3), .val (.ref bb69), .val .null, .val .null, .val (.int (0 : Int32)), .unset, .unset, .unset, .unset, .unset]) rfl ?_
          show Steps p.tables e below (T89.setTop (mkF m 38 #[.val (.int p1), .val (.int p2), .val (.int p3), .val (.ref bb69), .val .null, .val .null, .val (.int (0 : Int32)), .unset, .unset, .unset, .unset, .unset] [])) _
          refine XS.iconst X89.here hx rfl (hb hby at_38) ?_
          show Steps p.tables e below (T89.setTop (mkF m 39 #[.val (.int p1), .val (.int p2), .val (.int p3), .val (.ref bb69), .val .null, .val .null, .val (.int (0 : Int32)), .unset, .unset, .unset, .unset, .unset] [(.int (2 : Int32))])) _
          refine XS.iloadN X89.here hx rfl (hb hby at_39) rfl ?_
          show Steps p.tables e below (T89.setTop (mkF m 40 #[.val (.int p1), .val (.int p2), .val (.int p3), .val (.ref bb69), .val .null, .val .null, .val (.int (0 : Int32)), .unset, .unset, .unset, .unset, .unset] [(.int p3), (.int (2 : Int32))])) _
          refine XS.bipush X89.here hx rfl (hb hby at_40) ?_
          show Steps p.tables e below (T89.setTop (mkF m 42 #[.val (.int p1), .val (.int p2), .val (.int p3), .val (.ref bb69), .val .null, .val .null, .val (.int (0 : Int32)), .unset, .unset, .unset, .unset, .unset] [(.int (7 : Int32)), (.int p3), (.int (2 : Int32))])) _
          refine XS.iushr X89.here hx rfl (hb hby at_42) rfl ?_
          show Steps p.tables e below (T89.setTop (mkF m 43 #[.val (.int p1), .val (.int p2), .val (.int p3), .val (.ref bb69), .val .null, .val .null, .val (.int (0 : Int32)), .unset, .unset, .unset, .unset, .unset] [(.int ((p3.toUInt32 >>> ((7 : Int32) &&& 31).toUInt32).toInt32)), (.int (2 : Int32))])) _
          refine XS.iconst X89.here hx rfl (hb hby at_43) ?_
          show Steps p.tables e below (T89.setTop (mkF m 44 #[.val (.int p1), .val (.int p2), .val (.int p3), .val (.ref bb69), .val .null, .val .null, .val (.int (0 : Int32)), .unset, .unset, .unset, .unset, .unset] [(.int (1 : Int32)), (.int ((p3.toUInt32 >>> ((7 : Int32) &&& 31).toUInt32).toInt32)), (.int (2 : Int32))])) _
          refine XS.iand X89.here hx rfl (hb hby at_44) rfl ?_
          show Steps p.tables e below (T89.setTop (mkF m 45 #[.val (.int p1), .val (.int p2), .val (.int p3), .val (.ref bb69), .val .null, .val .null, .val (.int (0 : Int32)), .unset, .unset, .unset, .unset, .unset] [(.int (((p3.toUInt32 >>> ((7 : Int32) &&& 31).toUInt32).toInt32) &&& (1 : Int32))), (.int (2 : Int32))])) _
          refine XS.iadd X89.here hx rfl (hb hby at_45) rfl ?_
          show Steps p.tables e below (T89.setTop (mkF m 46 #[.val (.int p1), .val (.int p2), .val (.int p3), .val (.ref bb69), .val .null, .val .null, .val (.int (0 : Int32)), .unset, .unset, .unset, .unset, .unset] [(.int ((2 : Int32) + (((p3.toUInt32 >>> ((7 : Int32) &&& 31).toUInt32).toInt32) &&& (1 : Int32))))])) _
          refine XS.iloadN X89.here hx rfl (hb hby at_46) rfl ?_
          show Steps p.tables e below (T89.setTop (mkF m 47 #[.val (.int p1), .val (.int p2), .val (.int p3), .val (.ref bb69), .val .null, .val .null, .val (.int (0 : Int32)), .unset, .unset, .unset, .unset, .unset] [(.int p1), (.int ((2 : Int32) + (((p3.toUInt32 >>> ((7 : Int32) &&& 31).toUInt32).toInt32) &&& (1 : Int32))))])) _
          refine XS.iloadN X89.here hx rfl (hb hby at_47) rfl ?_
          exact kt
        obtain ⟨_, _, ⟨T90, L90, k90, n90⟩, -, X90', hS90', hge90, ⟨Lc90, hQ90, l90, y90, z90, hC90⟩, st90⟩ := callSS X89 hx (y := (⟨"com/example/poolwright/poolwright/CopyStartsPinLaw", "draw", "(III)Ljava/lang/String;"⟩ : MethodName)) hown (mvT hZ (hw _ (List.mem_of_getElem? (i := 0) rfl))) (mvT hZ (hw _ (List.mem_of_getElem? (i := 1) rfl))) (mvT hZ (hw _ (List.mem_of_getElem? (i := 2) rfl))) (mvT hZ (hw _ (List.mem_of_getElem? (i := 3) rfl))) (by decide) (backOfSH (s := s) (vm0 := T69.vm) (W := 0) (rm_d1 l Z a0 hw [] ((2 : Int32) + (((p3.toUInt32 >>> ((7 : Int32) &&& 31).toUInt32).toInt32) &&& (1 : Int32))) p1 p2 cs T69.heap n0 Z69 hEL f102 hcs (own_m3 _)) hZ (hw _ (List.mem_of_getElem? (i := 3) rfl)) (hw _ (List.mem_of_getElem? (i := 2) rfl)) (by decide) (by decide) hEL C70.1) (g := (mkF m 48 #[.val (.int p1), .val (.int p2), .val (.int p3), .val (.ref bb69), .val .null, .val .null, .val (.int (0 : Int32)), .unset, .unset, .unset, .unset, .unset] [(.int p2), (.int p1), (.int ((2 : Int32) + (((p3.toUInt32 >>> ((7 : Int32) &&& 31).toUInt32).toInt32) &&& (1 : Int32))))])) rfl (by rw [hml]; rfl) (argsL := [(.int ((2 : Int32) + (((p3.toUInt32 >>> ((7 : Int32) &&& 31).toUInt32).toInt32) &&& (1 : Int32)))), (.int p1), (.int p2)]) (rest := []) (lenOf pd__III_Ljava_lang_String__1996 rfl) rfl (by show 2 * 0 + _ ≤ _; exact Nat.le_of_eq rfl) (hb hby at_48) (fun _ _ => ⟨rfl, e89, (by decide : 6 + 6 ≤ _), (by decide : 12 + 12 ≤ _)⟩)
        dsimp only [Pt.U, Pt.locs, Pt.cells, Pt.slots] at X90' hS90' hge90 l90 y90 z90 st90 hQ90 hC90
        subst l90 y90 z90
        have hS90 : s.Since T90.vm T90.heap.size := foldS hS69 (by rw [e89]; exact hk69) hS90' hge90
        have hZ : Z.Warmed39 (s.setVm T90.vm).vm := State.Warmed39.trans (t := (s.setVm T69.vm)) hZ hS90'.1
        have hown : (s.setVm T90.vm).vm.findClass "com/example/poolwright/poolwright/CopyStartsPinLaw" = some m.cls := by rw [show (s.setVm T90.vm).vm = T90.vm from rfl, hS90'.1.alike.findClass]; exact hown
        have X90 := rebase (vm := T90.vm) X90'
        have C92 : CHr Z own_EL s.vm h0 T90.vm T90.heap := C70.trans hC90
        obtain ⟨bb90, rfl, N90q, K90⟩ := hQ90
        have f126 : Sta Z T90.heap "com/example/poolwright/poolwright/Copy$Refusal" "ALERT" "Lcom/example/poolwright/poolwright/Copy$Refusal;" (.ref c_ALERT) := own_sta f98 K90
        have f127 : Sta Z T90.heap "com/example/poolwright/poolwright/Copy$Refusal" "OFF" "Lcom/example/poolwright/poolwright/Copy$Refusal;" (.ref c_OFF) := own_sta f99 K90
        have f128 : Sta Z T90.heap "com/example/poolwright/poolwright/Copy$Refusal" "MAX_COPIES" "Lcom/example/poolwright/poolwright/Copy$Refusal;" (.ref c_MAX_COPIES) := own_sta f100 K90
        have f129 : Sta Z T90.heap "com/example/poolwright/poolwright/Copy$Refusal" "NO_DESTINATION" "Lcom/example/poolwright/poolwright/Copy$Refusal;" (.ref c_NO_DESTINATION) := own_sta f101 K90
        have f130 : Sta Z T90.heap "java/lang/String" "COMPACT_STRINGS" "Z" (.int cs) := own_sta f102 K90
        have Z90 : n0 ≤ T90.heap.size := Nat.le_trans Z69 K90.1
        have hk90 : T90.heap.size ≤ T90.heap.size := Nat.le_refl _
        have N90 := Fr.app N89 N90q
        obtain ⟨T93, h93, X93, e93, E93, A93, D93, -, st93⟩ := newO X90 hx hZ hown (hw _ (List.mem_of_getElem? (i := 40) rfl)) (hw _ (List.mem_of_getElem? (i := 41) rfl)) (hw _ (List.mem_of_getElem? (i := 42) rfl)) rfl (g := (mkF m 53 #[.val (.int p1), .val (.int p2), .val (.int p3), .val (.ref bb69), .val .null, .val .null, .val (.int (0 : Int32)), .val (.ref bb90), .unset, .unset, .unset, .unset] [])) rfl (hb hby at_53) (by decide) (by decide)
        obtain ⟨b93, g93⟩ : ∃ z, z = T90.heap.size := ⟨_, rfl⟩
        rw [← g93] at A93 D93 st93
        have f131 : Sta Z h93 "com/example/poolwright/poolwright/Copy$Refusal" "ALERT" "Lcom/example/poolwright/poolwright/Copy$Refusal;" (.ref c_ALERT) := f126.ext E93
        have f132 : Sta Z h93 "com/example/poolwright/poolwright/Copy$Refusal" "OFF" "Lcom/example/poolwright/poolwright/Copy$Refusal;" (.ref c_OFF) := f127.ext E93
        have f133 : Sta Z h93 "com/example/poolwright/poolwright/Copy$Refusal" "MAX_COPIES" "Lcom/example/poolwright/poolwright/Copy$Refusal;" (.ref c_MAX_COPIES) := f128.ext E93
        have f134 : Sta Z h93 "com/example/poolwright/poolwright/Copy$Refusal" "NO_DESTINATION" "Lcom/example/poolwright/poolwright/Copy$Refusal;" (.ref c_NO_DESTINATION) := f129.ext E93
        have f135 : Sta Z h93 "java/lang/String" "COMPACT_STRINGS" "Z" (.int cs) := f130.ext E93
        have f136 : T90.heap.size ≤ h93.size := Nat.le_trans hk90 E93.1
        have C94 : CHr Z own_EL s.vm h0 T90.vm h93 := C92.trans (CHr.ext E93 C92.1)
        have sf94_b93 : Safe Z own_EL T90.vm h93 b93 := Safe.ext E93 C92.1 (Safe.new (Nat.le_of_eq g93.symm))
        have g_b93 : n0 ≤ b93 := Nat.le_trans Z90 (Nat.le_of_eq g93.symm)
        have Z93 : n0 ≤ h93.size := Nat.le_trans Z90 E93.1
        have F_source_b93 : Fld Z h93 b93 "com/example/poolwright/poolwright/Copy" "source" "Ljava/lang/String;" .null := D93 (Or.inr (hw _ (List.mem_of_getElem? (i := 53) rfl))) (ty := (.object "java/lang/String")) (by decide)
        have F_destination_b93 : Fld Z h93 b93 "com/example/poolwright/poolwright/Copy" "destination" "Ljava/lang/String;" .null := D93 (Or.inr (hw _ (List.mem_of_getElem? (i := 55) rfl))) (ty := (.object "java/lang/String")) (by decide)
        have F_refusal_b93 : Fld Z h93 b93 "com/example/poolwright/poolwright/Copy" "refusal" "Lcom/example/poolwright/poolwright/Copy$Refusal;" .null := D93 (Or.inr (hw _ (List.mem_of_getElem? (i := 57) rfl))) (ty := (.object "com/example/poolwright/poolwright/Copy$Refusal")) (by decide)
        obtain ⟨_, _, ⟨T95, L95, k95, n95⟩, -, X95, ⟨Lc95, hQ95, l95, y95, z95⟩, st95⟩ := X93.specialBack hx (y := (⟨"com/example/poolwright/poolwright/Copy", "<init>", "(Ljava/lang/String;Ljava/lang/String;Lcom/example/poolwright/poolwright/Copy$Refusal;)V"⟩ : MethodName)) rfl hown (mvT hZ (hw _ (List.mem_of_getElem? (i := 43) rfl))) (mvT hZ (hw _ (List.mem_of_getElem? (i := 44) rfl))) (mvT hZ (hw _ (List.mem_of_getElem? (i := 45) rfl))) (by decide) (backOf (W := 1) (rm_cirnn l Z a0 hw [] b93 bb69 h93 n0 Z93 F_source_b93 F_destination_b93 F_refusal_b93 A93 g_b93) hZ (hw _ (List.mem_of_getElem? (i := 45) rfl)) (hw _ (List.mem_of_getElem? (i := 42) rfl)) (by decide) (by decide)) (g := (mkF m 62 #[.val (.int p1), .val (.int p2), .val (.int p3), .val (.ref bb69), .val .null, .val .null, .val (.int (0 : Int32)), .val (.ref bb90), .unset, .unset, .unset, .unset] [.null, .null, (.ref bb69), (.ref b93), (.ref b93)])) rfl (by rw [hml]; rfl) (Steps.refl _) (a := b93) (argsL := [(.ref bb69), .null, .null]) (rest := [(.ref b93)]) (lenOf pd__Ljava_lang_String_Ljava_lang_String_Lcom_example_poolwright_8324 rfl) rfl (by show 2 * 0 + _ ≤ _; exact Nat.le_of_eq rfl) (hb hby at_62) (fun _ _ => ⟨rfl, e93, (by decide : 13 + 0 ≤ _), (by decide : 27 + 0 ≤ _)⟩)
        dsimp only [Pt.U, Pt.locs, Pt.cells, Pt.slots] at X95 l95 y95 z95 st95 hQ95
        subst l95 y95 z95
        obtain ⟨rfl, N95q, K95, fk95_0, fk95_1⟩ := hQ95
        have f137 : T90.heap.size ≤ T95.heap.size := Nat.le_trans f136 K95.1
        have f138 : n0 ≤ b93 := g_b93
        have C96 : CHr Z own_EL s.vm h0 T90.vm T95.heap := C94.trans (CHr.keep K95 (sfS sf94_b93 sf0) C94.1)
        have sf96_b93 : Safe Z own_EL T90.vm T95.heap b93 := Safe.keep K95 (sfS sf94_b93 sf0) C94.1 sf94_b93
        have Z95 : n0 ≤ T95.heap.size := Nat.le_trans Z93 K95.1
        have N95 := Fr.app N90 N95q
        obtain ⟨cq97, kq97, q97a, q97b, q97c⟩ := isOf hZ rfl fk95_0
        obtain ⟨_, _, ⟨T97, L97, k97, n97⟩, -, X97, ⟨Lc97, hQ97, l97, y97, z97⟩, st97⟩ := X95.virtualBack hx (y := (⟨"com/example/poolwright/poolwright/Copy", "starts", "()Z"⟩ : MethodName)) (z := (⟨"com/example/poolwright/poolwright/Copy", "starts", "()Z"⟩ : MethodName)) hown (mvT hZ (hw _ (List.mem_of_getElem? (i := 58) rfl))) (mvT hZ (hw _ (List.mem_of_getElem? (i := 59) rfl))) (notFace_of_selects (args := #[]) (mvT hZ (hw _ (List.mem_of_getElem? (i := 61) rfl)))) (mvT hZ (hw _ (List.mem_of_getElem? (i := 61) rfl))) (mvT hZ (hw _ (List.mem_of_getElem? (i := 60) rfl))) (by decide) (backOf (W := 0) (rm_stn l Z a0 hw [] b93 T95.heap n0 Z95 fk95_1) hZ (hw _ (List.mem_of_getElem? (i := 62) rfl)) (hw _ (List.mem_of_getElem? (i := 42) rfl)) (by decide) (by decide)) q97a q97c (g := (mkF m 69 #[.val (.int p1), .val (.int p2), .val (.int p3), .val (.ref bb69), .val .null, .val .null, .val (.int (0 : Int32)), .val (.ref bb90), .val (.ref b93), .unset, .unset, .unset] [(.ref b93)])) rfl (by rw [hml]; rfl) (Steps.refl _) (argsL := []) (rest := []) (lenOf pd___Z_171 rfl) rfl (by show 2 * 0 + _ ≤ _; exact Nat.le_of_eq rfl) (hb hby at_69) (fun _ _ => ⟨rfl, rfl, (by decide : 13 + 0 ≤ _), (by decide : 27 + 0 ≤ _)⟩)
        dsimp only [Pt.U, Pt.locs, Pt.cells, Pt.slots] at X97 l97 y97 z97 st97 hQ97
        subst l97 y97 z97
        obtain ⟨rfl, N97q, e97⟩ := hQ97
        have N97 := Fr.app N95 N97q
        obtain ⟨_, _, ⟨T98, L98, k98, n98⟩, -, X98, ⟨Lc98, hQ98, l98, y98, z98⟩, st98⟩ := Jvm.LawKit.callS X97 hx (y := (⟨"com/example/poolwright/poolwright/Copy", "started", "(Ljava/lang/String;Ljava/lang/String;)Lcom/example/poolwright/poolwright/Copy;"⟩ : MethodName)) hown (mvT hZ (hw _ (List.mem_of_getElem? (i := 63) rfl))) (mvT hZ (hw _ (List.mem_of_getElem? (i := 64) rfl))) (mvT hZ (hw _ (List.mem_of_getElem? (i := 42) rfl))) (mvT hZ (hw _ (List.mem_of_getElem? (i := 65) rfl))) (by decide) (backOf (W := 0) (rm_sdr l Z a0 hw [] bb69 bb90 T95.heap n0 Z95 ) hZ (hw _ (List.mem_of_getElem? (i := 65) rfl)) (hw _ (List.mem_of_getElem? (i := 42) rfl)) (by decide) (by decide)) (g := (mkF m 87 #[.val (.int p1), .val (.int p2), .val (.int p3), .val (.ref bb69), .val .null, .val .null, .val (.int (0 : Int32)), .val (.ref bb90), .val (.ref b93), .val (.int (1 : Int32)), .unset, .unset] [(.ref bb90), (.ref bb69)])) rfl (by rw [hml]; rfl) (argsL := [(.ref bb69), (.ref bb90)]) (rest := []) (lenOf pd__Ljava_lang_String_Ljava_lang_String__Lcom_example_poolwrigh_7480 rfl) rfl (by show 2 * 0 + _ ≤ _; exact Nat.le_of_eq rfl) (hb hby at_87) (fun _ _ => ⟨rfl, e97, (by decide : 13 + 1 ≤ _), (by decide : 27 + 3 ≤ _)⟩)
        dsimp only [Pt.U, Pt.locs, Pt.cells, Pt.slots] at X98 l98 y98 z98 st98 hQ98
        subst l98 y98 z98
        obtain ⟨fb98, rfl, N98q, K98, fk98_0, fk98_1⟩ := hQ98
        have f139 : T90.heap.size ≤ T98.heap.size := Nat.le_trans f137 K98.1
        have f140 : n0 ≤ b93 := f138
        have f141 : Exa Z T98.heap b93 "com/example/poolwright/poolwright/Copy" := fk95_0.keep K98
        have f142 : Fld Z T98.heap b93 "com/example/poolwright/poolwright/Copy" "destination" "Ljava/lang/String;" .null := fk95_1.keep K98 (by simp)
        have C99 : CHr Z own_EL s.vm h0 T90.vm T98.heap := C96.trans (CHr.keep K98 sf0 C96.1)
        have sf99_b93 : Safe Z own_EL T90.vm T98.heap b93 := Safe.keep K98 sf0 C96.1 sf96_b93
        have Z98 : n0 ≤ T98.heap.size := Nat.le_trans Z95 K98.1
        have N98 := Fr.app N97 N98q
        obtain ⟨cq100, kq100, q100a, q100b, q100c⟩ := isOf hZ rfl fk98_0
        obtain ⟨_, _, ⟨T100, L100, k100, n100⟩, -, X100, ⟨Lc100, hQ100, l100, y100, z100⟩, st100⟩ := X98.virtualBack hx (y := (⟨"com/example/poolwright/poolwright/Copy", "starts", "()Z"⟩ : MethodName)) (z := (⟨"com/example/poolwright/poolwright/Copy", "starts", "()Z"⟩ : MethodName)) hown (mvT hZ (hw _ (List.mem_of_getElem? (i := 58) rfl))) (mvT hZ (hw _ (List.mem_of_getElem? (i := 59) rfl))) (notFace_of_selects (args := #[]) (mvT hZ (hw _ (List.mem_of_getElem? (i := 61) rfl)))) (mvT hZ (hw _ (List.mem_of_getElem? (i := 61) rfl))) (mvT hZ (hw _ (List.mem_of_getElem? (i := 60) rfl))) (by decide) (backOf (W := 0) (rm_str l Z a0 hw [] fb98 bb90 T98.heap n0 Z98 fk98_1) hZ (hw _ (List.mem_of_getElem? (i := 62) rfl)) (hw _ (List.mem_of_getElem? (i := 42) rfl)) (by decide) (by decide)) q100a q100c (g := (mkF m 90 #[.val (.int p1), .val (.int p2), .val (.int p3), .val (.ref bb69), .val .null, .val .null, .val (.int (0 : Int32)), .val (.ref bb90), .val (.ref b93), .val (.int (1 : Int32)), .unset, .unset] [(.ref fb98)])) rfl (by rw [hml]; rfl) (Steps.refl _) (argsL := []) (rest := []) (lenOf pd___Z_171 rfl) rfl (by show 2 * 0 + _ ≤ _; exact Nat.le_of_eq rfl) (hb hby at_90) (fun _ _ => ⟨rfl, rfl, (by decide : 14 + 0 ≤ _), (by decide : 30 + 0 ≤ _)⟩)
        dsimp only [Pt.U, Pt.locs, Pt.cells, Pt.slots] at X100 l100 y100 z100 st100 hQ100
        subst l100 y100 z100
        obtain ⟨rfl, N100q, e100⟩ := hQ100
        have N100 := Fr.app N98 N100q
        obtain ⟨_, _, ⟨T101, L101, k101, n101⟩, -, X101, ⟨Lc101, hQ101, l101, y101, z101⟩, st101⟩ := Jvm.LawKit.callS X100 hx (y := (⟨"com/example/poolwright/poolwright/Copy", "refused", "(Ljava/lang/String;Lcom/example/poolwright/poolwright/Copy$Refusal;)Lcom/example/poolwright/poolwright/Copy;"⟩ : MethodName)) hown (mvT hZ (hw _ (List.mem_of_getElem? (i := 68) rfl))) (mvT hZ (hw _ (List.mem_of_getElem? (i := 69) rfl))) (mvT hZ (hw _ (List.mem_of_getElem? (i := 42) rfl))) (mvT hZ (hw _ (List.mem_of_getElem? (i := 70) rfl))) (by decide) (backOf (W := 0) (rm_rdrn l Z a0 hw [] bb69 T98.heap n0 Z98 ) hZ (hw _ (List.mem_of_getElem? (i := 70) rfl)) (hw _ (List.mem_of_getElem? (i := 42) rfl)) (by decide) (by decide)) (g := (mkF m 98 #[.val (.int p1), .val (.int p2), .val (.int p3), .val (.ref bb69), .val .null, .val .null, .val (.int (0 : Int32)), .val (.ref bb90), .val (.ref b93), .val (.int (1 : Int32)), .val (.int (1 : Int32)), .unset] [.null, (.ref bb69)])) rfl (by rw [hml]; rfl) (argsL := [(.ref bb69), .null]) (rest := []) (lenOf pd__Ljava_lang_String_Lcom_example_poolwright_poolwright_Copy_R_576 rfl) rfl (by show 2 * 0 + _ ≤ _; exact Nat.le_of_eq rfl) (hb hby at_98) (fun _ _ => ⟨rfl, e100, (by decide : 14 + 1 ≤ _), (by decide : 30 + 3 ≤ _)⟩)
        dsimp only [Pt.U, Pt.locs, Pt.cells, Pt.slots] at X101 l101 y101 z101 st101 hQ101
        subst l101 y101 z101
        obtain ⟨fb101, rfl, N101q, K101, fk101_0, fk101_1⟩ := hQ101
        have f143 : T90.heap.size ≤ T101.heap.size := Nat.le_trans f139 K101.1
        have f144 : n0 ≤ b93 := f140
        have f145 : Exa Z T101.heap b93 "com/example/poolwright/poolwright/Copy" := f141.keep K101
        have f146 : Fld Z T101.heap b93 "com/example/poolwright/poolwright/Copy" "destination" "Ljava/lang/String;" .null := f142.keep K101 (by simp)
        have f147 : Exa Z T101.heap fb98 "com/example/poolwright/poolwright/Copy" := fk98_0.keep K101
        have f148 : Fld Z T101.heap fb98 "com/example/poolwright/poolwright/Copy" "destination" "Ljava/lang/String;" (.ref bb90) := fk98_1.keep K101 (by simp)
        have C102 : CHr Z own_EL s.vm h0 T90.vm T101.heap := C99.trans (CHr.keep K101 sf0 C99.1)
        have sf102_b93 : Safe Z own_EL T90.vm T101.heap b93 := Safe.keep K101 sf0 C99.1 sf99_b93
        have Z101 : n0 ≤ T101.heap.size := Nat.le_trans Z98 K101.1
        have N101 := Fr.app N100 N101q
        obtain ⟨cq103, kq103, q103a, q103b, q103c⟩ := isOf hZ rfl fk101_0
        obtain ⟨_, _, ⟨T103, L103, k103, n103⟩, -, X103, ⟨Lc103, hQ103, l103, y103, z103⟩, st103⟩ := X101.virtualBack hx (y := (⟨"com/example/poolwright/poolwright/Copy", "starts", "()Z"⟩ : MethodName)) (z := (⟨"com/example/poolwright/poolwright/Copy", "starts", "()Z"⟩ : MethodName)) hown (mvT hZ (hw _ (List.mem_of_getElem? (i := 58) rfl))) (mvT hZ (hw _ (List.mem_of_getElem? (i := 59) rfl))) (notFace_of_selects (args := #[]) (mvT hZ (hw _ (List.mem_of_getElem? (i := 61) rfl)))) (mvT hZ (hw _ (List.mem_of_getElem? (i := 61) rfl))) (mvT hZ (hw _ (List.mem_of_getElem? (i := 60) rfl))) (by decide) (backOf (W := 0) (rm_stn l Z a0 hw [] fb101 T101.heap n0 Z101 fk101_1) hZ (hw _ (List.mem_of_getElem? (i := 62) rfl)) (hw _ (List.mem_of_getElem? (i := 42) rfl)) (by decide) (by decide)) q103a q103c (g := (mkF m 101 #[.val (.int p1), .val (.int p2), .val (.int p3), .val (.ref bb69), .val .null, .val .null, .val (.int (0 : Int32)), .val (.ref bb90), .val (.ref b93), .val (.int (1 : Int32)), .val (.int (1 : Int32)), .unset] [(.ref fb101)])) rfl (by rw [hml]; rfl) (Steps.refl _) (argsL := []) (rest := []) (lenOf pd___Z_171 rfl) rfl (by show 2 * 0 + _ ≤ _; exact Nat.le_of_eq rfl) (hb hby at_101) (fun _ _ => ⟨rfl, rfl, (by decide : 15 + 0 ≤ _), (by decide : 33 + 0 ≤ _)⟩)
        dsimp only [Pt.U, Pt.locs, Pt.cells, Pt.slots] at X103 l103 y103 z103 st103 hQ103
        subst l103 y103 z103
        obtain ⟨rfl, N103q, e103⟩ := hQ103
        have N103 := Fr.app N101 N103q
        obtain ⟨fs, hr, hrun, hended, hRW⟩ := X103.leaveW (s := s) hS90 (by rw [e103]; exact f143) (v := some (.int (1 : Int32))) (fun h => by rw [Bd.returns] at h; cases h) (hlocks := Bd.notSynchronized)
        refine ⟨_, _, pre_91 _ ?_, hrun, hended, _, _, rfl, ?_, (by show CHr Z own_EL s.vm s.heap T103.vm T103.heap; rw [hh, e103]; exact C102.trans (CHv.at (s := s) (vm0 := T90.vm) X103 hZ hEL C102.1)), hRW.1, hRW.2.1, hRW.2.2.1, hRW.2.2.2.mono (by decide) (by decide)⟩
        · show Steps p.tables e below (T89.setTop (mkF m 48 #[.val (.int p1), .val (.int p2), .val (.int p3), .val (.ref bb69), .val .null, .val .null, .val (.int (0 : Int32)), .unset, .unset, .unset, .unset, .unset] [(.int p2), (.int p1), (.int ((2 : Int32) + (((p3.toUInt32 >>> ((7 : Int32) &&& 31).toUInt32).toInt32) &&& (1 : Int32))))])) _
          refine st90.trans ?_
          show Steps p.tables e below (T90.setTop (mkF m 51 #[.val (.int p1), .val (.int p2), .val (.int p3), .val (.ref bb69), .val .null, .val .null, .val (.int (0 : Int32)), .unset, .unset, .unset, .unset, .unset] [(.ref bb90)])) _
          refine XS.astore X90.here hx rfl (hb hby at_51) rfl rfl (l' := #[.val (.int p1), .val (.int p2), .val (.int p3), .val (.ref bb69), .val .null, .val .null, .val (.int (0 : Int32)), .val (.ref bb90), .unset, .unset, .unset, .unset]) rfl ?_
          show Steps p.tables e below (T90.setTop (mkF m 53 #[.val (.int p1), .val (.int p2), .val (.int p3), .val (.ref bb69), .val .null, .val .null, .val (.int (0 : Int32)), .val (.ref bb90), .unset, .unset, .unset, .unset] [])) _
          refine st93 _ ?_
          show Steps p.tables e below (T93.setTop (mkF m 56 #[.val (.int p1), .val (.int p2), .val (.int p3), .val (.ref bb69), .val .null, .val .null, .val (.int (0 : Int32)), .val (.ref bb90), .unset, .unset, .unset, .unset] [(.ref b93)])) _
          refine XS.dup X93.here hx rfl (hb hby at_56) rfl rfl ?_
          show Steps p.tables e below (T93.setTop (mkF m 57 #[.val (.int p1), .val (.int p2), .val (.int p3), .val (.ref bb69), .val .null, .val .null, .val (.int (0 : Int32)), .val (.ref bb90), .unset, .unset, .unset, .unset] [(.ref b93), (.ref b93)])) _
          refine XS.aloadN X93.here hx rfl (hb hby at_57) rfl rfl ?_
          show Steps p.tables e below (T93.setTop (mkF m 58 #[.val (.int p1), .val (.int p2), .val (.int p3), .val (.ref bb69), .val .null, .val .null, .val (.int (0 : Int32)), .val (.ref bb90), .unset, .unset, .unset, .unset] [(.ref bb69), (.ref b93), (.ref b93)])) _
          refine XS.aload X93.here hx rfl (hb hby at_58) rfl rfl ?_
          show Steps p.tables e below (T93.setTop (mkF m 60 #[.val (.int p1), .val (.int p2), .val (.int p3), .val (.ref bb69), .val .null, .val .null, .val (.int (0 : Int32)), .val (.ref bb90), .unset, .unset, .unset, .unset] [.null, (.ref bb69), (.ref b93), (.ref b93)])) _
          refine XS.aload X93.here hx rfl (hb hby at_60) rfl rfl ?_
          show Steps p.tables e below (T93.setTop (mkF m 62 #[.val (.int p1), .val (.int p2), .val (.int p3), .val (.ref bb69), .val .null, .val .null, .val (.int (0 : Int32)), .val (.ref bb90), .unset, .unset, .unset, .unset] [.null, .null, (.ref bb69), (.ref b93), (.ref b93)])) _
          refine st95.trans ?_
          show Steps p.tables e below (T95.setTop (mkF m 65 #[.val (.int p1), .val (.int p2), .val (.int p3), .val (.ref bb69), .val .null, .val .null, .val (.int (0 : Int32)), .val (.ref bb90), .unset, .unset, .unset, .unset] [(.ref b93)])) _
          refine XS.astore X95.here hx rfl (hb hby at_65) rfl rfl (l' := #[.val (.int p1), .val (.int p2), .val (.int p3), .val (.ref bb69), .val .null, .val .null, .val (.int (0 : Int32)), .val (.ref bb90), .val (.ref b93), .unset, .unset, .unset]) rfl ?_
          show Steps p.tables e below (T95.setTop (mkF m 67 #[.val (.int p1), .val (.int p2), .val (.int p3), .val (.ref bb69), .val .null, .val .null, .val (.int (0 : Int32)), .val (.ref bb90), .val (.ref b93), .unset, .unset, .unset] [])) _
          refine XS.aload X95.here hx rfl (hb hby at_67) rfl rfl ?_
          show Steps p.tables e below (T95.setTop (mkF m 69 #[.val (.int p1), .val (.int p2), .val (.int p3), .val (.ref bb69), .val .null, .val .null, .val (.int (0 : Int32)), .val (.ref bb90), .val (.ref b93), .unset, .unset, .unset] [(.ref b93)])) _
          refine st97.trans ?_
          show Steps p.tables e below (T97.setTop (mkF m 72 #[.val (.int p1), .val (.int p2), .val (.int p3), .val (.ref bb69), .val .null, .val .null, .val (.int (0 : Int32)), .val (.ref bb90), .val (.ref b93), .unset, .unset, .unset] [(.int (0 : Int32))])) _
          refine XS.iload X97.here hx rfl (hb hby at_72) rfl ?_
          show Steps p.tables e below (T97.setTop (mkF m 74 #[.val (.int p1), .val (.int p2), .val (.int p3), .val (.ref bb69), .val .null, .val .null, .val (.int (0 : Int32)), .val (.ref bb90), .val (.ref b93), .unset, .unset, .unset] [(.int (0 : Int32)), (.int (0 : Int32))])) _
          refine XS.icmpNo X97.here hx rfl (hb hby at_74) rfl (teq (by decide : (0 : Int32) = (0 : Int32))).2 ?_
          show Steps p.tables e below (T97.setTop (mkF m 77 #[.val (.int p1), .val (.int p2), .val (.int p3), .val (.ref bb69), .val .null, .val .null, .val (.int (0 : Int32)), .val (.ref bb90), .val (.ref b93), .unset, .unset, .unset] [])) _
          refine XS.iconst X97.here hx rfl (hb hby at_77) ?_
          show Steps p.tables e below (T97.setTop (mkF m 78 #[.val (.int p1), .val (.int p2), .val (.int p3), .val (.ref bb69), .val .null, .val .null, .val (.int (0 : Int32)), .val (.ref bb90), .val (.ref b93), .unset, .unset, .unset] [(.int (1 : Int32))])) _
          refine XS.goto X97.here hx rfl (pc0 := 78) (pc' := 82) rfl (hb hby at_78) (by decide) (by decide) ?_
          show Steps p.tables e below (T97.setTop (mkF m 82 #[.val (.int p1), .val (.int p2), .val (.int p3), .val (.ref bb69), .val .null, .val .null, .val (.int (0 : Int32)), .val (.ref bb90), .val (.ref b93), .unset, .unset, .unset] [(.int (1 : Int32))])) _
          refine XS.istore X97.here hx rfl (hb hby at_82) rfl (l' := #[.val (.int p1), .val (.int p2), .val (.int p3), .val (.ref bb69), .val .null, .val .null, .val (.int (0 : Int32)), .val (.ref bb90), .val (.ref b93), .val (.int (1 : Int32)), .unset, .unset]) rfl ?_
          show Steps p.tables e below (T97.setTop (mkF m 84 #[.val (.int p1), .val (.int p2), .val (.int p3), .val (.ref bb69), .val .null, .val .null, .val (.int (0 : Int32)), .val (.ref bb90), .val (.ref b93), .val (.int (1 : Int32)), .unset, .unset] [])) _
          refine XS.aloadN X97.here hx rfl (hb hby at_84) rfl rfl ?_
          show Steps p.tables e below (T97.setTop (mkF m 85 #[.val (.int p1), .val (.int p2), .val (.int p3), .val (.ref bb69), .val .null, .val .null, .val (.int (0 : Int32)), .val (.ref bb90), .val (.ref b93), .val (.int (1 : Int32)), .unset, .unset] [(.ref bb69)])) _
          refine XS.aload X97.here hx rfl (hb hby at_85) rfl rfl ?_
          show Steps p.tables e below (T97.setTop (mkF m 87 #[.val (.int p1), .val (.int p2), .val (.int p3), .val (.ref bb69), .val .null, .val .null, .val (.int (0 : Int32)), .val (.ref bb90), .val (.ref b93), .val (.int (1 : Int32)), .unset, .unset] [(.ref bb90), (.ref bb69)])) _
          refine st98 _ ?_
          show Steps p.tables e below (T98.setTop (mkF m 90 #[.val (.int p1), .val (.int p2), .val (.int p3), .val (.ref bb69), .val .null, .val .null, .val (.int (0 : Int32)), .val (.ref bb90), .val (.ref b93), .val (.int (1 : Int32)), .unset, .unset] [(.ref fb98)])) _
          refine st100.trans ?_
          show Steps p.tables e below (T100.setTop (mkF m 93 #[.val (.int p1), .val (.int p2), .val (.int p3), .val (.ref bb69), .val .null, .val .null, .val (.int (0 : Int32)), .val (.ref bb90), .val (.ref b93), .val (.int (1 : Int32)), .unset, .unset] [(.int (1 : Int32))])) _
          refine XS.istore X100.here hx rfl (hb hby at_93) rfl (l' := #[.val (.int p1), .val (.int p2), .val (.int p3), .val (.ref bb69), .val .null, .val .null, .val (.int (0 : Int32)), .val (.ref bb90), .val (.ref b93), .val (.int (1 : Int32)), .val (.int (1 : Int32)), .unset]) rfl ?_
          show Steps p.tables e below (T100.setTop (mkF m 95 #[.val (.int p1), .val (.int p2), .val (.int p3), .val (.ref bb69), .val .null, .val .null, .val (.int (0 : Int32)), .val (.ref bb90), .val (.ref b93), .val (.int (1 : Int32)), .val (.int (1 : Int32)), .unset] [])) _
          refine XS.aloadN X100.here hx rfl (hb hby at_95) rfl rfl ?_
          show Steps p.tables e below (T100.setTop (mkF m 96 #[.val (.int p1), .val (.int p2), .val (.int p3), .val (.ref bb69), .val .null, .val .null, .val (.int (0 : Int32)), .val (.ref bb90), .val (.ref b93), .val (.int (1 : Int32)), .val (.int (1 : Int32)), .unset] [(.ref bb69)])) _
          refine XS.aload X100.here hx rfl (hb hby at_96) rfl rfl ?_
          show Steps p.tables e below (T100.setTop (mkF m 98 #[.val (.int p1), .val (.int p2), .val (.int p3), .val (.ref bb69), .val .null, .val .null, .val (.int (0 : Int32)), .val (.ref bb90), .val (.ref b93), .val (.int (1 : Int32)), .val (.int (1 : Int32)), .unset] [.null, (.ref bb69)])) _
          refine st101 _ ?_
          show Steps p.tables e below (T101.setTop (mkF m 101 #[.val (.int p1), .val (.int p2), .val (.int p3), .val (.ref bb69), .val .null, .val .null, .val (.int (0 : Int32)), .val (.ref bb90), .val (.ref b93), .val (.int (1 : Int32)), .val (.int (1 : Int32)), .unset] [(.ref fb101)])) _
          refine st103.trans ?_
          show Steps p.tables e below (T103.setTop (mkF m 104 #[.val (.int p1), .val (.int p2), .val (.int p3), .val (.ref bb69), .val .null, .val .null, .val (.int (0 : Int32)), .val (.ref bb90), .val (.ref b93), .val (.int (1 : Int32)), .val (.int (1 : Int32)), .unset] [(.int (0 : Int32))])) _
          refine XS.ifNo X103.here hx rfl (hb hby at_104) rfl ((if0 _ _).trans (teq (by decide : (0 : Int32) = (0 : Int32))).2) ?_
          show Steps p.tables e below (T103.setTop (mkF m 107 #[.val (.int p1), .val (.int p2), .val (.int p3), .val (.ref bb69), .val .null, .val .null, .val (.int (0 : Int32)), .val (.ref bb90), .val (.ref b93), .val (.int (1 : Int32)), .val (.int (1 : Int32)), .unset] [])) _
          refine XS.iconst X103.here hx rfl (hb hby at_107) ?_
          show Steps p.tables e below (T103.setTop (mkF m 108 #[.val (.int p1), .val (.int p2), .val (.int p3), .val (.ref bb69), .val .null, .val .null, .val (.int (0 : Int32)), .val (.ref bb90), .val (.ref b93), .val (.int (1 : Int32)), .val (.int (1 : Int32)), .unset] [(.int (1 : Int32))])) _
          refine XS.goto X103.here hx rfl (pc0 := 108) (pc' := 112) rfl (hb hby at_108) (by decide) (by decide) ?_
          show Steps p.tables e below (T103.setTop (mkF m 112 #[.val (.int p1), .val (.int p2), .val (.int p3), .val (.ref bb69), .val .null, .val .null, .val (.int (0 : Int32)), .val (.ref bb90), .val (.ref b93), .val (.int (1 : Int32)), .val (.int (1 : Int32)), .unset] [(.int (1 : Int32))])) _
          refine XS.istore X103.here hx rfl (hb hby at_112) rfl (l' := #[.val (.int p1), .val (.int p2), .val (.int p3), .val (.ref bb69), .val .null, .val .null, .val (.int (0 : Int32)), .val (.ref bb90), .val (.ref b93), .val (.int (1 : Int32)), .val (.int (1 : Int32)), .val (.int (1 : Int32))]) rfl ?_
          show Steps p.tables e below (T103.setTop (mkF m 114 #[.val (.int p1), .val (.int p2), .val (.int p3), .val (.ref bb69), .val .null, .val .null, .val (.int (0 : Int32)), .val (.ref bb90), .val (.ref b93), .val (.int (1 : Int32)), .val (.int (1 : Int32)), .val (.int (1 : Int32))] [])) _
          refine XS.iload X103.here hx rfl (hb hby at_114) rfl ?_
          show Steps p.tables e below (T103.setTop (mkF m 116 #[.val (.int p1), .val (.int p2), .val (.int p3), .val (.ref bb69), .val .null, .val .null, .val (.int (0 : Int32)), .val (.ref bb90), .val (.ref b93), .val (.int (1 : Int32)), .val (.int (1 : Int32)), .val (.int (1 : Int32))] [(.int (1 : Int32))])) _
          refine XS.ifNo X103.here hx rfl (hb hby at_116) rfl ((if0 _ _).trans (feq (by decide : ¬ ((1 : Int32) = (0 : Int32)))).1) ?_
          show Steps p.tables e below (T103.setTop (mkF m 119 #[.val (.int p1), .val (.int p2), .val (.int p3), .val (.ref bb69), .val .null, .val .null, .val (.int (0 : Int32)), .val (.ref bb90), .val (.ref b93), .val (.int (1 : Int32)), .val (.int (1 : Int32)), .val (.int (1 : Int32))] [])) _
          refine XS.iload X103.here hx rfl (hb hby at_119) rfl ?_
          show Steps p.tables e below (T103.setTop (mkF m 121 #[.val (.int p1), .val (.int p2), .val (.int p3), .val (.ref bb69), .val .null, .val .null, .val (.int (0 : Int32)), .val (.ref bb90), .val (.ref b93), .val (.int (1 : Int32)), .val (.int (1 : Int32)), .val (.int (1 : Int32))] [(.int (1 : Int32))])) _
          refine XS.ifNo X103.here hx rfl (hb hby at_121) rfl ((if0 _ _).trans (feq (by decide : ¬ ((1 : Int32) = (0 : Int32)))).1) ?_
          show Steps p.tables e below (T103.setTop (mkF m 124 #[.val (.int p1), .val (.int p2), .val (.int p3), .val (.ref bb69), .val .null, .val .null, .val (.int (0 : Int32)), .val (.ref bb90), .val (.ref b93), .val (.int (1 : Int32)), .val (.int (1 : Int32)), .val (.int (1 : Int32))] [])) _
          refine XS.iload X103.here hx rfl (hb hby at_124) rfl ?_
          show Steps p.tables e below (T103.setTop (mkF m 126 #[.val (.int p1), .val (.int p2), .val (.int p3), .val (.ref bb69), .val .null, .val .null, .val (.int (0 : Int32)), .val (.ref bb90), .val (.ref b93), .val (.int (1 : Int32)), .val (.int (1 : Int32)), .val (.int (1 : Int32))] [(.int (1 : Int32))])) _
          refine XS.ifNo X103.here hx rfl (hb hby at_126) rfl ((if0 _ _).trans (feq (by decide : ¬ ((1 : Int32) = (0 : Int32)))).1) ?_
          show Steps p.tables e below (T103.setTop (mkF m 129 #[.val (.int p1), .val (.int p2), .val (.int p3), .val (.ref bb69), .val .null, .val .null, .val (.int (0 : Int32)), .val (.ref bb90), .val (.ref b93), .val (.int (1 : Int32)), .val (.int (1 : Int32)), .val (.int (1 : Int32))] [])) _
          refine XS.iconst X103.here hx rfl (hb hby at_129) ?_
          show Steps p.tables e below (T103.setTop (mkF m 130 #[.val (.int p1), .val (.int p2), .val (.int p3), .val (.ref bb69), .val .null, .val .null, .val (.int (0 : Int32)), .val (.ref bb90), .val (.ref b93), .val (.int (1 : Int32)), .val (.int (1 : Int32)), .val (.int (1 : Int32))] [(.int (1 : Int32))])) _
          refine XS.goto X103.here hx rfl (pc0 := 130) (pc' := 134) rfl (hb hby at_130) (by decide) (by decide) ?_
          show Steps p.tables e below (T103.setTop (mkF m 134 #[.val (.int p1), .val (.int p2), .val (.int p3), .val (.ref bb69), .val .null, .val .null, .val (.int (0 : Int32)), .val (.ref bb90), .val (.ref b93), .val (.int (1 : Int32)), .val (.int (1 : Int32)), .val (.int (1 : Int32))] [(.int (1 : Int32))])) _
          exact retN X103 hx (t := .boolean) Bd.returns (by simp) (hb hby at_134) hr
        · show Q_rm0 Z p1 p2 p3 cs c_ALERT c_OFF c_MAX_COPIES c_NO_DESTINATION h0 n0 _ T103.heap _
          rw [e103]
          exact ⟨rfl, N103⟩
    · obtain ⟨_, _, ⟨T104, L104, k104, n104⟩, -, X104', hS104', hge104, ⟨Lc104, hQ104, l104, y104, z104, hC104⟩, st104⟩ := callSS X69 hx (y := (⟨"com/example/poolwright/poolwright/CopyStartsPinLaw", "draw", "(III)Ljava/lang/String;"⟩ : MethodName)) hown (mvT hZ (hw _ (List.mem_of_getElem? (i := 0) rfl))) (mvT hZ (hw _ (List.mem_of_getElem? (i := 1) rfl))) (mvT hZ (hw _ (List.mem_of_getElem? (i := 2) rfl))) (mvT hZ (hw _ (List.mem_of_getElem? (i := 3) rfl))) (by decide) (backOfSH (s := s) (vm0 := T69.vm) (W := 0) (rm_d1 l Z a0 hw [] p3 p1 p2 cs T69.heap n0 Z69 hEL f102 hcs hd12) hZ (hw _ (List.mem_of_getElem? (i := 3) rfl)) (hw _ (List.mem_of_getElem? (i := 2) rfl)) (by decide) (by decide) hEL C70.1) (g := (mkF m 12 #[.val (.int p1), .val (.int p2), .val (.int p3), .val (.ref bb69), .unset, .unset, .unset, .unset, .unset, .unset, .unset, .unset] [(.int p2), (.int p1), (.int p3)])) rfl (by rw [hml]; rfl) (argsL := [(.int p3), (.int p1), (.int p2)]) (rest := []) (lenOf pd__III_Ljava_lang_String__1996 rfl) rfl (by show 2 * 0 + _ ≤ _; exact Nat.le_of_eq rfl) (hb hby at_12) (fun _ _ => ⟨rfl, rfl, (by decide : 6 + 6 ≤ _), (by decide : 12 + 12 ≤ _)⟩)
      dsimp only [Pt.U, Pt.locs, Pt.cells, Pt.slots] at X104' hS104' hge104 l104 y104 z104 st104 hQ104 hC104
      subst l104 y104 z104
      have hS104 : s.Since T104.vm T104.heap.size := foldS hS69 hk69 hS104' hge104
      have hZ : Z.Warmed39 (s.setVm T104.vm).vm := State.Warmed39.trans (t := (s.setVm T69.vm)) hZ hS104'.1
      have hown : (s.setVm T104.vm).vm.findClass "com/example/poolwright/poolwright/CopyStartsPinLaw" = some m.cls := by rw [show (s.setVm T104.vm).vm = T104.vm from rfl, hS104'.1.alike.findClass]; exact hown
      have X104 := rebase (vm := T104.vm) X104'
      have C105 : CHr Z own_EL s.vm h0 T104.vm T104.heap := C70.trans hC104
      obtain ⟨bb104, rfl, N104q, K104⟩ := hQ104
      have f149 : Sta Z T104.heap "com/example/poolwright/poolwright/Copy$Refusal" "ALERT" "Lcom/example/poolwright/poolwright/Copy$Refusal;" (.ref c_ALERT) := own_sta f98 K104
      have f150 : Sta Z T104.heap "com/example/poolwright/poolwright/Copy$Refusal" "OFF" "Lcom/example/poolwright/poolwright/Copy$Refusal;" (.ref c_OFF) := own_sta f99 K104
      have f151 : Sta Z T104.heap "com/example/poolwright/poolwright/Copy$Refusal" "MAX_COPIES" "Lcom/example/poolwright/poolwright/Copy$Refusal;" (.ref c_MAX_COPIES) := own_sta f100 K104
      have f152 : Sta Z T104.heap "com/example/poolwright/poolwright/Copy$Refusal" "NO_DESTINATION" "Lcom/example/poolwright/poolwright/Copy$Refusal;" (.ref c_NO_DESTINATION) := own_sta f101 K104
      have f153 : Sta Z T104.heap "java/lang/String" "COMPACT_STRINGS" "Z" (.int cs) := own_sta f102 K104
      have Z104 : n0 ≤ T104.heap.size := Nat.le_trans Z69 K104.1
      have hk104 : T104.heap.size ≤ T104.heap.size := Nat.le_refl _
      have N104 := Fr.app N69 N104q
      have pre_106 : ∀ t, Steps p.tables e below (T104.setTop (mkF m 20 #[.val (.int p1), .val (.int p2), .val (.int p3), .val (.ref bb69), .val (.ref bb104), .unset, .unset, .unset, .unset, .unset, .unset, .unset] [(.int ((p3.toUInt32 >>> ((4 : Int32) &&& 31).toUInt32).toInt32))])) t → Steps p.tables e below (s₁.setTop (entryFrame m #[(.int p1), (.int p2), (.int p3)] maxLocals)) t := by
        intro t kt
        refine pre_71 _ ?_
        show Steps p.tables e below (T69.setTop (mkF m 12 #[.val (.int p1), .val (.int p2), .val (.int p3), .val (.ref bb69), .unset, .unset, .unset, .unset, .unset, .unset, .unset, .unset] [(.int p2), (.int p1), (.int p3)])) _
        refine st104.trans ?_
        show Steps p.tables e below (T104.setTop (mkF m 15 #[.val (.int p1), .val (.int p2), .val (.int p3), .val (.ref bb69), .unset, .unset, .unset, .unset, .unset, .unset, .unset, .unset] [(.ref bb104)])) _
        refine XS.astore X104.here hx rfl (hb hby at_15) rfl rfl (l' := #[.val (.int p1), .val (.int p2), .val (.int p3), .val (.ref bb69), .val (.ref bb104), .unset, .unset, .unset, .unset, .unset, .unset, .unset]) rfl ?_
        show Steps p.tables e below (T104.setTop (mkF m 17 #[.val (.int p1), .val (.int p2), .val (.int p3), .val (.ref bb69), .val (.ref bb104), .unset, .unset, .unset, .unset, .unset, .unset, .unset] [])) _
        refine XS.iloadN X104.here hx rfl (hb hby at_17) rfl ?_
        show Steps p.tables e below (T104.setTop (mkF m 18 #[.val (.int p1), .val (.int p2), .val (.int p3), .val (.ref bb69), .val (.ref bb104), .unset, .unset, .unset, .unset, .unset, .unset, .unset] [(.int p3)])) _
        refine XS.iconst X104.here hx rfl (hb hby at_18) ?_
        show Steps p.tables e below (T104.setTop (mkF m 19 #[.val (.int p1), .val (.int p2), .val (.int p3), .val (.ref bb69), .val (.ref bb104), .unset, .unset, .unset, .unset, .unset, .unset, .unset] [(.int (4 : Int32)), (.int p3)])) _
        refine XS.iushr X104.here hx rfl (hb hby at_19) rfl ?_
        exact kt
      by_cases hd20 : ((((p3.toUInt32 >>> ((4 : Int32) &&& 31).toUInt32).toInt32) &&& (7 : Int32)) = (0 : Int32) ∨ (((p3.toUInt32 >>> ((4 : Int32) &&& 31).toUInt32).toInt32) &&& (7 : Int32)) = (1 : Int32) ∨ (((p3.toUInt32 >>> ((4 : Int32) &&& 31).toUInt32).toInt32) &&& (7 : Int32)) = (2 : Int32) ∨ (((p3.toUInt32 >>> ((4 : Int32) &&& 31).toUInt32).toInt32) &&& (7 : Int32)) = (3 : Int32))
      · obtain ⟨_, _, ⟨T107, L107, k107, n107⟩, -, X107, ⟨Lc107, hQ107, l107, y107, z107⟩, st107⟩ := Jvm.LawKit.callS X104 hx (y := (⟨"com/example/poolwright/poolwright/CopyStartsPinLaw", "pick", "(I)Lcom/example/poolwright/poolwright/Copy$Refusal;"⟩ : MethodName)) hown (mvT hZ (hw _ (List.mem_of_getElem? (i := 34) rfl))) (mvT hZ (hw _ (List.mem_of_getElem? (i := 35) rfl))) (mvT hZ (hw _ (List.mem_of_getElem? (i := 2) rfl))) (mvT hZ (hw _ (List.mem_of_getElem? (i := 36) rfl))) (by decide) (backOf (W := 0) (rm_p1 l Z a0 hw [] ((p3.toUInt32 >>> ((4 : Int32) &&& 31).toUInt32).toInt32) c_ALERT c_OFF c_MAX_COPIES c_NO_DESTINATION T104.heap n0 Z104 f149 f150 f151 f152 hd20) hZ (hw _ (List.mem_of_getElem? (i := 36) rfl)) (hw _ (List.mem_of_getElem? (i := 2) rfl)) (by decide) (by decide)) (g := (mkF m 20 #[.val (.int p1), .val (.int p2), .val (.int p3), .val (.ref bb69), .val (.ref bb104), .unset, .unset, .unset, .unset, .unset, .unset, .unset] [(.int ((p3.toUInt32 >>> ((4 : Int32) &&& 31).toUInt32).toInt32))])) rfl (by rw [hml]; rfl) (argsL := [(.int ((p3.toUInt32 >>> ((4 : Int32) &&& 31).toUInt32).toInt32))]) (rest := []) (lenOf pd__I_Lcom_example_poolwright_poolwright_Copy_Refusal__4919 rfl) rfl (by show 2 * 0 + _ ≤ _; exact Nat.le_of_eq rfl) (hb hby at_20) (fun _ _ => ⟨rfl, rfl, (by decide : 12 + 0 ≤ _), (by decide : 24 + 0 ≤ _)⟩)
        dsimp only [Pt.U, Pt.locs, Pt.cells, Pt.slots] at X107 l107 y107 z107 st107 hQ107
        subst l107 y107 z107
        obtain ⟨rr107, rfl, N107q, e107⟩ := hQ107
        have N107 := Fr.app N104 N107q
        have pre_109 : ∀ t, Steps p.tables e below (T107.setTop (mkF m 48 #[.val (.int p1), .val (.int p2), .val (.int p3), .val (.ref bb69), .val (.ref bb104), .val (.ref rr107), .val (.int (1 : Int32)), .unset, .unset, .unset, .unset, .unset] [(.int p2), (.int p1), (.int ((2 : Int32) + (((p3.toUInt32 >>> ((7 : Int32) &&& 31).toUInt32).toInt32) &&& (1 : Int32))))])) t → Steps p.tables e below (s₁.setTop (entryFrame m #[(.int p1), (.int p2), (.int p3)] maxLocals)) t := by
          intro t kt
          refine pre_106 _ ?_
          show Steps p.tables e below (T104.setTop (mkF m 20 #[.val (.int p1), .val (.int p2), .val (.int p3), .val (.ref bb69), .val (.ref bb104), .unset, .unset, .unset, .unset, .unset, .unset, .unset] [(.int ((p3.toUInt32 >>> ((4 : Int32) &&& 31).toUInt32).toInt32))])) _
          refine st107 _ ?_
          show Steps p.tables e below (T107.setTop (mkF m 23 #[.val (.int p1), .val (.int p2), .val (.int p3), .val (.ref bb69), .val (.ref bb104), .unset, .unset, .unset, .unset, .unset, .unset, .unset] [(.ref rr107)])) _
          refine XS.astore X107.here hx rfl (hb hby at_23) rfl rfl (l' := #[.val (.int p1), .val (.int p2), .val (.int p3), .val (.ref bb69), .val (.ref bb104), .val (.ref rr107), .unset, .unset, .unset, .unset, .unset, .unset]) rfl ?_
          show Steps p.tables e below (T107.setTop (mkF m 25 #[.val (.int p1), .val (.int p2), .val (.int p3), .val (.ref bb69), .val (.ref bb104), .val (.ref rr107), .unset, .unset, .unset, .unset, .unset, .unset] [])) _
          refine XS.iloadN X107.here hx rfl (hb hby at_25) rfl ?_
          show Steps p.tables e below (T107.setTop (mkF m 26 #[.val (.int p1), .val (.int p2), .val (.int p3), .val (.ref bb69), .val (.ref bb104), .val (.ref rr107), .unset, .unset, .unset, .unset, .unset, .unset] [(.int p3)])) _
          refine XS.iconst X107.here hx rfl (hb hby at_26) ?_
          show Steps p.tables e below (T107.setTop (mkF m 27 #[.val (.int p1), .val (.int p2), .val (.int p3), .val (.ref bb69), .val (.ref bb104), .val (.ref rr107), .unset, .unset, .unset, .unset, .unset, .unset] [(.int (3 : Int32)), (.int p3)])) _
          refine XS.iand X107.here hx rfl (hb hby at_27) rfl ?_
          show Steps p.tables e below (T107.setTop (mkF m 28 #[.val (.int p1), .val (.int p2), .val (.int p3), .val (.ref bb69), .val (.ref bb104), .val (.ref rr107), .unset, .unset, .unset, .unset, .unset, .unset] [(.int (p3 &&& (3 : Int32)))])) _
          refine XS.ifNo X107.here hx rfl (hb hby at_28) rfl ((if0 _ _).trans (feq hd12).1) ?_
          show Steps p.tables e below (T107.setTop (mkF m 31 #[.val (.int p1), .val (.int p2), .val (.int p3), .val (.ref bb69), .val (.ref bb104), .val (.ref rr107), .unset, .unset, .unset, .unset, .unset, .unset] [])) _
          refine XS.iconst X107.here hx rfl (hb hby at_31) ?_
          show Steps p.tables e below (T107.setTop (mkF m 32 #[.val (.int p1), .val (.int p2), .val (.int p3), .val (.ref bb69), .val (.ref bb104), .val (.ref rr107), .unset, .unset, .unset, .unset, .unset, .unset] [(.int (1 : Int32))])) _
          refine XS.goto X107.here hx rfl (pc0 := 32) (pc' := 36) rfl (hb hby at_32) (by decide) (by decide) ?_
          show Steps p.tables e below (T107.setTop (mkF m 36 #[.val (.int p1), .val (.int p2), .val (.int p3), .val (.ref bb69), .val (.ref bb104), .val (.ref rr107), .unset, .unset, .unset, .unset, .unset, .unset] [(.int (1 : Int32))])) _
          refine XS.istore X107.here hx rfl (hb hby at_36) rfl (l' := #[.val (.int p1), .val (.int p2), .val (.int p3), .val (.ref bb69), .val (.ref bb104), .val (.ref rr107), .val (.int (1 : Int32)), .unset, .unset, .unset, .unset, .unset]) rfl ?_
          show Steps p.tables e below (T107.setTop (mkF m 38 #[.val (.int p1), .val (.int p2), .val (.int p3), .val (.ref bb69), .val (.ref bb104), .val (.ref rr107), .val (.int (1 : Int32)), .unset, .unset, .unset, .unset, .unset] [])) _
          refine XS.iconst X107.here hx rfl (hb hby at_38) ?_
          show Steps p.tables e below (T107.setTop (mkF m 39 #[.val (.int p1), .val (.int p2), .val (.int p3), .val (.ref bb69), .val (.ref bb104), .val (.ref rr107), .val (.int (1 : Int32)), .unset, .unset, .unset, .unset, .unset] [(.int (2 : Int32))])) _
          refine XS.iloadN X107.here hx rfl (hb hby at_39) rfl ?_
          show Steps p.tables e below (T107.setTop (mkF m 40 #[.val (.int p1), .val (.int p2), .val (.int p3), .val (.ref bb69), .val (.ref bb104), .val (.ref rr107), .val (.int (1 : Int32)), .unset, .unset, .unset, .unset, .unset] [(.int p3), (.int (2 : Int32))])) _
          refine XS.bipush X107.here hx rfl (hb hby at_40) ?_
          show Steps p.tables e below (T107.setTop (mkF m 42 #[.val (.int p1), .val (.int p2), .val (.int p3), .val (.ref bb69), .val (.ref bb104), .val (.ref rr107), .val (.int (1 : Int32)), .unset, .unset, .unset, .unset, .unset] [(.int (7 : Int32)), (.int p3), (.int (2 : Int32))])) _
          refine XS.iushr X107.here hx rfl (hb hby at_42) rfl ?_
          show Steps p.tables e below (T107.setTop (mkF m 43 #[.val (.int p1), .val (.int p2), .val (.int p3), .val (.ref bb69), .val (.ref bb104), .val (.ref rr107), .val (.int (1 : Int32)), .unset, .unset, .unset, .unset, .unset] [(.int ((p3.toUInt32 >>> ((7 : Int32) &&& 31).toUInt32).toInt32)), (.int (2 : Int32))])) _
          refine XS.iconst X107.here hx rfl (hb hby at_43) ?_
          show Steps p.tables e below (T107.setTop (mkF m 44 #[.val (.int p1), .val (.int p2), .val (.int p3), .val (.ref bb69), .val (.ref bb104), .val (.ref rr107), .val (.int (1 : Int32)), .unset, .unset, .unset, .unset, .unset] [(.int (1 : Int32)), (.int ((p3.toUInt32 >>> ((7 : Int32) &&& 31).toUInt32).toInt32)), (.int (2 : Int32))])) _
          refine XS.iand X107.here hx rfl (hb hby at_44) rfl ?_
          show Steps p.tables e below (T107.setTop (mkF m 45 #[.val (.int p1), .val (.int p2), .val (.int p3), .val (.ref bb69), .val (.ref bb104), .val (.ref rr107), .val (.int (1 : Int32)), .unset, .unset, .unset, .unset, .unset] [(.int (((p3.toUInt32 >>> ((7 : Int32) &&& 31).toUInt32).toInt32) &&& (1 : Int32))), (.int (2 : Int32))])) _
          refine XS.iadd X107.here hx rfl (hb hby at_45) rfl ?_
          show Steps p.tables e below (T107.setTop (mkF m 46 #[.val (.int p1), .val (.int p2), .val (.int p3), .val (.ref bb69), .val (.ref bb104), .val (.ref rr107), .val (.int (1 : Int32)), .unset, .unset, .unset, .unset, .unset] [(.int ((2 : Int32) + (((p3.toUInt32 >>> ((7 : Int32) &&& 31).toUInt32).toInt32) &&& (1 : Int32))))])) _
          refine XS.iloadN X107.here hx rfl (hb hby at_46) rfl ?_
          show Steps p.tables e below (T107.setTop (mkF m 47 #[.val (.int p1), .val (.int p2), .val (.int p3), .val (.ref bb69), .val (.ref bb104), .val (.ref rr107), .val (.int (1 : Int32)), .unset, .unset, .unset, .unset, .unset] [(.int p1), (.int ((2 : Int32) + (((p3.toUInt32 >>> ((7 : Int32) &&& 31).toUInt32).toInt32) &&& (1 : Int32))))])) _
          refine XS.iloadN X107.here hx rfl (hb hby at_47) rfl ?_
          exact kt
        obtain ⟨_, _, ⟨T108, L108, k108, n108⟩, -, X108', hS108', hge108, ⟨Lc108, hQ108, l108, y108, z108, hC108⟩, st108⟩ := callSS X107 hx (y := (⟨"com/example/poolwright/poolwright/CopyStartsPinLaw", "draw", "(III)Ljava/lang/String;"⟩ : MethodName)) hown (mvT hZ (hw _ (List.mem_of_getElem? (i := 0) rfl))) (mvT hZ (hw _ (List.mem_of_getElem? (i := 1) rfl))) (mvT hZ (hw _ (List.mem_of_getElem? (i := 2) rfl))) (mvT hZ (hw _ (List.mem_of_getElem? (i := 3) rfl))) (by decide) (backOfSH (s := s) (vm0 := T104.vm) (W := 0) (rm_d1 l Z a0 hw [] ((2 : Int32) + (((p3.toUInt32 >>> ((7 : Int32) &&& 31).toUInt32).toInt32) &&& (1 : Int32))) p1 p2 cs T104.heap n0 Z104 hEL f153 hcs (own_m3 _)) hZ (hw _ (List.mem_of_getElem? (i := 3) rfl)) (hw _ (List.mem_of_getElem? (i := 2) rfl)) (by decide) (by decide) hEL C105.1) (g := (mkF m 48 #[.val (.int p1), .val (.int p2), .val (.int p3), .val (.ref bb69), .val (.ref bb104), .val (.ref rr107), .val (.int (1 : Int32)), .unset, .unset, .unset, .unset, .unset] [(.int p2), (.int p1), (.int ((2 : Int32) + (((p3.toUInt32 >>> ((7 : Int32) &&& 31).toUInt32).toInt32) &&& (1 : Int32))))])) rfl (by rw [hml]; rfl) (argsL := [(.int ((2 : Int32) + (((p3.toUInt32 >>> ((7 : Int32) &&& 31).toUInt32).toInt32) &&& (1 : Int32)))), (.int p1), (.int p2)]) (rest := []) (lenOf pd__III_Ljava_lang_String__1996 rfl) rfl (by show 2 * 0 + _ ≤ _; exact Nat.le_of_eq rfl) (hb hby at_48) (fun _ _ => ⟨rfl, e107, (by decide : 12 + 6 ≤ _), (by decide : 24 + 12 ≤ _)⟩)
        dsimp only [Pt.U, Pt.locs, Pt.cells, Pt.slots] at X108' hS108' hge108 l108 y108 z108 st108 hQ108 hC108
        subst l108 y108 z108
        have hS108 : s.Since T108.vm T108.heap.size := foldS hS104 (by rw [e107]; exact hk104) hS108' hge108
        have hZ : Z.Warmed39 (s.setVm T108.vm).vm := State.Warmed39.trans (t := (s.setVm T104.vm)) hZ hS108'.1
        have hown : (s.setVm T108.vm).vm.findClass "com/example/poolwright/poolwright/CopyStartsPinLaw" = some m.cls := by rw [show (s.setVm T108.vm).vm = T108.vm from rfl, hS108'.1.alike.findClass]; exact hown
        have X108 := rebase (vm := T108.vm) X108'
        have C110 : CHr Z own_EL s.vm h0 T108.vm T108.heap := C105.trans hC108
        obtain ⟨bb108, rfl, N108q, K108⟩ := hQ108
        have f154 : Sta Z T108.heap "com/example/poolwright/poolwright/Copy$Refusal" "ALERT" "Lcom/example/poolwright/poolwright/Copy$Refusal;" (.ref c_ALERT) := own_sta f149 K108
        have f155 : Sta Z T108.heap "com/example/poolwright/poolwright/Copy$Refusal" "OFF" "Lcom/example/poolwright/poolwright/Copy$Refusal;" (.ref c_OFF) := own_sta f150 K108
        have f156 : Sta Z T108.heap "com/example/poolwright/poolwright/Copy$Refusal" "MAX_COPIES" "Lcom/example/poolwright/poolwright/Copy$Refusal;" (.ref c_MAX_COPIES) := own_sta f151 K108
        have f157 : Sta Z T108.heap "com/example/poolwright/poolwright/Copy$Refusal" "NO_DESTINATION" "Lcom/example/poolwright/poolwright/Copy$Refusal;" (.ref c_NO_DESTINATION) := own_sta f152 K108
        have f158 : Sta Z T108.heap "java/lang/String" "COMPACT_STRINGS" "Z" (.int cs) := own_sta f153 K108
        have Z108 : n0 ≤ T108.heap.size := Nat.le_trans Z104 K108.1
        have hk108 : T108.heap.size ≤ T108.heap.size := Nat.le_refl _
        have N108 := Fr.app N107 N108q
        obtain ⟨T111, h111, X111, e111, E111, A111, D111, -, st111⟩ := newO X108 hx hZ hown (hw _ (List.mem_of_getElem? (i := 40) rfl)) (hw _ (List.mem_of_getElem? (i := 41) rfl)) (hw _ (List.mem_of_getElem? (i := 42) rfl)) rfl (g := (mkF m 53 #[.val (.int p1), .val (.int p2), .val (.int p3), .val (.ref bb69), .val (.ref bb104), .val (.ref rr107), .val (.int (1 : Int32)), .val (.ref bb108), .unset, .unset, .unset, .unset] [])) rfl (hb hby at_53) (by decide) (by decide)
        obtain ⟨b111, g111⟩ : ∃ z, z = T108.heap.size := ⟨_, rfl⟩
        rw [← g111] at A111 D111 st111
        have f159 : Sta Z h111 "com/example/poolwright/poolwright/Copy$Refusal" "ALERT" "Lcom/example/poolwright/poolwright/Copy$Refusal;" (.ref c_ALERT) := f154.ext E111
        have f160 : Sta Z h111 "com/example/poolwright/poolwright/Copy$Refusal" "OFF" "Lcom/example/poolwright/poolwright/Copy$Refusal;" (.ref c_OFF) := f155.ext E111
        have f161 : Sta Z h111 "com/example/poolwright/poolwright/Copy$Refusal" "MAX_COPIES" "Lcom/example/poolwright/poolwright/Copy$Refusal;" (.ref c_MAX_COPIES) := f156.ext E111
        have f162 : Sta Z h111 "com/example/poolwright/poolwright/Copy$Refusal" "NO_DESTINATION" "Lcom/example/poolwright/poolwright/Copy$Refusal;" (.ref c_NO_DESTINATION) := f157.ext E111
        have f163 : Sta Z h111 "java/lang/String" "COMPACT_STRINGS" "Z" (.int cs) := f158.ext E111
        have f164 : T108.heap.size ≤ h111.size := Nat.le_trans hk108 E111.1
        have C112 : CHr Z own_EL s.vm h0 T108.vm h111 := C110.trans (CHr.ext E111 C110.1)
        have sf112_b111 : Safe Z own_EL T108.vm h111 b111 := Safe.ext E111 C110.1 (Safe.new (Nat.le_of_eq g111.symm))
        have g_b111 : n0 ≤ b111 := Nat.le_trans Z108 (Nat.le_of_eq g111.symm)
        have Z111 : n0 ≤ h111.size := Nat.le_trans Z108 E111.1
        have F_source_b111 : Fld Z h111 b111 "com/example/poolwright/poolwright/Copy" "source" "Ljava/lang/String;" .null := D111 (Or.inr (hw _ (List.mem_of_getElem? (i := 53) rfl))) (ty := (.object "java/lang/String")) (by decide)
        have F_destination_b111 : Fld Z h111 b111 "com/example/poolwright/poolwright/Copy" "destination" "Ljava/lang/String;" .null := D111 (Or.inr (hw _ (List.mem_of_getElem? (i := 55) rfl))) (ty := (.object "java/lang/String")) (by decide)
        have F_refusal_b111 : Fld Z h111 b111 "com/example/poolwright/poolwright/Copy" "refusal" "Lcom/example/poolwright/poolwright/Copy$Refusal;" .null := D111 (Or.inr (hw _ (List.mem_of_getElem? (i := 57) rfl))) (ty := (.object "com/example/poolwright/poolwright/Copy$Refusal")) (by decide)
        obtain ⟨_, _, ⟨T113, L113, k113, n113⟩, -, X113, ⟨Lc113, hQ113, l113, y113, z113⟩, st113⟩ := X111.specialBack hx (y := (⟨"com/example/poolwright/poolwright/Copy", "<init>", "(Ljava/lang/String;Ljava/lang/String;Lcom/example/poolwright/poolwright/Copy$Refusal;)V"⟩ : MethodName)) rfl hown (mvT hZ (hw _ (List.mem_of_getElem? (i := 43) rfl))) (mvT hZ (hw _ (List.mem_of_getElem? (i := 44) rfl))) (mvT hZ (hw _ (List.mem_of_getElem? (i := 45) rfl))) (by decide) (backOf (W := 1) (rm_cirrr l Z a0 hw [] b111 bb69 bb104 rr107 h111 n0 Z111 F_source_b111 F_destination_b111 F_refusal_b111 A111 g_b111) hZ (hw _ (List.mem_of_getElem? (i := 45) rfl)) (hw _ (List.mem_of_getElem? (i := 42) rfl)) (by decide) (by decide)) (g := (mkF m 62 #[.val (.int p1), .val (.int p2), .val (.int p3), .val (.ref bb69), .val (.ref bb104), .val (.ref rr107), .val (.int (1 : Int32)), .val (.ref bb108), .unset, .unset, .unset, .unset] [(.ref rr107), (.ref bb104), (.ref bb69), (.ref b111), (.ref b111)])) rfl (by rw [hml]; rfl) (Steps.refl _) (a := b111) (argsL := [(.ref bb69), (.ref bb104), (.ref rr107)]) (rest := [(.ref b111)]) (lenOf pd__Ljava_lang_String_Ljava_lang_String_Lcom_example_poolwright_8324 rfl) rfl (by show 2 * 0 + _ ≤ _; exact Nat.le_of_eq rfl) (hb hby at_62) (fun _ _ => ⟨rfl, e111, (by decide : 19 + 0 ≤ _), (by decide : 39 + 0 ≤ _)⟩)
        dsimp only [Pt.U, Pt.locs, Pt.cells, Pt.slots] at X113 l113 y113 z113 st113 hQ113
        subst l113 y113 z113
        obtain ⟨rfl, N113q, K113, fk113_0, fk113_1⟩ := hQ113
        have f165 : T108.heap.size ≤ T113.heap.size := Nat.le_trans f164 K113.1
        have f166 : n0 ≤ b111 := g_b111
        have C114 : CHr Z own_EL s.vm h0 T108.vm T113.heap := C112.trans (CHr.keep K113 (sfS sf112_b111 sf0) C112.1)
        have sf114_b111 : Safe Z own_EL T108.vm T113.heap b111 := Safe.keep K113 (sfS sf112_b111 sf0) C112.1 sf112_b111
        have Z113 : n0 ≤ T113.heap.size := Nat.le_trans Z111 K113.1
        have N113 := Fr.app N108 N113q
        obtain ⟨cq115, kq115, q115a, q115b, q115c⟩ := isOf hZ rfl fk113_0
        obtain ⟨_, _, ⟨T115, L115, k115, n115⟩, -, X115, ⟨Lc115, hQ115, l115, y115, z115⟩, st115⟩ := X113.virtualBack hx (y := (⟨"com/example/poolwright/poolwright/Copy", "starts", "()Z"⟩ : MethodName)) (z := (⟨"com/example/poolwright/poolwright/Copy", "starts", "()Z"⟩ : MethodName)) hown (mvT hZ (hw _ (List.mem_of_getElem? (i := 58) rfl))) (mvT hZ (hw _ (List.mem_of_getElem? (i := 59) rfl))) (notFace_of_selects (args := #[]) (mvT hZ (hw _ (List.mem_of_getElem? (i := 61) rfl)))) (mvT hZ (hw _ (List.mem_of_getElem? (i := 61) rfl))) (mvT hZ (hw _ (List.mem_of_getElem? (i := 60) rfl))) (by decide) (backOf (W := 0) (rm_str l Z a0 hw [] b111 bb104 T113.heap n0 Z113 fk113_1) hZ (hw _ (List.mem_of_getElem? (i := 62) rfl)) (hw _ (List.mem_of_getElem? (i := 42) rfl)) (by decide) (by decide)) q115a q115c (g := (mkF m 69 #[.val (.int p1), .val (.int p2), .val (.int p3), .val (.ref bb69), .val (.ref bb104), .val (.ref rr107), .val (.int (1 : Int32)), .val (.ref bb108), .val (.ref b111), .unset, .unset, .unset] [(.ref b111)])) rfl (by rw [hml]; rfl) (Steps.refl _) (argsL := []) (rest := []) (lenOf pd___Z_171 rfl) rfl (by show 2 * 0 + _ ≤ _; exact Nat.le_of_eq rfl) (hb hby at_69) (fun _ _ => ⟨rfl, rfl, (by decide : 19 + 0 ≤ _), (by decide : 39 + 0 ≤ _)⟩)
        dsimp only [Pt.U, Pt.locs, Pt.cells, Pt.slots] at X115 l115 y115 z115 st115 hQ115
        subst l115 y115 z115
        obtain ⟨rfl, N115q, e115⟩ := hQ115
        have N115 := Fr.app N113 N115q
        obtain ⟨_, _, ⟨T116, L116, k116, n116⟩, -, X116, ⟨Lc116, hQ116, l116, y116, z116⟩, st116⟩ := Jvm.LawKit.callS X115 hx (y := (⟨"com/example/poolwright/poolwright/Copy", "started", "(Ljava/lang/String;Ljava/lang/String;)Lcom/example/poolwright/poolwright/Copy;"⟩ : MethodName)) hown (mvT hZ (hw _ (List.mem_of_getElem? (i := 63) rfl))) (mvT hZ (hw _ (List.mem_of_getElem? (i := 64) rfl))) (mvT hZ (hw _ (List.mem_of_getElem? (i := 42) rfl))) (mvT hZ (hw _ (List.mem_of_getElem? (i := 65) rfl))) (by decide) (backOf (W := 0) (rm_sdr l Z a0 hw [] bb69 bb108 T113.heap n0 Z113 ) hZ (hw _ (List.mem_of_getElem? (i := 65) rfl)) (hw _ (List.mem_of_getElem? (i := 42) rfl)) (by decide) (by decide)) (g := (mkF m 87 #[.val (.int p1), .val (.int p2), .val (.int p3), .val (.ref bb69), .val (.ref bb104), .val (.ref rr107), .val (.int (1 : Int32)), .val (.ref bb108), .val (.ref b111), .val (.int (1 : Int32)), .unset, .unset] [(.ref bb108), (.ref bb69)])) rfl (by rw [hml]; rfl) (argsL := [(.ref bb69), (.ref bb108)]) (rest := []) (lenOf pd__Ljava_lang_String_Ljava_lang_String__Lcom_example_poolwrigh_7480 rfl) rfl (by show 2 * 0 + _ ≤ _; exact Nat.le_of_eq rfl) (hb hby at_87) (fun _ _ => ⟨rfl, e115, (by decide : 19 + 1 ≤ _), (by decide : 39 + 3 ≤ _)⟩)
        dsimp only [Pt.U, Pt.locs, Pt.cells, Pt.slots] at X116 l116 y116 z116 st116 hQ116
        subst l116 y116 z116
        obtain ⟨fb116, rfl, N116q, K116, fk116_0, fk116_1⟩ := hQ116
        have f167 : T108.heap.size ≤ T116.heap.size := Nat.le_trans f165 K116.1
        have f168 : n0 ≤ b111 := f166
        have f169 : Exa Z T116.heap b111 "com/example/poolwright/poolwright/Copy" := fk113_0.keep K116
        have f170 : Fld Z T116.heap b111 "com/example/poolwright/poolwright/Copy" "destination" "Ljava/lang/String;" (.ref bb104) := fk113_1.keep K116 (by simp)
        have C117 : CHr Z own_EL s.vm h0 T108.vm T116.heap := C114.trans (CHr.keep K116 sf0 C114.1)
        have sf117_b111 : Safe Z own_EL T108.vm T116.heap b111 := Safe.keep K116 sf0 C114.1 sf114_b111
        have Z116 : n0 ≤ T116.heap.size := Nat.le_trans Z113 K116.1
        have N116 := Fr.app N115 N116q
        obtain ⟨cq118, kq118, q118a, q118b, q118c⟩ := isOf hZ rfl fk116_0
        obtain ⟨_, _, ⟨T118, L118, k118, n118⟩, -, X118, ⟨Lc118, hQ118, l118, y118, z118⟩, st118⟩ := X116.virtualBack hx (y := (⟨"com/example/poolwright/poolwright/Copy", "starts", "()Z"⟩ : MethodName)) (z := (⟨"com/example/poolwright/poolwright/Copy", "starts", "()Z"⟩ : MethodName)) hown (mvT hZ (hw _ (List.mem_of_getElem? (i := 58) rfl))) (mvT hZ (hw _ (List.mem_of_getElem? (i := 59) rfl))) (notFace_of_selects (args := #[]) (mvT hZ (hw _ (List.mem_of_getElem? (i := 61) rfl)))) (mvT hZ (hw _ (List.mem_of_getElem? (i := 61) rfl))) (mvT hZ (hw _ (List.mem_of_getElem? (i := 60) rfl))) (by decide) (backOf (W := 0) (rm_str l Z a0 hw [] fb116 bb108 T116.heap n0 Z116 fk116_1) hZ (hw _ (List.mem_of_getElem? (i := 62) rfl)) (hw _ (List.mem_of_getElem? (i := 42) rfl)) (by decide) (by decide)) q118a q118c (g := (mkF m 90 #[.val (.int p1), .val (.int p2), .val (.int p3), .val (.ref bb69), .val (.ref bb104), .val (.ref rr107), .val (.int (1 : Int32)), .val (.ref bb108), .val (.ref b111), .val (.int (1 : Int32)), .unset, .unset] [(.ref fb116)])) rfl (by rw [hml]; rfl) (Steps.refl _) (argsL := []) (rest := []) (lenOf pd___Z_171 rfl) rfl (by show 2 * 0 + _ ≤ _; exact Nat.le_of_eq rfl) (hb hby at_90) (fun _ _ => ⟨rfl, rfl, (by decide : 20 + 0 ≤ _), (by decide : 42 + 0 ≤ _)⟩)
        dsimp only [Pt.U, Pt.locs, Pt.cells, Pt.slots] at X118 l118 y118 z118 st118 hQ118
        subst l118 y118 z118
        obtain ⟨rfl, N118q, e118⟩ := hQ118
        have N118 := Fr.app N116 N118q
        obtain ⟨_, _, ⟨T119, L119, k119, n119⟩, -, X119, ⟨Lc119, hQ119, l119, y119, z119⟩, st119⟩ := Jvm.LawKit.callS X118 hx (y := (⟨"com/example/poolwright/poolwright/Copy", "refused", "(Ljava/lang/String;Lcom/example/poolwright/poolwright/Copy$Refusal;)Lcom/example/poolwright/poolwright/Copy;"⟩ : MethodName)) hown (mvT hZ (hw _ (List.mem_of_getElem? (i := 68) rfl))) (mvT hZ (hw _ (List.mem_of_getElem? (i := 69) rfl))) (mvT hZ (hw _ (List.mem_of_getElem? (i := 42) rfl))) (mvT hZ (hw _ (List.mem_of_getElem? (i := 70) rfl))) (by decide) (backOf (W := 0) (rm_rdrr l Z a0 hw [] bb69 rr107 T116.heap n0 Z116 ) hZ (hw _ (List.mem_of_getElem? (i := 70) rfl)) (hw _ (List.mem_of_getElem? (i := 42) rfl)) (by decide) (by decide)) (g := (mkF m 98 #[.val (.int p1), .val (.int p2), .val (.int p3), .val (.ref bb69), .val (.ref bb104), .val (.ref rr107), .val (.int (1 : Int32)), .val (.ref bb108), .val (.ref b111), .val (.int (1 : Int32)), .val (.int (1 : Int32)), .unset] [(.ref rr107), (.ref bb69)])) rfl (by rw [hml]; rfl) (argsL := [(.ref bb69), (.ref rr107)]) (rest := []) (lenOf pd__Ljava_lang_String_Lcom_example_poolwright_poolwright_Copy_R_576 rfl) rfl (by show 2 * 0 + _ ≤ _; exact Nat.le_of_eq rfl) (hb hby at_98) (fun _ _ => ⟨rfl, e118, (by decide : 20 + 1 ≤ _), (by decide : 42 + 3 ≤ _)⟩)
        dsimp only [Pt.U, Pt.locs, Pt.cells, Pt.slots] at X119 l119 y119 z119 st119 hQ119
        subst l119 y119 z119
        obtain ⟨fb119, rfl, N119q, K119, fk119_0, fk119_1⟩ := hQ119
        have f171 : T108.heap.size ≤ T119.heap.size := Nat.le_trans f167 K119.1
        have f172 : n0 ≤ b111 := f168
        have f173 : Exa Z T119.heap b111 "com/example/poolwright/poolwright/Copy" := f169.keep K119
        have f174 : Fld Z T119.heap b111 "com/example/poolwright/poolwright/Copy" "destination" "Ljava/lang/String;" (.ref bb104) := f170.keep K119 (by simp)
        have f175 : Exa Z T119.heap fb116 "com/example/poolwright/poolwright/Copy" := fk116_0.keep K119
        have f176 : Fld Z T119.heap fb116 "com/example/poolwright/poolwright/Copy" "destination" "Ljava/lang/String;" (.ref bb108) := fk116_1.keep K119 (by simp)
        have C120 : CHr Z own_EL s.vm h0 T108.vm T119.heap := C117.trans (CHr.keep K119 sf0 C117.1)
        have sf120_b111 : Safe Z own_EL T108.vm T119.heap b111 := Safe.keep K119 sf0 C117.1 sf117_b111
        have Z119 : n0 ≤ T119.heap.size := Nat.le_trans Z116 K119.1
        have N119 := Fr.app N118 N119q
        obtain ⟨cq121, kq121, q121a, q121b, q121c⟩ := isOf hZ rfl fk119_0
        obtain ⟨_, _, ⟨T121, L121, k121, n121⟩, -, X121, ⟨Lc121, hQ121, l121, y121, z121⟩, st121⟩ := X119.virtualBack hx (y := (⟨"com/example/poolwright/poolwright/Copy", "starts", "()Z"⟩ : MethodName)) (z := (⟨"com/example/poolwright/poolwright/Copy", "starts", "()Z"⟩ : MethodName)) hown (mvT hZ (hw _ (List.mem_of_getElem? (i := 58) rfl))) (mvT hZ (hw _ (List.mem_of_getElem? (i := 59) rfl))) (notFace_of_selects (args := #[]) (mvT hZ (hw _ (List.mem_of_getElem? (i := 61) rfl)))) (mvT hZ (hw _ (List.mem_of_getElem? (i := 61) rfl))) (mvT hZ (hw _ (List.mem_of_getElem? (i := 60) rfl))) (by decide) (backOf (W := 0) (rm_stn l Z a0 hw [] fb119 T119.heap n0 Z119 fk119_1) hZ (hw _ (List.mem_of_getElem? (i := 62) rfl)) (hw _ (List.mem_of_getElem? (i := 42) rfl)) (by decide) (by decide)) q121a q121c (g := (mkF m 101 #[.val (.int p1), .val (.int p2), .val (.int p3), .val (.ref bb69), .val (.ref bb104), .val (.ref rr107), .val (.int (1 : Int32)), .val (.ref bb108), .val (.ref b111), .val (.int (1 : Int32)), .val (.int (1 : Int32)), .unset] [(.ref fb119)])) rfl (by rw [hml]; rfl) (Steps.refl _) (argsL := []) (rest := []) (lenOf pd___Z_171 rfl) rfl (by show 2 * 0 + _ ≤ _; exact Nat.le_of_eq rfl) (hb hby at_101) (fun _ _ => ⟨rfl, rfl, (by decide : 21 + 0 ≤ _), (by decide : 45 + 0 ≤ _)⟩)
        dsimp only [Pt.U, Pt.locs, Pt.cells, Pt.slots] at X121 l121 y121 z121 st121 hQ121
        subst l121 y121 z121
        obtain ⟨rfl, N121q, e121⟩ := hQ121
        have N121 := Fr.app N119 N121q
        obtain ⟨fs, hr, hrun, hended, hRW⟩ := X121.leaveW (s := s) hS108 (by rw [e121]; exact f171) (v := some (.int (1 : Int32))) (fun h => by rw [Bd.returns] at h; cases h) (hlocks := Bd.notSynchronized)
        refine ⟨_, _, pre_109 _ ?_, hrun, hended, _, _, rfl, ?_, (by show CHr Z own_EL s.vm s.heap T121.vm T121.heap; rw [hh, e121]; exact C120.trans (CHv.at (s := s) (vm0 := T108.vm) X121 hZ hEL C120.1)), hRW.1, hRW.2.1, hRW.2.2.1, hRW.2.2.2.mono (by decide) (by decide)⟩
        · show Steps p.tables e below (T107.setTop (mkF m 48 #[.val (.int p1), .val (.int p2), .val (.int p3), .val (.ref bb69), .val (.ref bb104), .val (.ref rr107), .val (.int (1 : Int32)), .unset, .unset, .unset, .unset, .unset] [(.int p2), (.int p1), (.int ((2 : Int32) + (((p3.toUInt32 >>> ((7 : Int32) &&& 31).toUInt32).toInt32) &&& (1 : Int32))))])) _
          refine st108.trans ?_
          show Steps p.tables e below (T108.setTop (mkF m 51 #[.val (.int p1), .val (.int p2), .val (.int p3), .val (.ref bb69), .val (.ref bb104), .val (.ref rr107), .val (.int (1 : Int32)), .unset, .unset, .unset, .unset, .unset] [(.ref bb108)])) _
          refine XS.astore X108.here hx rfl (hb hby at_51) rfl rfl (l' := #[.val (.int p1), .val (.int p2), .val (.int p3), .val (.ref bb69), .val (.ref bb104), .val (.ref rr107), .val (.int (1 : Int32)), .val (.ref bb108), .unset, .unset, .unset, .unset]) rfl ?_
          show Steps p.tables e below (T108.setTop (mkF m 53 #[.val (.int p1), .val (.int p2), .val (.int p3), .val (.ref bb69), .val (.ref bb104), .val (.ref rr107), .val (.int (1 : Int32)), .val (.ref bb108), .unset, .unset, .unset, .unset] [])) _
          refine st111 _ ?_
          show Steps p.tables e below (T111.setTop (mkF m 56 #[.val (.int p1), .val (.int p2), .val (.int p3), .val (.ref bb69), .val (.ref bb104), .val (.ref rr107), .val (.int (1 : Int32)), .val (.ref bb108), .unset, .unset, .unset, .unset] [(.ref b111)])) _
          refine XS.dup X111.here hx rfl (hb hby at_56) rfl rfl ?_
          show Steps p.tables e below (T111.setTop (mkF m 57 #[.val (.int p1), .val (.int p2), .val (.int p3), .val (.ref bb69), .val (.ref bb104), .val (.ref rr107), .val (.int (1 : Int32)), .val (.ref bb108), .unset, .unset, .unset, .unset] [(.ref b111), (.ref b111)])) _
          refine XS.aloadN X111.here hx rfl (hb hby at_57) rfl rfl ?_
          show Steps p.tables e below (T111.setTop (mkF m 58 #[.val (.int p1), .val (.int p2), .val (.int p3), .val (.ref bb69), .val (.ref bb104), .val (.ref rr107), .val (.int (1 : Int32)), .val (.ref bb108), .unset, .unset, .unset, .unset] [(.ref bb69), (.ref b111), (.ref b111)])) _
          refine XS.aload X111.here hx rfl (hb hby at_58) rfl rfl ?_
          show Steps p.tables e below (T111.setTop (mkF m 60 #[.val (.int p1), .val (.int p2), .val (.int p3), .val (.ref bb69), .val (.ref bb104), .val (.ref rr107), .val (.int (1 : Int32)), .val (.ref bb108), .unset, .unset, .unset, .unset] [(.ref bb104), (.ref bb69), (.ref b111), (.ref b111)])) _
          refine XS.aload X111.here hx rfl (hb hby at_60) rfl rfl ?_
          show Steps p.tables e below (T111.setTop (mkF m 62 #[.val (.int p1), .val (.int p2), .val (.int p3), .val (.ref bb69), .val (.ref bb104), .val (.ref rr107), .val (.int (1 : Int32)), .val (.ref bb108), .unset, .unset, .unset, .unset] [(.ref rr107), (.ref bb104), (.ref bb69), (.ref b111), (.ref b111)])) _
          refine st113.trans ?_
          show Steps p.tables e below (T113.setTop (mkF m 65 #[.val (.int p1), .val (.int p2), .val (.int p3), .val (.ref bb69), .val (.ref bb104), .val (.ref rr107), .val (.int (1 : Int32)), .val (.ref bb108), .unset, .unset, .unset, .unset] [(.ref b111)])) _
          refine XS.astore X113.here hx rfl (hb hby at_65) rfl rfl (l' := #[.val (.int p1), .val (.int p2), .val (.int p3), .val (.ref bb69), .val (.ref bb104), .val (.ref rr107), .val (.int (1 : Int32)), .val (.ref bb108), .val (.ref b111), .unset, .unset, .unset]) rfl ?_
          show Steps p.tables e below (T113.setTop (mkF m 67 #[.val (.int p1), .val (.int p2), .val (.int p3), .val (.ref bb69), .val (.ref bb104), .val (.ref rr107), .val (.int (1 : Int32)), .val (.ref bb108), .val (.ref b111), .unset, .unset, .unset] [])) _
          refine XS.aload X113.here hx rfl (hb hby at_67) rfl rfl ?_
          show Steps p.tables e below (T113.setTop (mkF m 69 #[.val (.int p1), .val (.int p2), .val (.int p3), .val (.ref bb69), .val (.ref bb104), .val (.ref rr107), .val (.int (1 : Int32)), .val (.ref bb108), .val (.ref b111), .unset, .unset, .unset] [(.ref b111)])) _
          refine st115.trans ?_
          show Steps p.tables e below (T115.setTop (mkF m 72 #[.val (.int p1), .val (.int p2), .val (.int p3), .val (.ref bb69), .val (.ref bb104), .val (.ref rr107), .val (.int (1 : Int32)), .val (.ref bb108), .val (.ref b111), .unset, .unset, .unset] [(.int (1 : Int32))])) _
          refine XS.iload X115.here hx rfl (hb hby at_72) rfl ?_
          show Steps p.tables e below (T115.setTop (mkF m 74 #[.val (.int p1), .val (.int p2), .val (.int p3), .val (.ref bb69), .val (.ref bb104), .val (.ref rr107), .val (.int (1 : Int32)), .val (.ref bb108), .val (.ref b111), .unset, .unset, .unset] [(.int (1 : Int32)), (.int (1 : Int32))])) _
          refine XS.icmpNo X115.here hx rfl (hb hby at_74) rfl (teq (by decide : (1 : Int32) = (1 : Int32))).2 ?_
          show Steps p.tables e below (T115.setTop (mkF m 77 #[.val (.int p1), .val (.int p2), .val (.int p3), .val (.ref bb69), .val (.ref bb104), .val (.ref rr107), .val (.int (1 : Int32)), .val (.ref bb108), .val (.ref b111), .unset, .unset, .unset] [])) _
          refine XS.iconst X115.here hx rfl (hb hby at_77) ?_
          show Steps p.tables e below (T115.setTop (mkF m 78 #[.val (.int p1), .val (.int p2), .val (.int p3), .val (.ref bb69), .val (.ref bb104), .val (.ref rr107), .val (.int (1 : Int32)), .val (.ref bb108), .val (.ref b111), .unset, .unset, .unset] [(.int (1 : Int32))])) _
          refine XS.goto X115.here hx rfl (pc0 := 78) (pc' := 82) rfl (hb hby at_78) (by decide) (by decide) ?_
          show Steps p.tables e below (T115.setTop (mkF m 82 #[.val (.int p1), .val (.int p2), .val (.int p3), .val (.ref bb69), .val (.ref bb104), .val (.ref rr107), .val (.int (1 : Int32)), .val (.ref bb108), .val (.ref b111), .unset, .unset, .unset] [(.int (1 : Int32))])) _
          refine XS.istore X115.here hx rfl (hb hby at_82) rfl (l' := #[.val (.int p1), .val (.int p2), .val (.int p3), .val (.ref bb69), .val (.ref bb104), .val (.ref rr107), .val (.int (1 : Int32)), .val (.ref bb108), .val (.ref b111), .val (.int (1 : Int32)), .unset, .unset]) rfl ?_
          show Steps p.tables e below (T115.setTop (mkF m 84 #[.val (.int p1), .val (.int p2), .val (.int p3), .val (.ref bb69), .val (.ref bb104), .val (.ref rr107), .val (.int (1 : Int32)), .val (.ref bb108), .val (.ref b111), .val (.int (1 : Int32)), .unset, .unset] [])) _
          refine XS.aloadN X115.here hx rfl (hb hby at_84) rfl rfl ?_
          show Steps p.tables e below (T115.setTop (mkF m 85 #[.val (.int p1), .val (.int p2), .val (.int p3), .val (.ref bb69), .val (.ref bb104), .val (.ref rr107), .val (.int (1 : Int32)), .val (.ref bb108), .val (.ref b111), .val (.int (1 : Int32)), .unset, .unset] [(.ref bb69)])) _
          refine XS.aload X115.here hx rfl (hb hby at_85) rfl rfl ?_
          show Steps p.tables e below (T115.setTop (mkF m 87 #[.val (.int p1), .val (.int p2), .val (.int p3), .val (.ref bb69), .val (.ref bb104), .val (.ref rr107), .val (.int (1 : Int32)), .val (.ref bb108), .val (.ref b111), .val (.int (1 : Int32)), .unset, .unset] [(.ref bb108), (.ref bb69)])) _
          refine st116 _ ?_
          show Steps p.tables e below (T116.setTop (mkF m 90 #[.val (.int p1), .val (.int p2), .val (.int p3), .val (.ref bb69), .val (.ref bb104), .val (.ref rr107), .val (.int (1 : Int32)), .val (.ref bb108), .val (.ref b111), .val (.int (1 : Int32)), .unset, .unset] [(.ref fb116)])) _
          refine st118.trans ?_
          show Steps p.tables e below (T118.setTop (mkF m 93 #[.val (.int p1), .val (.int p2), .val (.int p3), .val (.ref bb69), .val (.ref bb104), .val (.ref rr107), .val (.int (1 : Int32)), .val (.ref bb108), .val (.ref b111), .val (.int (1 : Int32)), .unset, .unset] [(.int (1 : Int32))])) _
          refine XS.istore X118.here hx rfl (hb hby at_93) rfl (l' := #[.val (.int p1), .val (.int p2), .val (.int p3), .val (.ref bb69), .val (.ref bb104), .val (.ref rr107), .val (.int (1 : Int32)), .val (.ref bb108), .val (.ref b111), .val (.int (1 : Int32)), .val (.int (1 : Int32)), .unset]) rfl ?_
          show Steps p.tables e below (T118.setTop (mkF m 95 #[.val (.int p1), .val (.int p2), .val (.int p3), .val (.ref bb69), .val (.ref bb104), .val (.ref rr107), .val (.int (1 : Int32)), .val (.ref bb108), .val (.ref b111), .val (.int (1 : Int32)), .val (.int (1 : Int32)), .unset] [])) _
          refine XS.aloadN X118.here hx rfl (hb hby at_95) rfl rfl ?_
          show Steps p.tables e below (T118.setTop (mkF m 96 #[.val (.int p1), .val (.int p2), .val (.int p3), .val (.ref bb69), .val (.ref bb104), .val (.ref rr107), .val (.int (1 : Int32)), .val (.ref bb108), .val (.ref b111), .val (.int (1 : Int32)), .val (.int (1 : Int32)), .unset] [(.ref bb69)])) _
          refine XS.aload X118.here hx rfl (hb hby at_96) rfl rfl ?_
          show Steps p.tables e below (T118.setTop (mkF m 98 #[.val (.int p1), .val (.int p2), .val (.int p3), .val (.ref bb69), .val (.ref bb104), .val (.ref rr107), .val (.int (1 : Int32)), .val (.ref bb108), .val (.ref b111), .val (.int (1 : Int32)), .val (.int (1 : Int32)), .unset] [(.ref rr107), (.ref bb69)])) _
          refine st119 _ ?_
          show Steps p.tables e below (T119.setTop (mkF m 101 #[.val (.int p1), .val (.int p2), .val (.int p3), .val (.ref bb69), .val (.ref bb104), .val (.ref rr107), .val (.int (1 : Int32)), .val (.ref bb108), .val (.ref b111), .val (.int (1 : Int32)), .val (.int (1 : Int32)), .unset] [(.ref fb119)])) _
          refine st121.trans ?_
          show Steps p.tables e below (T121.setTop (mkF m 104 #[.val (.int p1), .val (.int p2), .val (.int p3), .val (.ref bb69), .val (.ref bb104), .val (.ref rr107), .val (.int (1 : Int32)), .val (.ref bb108), .val (.ref b111), .val (.int (1 : Int32)), .val (.int (1 : Int32)), .unset] [(.int (0 : Int32))])) _
          refine XS.ifNo X121.here hx rfl (hb hby at_104) rfl ((if0 _ _).trans (teq (by decide : (0 : Int32) = (0 : Int32))).2) ?_
          show Steps p.tables e below (T121.setTop (mkF m 107 #[.val (.int p1), .val (.int p2), .val (.int p3), .val (.ref bb69), .val (.ref bb104), .val (.ref rr107), .val (.int (1 : Int32)), .val (.ref bb108), .val (.ref b111), .val (.int (1 : Int32)), .val (.int (1 : Int32)), .unset] [])) _
          refine XS.iconst X121.here hx rfl (hb hby at_107) ?_
          show Steps p.tables e below (T121.setTop (mkF m 108 #[.val (.int p1), .val (.int p2), .val (.int p3), .val (.ref bb69), .val (.ref bb104), .val (.ref rr107), .val (.int (1 : Int32)), .val (.ref bb108), .val (.ref b111), .val (.int (1 : Int32)), .val (.int (1 : Int32)), .unset] [(.int (1 : Int32))])) _
          refine XS.goto X121.here hx rfl (pc0 := 108) (pc' := 112) rfl (hb hby at_108) (by decide) (by decide) ?_
          show Steps p.tables e below (T121.setTop (mkF m 112 #[.val (.int p1), .val (.int p2), .val (.int p3), .val (.ref bb69), .val (.ref bb104), .val (.ref rr107), .val (.int (1 : Int32)), .val (.ref bb108), .val (.ref b111), .val (.int (1 : Int32)), .val (.int (1 : Int32)), .unset] [(.int (1 : Int32))])) _
          refine XS.istore X121.here hx rfl (hb hby at_112) rfl (l' := #[.val (.int p1), .val (.int p2), .val (.int p3), .val (.ref bb69), .val (.ref bb104), .val (.ref rr107), .val (.int (1 : Int32)), .val (.ref bb108), .val (.ref b111), .val (.int (1 : Int32)), .val (.int (1 : Int32)), .val (.int (1 : Int32))]) rfl ?_
          show Steps p.tables e below (T121.setTop (mkF m 114 #[.val (.int p1), .val (.int p2), .val (.int p3), .val (.ref bb69), .val (.ref bb104), .val (.ref rr107), .val (.int (1 : Int32)), .val (.ref bb108), .val (.ref b111), .val (.int (1 : Int32)), .val (.int (1 : Int32)), .val (.int (1 : Int32))] [])) _
          refine XS.iload X121.here hx rfl (hb hby at_114) rfl ?_
          show Steps p.tables e below (T121.setTop (mkF m 116 #[.val (.int p1), .val (.int p2), .val (.int p3), .val (.ref bb69), .val (.ref bb104), .val (.ref rr107), .val (.int (1 : Int32)), .val (.ref bb108), .val (.ref b111), .val (.int (1 : Int32)), .val (.int (1 : Int32)), .val (.int (1 : Int32))] [(.int (1 : Int32))])) _
          refine XS.ifNo X121.here hx rfl (hb hby at_116) rfl ((if0 _ _).trans (feq (by decide : ¬ ((1 : Int32) = (0 : Int32)))).1) ?_
          show Steps p.tables e below (T121.setTop (mkF m 119 #[.val (.int p1), .val (.int p2), .val (.int p3), .val (.ref bb69), .val (.ref bb104), .val (.ref rr107), .val (.int (1 : Int32)), .val (.ref bb108), .val (.ref b111), .val (.int (1 : Int32)), .val (.int (1 : Int32)), .val (.int (1 : Int32))] [])) _
          refine XS.iload X121.here hx rfl (hb hby at_119) rfl ?_
          show Steps p.tables e below (T121.setTop (mkF m 121 #[.val (.int p1), .val (.int p2), .val (.int p3), .val (.ref bb69), .val (.ref bb104), .val (.ref rr107), .val (.int (1 : Int32)), .val (.ref bb108), .val (.ref b111), .val (.int (1 : Int32)), .val (.int (1 : Int32)), .val (.int (1 : Int32))] [(.int (1 : Int32))])) _
          refine XS.ifNo X121.here hx rfl (hb hby at_121) rfl ((if0 _ _).trans (feq (by decide : ¬ ((1 : Int32) = (0 : Int32)))).1) ?_
          show Steps p.tables e below (T121.setTop (mkF m 124 #[.val (.int p1), .val (.int p2), .val (.int p3), .val (.ref bb69), .val (.ref bb104), .val (.ref rr107), .val (.int (1 : Int32)), .val (.ref bb108), .val (.ref b111), .val (.int (1 : Int32)), .val (.int (1 : Int32)), .val (.int (1 : Int32))] [])) _
          refine XS.iload X121.here hx rfl (hb hby at_124) rfl ?_
          show Steps p.tables e below (T121.setTop (mkF m 126 #[.val (.int p1), .val (.int p2), .val (.int p3), .val (.ref bb69), .val (.ref bb104), .val (.ref rr107), .val (.int (1 : Int32)), .val (.ref bb108), .val (.ref b111), .val (.int (1 : Int32)), .val (.int (1 : Int32)), .val (.int (1 : Int32))] [(.int (1 : Int32))])) _
          refine XS.ifNo X121.here hx rfl (hb hby at_126) rfl ((if0 _ _).trans (feq (by decide : ¬ ((1 : Int32) = (0 : Int32)))).1) ?_
          show Steps p.tables e below (T121.setTop (mkF m 129 #[.val (.int p1), .val (.int p2), .val (.int p3), .val (.ref bb69), .val (.ref bb104), .val (.ref rr107), .val (.int (1 : Int32)), .val (.ref bb108), .val (.ref b111), .val (.int (1 : Int32)), .val (.int (1 : Int32)), .val (.int (1 : Int32))] [])) _
          refine XS.iconst X121.here hx rfl (hb hby at_129) ?_
          show Steps p.tables e below (T121.setTop (mkF m 130 #[.val (.int p1), .val (.int p2), .val (.int p3), .val (.ref bb69), .val (.ref bb104), .val (.ref rr107), .val (.int (1 : Int32)), .val (.ref bb108), .val (.ref b111), .val (.int (1 : Int32)), .val (.int (1 : Int32)), .val (.int (1 : Int32))] [(.int (1 : Int32))])) _
          refine XS.goto X121.here hx rfl (pc0 := 130) (pc' := 134) rfl (hb hby at_130) (by decide) (by decide) ?_
          show Steps p.tables e below (T121.setTop (mkF m 134 #[.val (.int p1), .val (.int p2), .val (.int p3), .val (.ref bb69), .val (.ref bb104), .val (.ref rr107), .val (.int (1 : Int32)), .val (.ref bb108), .val (.ref b111), .val (.int (1 : Int32)), .val (.int (1 : Int32)), .val (.int (1 : Int32))] [(.int (1 : Int32))])) _
          exact retN X121 hx (t := .boolean) Bd.returns (by simp) (hb hby at_134) hr
        · show Q_rm0 Z p1 p2 p3 cs c_ALERT c_OFF c_MAX_COPIES c_NO_DESTINATION h0 n0 _ T121.heap _
          rw [e121]
          exact ⟨rfl, N121⟩
      · obtain ⟨_, _, ⟨T122, L122, k122, n122⟩, -, X122, ⟨Lc122, hQ122, l122, y122, z122⟩, st122⟩ := Jvm.LawKit.callS X104 hx (y := (⟨"com/example/poolwright/poolwright/CopyStartsPinLaw", "pick", "(I)Lcom/example/poolwright/poolwright/Copy$Refusal;"⟩ : MethodName)) hown (mvT hZ (hw _ (List.mem_of_getElem? (i := 34) rfl))) (mvT hZ (hw _ (List.mem_of_getElem? (i := 35) rfl))) (mvT hZ (hw _ (List.mem_of_getElem? (i := 2) rfl))) (mvT hZ (hw _ (List.mem_of_getElem? (i := 36) rfl))) (by decide) (backOf (W := 0) (rm_p0 l Z a0 hw [] ((p3.toUInt32 >>> ((4 : Int32) &&& 31).toUInt32).toInt32) T104.heap n0 Z104 hd20) hZ (hw _ (List.mem_of_getElem? (i := 36) rfl)) (hw _ (List.mem_of_getElem? (i := 2) rfl)) (by decide) (by decide)) (g := (mkF m 20 #[.val (.int p1), .val (.int p2), .val (.int p3), .val (.ref bb69), .val (.ref bb104), .unset, .unset, .unset, .unset, .unset, .unset, .unset] [(.int ((p3.toUInt32 >>> ((4 : Int32) &&& 31).toUInt32).toInt32))])) rfl (by rw [hml]; rfl) (argsL := [(.int ((p3.toUInt32 >>> ((4 : Int32) &&& 31).toUInt32).toInt32))]) (rest := []) (lenOf pd__I_Lcom_example_poolwright_poolwright_Copy_Refusal__4919 rfl) rfl (by show 2 * 0 + _ ≤ _; exact Nat.le_of_eq rfl) (hb hby at_20) (fun _ _ => ⟨rfl, rfl, (by decide : 12 + 0 ≤ _), (by decide : 24 + 0 ≤ _)⟩)
        dsimp only [Pt.U, Pt.locs, Pt.cells, Pt.slots] at X122 l122 y122 z122 st122 hQ122
        subst l122 y122 z122
        obtain ⟨rfl, N122q, e122⟩ := hQ122
        have N122 := Fr.app N104 N122q
        have pre_124 : ∀ t, Steps p.tables e below (T122.setTop (mkF m 48 #[.val (.int p1), .val (.int p2), .val (.int p3), .val (.ref bb69), .val (.ref bb104), .val .null, .val (.int (1 : Int32)), .unset, .unset, .unset, .unset, .unset] [(.int p2), (.int p1), (.int ((2 : Int32) + (((p3.toUInt32 >>> ((7 : Int32) &&& 31).toUInt32).toInt32) &&& (1 : Int32))))])) t → Steps p.tables e below (s₁.setTop (entryFrame m #[(.int p1), (.int p2), (.int p3)] maxLocals)) t := by
          intro t kt
          refine pre_106 _ ?_
          show Steps p.tables e below (T104.setTop (mkF m 20 #[.val (.int p1), .val (.int p2), .val (.int p3), .val (.ref bb69), .val (.ref bb104), .unset, .unset, .unset, .unset, .unset, .unset, .unset] [(.int ((p3.toUInt32 >>> ((4 : Int32) &&& 31).toUInt32).toInt32))])) _
          refine st122 _ ?_
          show Steps p.tables e below (T122.setTop (mkF m 23 #[.val (.int p1), .val (.int p2), .val (.int p3), .val (.ref bb69), .val (.ref bb104), .unset, .unset, .unset, .unset, .unset, .unset, .unset] [.null])) _
          refine XS.astore X122.here hx rfl (hb hby at_23) rfl rfl (l' := #[.val (.int p1), .val (.int p2), .val (.int p3), .val (.ref bb69), .val (.ref bb104), .val .null, .unset, .unset, .unset, .unset, .unset, .unset]) rfl ?_
          show Steps p.tables e below (T122.setTop (mkF m 25 #[.val (.int p1), .val (.int p2), .val (.int p3), .val (.ref bb69), .val (.ref bb104), .val .null, .unset, .unset, .unset, .unset, .unset, .unset] [])) _
          refine XS.iloadN X122.here hx rfl (hb hby at_25) rfl ?_
          show Steps p.tables e below (T122.setTop (mkF m 26 #[.val (.int p1), .val (.int p2), .val (.int p3), .val (.ref bb69), .val (.ref bb104), .val .null, .unset, .unset, .unset, .unset, .unset, .unset] [(.int p3)])) _
          refine XS.iconst X122.here hx rfl (hb hby at_26) ?_
          show Steps p.tables e below (T122.setTop (mkF m 27 #[.val (.int p1), .val (.int p2), .val (.int p3), .val (.ref bb69), .val (.ref bb104), .val .null, .unset, .unset, .unset, .unset, .unset, .unset] [(.int (3 : Int32)), (.int p3)])) _
          refine XS.iand X122.here hx rfl (hb hby at_27) rfl ?_
          show Steps p.tables e below (T122.setTop (mkF m 28 #[.val (.int p1), .val (.int p2), .val (.int p3), .val (.ref bb69), .val (.ref bb104), .val .null, .unset, .unset, .unset, .unset, .unset, .unset] [(.int (p3 &&& (3 : Int32)))])) _
          refine XS.ifNo X122.here hx rfl (hb hby at_28) rfl ((if0 _ _).trans (feq hd12).1) ?_
          show Steps p.tables e below (T122.setTop (mkF m 31 #[.val (.int p1), .val (.int p2), .val (.int p3), .val (.ref bb69), .val (.ref bb104), .val .null, .unset, .unset, .unset, .unset, .unset, .unset] [])) _
          refine XS.iconst X122.here hx rfl (hb hby at_31) ?_
          show Steps p.tables e below (T122.setTop (mkF m 32 #[.val (.int p1), .val (.int p2), .val (.int p3), .val (.ref bb69), .val (.ref bb104), .val .null, .unset, .unset, .unset, .unset, .unset, .unset] [(.int (1 : Int32))])) _
          refine XS.goto X122.here hx rfl (pc0 := 32) (pc' := 36) rfl (hb hby at_32) (by decide) (by decide) ?_
          show Steps p.tables e below (T122.setTop (mkF m 36 #[.val (.int p1), .val (.int p2), .val (.int p3), .val (.ref bb69), .val (.ref bb104), .val .null, .unset, .unset, .unset, .unset, .unset, .unset] [(.int (1 : Int32))])) _
          refine XS.istore X122.here hx rfl (hb hby at_36) rfl (l' := #[.val (.int p1), .val (.int p2), .val (.int p3), .val (.ref bb69), .val (.ref bb104), .val .null, .val (.int (1 : Int32)), .unset, .unset, .unset, .unset, .unset]) rfl ?_
          show Steps p.tables e below (T122.setTop (mkF m 38 #[.val (.int p1), .val (.int p2), .val (.int p3), .val (.ref bb69), .val (.ref bb104), .val .null, .val (.int (1 : Int32)), .unset, .unset, .unset, .unset, .unset] [])) _
          refine XS.iconst X122.here hx rfl (hb hby at_38) ?_
          show Steps p.tables e below (T122.setTop (mkF m 39 #[.val (.int p1), .val (.int p2), .val (.int p3), .val (.ref bb69), .val (.ref bb104), .val .null, .val (.int (1 : Int32)), .unset, .unset, .unset, .unset, .unset] [(.int (2 : Int32))])) _
          refine XS.iloadN X122.here hx rfl (hb hby at_39) rfl ?_
          show Steps p.tables e below (T122.setTop (mkF m 40 #[.val (.int p1), .val (.int p2), .val (.int p3), .val (.ref bb69), .val (.ref bb104), .val .null, .val (.int (1 : Int32)), .unset, .unset, .unset, .unset, .unset] [(.int p3), (.int (2 : Int32))])) _
          refine XS.bipush X122.here hx rfl (hb hby at_40) ?_
          show Steps p.tables e below (T122.setTop (mkF m 42 #[.val (.int p1), .val (.int p2), .val (.int p3), .val (.ref bb69), .val (.ref bb104), .val .null, .val (.int (1 : Int32)), .unset, .unset, .unset, .unset, .unset] [(.int (7 : Int32)), (.int p3), (.int (2 : Int32))])) _
          refine XS.iushr X122.here hx rfl (hb hby at_42) rfl ?_
          show Steps p.tables e below (T122.setTop (mkF m 43 #[.val (.int p1), .val (.int p2), .val (.int p3), .val (.ref bb69), .val (.ref bb104), .val .null, .val (.int (1 : Int32)), .unset, .unset, .unset, .unset, .unset] [(.int ((p3.toUInt32 >>> ((7 : Int32) &&& 31).toUInt32).toInt32)), (.int (2 : Int32))])) _
          refine XS.iconst X122.here hx rfl (hb hby at_43) ?_
          show Steps p.tables e below (T122.setTop (mkF m 44 #[.val (.int p1), .val (.int p2), .val (.int p3), .val (.ref bb69), .val (.ref bb104), .val .null, .val (.int (1 : Int32)), .unset, .unset, .unset, .unset, .unset] [(.int (1 : Int32)), (.int ((p3.toUInt32 >>> ((7 : Int32) &&& 31).toUInt32).toInt32)), (.int (2 : Int32))])) _
          refine XS.iand X122.here hx rfl (hb hby at_44) rfl ?_
          show Steps p.tables e below (T122.setTop (mkF m 45 #[.val (.int p1), .val (.int p2), .val (.int p3), .val (.ref bb69), .val (.ref bb104), .val .null, .val (.int (1 : Int32)), .unset, .unset, .unset, .unset, .unset] [(.int (((p3.toUInt32 >>> ((7 : Int32) &&& 31).toUInt32).toInt32) &&& (1 : Int32))), (.int (2 : Int32))])) _
          refine XS.iadd X122.here hx rfl (hb hby at_45) rfl ?_
          show Steps p.tables e below (T122.setTop (mkF m 46 #[.val (.int p1), .val (.int p2), .val (.int p3), .val (.ref bb69), .val (.ref bb104), .val .null, .val (.int (1 : Int32)), .unset, .unset, .unset, .unset, .unset] [(.int ((2 : Int32) + (((p3.toUInt32 >>> ((7 : Int32) &&& 31).toUInt32).toInt32) &&& (1 : Int32))))])) _
          refine XS.iloadN X122.here hx rfl (hb hby at_46) rfl ?_
          show Steps p.tables e below (T122.setTop (mkF m 47 #[.val (.int p1), .val (.int p2), .val (.int p3), .val (.ref bb69), .val (.ref bb104), .val .null, .val (.int (1 : Int32)), .unset, .unset, .unset, .unset, .unset] [(.int p1), (.int ((2 : Int32) + (((p3.toUInt32 >>> ((7 : Int32) &&& 31).toUInt32).toInt32) &&& (1 : Int32))))])) _
          refine XS.iloadN X122.here hx rfl (hb hby at_47) rfl ?_
          exact kt
        obtain ⟨_, _, ⟨T123, L123, k123, n123⟩, -, X123', hS123', hge123, ⟨Lc123, hQ123, l123, y123, z123, hC123⟩, st123⟩ := callSS X122 hx (y := (⟨"com/example/poolwright/poolwright/CopyStartsPinLaw", "draw", "(III)Ljava/lang/String;"⟩ : MethodName)) hown (mvT hZ (hw _ (List.mem_of_getElem? (i := 0) rfl))) (mvT hZ (hw _ (List.mem_of_getElem? (i := 1) rfl))) (mvT hZ (hw _ (List.mem_of_getElem? (i := 2) rfl))) (mvT hZ (hw _ (List.mem_of_getElem? (i := 3) rfl))) (by decide) (backOfSH (s := s) (vm0 := T104.vm) (W := 0) (rm_d1 l Z a0 hw [] ((2 : Int32) + (((p3.toUInt32 >>> ((7 : Int32) &&& 31).toUInt32).toInt32) &&& (1 : Int32))) p1 p2 cs T104.heap n0 Z104 hEL f153 hcs (own_m3 _)) hZ (hw _ (List.mem_of_getElem? (i := 3) rfl)) (hw _ (List.mem_of_getElem? (i := 2) rfl)) (by decide) (by decide) hEL C105.1) (g := (mkF m 48 #[.val (.int p1), .val (.int p2), .val (.int p3), .val (.ref bb69), .val (.ref bb104), .val .null, .val (.int (1 : Int32)), .unset, .unset, .unset, .unset, .unset] [(.int p2), (.int p1), (.int ((2 : Int32) + (((p3.toUInt32 >>> ((7 : Int32) &&& 31).toUInt32).toInt32) &&& (1 : Int32))))])) rfl (by rw [hml]; rfl) (argsL := [(.int ((2 : Int32) + (((p3.toUInt32 >>> ((7 : Int32) &&& 31).toUInt32).toInt32) &&& (1 : Int32)))), (.int p1), (.int p2)]) (rest := []) (lenOf pd__III_Ljava_lang_String__1996 rfl) rfl (by show 2 * 0 + _ ≤ _; exact Nat.le_of_eq rfl) (hb hby at_48) (fun _ _ => ⟨rfl, e122, (by decide : 12 + 6 ≤ _), (by decide : 24 + 12 ≤ _)⟩)
        dsimp only [Pt.U, Pt.locs, Pt.cells, Pt.slots] at X123' hS123' hge123 l123 y123 z123 st123 hQ123 hC123
        subst l123 y123 z123
        have hS123 : s.Since T123.vm T123.heap.size := foldS hS104 (by rw [e122]; exact hk104) hS123' hge123
        have hZ : Z.Warmed39 (s.setVm T123.vm).vm := State.Warmed39.trans (t := (s.setVm T104.vm)) hZ hS123'.1
        have hown : (s.setVm T123.vm).vm.findClass "com/example/poolwright/poolwright/CopyStartsPinLaw" = some m.cls := by rw [show (s.setVm T123.vm).vm = T123.vm from rfl, hS123'.1.alike.findClass]; exact hown
        have X123 := rebase (vm := T123.vm) X123'
        have C125 : CHr Z own_EL s.vm h0 T123.vm T123.heap := C105.trans hC123
        obtain ⟨bb123, rfl, N123q, K123⟩ := hQ123
        have f177 : Sta Z T123.heap "com/example/poolwright/poolwright/Copy$Refusal" "ALERT" "Lcom/example/poolwright/poolwright/Copy$Refusal;" (.ref c_ALERT) := own_sta f149 K123
        have f178 : Sta Z T123.heap "com/example/poolwright/poolwright/Copy$Refusal" "OFF" "Lcom/example/poolwright/poolwright/Copy$Refusal;" (.ref c_OFF) := own_sta f150 K123
        have f179 : Sta Z T123.heap "com/example/poolwright/poolwright/Copy$Refusal" "MAX_COPIES" "Lcom/example/poolwright/poolwright/Copy$Refusal;" (.ref c_MAX_COPIES) := own_sta f151 K123
        have f180 : Sta Z T123.heap "com/example/poolwright/poolwright/Copy$Refusal" "NO_DESTINATION" "Lcom/example/poolwright/poolwright/Copy$Refusal;" (.ref c_NO_DESTINATION) := own_sta f152 K123
        have f181 : Sta Z T123.heap "java/lang/String" "COMPACT_STRINGS" "Z" (.int cs) := own_sta f153 K123
        have Z123 : n0 ≤ T123.heap.size := Nat.le_trans Z104 K123.1
        have hk123 : T123.heap.size ≤ T123.heap.size := Nat.le_refl _
        have N123 := Fr.app N122 N123q
        obtain ⟨T126, h126, X126, e126, E126, A126, D126, -, st126⟩ := newO X123 hx hZ hown (hw _ (List.mem_of_getElem? (i := 40) rfl)) (hw _ (List.mem_of_getElem? (i := 41) rfl)) (hw _ (List.mem_of_getElem? (i := 42) rfl)) rfl (g := (mkF m 53 #[.val (.int p1), .val (.int p2), .val (.int p3), .val (.ref bb69), .val (.ref bb104), .val .null, .val (.int (1 : Int32)), .val (.ref bb123), .unset, .unset, .unset, .unset] [])) rfl (hb hby at_53) (by decide) (by decide)
        obtain ⟨b126, g126⟩ : ∃ z, z = T123.heap.size := ⟨_, rfl⟩
        rw [← g126] at A126 D126 st126
        have f182 : Sta Z h126 "com/example/poolwright/poolwright/Copy$Refusal" "ALERT" "Lcom/example/poolwright/poolwright/Copy$Refusal;" (.ref c_ALERT) := f177.ext E126
        have f183 : Sta Z h126 "com/example/poolwright/poolwright/Copy$Refusal" "OFF" "Lcom/example/poolwright/poolwright/Copy$Refusal;" (.ref c_OFF) := f178.ext E126
        have f184 : Sta Z h126 "com/example/poolwright/poolwright/Copy$Refusal" "MAX_COPIES" "Lcom/example/poolwright/poolwright/Copy$Refusal;" (.ref c_MAX_COPIES) := f179.ext E126
        have f185 : Sta Z h126 "com/example/poolwright/poolwright/Copy$Refusal" "NO_DESTINATION" "Lcom/example/poolwright/poolwright/Copy$Refusal;" (.ref c_NO_DESTINATION) := f180.ext E126
        have f186 : Sta Z h126 "java/lang/String" "COMPACT_STRINGS" "Z" (.int cs) := f181.ext E126
        have f187 : T123.heap.size ≤ h126.size := Nat.le_trans hk123 E126.1
        have C127 : CHr Z own_EL s.vm h0 T123.vm h126 := C125.trans (CHr.ext E126 C125.1)
        have sf127_b126 : Safe Z own_EL T123.vm h126 b126 := Safe.ext E126 C125.1 (Safe.new (Nat.le_of_eq g126.symm))
        have g_b126 : n0 ≤ b126 := Nat.le_trans Z123 (Nat.le_of_eq g126.symm)
        have Z126 : n0 ≤ h126.size := Nat.le_trans Z123 E126.1
        have F_source_b126 : Fld Z h126 b126 "com/example/poolwright/poolwright/Copy" "source" "Ljava/lang/String;" .null := D126 (Or.inr (hw _ (List.mem_of_getElem? (i := 53) rfl))) (ty := (.object "java/lang/String")) (by decide)
        have F_destination_b126 : Fld Z h126 b126 "com/example/poolwright/poolwright/Copy" "destination" "Ljava/lang/String;" .null := D126 (Or.inr (hw _ (List.mem_of_getElem? (i := 55) rfl))) (ty := (.object "java/lang/String")) (by decide)
        have F_refusal_b126 : Fld Z h126 b126 "com/example/poolwright/poolwright/Copy" "refusal" "Lcom/example/poolwright/poolwright/Copy$Refusal;" .null := D126 (Or.inr (hw _ (List.mem_of_getElem? (i := 57) rfl))) (ty := (.object "com/example/poolwright/poolwright/Copy$Refusal")) (by decide)
        obtain ⟨_, _, ⟨T128, L128, k128, n128⟩, -, X128, ⟨Lc128, hQ128, l128, y128, z128⟩, st128⟩ := X126.specialBack hx (y := (⟨"com/example/poolwright/poolwright/Copy", "<init>", "(Ljava/lang/String;Ljava/lang/String;Lcom/example/poolwright/poolwright/Copy$Refusal;)V"⟩ : MethodName)) rfl hown (mvT hZ (hw _ (List.mem_of_getElem? (i := 43) rfl))) (mvT hZ (hw _ (List.mem_of_getElem? (i := 44) rfl))) (mvT hZ (hw _ (List.mem_of_getElem? (i := 45) rfl))) (by decide) (backOf (W := 1) (rm_cirrn l Z a0 hw [] b126 bb69 bb104 h126 n0 Z126 F_source_b126 F_destination_b126 F_refusal_b126 A126 g_b126) hZ (hw _ (List.mem_of_getElem? (i := 45) rfl)) (hw _ (List.mem_of_getElem? (i := 42) rfl)) (by decide) (by decide)) (g := (mkF m 62 #[.val (.int p1), .val (.int p2), .val (.int p3), .val (.ref bb69), .val (.ref bb104), .val .null, .val (.int (1 : Int32)), .val (.ref bb123), .unset, .unset, .unset, .unset] [.null, (.ref bb104), (.ref bb69), (.ref b126), (.ref b126)])) rfl (by rw [hml]; rfl) (Steps.refl _) (a := b126) (argsL := [(.ref bb69), (.ref bb104), .null]) (rest := [(.ref b126)]) (lenOf pd__Ljava_lang_String_Ljava_lang_String_Lcom_example_poolwright_8324 rfl) rfl (by show 2 * 0 + _ ≤ _; exact Nat.le_of_eq rfl) (hb hby at_62) (fun _ _ => ⟨rfl, e126, (by decide : 19 + 0 ≤ _), (by decide : 39 + 0 ≤ _)⟩)
        dsimp only [Pt.U, Pt.locs, Pt.cells, Pt.slots] at X128 l128 y128 z128 st128 hQ128
        subst l128 y128 z128
        obtain ⟨rfl, N128q, K128, fk128_0, fk128_1⟩ := hQ128
        have f188 : T123.heap.size ≤ T128.heap.size := Nat.le_trans f187 K128.1
        have f189 : n0 ≤ b126 := g_b126
        have C129 : CHr Z own_EL s.vm h0 T123.vm T128.heap := C127.trans (CHr.keep K128 (sfS sf127_b126 sf0) C127.1)
        have sf129_b126 : Safe Z own_EL T123.vm T128.heap b126 := Safe.keep K128 (sfS sf127_b126 sf0) C127.1 sf127_b126
        have Z128 : n0 ≤ T128.heap.size := Nat.le_trans Z126 K128.1
        have N128 := Fr.app N123 N128q
        obtain ⟨cq130, kq130, q130a, q130b, q130c⟩ := isOf hZ rfl fk128_0
        obtain ⟨_, _, ⟨T130, L130, k130, n130⟩, -, X130, ⟨Lc130, hQ130, l130, y130, z130⟩, st130⟩ := X128.virtualBack hx (y := (⟨"com/example/poolwright/poolwright/Copy", "starts", "()Z"⟩ : MethodName)) (z := (⟨"com/example/poolwright/poolwright/Copy", "starts", "()Z"⟩ : MethodName)) hown (mvT hZ (hw _ (List.mem_of_getElem? (i := 58) rfl))) (mvT hZ (hw _ (List.mem_of_getElem? (i := 59) rfl))) (notFace_of_selects (args := #[]) (mvT hZ (hw _ (List.mem_of_getElem? (i := 61) rfl)))) (mvT hZ (hw _ (List.mem_of_getElem? (i := 61) rfl))) (mvT hZ (hw _ (List.mem_of_getElem? (i := 60) rfl))) (by decide) (backOf (W := 0) (rm_str l Z a0 hw [] b126 bb104 T128.heap n0 Z128 fk128_1) hZ (hw _ (List.mem_of_getElem? (i := 62) rfl)) (hw _ (List.mem_of_getElem? (i := 42) rfl)) (by decide) (by decide)) q130a q130c (g := (mkF m 69 #[.val (.int p1), .val (.int p2), .val (.int p3), .val (.ref bb69), .val (.ref bb104), .val .null, .val (.int (1 : Int32)), .val (.ref bb123), .val (.ref b126), .unset, .unset, .unset] [(.ref b126)])) rfl (by rw [hml]; rfl) (Steps.refl _) (argsL := []) (rest := []) (lenOf pd___Z_171 rfl) rfl (by show 2 * 0 + _ ≤ _; exact Nat.le_of_eq rfl) (hb hby at_69) (fun _ _ => ⟨rfl, rfl, (by decide : 19 + 0 ≤ _), (by decide : 39 + 0 ≤ _)⟩)
        dsimp only [Pt.U, Pt.locs, Pt.cells, Pt.slots] at X130 l130 y130 z130 st130 hQ130
        subst l130 y130 z130
        obtain ⟨rfl, N130q, e130⟩ := hQ130
        have N130 := Fr.app N128 N130q
        obtain ⟨_, _, ⟨T131, L131, k131, n131⟩, -, X131, ⟨Lc131, hQ131, l131, y131, z131⟩, st131⟩ := Jvm.LawKit.callS X130 hx (y := (⟨"com/example/poolwright/poolwright/Copy", "started", "(Ljava/lang/String;Ljava/lang/String;)Lcom/example/poolwright/poolwright/Copy;"⟩ : MethodName)) hown (mvT hZ (hw _ (List.mem_of_getElem? (i := 63) rfl))) (mvT hZ (hw _ (List.mem_of_getElem? (i := 64) rfl))) (mvT hZ (hw _ (List.mem_of_getElem? (i := 42) rfl))) (mvT hZ (hw _ (List.mem_of_getElem? (i := 65) rfl))) (by decide) (backOf (W := 0) (rm_sdr l Z a0 hw [] bb69 bb123 T128.heap n0 Z128 ) hZ (hw _ (List.mem_of_getElem? (i := 65) rfl)) (hw _ (List.mem_of_getElem? (i := 42) rfl)) (by decide) (by decide)) (g := (mkF m 87 #[.val (.int p1), .val (.int p2), .val (.int p3), .val (.ref bb69), .val (.ref bb104), .val .null, .val (.int (1 : Int32)), .val (.ref bb123), .val (.ref b126), .val (.int (1 : Int32)), .unset, .unset] [(.ref bb123), (.ref bb69)])) rfl (by rw [hml]; rfl) (argsL := [(.ref bb69), (.ref bb123)]) (rest := []) (lenOf pd__Ljava_lang_String_Ljava_lang_String__Lcom_example_poolwrigh_7480 rfl) rfl (by show 2 * 0 + _ ≤ _; exact Nat.le_of_eq rfl) (hb hby at_87) (fun _ _ => ⟨rfl, e130, (by decide : 19 + 1 ≤ _), (by decide : 39 + 3 ≤ _)⟩)
        dsimp only [Pt.U, Pt.locs, Pt.cells, Pt.slots] at X131 l131 y131 z131 st131 hQ131
        subst l131 y131 z131
        obtain ⟨fb131, rfl, N131q, K131, fk131_0, fk131_1⟩ := hQ131
        have f190 : T123.heap.size ≤ T131.heap.size := Nat.le_trans f188 K131.1
        have f191 : n0 ≤ b126 := f189
        have f192 : Exa Z T131.heap b126 "com/example/poolwright/poolwright/Copy" := fk128_0.keep K131
        have f193 : Fld Z T131.heap b126 "com/example/poolwright/poolwright/Copy" "destination" "Ljava/lang/String;" (.ref bb104) := fk128_1.keep K131 (by simp)
        have C132 : CHr Z own_EL s.vm h0 T123.vm T131.heap := C129.trans (CHr.keep K131 sf0 C129.1)
        have sf132_b126 : Safe Z own_EL T123.vm T131.heap b126 := Safe.keep K131 sf0 C129.1 sf129_b126
        have Z131 : n0 ≤ T131.heap.size := Nat.le_trans Z128 K131.1
        have N131 := Fr.app N130 N131q
        obtain ⟨cq133, kq133, q133a, q133b, q133c⟩ := isOf hZ rfl fk131_0
        obtain ⟨_, _, ⟨T133, L133, k133, n133⟩, -, X133, ⟨Lc133, hQ133, l133, y133, z133⟩, st133⟩ := X131.virtualBack hx (y := (⟨"com/example/poolwright/poolwright/Copy", "starts", "()Z"⟩ : MethodName)) (z := (⟨"com/example/poolwright/poolwright/Copy", "starts", "()Z"⟩ : MethodName)) hown (mvT hZ (hw _ (List.mem_of_getElem? (i := 58) rfl))) (mvT hZ (hw _ (List.mem_of_getElem? (i := 59) rfl))) (notFace_of_selects (args := #[]) (mvT hZ (hw _ (List.mem_of_getElem? (i := 61) rfl)))) (mvT hZ (hw _ (List.mem_of_getElem? (i := 61) rfl))) (mvT hZ (hw _ (List.mem_of_getElem? (i := 60) rfl))) (by decide) (backOf (W := 0) (rm_str l Z a0 hw [] fb131 bb123 T131.heap n0 Z131 fk131_1) hZ (hw _ (List.mem_of_getElem? (i := 62) rfl)) (hw _ (List.mem_of_getElem? (i := 42) rfl)) (by decide) (by decide)) q133a q133c (g := (mkF m 90 #[.val (.int p1), .val (.int p2), .val (.int p3), .val (.ref bb69), .val (.ref bb104), .val .null, .val (.int (1 : Int32)), .val (.ref bb123), .val (.ref b126), .val (.int (1 : Int32)), .unset, .unset] [(.ref fb131)])) rfl (by rw [hml]; rfl) (Steps.refl _) (argsL := []) (rest := []) (lenOf pd___Z_171 rfl) rfl (by show 2 * 0 + _ ≤ _; exact Nat.le_of_eq rfl) (hb hby at_90) (fun _ _ => ⟨rfl, rfl, (by decide : 20 + 0 ≤ _), (by decide : 42 + 0 ≤ _)⟩)
        dsimp only [Pt.U, Pt.locs, Pt.cells, Pt.slots] at X133 l133 y133 z133 st133 hQ133
        subst l133 y133 z133
        obtain ⟨rfl, N133q, e133⟩ := hQ133
        have N133 := Fr.app N131 N133q
        obtain ⟨_, _, ⟨T134, L134, k134, n134⟩, -, X134, ⟨Lc134, hQ134, l134, y134, z134⟩, st134⟩ := Jvm.LawKit.callS X133 hx (y := (⟨"com/example/poolwright/poolwright/Copy", "refused", "(Ljava/lang/String;Lcom/example/poolwright/poolwright/Copy$Refusal;)Lcom/example/poolwright/poolwright/Copy;"⟩ : MethodName)) hown (mvT hZ (hw _ (List.mem_of_getElem? (i := 68) rfl))) (mvT hZ (hw _ (List.mem_of_getElem? (i := 69) rfl))) (mvT hZ (hw _ (List.mem_of_getElem? (i := 42) rfl))) (mvT hZ (hw _ (List.mem_of_getElem? (i := 70) rfl))) (by decide) (backOf (W := 0) (rm_rdrn l Z a0 hw [] bb69 T131.heap n0 Z131 ) hZ (hw _ (List.mem_of_getElem? (i := 70) rfl)) (hw _ (List.mem_of_getElem? (i := 42) rfl)) (by decide) (by decide)) (g := (mkF m 98 #[.val (.int p1), .val (.int p2), .val (.int p3), .val (.ref bb69), .val (.ref bb104), .val .null, .val (.int (1 : Int32)), .val (.ref bb123), .val (.ref b126), .val (.int (1 : Int32)), .val (.int (1 : Int32)), .unset] [.null, (.ref bb69)])) rfl (by rw [hml]; rfl) (argsL := [(.ref bb69), .null]) (rest := []) (lenOf pd__Ljava_lang_String_Lcom_example_poolwright_poolwright_Copy_R_576 rfl) rfl (by show 2 * 0 + _ ≤ _; exact Nat.le_of_eq rfl) (hb hby at_98) (fun _ _ => ⟨rfl, e133, (by decide : 20 + 1 ≤ _), (by decide : 42 + 3 ≤ _)⟩)
        dsimp only [Pt.U, Pt.locs, Pt.cells, Pt.slots] at X134 l134 y134 z134 st134 hQ134
        subst l134 y134 z134
        obtain ⟨fb134, rfl, N134q, K134, fk134_0, fk134_1⟩ := hQ134
        have f194 : T123.heap.size ≤ T134.heap.size := Nat.le_trans f190 K134.1
        have f195 : n0 ≤ b126 := f191
        have f196 : Exa Z T134.heap b126 "com/example/poolwright/poolwright/Copy" := f192.keep K134
        have f197 : Fld Z T134.heap b126 "com/example/poolwright/poolwright/Copy" "destination" "Ljava/lang/String;" (.ref bb104) := f193.keep K134 (by simp)
        have f198 : Exa Z T134.heap fb131 "com/example/poolwright/poolwright/Copy" := fk131_0.keep K134
        have f199 : Fld Z T134.heap fb131 "com/example/poolwright/poolwright/Copy" "destination" "Ljava/lang/String;" (.ref bb123) := fk131_1.keep K134 (by simp)
        have C135 : CHr Z own_EL s.vm h0 T123.vm T134.heap := C132.trans (CHr.keep K134 sf0 C132.1)
        have sf135_b126 : Safe Z own_EL T123.vm T134.heap b126 := Safe.keep K134 sf0 C132.1 sf132_b126
        have Z134 : n0 ≤ T134.heap.size := Nat.le_trans Z131 K134.1
        have N134 := Fr.app N133 N134q
        obtain ⟨cq136, kq136, q136a, q136b, q136c⟩ := isOf hZ rfl fk134_0
        obtain ⟨_, _, ⟨T136, L136, k136, n136⟩, -, X136, ⟨Lc136, hQ136, l136, y136, z136⟩, st136⟩ := X134.virtualBack hx (y := (⟨"com/example/poolwright/poolwright/Copy", "starts", "()Z"⟩ : MethodName)) (z := (⟨"com/example/poolwright/poolwright/Copy", "starts", "()Z"⟩ : MethodName)) hown (mvT hZ (hw _ (List.mem_of_getElem? (i := 58) rfl))) (mvT hZ (hw _ (List.mem_of_getElem? (i := 59) rfl))) (notFace_of_selects (args := #[]) (mvT hZ (hw _ (List.mem_of_getElem? (i := 61) rfl)))) (mvT hZ (hw _ (List.mem_of_getElem? (i := 61) rfl))) (mvT hZ (hw _ (List.mem_of_getElem? (i := 60) rfl))) (by decide) (backOf (W := 0) (rm_stn l Z a0 hw [] fb134 T134.heap n0 Z134 fk134_1) hZ (hw _ (List.mem_of_getElem? (i := 62) rfl)) (hw _ (List.mem_of_getElem? (i := 42) rfl)) (by decide) (by decide)) q136a q136c (g := (mkF m 101 #[.val (.int p1), .val (.int p2), .val (.int p3), .val (.ref bb69), .val (.ref bb104), .val .null, .val (.int (1 : Int32)), .val (.ref bb123), .val (.ref b126), .val (.int (1 : Int32)), .val (.int (1 : Int32)), .unset] [(.ref fb134)])) rfl (by rw [hml]; rfl) (Steps.refl _) (argsL := []) (rest := []) (lenOf pd___Z_171 rfl) rfl (by show 2 * 0 + _ ≤ _; exact Nat.le_of_eq rfl) (hb hby at_101) (fun _ _ => ⟨rfl, rfl, (by decide : 21 + 0 ≤ _), (by decide : 45 + 0 ≤ _)⟩)
        dsimp only [Pt.U, Pt.locs, Pt.cells, Pt.slots] at X136 l136 y136 z136 st136 hQ136
        subst l136 y136 z136
        obtain ⟨rfl, N136q, e136⟩ := hQ136
        have N136 := Fr.app N134 N136q
        obtain ⟨fs, hr, hrun, hended, hRW⟩ := X136.leaveW (s := s) hS123 (by rw [e136]; exact f194) (v := some (.int (1 : Int32))) (fun h => by rw [Bd.returns] at h; cases h) (hlocks := Bd.notSynchronized)
        refine ⟨_, _, pre_124 _ ?_, hrun, hended, _, _, rfl, ?_, (by show CHr Z own_EL s.vm s.heap T136.vm T136.heap; rw [hh, e136]; exact C135.trans (CHv.at (s := s) (vm0 := T123.vm) X136 hZ hEL C135.1)), hRW.1, hRW.2.1, hRW.2.2.1, hRW.2.2.2.mono (by decide) (by decide)⟩
        · show Steps p.tables e below (T122.setTop (mkF m 48 #[.val (.int p1), .val (.int p2), .val (.int p3), .val (.ref bb69), .val (.ref bb104), .val .null, .val (.int (1 : Int32)), .unset, .unset, .unset, .unset, .unset] [(.int p2), (.int p1), (.int ((2 : Int32) + (((p3.toUInt32 >>> ((7 : Int32) &&& 31).toUInt32).toInt32) &&& (1 : Int32))))])) _
          refine st123.trans ?_
          show Steps p.tables e below (T123.setTop (mkF m 51 #[.val (.int p1), .val (.int p2), .val (.int p3), .val (.ref bb69), .val (.ref bb104), .val .null, .val (.int (1 : Int32)), .unset, .unset, .unset, .unset, .unset] [(.ref bb123)])) _
          refine XS.astore X123.here hx rfl (hb hby at_51) rfl rfl (l' := #[.val (.int p1), .val (.int p2), .val (.int p3), .val (.ref bb69), .val (.ref bb104), .val .null, .val (.int (1 : Int32)), .val (.ref bb123), .unset, .unset, .unset, .unset]) rfl ?_
          show Steps p.tables e below (T123.setTop (mkF m 53 #[.val (.int p1), .val (.int p2), .val (.int p3), .val (.ref bb69), .val (.ref bb104), .val .null, .val (.int (1 : Int32)), .val (.ref bb123), .unset, .unset, .unset, .unset] [])) _
          refine st126 _ ?_
          show Steps p.tables e below (T126.setTop (mkF m 56 #[.val (.int p1), .val (.int p2), .val (.int p3), .val (.ref bb69), .val (.ref bb104), .val .null, .val (.int (1 : Int32)), .val (.ref bb123), .unset, .unset, .unset, .unset] [(.ref b126)])) _
          refine XS.dup X126.here hx rfl (hb hby at_56) rfl rfl ?_
          show Steps p.tables e below (T126.setTop (mkF m 57 #[.val (.int p1), .val (.int p2), .val (.int p3), .val (.ref bb69), .val (.ref bb104), .val .null, .val (.int (1 : Int32)), .val (.ref bb123), .unset, .unset, .unset, .unset] [(.ref b126), (.ref b126)])) _
          refine XS.aloadN X126.here hx rfl (hb hby at_57) rfl rfl ?_
          show Steps p.tables e below (T126.setTop (mkF m 58 #[.val (.int p1), .val (.int p2), .val (.int p3), .val (.ref bb69), .val (.ref bb104), .val .null, .val (.int (1 : Int32)), .val (.ref bb123), .unset, .unset, .unset, .unset] [(.ref bb69), (.ref b126), (.ref b126)])) _
          refine XS.aload X126.here hx rfl (hb hby at_58) rfl rfl ?_
          show Steps p.tables e below (T126.setTop (mkF m 60 #[.val (.int p1), .val (.int p2), .val (.int p3), .val (.ref bb69), .val (.ref bb104), .val .null, .val (.int (1 : Int32)), .val (.ref bb123), .unset, .unset, .unset, .unset] [(.ref bb104), (.ref bb69), (.ref b126), (.ref b126)])) _
          refine XS.aload X126.here hx rfl (hb hby at_60) rfl rfl ?_
          show Steps p.tables e below (T126.setTop (mkF m 62 #[.val (.int p1), .val (.int p2), .val (.int p3), .val (.ref bb69), .val (.ref bb104), .val .null, .val (.int (1 : Int32)), .val (.ref bb123), .unset, .unset, .unset, .unset] [.null, (.ref bb104), (.ref bb69), (.ref b126), (.ref b126)])) _
          refine st128.trans ?_
          show Steps p.tables e below (T128.setTop (mkF m 65 #[.val (.int p1), .val (.int p2), .val (.int p3), .val (.ref bb69), .val (.ref bb104), .val .null, .val (.int (1 : Int32)), .val (.ref bb123), .unset, .unset, .unset, .unset] [(.ref b126)])) _
          refine XS.astore X128.here hx rfl (hb hby at_65) rfl rfl (l' := #[.val (.int p1), .val (.int p2), .val (.int p3), .val (.ref bb69), .val (.ref bb104), .val .null, .val (.int (1 : Int32)), .val (.ref bb123), .val (.ref b126), .unset, .unset, .unset]) rfl ?_
          show Steps p.tables e below (T128.setTop (mkF m 67 #[.val (.int p1), .val (.int p2), .val (.int p3), .val (.ref bb69), .val (.ref bb104), .val .null, .val (.int (1 : Int32)), .val (.ref bb123), .val (.ref b126), .unset, .unset, .unset] [])) _
          refine XS.aload X128.here hx rfl (hb hby at_67) rfl rfl ?_
          show Steps p.tables e below (T128.setTop (mkF m 69 #[.val (.int p1), .val (.int p2), .val (.int p3), .val (.ref bb69), .val (.ref bb104), .val .null, .val (.int (1 : Int32)), .val (.ref bb123), .val (.ref b126), .unset, .unset, .unset] [(.ref b126)])) _
          refine st130.trans ?_
          show Steps p.tables e below (T130.setTop (mkF m 72 #[.val (.int p1), .val (.int p2), .val (.int p3), .val (.ref bb69), .val (.ref bb104), .val .null, .val (.int (1 : Int32)), .val (.ref bb123), .val (.ref b126), .unset, .unset, .unset] [(.int (1 : Int32))])) _
          refine XS.iload X130.here hx rfl (hb hby at_72) rfl ?_
          show Steps p.tables e below (T130.setTop (mkF m 74 #[.val (.int p1), .val (.int p2), .val (.int p3), .val (.ref bb69), .val (.ref bb104), .val .null, .val (.int (1 : Int32)), .val (.ref bb123), .val (.ref b126), .unset, .unset, .unset] [(.int (1 : Int32)), (.int (1 : Int32))])) _
          refine XS.icmpNo X130.here hx rfl (hb hby at_74) rfl (teq (by decide : (1 : Int32) = (1 : Int32))).2 ?_
          show Steps p.tables e below (T130.setTop (mkF m 77 #[.val (.int p1), .val (.int p2), .val (.int p3), .val (.ref bb69), .val (.ref bb104), .val .null, .val (.int (1 : Int32)), .val (.ref bb123), .val (.ref b126), .unset, .unset, .unset] [])) _
          refine XS.iconst X130.here hx rfl (hb hby at_77) ?_
          show Steps p.tables e below (T130.setTop (mkF m 78 #[.val (.int p1), .val (.int p2), .val (.int p3), .val (.ref bb69), .val (.ref bb104), .val .null, .val (.int (1 : Int32)), .val (.ref bb123), .val (.ref b126), .unset, .unset, .unset] [(.int (1 : Int32))])) _
          refine XS.goto X130.here hx rfl (pc0 := 78) (pc' := 82) rfl (hb hby at_78) (by decide) (by decide) ?_
          show Steps p.tables e below (T130.setTop (mkF m 82 #[.val (.int p1), .val (.int p2), .val (.int p3), .val (.ref bb69), .val (.ref bb104), .val .null, .val (.int (1 : Int32)), .val (.ref bb123), .val (.ref b126), .unset, .unset, .unset] [(.int (1 : Int32))])) _
          refine XS.istore X130.here hx rfl (hb hby at_82) rfl (l' := #[.val (.int p1), .val (.int p2), .val (.int p3), .val (.ref bb69), .val (.ref bb104), .val .null, .val (.int (1 : Int32)), .val (.ref bb123), .val (.ref b126), .val (.int (1 : Int32)), .unset, .unset]) rfl ?_
          show Steps p.tables e below (T130.setTop (mkF m 84 #[.val (.int p1), .val (.int p2), .val (.int p3), .val (.ref bb69), .val (.ref bb104), .val .null, .val (.int (1 : Int32)), .val (.ref bb123), .val (.ref b126), .val (.int (1 : Int32)), .unset, .unset] [])) _
          refine XS.aloadN X130.here hx rfl (hb hby at_84) rfl rfl ?_
          show Steps p.tables e below (T130.setTop (mkF m 85 #[.val (.int p1), .val (.int p2), .val (.int p3), .val (.ref bb69), .val (.ref bb104), .val .null, .val (.int (1 : Int32)), .val (.ref bb123), .val (.ref b126), .val (.int (1 : Int32)), .unset, .unset] [(.ref bb69)])) _
          refine XS.aload X130.here hx rfl (hb hby at_85) rfl rfl ?_
          show Steps p.tables e below (T130.setTop (mkF m 87 #[.val (.int p1), .val (.int p2), .val (.int p3), .val (.ref bb69), .val (.ref bb104), .val .null, .val (.int (1 : Int32)), .val (.ref bb123), .val (.ref b126), .val (.int (1 : Int32)), .unset, .unset] [(.ref bb123), (.ref bb69)])) _
          refine st131 _ ?_
          show Steps p.tables e below (T131.setTop (mkF m 90 #[.val (.int p1), .val (.int p2), .val (.int p3), .val (.ref bb69), .val (.ref bb104), .val .null, .val (.int (1 : Int32)), .val (.ref bb123), .val (.ref b126), .val (.int (1 : Int32)), .unset, .unset] [(.ref fb131)])) _
          refine st133.trans ?_
          show Steps p.tables e below (T133.setTop (mkF m 93 #[.val (.int p1), .val (.int p2), .val (.int p3), .val (.ref bb69), .val (.ref bb104), .val .null, .val (.int (1 : Int32)), .val (.ref bb123), .val (.ref b126), .val (.int (1 : Int32)), .unset, .unset] [(.int (1 : Int32))])) _
          refine XS.istore X133.here hx rfl (hb hby at_93) rfl (l' := #[.val (.int p1), .val (.int p2), .val (.int p3), .val (.ref bb69), .val (.ref bb104), .val .null, .val (.int (1 : Int32)), .val (.ref bb123), .val (.ref b126), .val (.int (1 : Int32)), .val (.int (1 : Int32)), .unset]) rfl ?_
          show Steps p.tables e below (T133.setTop (mkF m 95 #[.val (.int p1), .val (.int p2), .val (.int p3), .val (.ref bb69), .val (.ref bb104), .val .null, .val (.int (1 : Int32)), .val (.ref bb123), .val (.ref b126), .val (.int (1 : Int32)), .val (.int (1 : Int32)), .unset] [])) _
          refine XS.aloadN X133.here hx rfl (hb hby at_95) rfl rfl ?_
          show Steps p.tables e below (T133.setTop (mkF m 96 #[.val (.int p1), .val (.int p2), .val (.int p3), .val (.ref bb69), .val (.ref bb104), .val .null, .val (.int (1 : Int32)), .val (.ref bb123), .val (.ref b126), .val (.int (1 : Int32)), .val (.int (1 : Int32)), .unset] [(.ref bb69)])) _
          refine XS.aload X133.here hx rfl (hb hby at_96) rfl rfl ?_
          show Steps p.tables e below (T133.setTop (mkF m 98 #[.val (.int p1), .val (.int p2), .val (.int p3), .val (.ref bb69), .val (.ref bb104), .val .null, .val (.int (1 : Int32)), .val (.ref bb123), .val (.ref b126), .val (.int (1 : Int32)), .val (.int (1 : Int32)), .unset] [.null, (.ref bb69)])) _
          refine st134 _ ?_
          show Steps p.tables e below (T134.setTop (mkF m 101 #[.val (.int p1), .val (.int p2), .val (.int p3), .val (.ref bb69), .val (.ref bb104), .val .null, .val (.int (1 : Int32)), .val (.ref bb123), .val (.ref b126), .val (.int (1 : Int32)), .val (.int (1 : Int32)), .unset] [(.ref fb134)])) _
          refine st136.trans ?_
          show Steps p.tables e below (T136.setTop (mkF m 104 #[.val (.int p1), .val (.int p2), .val (.int p3), .val (.ref bb69), .val (.ref bb104), .val .null, .val (.int (1 : Int32)), .val (.ref bb123), .val (.ref b126), .val (.int (1 : Int32)), .val (.int (1 : Int32)), .unset] [(.int (0 : Int32))])) _
          refine XS.ifNo X136.here hx rfl (hb hby at_104) rfl ((if0 _ _).trans (teq (by decide : (0 : Int32) = (0 : Int32))).2) ?_
          show Steps p.tables e below (T136.setTop (mkF m 107 #[.val (.int p1), .val (.int p2), .val (.int p3), .val (.ref bb69), .val (.ref bb104), .val .null, .val (.int (1 : Int32)), .val (.ref bb123), .val (.ref b126), .val (.int (1 : Int32)), .val (.int (1 : Int32)), .unset] [])) _
          refine XS.iconst X136.here hx rfl (hb hby at_107) ?_
          show Steps p.tables e below (T136.setTop (mkF m 108 #[.val (.int p1), .val (.int p2), .val (.int p3), .val (.ref bb69), .val (.ref bb104), .val .null, .val (.int (1 : Int32)), .val (.ref bb123), .val (.ref b126), .val (.int (1 : Int32)), .val (.int (1 : Int32)), .unset] [(.int (1 : Int32))])) _
          refine XS.goto X136.here hx rfl (pc0 := 108) (pc' := 112) rfl (hb hby at_108) (by decide) (by decide) ?_
          show Steps p.tables e below (T136.setTop (mkF m 112 #[.val (.int p1), .val (.int p2), .val (.int p3), .val (.ref bb69), .val (.ref bb104), .val .null, .val (.int (1 : Int32)), .val (.ref bb123), .val (.ref b126), .val (.int (1 : Int32)), .val (.int (1 : Int32)), .unset] [(.int (1 : Int32))])) _
          refine XS.istore X136.here hx rfl (hb hby at_112) rfl (l' := #[.val (.int p1), .val (.int p2), .val (.int p3), .val (.ref bb69), .val (.ref bb104), .val .null, .val (.int (1 : Int32)), .val (.ref bb123), .val (.ref b126), .val (.int (1 : Int32)), .val (.int (1 : Int32)), .val (.int (1 : Int32))]) rfl ?_
          show Steps p.tables e below (T136.setTop (mkF m 114 #[.val (.int p1), .val (.int p2), .val (.int p3), .val (.ref bb69), .val (.ref bb104), .val .null, .val (.int (1 : Int32)), .val (.ref bb123), .val (.ref b126), .val (.int (1 : Int32)), .val (.int (1 : Int32)), .val (.int (1 : Int32))] [])) _
          refine XS.iload X136.here hx rfl (hb hby at_114) rfl ?_
          show Steps p.tables e below (T136.setTop (mkF m 116 #[.val (.int p1), .val (.int p2), .val (.int p3), .val (.ref bb69), .val (.ref bb104), .val .null, .val (.int (1 : Int32)), .val (.ref bb123), .val (.ref b126), .val (.int (1 : Int32)), .val (.int (1 : Int32)), .val (.int (1 : Int32))] [(.int (1 : Int32))])) _
          refine XS.ifNo X136.here hx rfl (hb hby at_116) rfl ((if0 _ _).trans (feq (by decide : ¬ ((1 : Int32) = (0 : Int32)))).1) ?_
          show Steps p.tables e below (T136.setTop (mkF m 119 #[.val (.int p1), .val (.int p2), .val (.int p3), .val (.ref bb69), .val (.ref bb104), .val .null, .val (.int (1 : Int32)), .val (.ref bb123), .val (.ref b126), .val (.int (1 : Int32)), .val (.int (1 : Int32)), .val (.int (1 : Int32))] [])) _
          refine XS.iload X136.here hx rfl (hb hby at_119) rfl ?_
          show Steps p.tables e below (T136.setTop (mkF m 121 #[.val (.int p1), .val (.int p2), .val (.int p3), .val (.ref bb69), .val (.ref bb104), .val .null, .val (.int (1 : Int32)), .val (.ref bb123), .val (.ref b126), .val (.int (1 : Int32)), .val (.int (1 : Int32)), .val (.int (1 : Int32))] [(.int (1 : Int32))])) _
          refine XS.ifNo X136.here hx rfl (hb hby at_121) rfl ((if0 _ _).trans (feq (by decide : ¬ ((1 : Int32) = (0 : Int32)))).1) ?_
          show Steps p.tables e below (T136.setTop (mkF m 124 #[.val (.int p1), .val (.int p2), .val (.int p3), .val (.ref bb69), .val (.ref bb104), .val .null, .val (.int (1 : Int32)), .val (.ref bb123), .val (.ref b126), .val (.int (1 : Int32)), .val (.int (1 : Int32)), .val (.int (1 : Int32))] [])) _
          refine XS.iload X136.here hx rfl (hb hby at_124) rfl ?_
          show Steps p.tables e below (T136.setTop (mkF m 126 #[.val (.int p1), .val (.int p2), .val (.int p3), .val (.ref bb69), .val (.ref bb104), .val .null, .val (.int (1 : Int32)), .val (.ref bb123), .val (.ref b126), .val (.int (1 : Int32)), .val (.int (1 : Int32)), .val (.int (1 : Int32))] [(.int (1 : Int32))])) _
          refine XS.ifNo X136.here hx rfl (hb hby at_126) rfl ((if0 _ _).trans (feq (by decide : ¬ ((1 : Int32) = (0 : Int32)))).1) ?_
          show Steps p.tables e below (T136.setTop (mkF m 129 #[.val (.int p1), .val (.int p2), .val (.int p3), .val (.ref bb69), .val (.ref bb104), .val .null, .val (.int (1 : Int32)), .val (.ref bb123), .val (.ref b126), .val (.int (1 : Int32)), .val (.int (1 : Int32)), .val (.int (1 : Int32))] [])) _
          refine XS.iconst X136.here hx rfl (hb hby at_129) ?_
          show Steps p.tables e below (T136.setTop (mkF m 130 #[.val (.int p1), .val (.int p2), .val (.int p3), .val (.ref bb69), .val (.ref bb104), .val .null, .val (.int (1 : Int32)), .val (.ref bb123), .val (.ref b126), .val (.int (1 : Int32)), .val (.int (1 : Int32)), .val (.int (1 : Int32))] [(.int (1 : Int32))])) _
          refine XS.goto X136.here hx rfl (pc0 := 130) (pc' := 134) rfl (hb hby at_130) (by decide) (by decide) ?_
          show Steps p.tables e below (T136.setTop (mkF m 134 #[.val (.int p1), .val (.int p2), .val (.int p3), .val (.ref bb69), .val (.ref bb104), .val .null, .val (.int (1 : Int32)), .val (.ref bb123), .val (.ref b126), .val (.int (1 : Int32)), .val (.int (1 : Int32)), .val (.int (1 : Int32))] [(.int (1 : Int32))])) _
          exact retN X136 hx (t := .boolean) Bd.returns (by simp) (hb hby at_134) hr
        · show Q_rm0 Z p1 p2 p3 cs c_ALERT c_OFF c_MAX_COPIES c_NO_DESTINATION h0 n0 _ T136.heap _
          rw [e136]
          exact ⟨rfl, N136⟩
set_option maxRecDepth 65536 in
set_option maxHeartbeats 40000000 in
theorem comes_1 {Post : Tables → Env → Array Value → State → Outcome → State → Prop} (hpost : ∀ tb e args s v u, (limb_1_1.after args s (.returned v) u = true ∧ limb_1_2.after args s (.returned v) u = true ∧ True) → ReturnedEndW s (.returned v) u (Jvm.fieldLocs frame_1_writes args s ++ Jvm.arrayLocs frame_1_arrays args s ++ Jvm.staticLocs frame_1_statics s) 40 1216 → Post tb e args s (.returned v) u) :
    ArmFor flags0 classFile x code maxLocals ret World_1 tables_1 room_1 Calls_1 rest_1 Pre_1 Post := by
  intro l hfl _ _ p e ha hc hk s m args below hf hA hF happ hP
  obtain ⟨hcalls, hrest, hpre⟩ := hP
  obtain ⟨-, -, -, hnamed, -, -, -, hat⟩ := (Spec.applies_iff hf).mp happ
  obtain ⟨hg, hn⟩ := and_e (Cond.before_iff.mp (show (Jvm.Cond.and given_1 narrow_1).before args s = true from hpre))
  obtain ⟨hcount, hga0⟩ := and_e hg
  obtain ⟨hi0, hga1⟩ := and_e hga0
  obtain ⟨hi1, hga2⟩ := and_e hga1
  have hi2 := hga2
  obtain ⟨w0, w1, w2, rfl⟩ : ∃ w0 w1 w2 : Value, args = #[w0, w1, w2] := by
    have hs : args.size = 3 := by simpa [Cond.value, given_1] using hcount
    obtain ⟨L⟩ := args
    match L, hs with
    | [w0, w1, w2], _ => exact ⟨w0, w1, w2, rfl⟩
  have hw := fun d (hd : d ∈ tables_1) => atoms_spec (ws := Jvm.Cond.code x code maxLocals ret :: tables_1) hat d (List.mem_cons_of_mem _ hd)
  obtain ⟨hsets, hown0⟩ := atoms_of _ (rest_1_c_eq ▸ (show rest_1_c.before _ s = true from hrest))
  obtain ⟨i0, ei0⟩ := is_v hi0
  obtain rfl : w0 = (.int i0) := Option.some.inj ei0
  obtain ⟨i1, ei1⟩ := is_v hi1
  obtain rfl : w1 = (.int i1) := Option.some.inj ei1
  obtain ⟨i2, ei2⟩ := is_v hi2
  obtain rfl : w2 = (.int i2) := Option.some.inj ei2
  obtain ⟨hx_ALERT, hn_0⟩ := and_e hn
  obtain ⟨hx_OFF, hn_1⟩ := and_e hn_0
  obtain ⟨hx_MAX_COPIES, hn_2⟩ := and_e hn_1
  have hx_NO_DESTINATION := hn_2
  obtain ⟨c_ALERT, ev_ALERT⟩ := exa_v hx_ALERT
  have st_ALERT := Sta.start ev_ALERT (Or.inr ⟨hw _ (List.mem_of_getElem? (i := 38) rfl), hw _ (List.mem_of_getElem? (i := 39) rfl)⟩)
  obtain ⟨c_OFF, ev_OFF⟩ := exa_v hx_OFF
  have st_OFF := Sta.start ev_OFF (Or.inr ⟨hw _ (List.mem_of_getElem? (i := 38) rfl), hw _ (List.mem_of_getElem? (i := 75) rfl)⟩)
  obtain ⟨c_MAX_COPIES, ev_MAX_COPIES⟩ := exa_v hx_MAX_COPIES
  have st_MAX_COPIES := Sta.start ev_MAX_COPIES (Or.inr ⟨hw _ (List.mem_of_getElem? (i := 38) rfl), hw _ (List.mem_of_getElem? (i := 77) rfl)⟩)
  obtain ⟨c_NO_DESTINATION, ev_NO_DESTINATION⟩ := exa_v hx_NO_DESTINATION
  have st_NO_DESTINATION := Sta.start ev_NO_DESTINATION (Or.inr ⟨hw _ (List.mem_of_getElem? (i := 38) rfl), hw _ (List.mem_of_getElem? (i := 79) rfl)⟩)
  obtain ⟨cs, evcs⟩ := is_v (Cond.before_iff.mp (hsets _ (List.mem_of_getElem? (i := 1) rfl)))
  have S_CS : Sta s s.heap "java/lang/String" "COMPACT_STRINGS" "Z" (.int cs) := Sta.start evcs (Or.inl (hsets _ (List.mem_of_getElem? (i := 0) rfl)))
  have hcs : ¬ cs = (0 : Int32) := by
    have q2 := not_v (Cond.before_iff.mp (hsets _ (List.mem_of_getElem? (i := 2) rfl)))
    rw [Cond.eq_ints evcs (Term.int_eval 0)] at q2
    simpa using q2
  have hEL : EW s _ own_EL := (EW.cons (hw _ (List.mem_of_getElem? (i := 71) rfl)) (by decide) EW.nil)
  have hCH : CHv s own_EL s.vm s.heap := CHv.start hEL (fun p hp => hcalls.1 p hp) (hsets _ (List.mem_of_getElem? (i := 2) rfl)) (hw _ (List.mem_of_getElem? (i := 23) rfl)) (hw _ (List.mem_of_getElem? (i := 6) rfl))
  obtain ⟨n, o, h1, h2, h3, _, L, rfl, ⟨rfl, N⟩, -, hq⟩ := rm0 l s _ hw tables_1 i0 i1 i2 cs c_ALERT c_OFF c_MAX_COPIES c_NO_DESTINATION s.heap s.heap.size (Nat.le_refl _) hEL S_CS hcs st_ALERT st_OFF st_MAX_COPIES st_NO_DESTINATION p e ha hc hk s m _ below hf ((Spec.applies_iff_loose hf).mp happ).1 ⟨rfl, State.Warmed39.refl s, rfl, hCH⟩ trivial
  refine ⟨n, _, h1, h2, h3, hpost _ _ _ _ _ _ ⟨Cond.after_iff.mpr rfl, Cond.after_iff.mpr (eq_i res_at (Term.int_eval (1)) rfl), trivial⟩ ⟨hq.1, hq.2.1, hq.2.2.1, (hq.2.2.2.sift fun y hy => Or.inr (N y hy)).mono (by decide) (by decide)⟩⟩
theorem main_1_1 : Claimed_1_1 := comes_1 fun _ _ _ _ _ _ h hF => ⟨h.1, hF⟩
theorem main_1_2 : Claimed_1_2 := comes_1 fun _ _ _ _ _ _ h hF => ⟨h.2.1, hF⟩
end Jvm.Pilot.@@N@@
namespace Jvm.Pilot.@@N@@
open Jvm Jvm.ClassFile Sem Op Lib Jvm.Free Jvm.Stand Jvm.Pilot.@@N@@.Jvm.D
/-! MADE BY PROGRAM (witnessworld.py) out of the Statement's table words and the real class files: 23 classes; the members and pool entries that the words name. The judged class is class 1, her method 3. -/
namespace start1
open Jvm.ClassFile
def u (s : String) : CpInfo := .utf8 (stringToUtf16 s)
/-- a pool by its gaps: so many unusable entries, then the entry; so many at the end -/
def gap : Nat → List CpInfo → List CpInfo
  | 0, r => r
  | n + 1, r => .unusable :: gap n r
def poolList (es : List (Nat × CpInfo)) (last : Nat) : List CpInfo := es.foldr (fun e r => gap e.1 (e.2 :: r)) (gap last [])
def pool (es : List (Nat × CpInfo)) (last : Nat) : Array CpInfo := ⟨poolList es last⟩
def fileOf (pool : Array CpInfo) (this : Nat) (attrs : Array Attribute := #[]) (ms : Array MethodInfo := #[]) (fl : Nat := 33) (sup : Nat := 0) (ifs : Array Nat := #[]) (fds : Array FieldInfo := #[]) : ClassFile where
  minorVersion := 0
  majorVersion := 65
  constantPool := pool
  accessFlags := fl
  thisClass := this
  superClass := sup
  interfaces := ifs
  fields := fds
  methods := ms
  attributes := attrs
def plain (name : String) (sup : Option ClassId) : Class where
  name := name
  kind := .ordinary
  loader := none
  accessFlags := 33
  super := sup
  interfaces := #[]
  cf := none
  fields := #[]
  methods := #[]
  instanceTypes := #[]
  staticTypes := #[]
  resolved := #[]
  callSites := []
  init := .initialized
  statics := none
  mirror := none

def pool0 : Array CpInfo := pool [(5, u "<init>"), (0, u "()V"), (1, .class_ 10), (1, u "java/lang/Object")] 113

def k0c0 : Code := { maxStack := 0, maxLocals := 1, code := object_method_1_code, exceptionTable := #[], attributes := #[] }
def k0m0 : Method := { name := "<init>", desc := "()V", sig := { parameters := [], returnType := none }, accessFlags := 1, code := some k0c0 }
/-- java/lang/Object -/
def k0 : Class := { plain "java/lang/Object" none with
  accessFlags := 33
  interfaces := #[]
  cf := some (fileOf pool0 8 #[] #[{ accessFlags := 1, nameIndex := 5, descriptorIndex := 6, attributes := #[] }] 33 0 #[] #[])
  fields := #[]
  methods := #[k0m0]
  instanceTypes := #[]
  staticTypes := #[]
  resolved := Array.replicate 124 none
  statics := none }

def pool1 : Array CpInfo := pool [(2, .class_ 4), (1, u "java/lang/Object"), (0, u "<init>"), (0, u "()V"), (0, .fieldref 8 9), (0, .class_ 10), (0, .nameAndType 11 12), (0, u "com/example/poolwright/poolwright/Copy$Refusal"), (0, u "ALERT"), (0, u "Lcom/example/poolwright/poolwright/Copy$Refusal;"), (0, .fieldref 8 14), (0, .nameAndType 15 12), (0, u "OFF"), (0, .fieldref 8 17), (0, .nameAndType 18 12), (0, u "MAX_COPIES"), (0, .fieldref 8 20), (0, .nameAndType 21 12), (0, u "NO_DESTINATION"), (0, .class_ 23), (0, u "java/lang/String"), (0, .methodref 22 25), (0, .nameAndType 5 26), (0, u "([C)V"), (0, .methodref 28 29), (0, .class_ 30), (0, .nameAndType 31 32), (0, u "com/example/poolwright/poolwright/CopyStartsPinLaw"), (0, u "draw"), (0, u "(III)Ljava/lang/String;"), (0, .methodref 28 34), (0, .nameAndType 35 36), (0, u "pick"), (0, u "(I)Lcom/example/poolwright/poolwright/Copy$Refusal;"), (0, .class_ 38), (0, u "com/example/poolwright/poolwright/Copy"), (0, .methodref 37 40), (0, .nameAndType 5 41), (0, u "(Ljava/lang/String;Ljava/lang/String;Lcom/example/poolwright/poolwright/Copy$Refusal;)V"), (0, .methodref 37 43), (0, .nameAndType 44 45), (0, u "starts"), (0, u "()Z"), (0, .methodref 37 47), (0, .nameAndType 48 49), (0, u "started"), (0, u "(Ljava/lang/String;Ljava/lang/String;)Lcom/example/poolwright/poolwright/Copy;"), (0, .methodref 37 51), (0, .nameAndType 52 53), (0, u "refused"), (0, u "(Ljava/lang/String;Lcom/example/poolwright/poolwright/Copy$Refusal;)Lcom/example/poolwright/poolwright/Copy;"), (3, u "law"), (0, u "(III)Z")] 4

def k1m0 : Method := { name := "<init>", desc := "()V", sig := { parameters := [], returnType := none }, accessFlags := 2, code := none }
def k1c1 : Code := { maxStack := 2, maxLocals := 2, code := method_2_code, exceptionTable := #[], attributes := #[] }
def k1m1 : Method := { name := "pick", desc := "(I)Lcom/example/poolwright/poolwright/Copy$Refusal;", sig := { parameters := [.int], returnType := some (.object "com/example/poolwright/poolwright/Copy$Refusal") }, accessFlags := 10, code := some k1c1 }
def k1c2 : Code := { maxStack := 4, maxLocals := 5, code := method_3_code, exceptionTable := #[], attributes := #[] }
def k1m2 : Method := { name := "draw", desc := "(III)Ljava/lang/String;", sig := { parameters := [.int, .int, .int], returnType := some (.object "java/lang/String") }, accessFlags := 10, code := some k1c2 }
def k1c3 : Code := { maxStack := 5, maxLocals := 12, code := code, exceptionTable := #[], attributes := #[] }
def k1m3 : Method := { name := "law", desc := "(III)Z", sig := { parameters := [.int, .int, .int], returnType := some .boolean }, accessFlags := 9, code := some k1c3 }
/-- com/example/poolwright/poolwright/CopyStartsPinLaw -/
def k1 : Class := { plain "com/example/poolwright/poolwright/CopyStartsPinLaw" (some 0) with
  accessFlags := 49
  interfaces := #[]
  cf := some (fileOf pool1 28 #[] #[{ accessFlags := 2, nameIndex := 5, descriptorIndex := 6, attributes := #[] }, { accessFlags := 10, nameIndex := 35, descriptorIndex := 36, attributes := #[] }, { accessFlags := 10, nameIndex := 31, descriptorIndex := 32, attributes := #[] }, { accessFlags := 9, nameIndex := 57, descriptorIndex := 58, attributes := #[] }] 49 2 #[] #[])
  fields := #[]
  methods := #[k1m0, k1m1, k1m2, k1m3]
  instanceTypes := #[]
  staticTypes := #[]
  resolved := Array.replicate 63 none
  statics := none }

def pool2 : Array CpInfo := pool [(1, .class_ 2), (0, u "java/io/Serializable"), (0, .class_ 4), (0, u "java/lang/Object")] 2

/-- java/io/Serializable -/
def k2 : Class := { plain "java/io/Serializable" (some 0) with
  accessFlags := 1537
  interfaces := #[]
  cf := some (fileOf pool2 1 #[] #[] 1537 3 #[] #[])
  fields := #[]
  methods := #[]
  instanceTypes := #[]
  staticTypes := #[]
  resolved := Array.replicate 7 none
  statics := none }

def pool3 : Array CpInfo := pool [(1, .class_ 2), (0, u "java/lang/Comparable"), (0, .class_ 4), (0, u "java/lang/Object")] 7

/-- java/lang/Comparable -/
def k3 : Class := { plain "java/lang/Comparable" (some 0) with
  accessFlags := 1537
  interfaces := #[]
  cf := some (fileOf pool3 1 #[] #[] 1537 3 #[] #[])
  fields := #[]
  methods := #[]
  instanceTypes := #[]
  staticTypes := #[]
  resolved := Array.replicate 12 none
  statics := none }

def pool4 : Array CpInfo := pool [(2, .class_ 4), (1, u "java/lang/CharSequence"), (42, .class_ 48), (0, u "java/lang/CharSequence$1CodePointIterator"), (10, .class_ 60), (0, u "java/lang/CharSequence$1CharIterator"), (5, .class_ 67), (0, u "java/lang/Object")] 63

/-- java/lang/CharSequence -/
def k4 : Class := { plain "java/lang/CharSequence" (some 0) with
  accessFlags := 1537
  interfaces := #[]
  cf := some (fileOf pool4 2 #[.nestMembers #[47, 59]] #[] 1537 66 #[] #[])
  fields := #[]
  methods := #[]
  instanceTypes := #[]
  staticTypes := #[]
  resolved := Array.replicate 131 none
  statics := none }

def pool5 : Array CpInfo := pool [(1, .class_ 2), (0, u "java/lang/constant/Constable"), (0, .class_ 4), (0, u "java/lang/Object")] 6

/-- java/lang/constant/Constable -/
def k5 : Class := { plain "java/lang/constant/Constable" (some 0) with
  accessFlags := 1537
  interfaces := #[]
  cf := some (fileOf pool5 1 #[] #[] 1537 3 #[] #[])
  fields := #[]
  methods := #[]
  instanceTypes := #[]
  staticTypes := #[]
  resolved := Array.replicate 11 none
  statics := none }

def pool6 : Array CpInfo := pool [(1, .class_ 2), (0, u "java/lang/constant/ConstantDesc"), (0, .class_ 4), (0, u "java/lang/Object")] 32

/-- java/lang/constant/ConstantDesc -/
def k6 : Class := { plain "java/lang/constant/ConstantDesc" (some 0) with
  accessFlags := 1537
  interfaces := #[]
  cf := some (fileOf pool6 1 #[] #[] 1537 3 #[] #[])
  fields := #[]
  methods := #[]
  instanceTypes := #[]
  staticTypes := #[]
  resolved := Array.replicate 37 none
  statics := none }

def pool7 : Array CpInfo := pool [(1, .methodref 2 3), (0, .class_ 4), (0, .nameAndType 5 6), (0, u "java/lang/Object"), (0, u "<init>"), (0, u "()V"), (0, .string 8), (0, u ""), (0, .fieldref 10 11), (0, .class_ 12), (0, .nameAndType 13 14), (0, u "java/lang/String"), (0, u "value"), (0, u "[B"), (0, .fieldref 10 16), (0, .nameAndType 17 18), (0, u "coder"), (0, u "B"), (2, u "hash"), (0, u "I"), (2, u "hashIsZero"), (0, u "Z"), (0, .methodref 10 28), (0, .nameAndType 5 29), (0, u "([CIILjava/lang/Void;)V"), (8, .fieldref 10 39), (0, .nameAndType 40 26), (0, u "COMPACT_STRINGS"), (1, .class_ 44), (1, u "java/lang/StringUTF16"), (0, u "compress"), (1, .methodref 42 48), (0, .nameAndType 49 50), (0, u "coderFromArrayLen"), (0, u "([BI)B"), (126, .methodref 42 178), (0, .nameAndType 45 179), (0, u "([CII)[B"), (395, .class_ 576), (0, u "java/lang/CharSequence"), (22, u "CASE_INSENSITIVE_ORDER"), (0, u "Ljava/util/Comparator;"), (409, u "([C)V"), (90, u "serialPersistentFields"), (0, u "[Ljava/io/ObjectStreamField;"), (0, .class_ 1104), (0, u "java/lang/String$CaseInsensitiveComparator"), (1, .class_ 1107), (0, u "java/io/Serializable"), (0, .class_ 1109), (0, u "java/lang/Comparable"), (0, .class_ 1111), (0, u "java/lang/constant/Constable"), (0, .class_ 1113), (0, u "java/lang/constant/ConstantDesc"), (2, u "serialVersionUID"), (0, u "J"), (3, u "REPL"), (0, u "C"), (2, u "LATIN1"), (1, u "UTF16")] 323

def k7m0 : Method := { name := "<init>", desc := "()V", sig := { parameters := [], returnType := none }, accessFlags := 1, code := none }
def k7c1 : Code := { maxStack := 5, maxLocals := 2, code := jdk_42_method_3_code, exceptionTable := #[], attributes := #[] }
def k7m1 : Method := { name := "<init>", desc := "([C)V", sig := { parameters := [(.array .char)], returnType := none }, accessFlags := 1, code := some k7c1 }
def k7c2 : Code := { maxStack := 4, maxLocals := 6, code := jdk_42_method_149_code, exceptionTable := #[], attributes := #[] }
def k7m2 : Method := { name := "<init>", desc := "([CIILjava/lang/Void;)V", sig := { parameters := [(.array .char), .int, .int, (.object "java/lang/Void")], returnType := none }, accessFlags := 2, code := some k7c2 }
/-- java/lang/String -/
def k7 : Class := { plain "java/lang/String" (some 0) with
  accessFlags := 49
  interfaces := #[2, 3, 4, 5, 6]
  cf := some (fileOf pool7 10 #[.nestMembers #[1103]] #[{ accessFlags := 1, nameIndex := 5, descriptorIndex := 6, attributes := #[] }, { accessFlags := 1, nameIndex := 5, descriptorIndex := 1010, attributes := #[] }, { accessFlags := 2, nameIndex := 5, descriptorIndex := 29, attributes := #[] }] 49 2 #[1106, 1108, 575, 1110, 1112] #[{ accessFlags := 18, nameIndex := 13, descriptorIndex := 14, attributes := #[] }, { accessFlags := 18, nameIndex := 17, descriptorIndex := 18, attributes := #[] }, { accessFlags := 2, nameIndex := 21, descriptorIndex := 22, attributes := #[] }, { accessFlags := 2, nameIndex := 25, descriptorIndex := 26, attributes := #[] }, { accessFlags := 26, nameIndex := 1116, descriptorIndex := 1117, attributes := #[] }, { accessFlags := 24, nameIndex := 40, descriptorIndex := 26, attributes := #[] }, { accessFlags := 26, nameIndex := 1101, descriptorIndex := 1102, attributes := #[] }, { accessFlags := 26, nameIndex := 1121, descriptorIndex := 1122, attributes := #[] }, { accessFlags := 25, nameIndex := 599, descriptorIndex := 600, attributes := #[] }, { accessFlags := 24, nameIndex := 1125, descriptorIndex := 18, attributes := #[] }, { accessFlags := 24, nameIndex := 1127, descriptorIndex := 18, attributes := #[] }])
  fields := #[{ name := "value", type := (.array .byte), accessFlags := 18, slot := 0, constantValue := 0 }, { name := "coder", type := .byte, accessFlags := 18, slot := 1, constantValue := 0 }, { name := "hash", type := .int, accessFlags := 2, slot := 2, constantValue := 0 }, { name := "hashIsZero", type := .boolean, accessFlags := 2, slot := 3, constantValue := 0 }, { name := "serialVersionUID", type := .long, accessFlags := 26, slot := 0, constantValue := 0 }, { name := "COMPACT_STRINGS", type := .boolean, accessFlags := 24, slot := 1, constantValue := 0 }, { name := "serialPersistentFields", type := (.array (.object "java/io/ObjectStreamField")), accessFlags := 26, slot := 2, constantValue := 0 }, { name := "REPL", type := .char, accessFlags := 26, slot := 3, constantValue := 0 }, { name := "CASE_INSENSITIVE_ORDER", type := (.object "java/util/Comparator"), accessFlags := 25, slot := 4, constantValue := 0 }, { name := "LATIN1", type := .byte, accessFlags := 24, slot := 5, constantValue := 0 }, { name := "UTF16", type := .byte, accessFlags := 24, slot := 6, constantValue := 0 }]
  methods := #[k7m0, k7m1, k7m2]
  instanceTypes := #[(.array .byte), .byte, .int, .boolean]
  staticTypes := #[.long, .boolean, (.array (.object "java/io/ObjectStreamField")), .char, (.object "java/util/Comparator"), .byte, .byte]
  resolved := Array.replicate 1451 none
  statics := some 0 }

def pool8 : Array CpInfo := pool [(6, .class_ 8), (1, u "java/lang/Object"), (0, u "<init>"), (0, u "()V"), (1, .class_ 14), (1, u "java/lang/StringUTF16"), (31, u "$assertionsDisabled"), (0, u "Z"), (13, u "HI_BYTE_SHIFT"), (0, u "I"), (2, u "LO_BYTE_SHIFT"), (49, .methodref 12 116), (0, .nameAndType 117 118), (0, u "compress"), (0, u "([CI[BII)I"), (3, u "([CII)[B"), (138, u "coderFromArrayLen"), (0, u "([BI)B"), (106, .class_ 371), (1, u "java/lang/StringUTF16$LinesSpliterator"), (58, u "MAX_LENGTH"), (196, .class_ 628), (0, u "java/lang/StringUTF16$CodePointsSpliterator"), (0, .class_ 630), (0, u "java/lang/StringUTF16$CharsSpliterator")] 4

def k8m0 : Method := { name := "<init>", desc := "()V", sig := { parameters := [], returnType := none }, accessFlags := 0, code := none }
def k8c1 : Code := { maxStack := 2, maxLocals := 2, code := jdk_52_method_15_code, exceptionTable := #[], attributes := #[] }
def k8m1 : Method := { name := "coderFromArrayLen", desc := "([BI)B", sig := { parameters := [(.array .byte), .int], returnType := some .byte }, accessFlags := 8, code := some k8c1 }
def k8c2 : Code := { maxStack := 5, maxLocals := 6, code := jdk_52_method_16_code, exceptionTable := #[], attributes := #[] }
def k8m2 : Method := { name := "compress", desc := "([CII)[B", sig := { parameters := [(.array .char), .int, .int], returnType := some (.array .byte) }, accessFlags := 9, code := some k8c2 }
def k8c3 : Code := { maxStack := 3, maxLocals := 7, code := jdk_52_method_21_code, exceptionTable := #[], attributes := #[] }
def k8m3 : Method := { name := "compress", desc := "([CI[BII)I", sig := { parameters := [(.array .char), .int, (.array .byte), .int, .int], returnType := some .int }, accessFlags := 9, code := some k8c3 }
/-- java/lang/StringUTF16 -/
def k8 : Class := { plain "java/lang/StringUTF16" (some 0) with
  accessFlags := 48
  interfaces := #[]
  cf := some (fileOf pool8 12 #[.nestMembers #[627, 629, 369]] #[{ accessFlags := 0, nameIndex := 9, descriptorIndex := 10, attributes := #[] }, { accessFlags := 8, nameIndex := 261, descriptorIndex := 262, attributes := #[] }, { accessFlags := 9, nameIndex := 117, descriptorIndex := 122, attributes := #[] }, { accessFlags := 9, nameIndex := 117, descriptorIndex := 118, attributes := #[] }] 48 6 #[] #[{ accessFlags := 26, nameIndex := 61, descriptorIndex := 62, attributes := #[] }, { accessFlags := 26, nameIndex := 65, descriptorIndex := 62, attributes := #[] }, { accessFlags := 24, nameIndex := 430, descriptorIndex := 62, attributes := #[] }, { accessFlags := 4120, nameIndex := 46, descriptorIndex := 47, attributes := #[] }])
  fields := #[{ name := "HI_BYTE_SHIFT", type := .int, accessFlags := 26, slot := 0, constantValue := 0 }, { name := "LO_BYTE_SHIFT", type := .int, accessFlags := 26, slot := 1, constantValue := 0 }, { name := "MAX_LENGTH", type := .int, accessFlags := 24, slot := 2, constantValue := 0 }, { name := "$assertionsDisabled", type := .boolean, accessFlags := 4120, slot := 3, constantValue := 0 }]
  methods := #[k8m0, k8m1, k8m2, k8m3]
  instanceTypes := #[]
  staticTypes := #[.int, .int, .int, .boolean]
  resolved := Array.replicate 635 none
  statics := none }

def pool9 : Array CpInfo := pool [(2, .class_ 4), (1, u "java/lang/Enum"), (0, u "name"), (0, u "Ljava/lang/String;"), (2, u "ordinal"), (0, u "I"), (1, .class_ 14), (1, u "java/lang/Object"), (4, u "hash"), (86, .class_ 108), (1, u "java/lang/Enum$EnumDesc"), (2, .class_ 112), (0, u "java/lang/constant/Constable"), (0, .class_ 114), (0, u "java/lang/Comparable"), (0, .class_ 116), (0, u "java/io/Serializable")] 87

/-- java/lang/Enum -/
def k9 : Class := { plain "java/lang/Enum" (some 0) with
  accessFlags := 1057
  interfaces := #[5, 3, 2]
  cf := some (fileOf pool9 2 #[.nestMembers #[106]] #[] 1057 12 #[111, 113, 115] #[{ accessFlags := 18, nameIndex := 5, descriptorIndex := 6, attributes := #[] }, { accessFlags := 18, nameIndex := 9, descriptorIndex := 10, attributes := #[] }, { accessFlags := 2, nameIndex := 19, descriptorIndex := 10, attributes := #[] }])
  fields := #[{ name := "name", type := (.object "java/lang/String"), accessFlags := 18, slot := 0, constantValue := 0 }, { name := "ordinal", type := .int, accessFlags := 18, slot := 1, constantValue := 0 }, { name := "hash", type := .int, accessFlags := 2, slot := 2, constantValue := 0 }]
  methods := #[]
  instanceTypes := #[(.object "java/lang/String"), .int, .int]
  staticTypes := #[]
  resolved := Array.replicate 204 none
  statics := none }

def pool10 : Array CpInfo := pool [(1, .class_ 2), (0, u "com/example/poolwright/poolwright/Copy$Refusal"), (2, u "ALERT"), (0, u "Lcom/example/poolwright/poolwright/Copy$Refusal;"), (2, u "OFF"), (2, u "MAX_COPIES"), (2, u "NO_DESTINATION"), (2, u "$VALUES"), (0, u "[Lcom/example/poolwright/poolwright/Copy$Refusal;"), (6, .class_ 28), (1, u "java/lang/Enum"), (8, u "word"), (0, u "Ljava/lang/String;"), (40, .class_ 80), (0, u "com/example/poolwright/poolwright/Copy")] 2

/-- com/example/poolwright/poolwright/Copy$Refusal -/
def k10 : Class := { plain "com/example/poolwright/poolwright/Copy$Refusal" (some 9) with
  accessFlags := 16432
  interfaces := #[]
  cf := some (fileOf pool10 1 #[.nestHost 79] #[] 16432 26 #[] #[{ accessFlags := 16409, nameIndex := 5, descriptorIndex := 6, attributes := #[] }, { accessFlags := 16409, nameIndex := 9, descriptorIndex := 6, attributes := #[] }, { accessFlags := 16409, nameIndex := 12, descriptorIndex := 6, attributes := #[] }, { accessFlags := 16409, nameIndex := 15, descriptorIndex := 6, attributes := #[] }, { accessFlags := 18, nameIndex := 37, descriptorIndex := 38, attributes := #[] }, { accessFlags := 4122, nameIndex := 18, descriptorIndex := 19, attributes := #[] }])
  fields := #[{ name := "ALERT", type := (.object "com/example/poolwright/poolwright/Copy$Refusal"), accessFlags := 16409, slot := 0, constantValue := 0 }, { name := "OFF", type := (.object "com/example/poolwright/poolwright/Copy$Refusal"), accessFlags := 16409, slot := 1, constantValue := 0 }, { name := "MAX_COPIES", type := (.object "com/example/poolwright/poolwright/Copy$Refusal"), accessFlags := 16409, slot := 2, constantValue := 0 }, { name := "NO_DESTINATION", type := (.object "com/example/poolwright/poolwright/Copy$Refusal"), accessFlags := 16409, slot := 3, constantValue := 0 }, { name := "word", type := (.object "java/lang/String"), accessFlags := 18, slot := 3, constantValue := 0 }, { name := "$VALUES", type := (.array (.object "com/example/poolwright/poolwright/Copy$Refusal")), accessFlags := 4122, slot := 4, constantValue := 0 }]
  methods := #[]
  instanceTypes := #[(.object "java/lang/String"), .int, .int, (.object "java/lang/String")]
  staticTypes := #[(.object "com/example/poolwright/poolwright/Copy$Refusal"), (.object "com/example/poolwright/poolwright/Copy$Refusal"), (.object "com/example/poolwright/poolwright/Copy$Refusal"), (.object "com/example/poolwright/poolwright/Copy$Refusal"), (.array (.object "com/example/poolwright/poolwright/Copy$Refusal"))]
  resolved := Array.replicate 83 none
  statics := some 1 }

def pool11 : Array CpInfo := pool [(1, .methodref 2 3), (0, .class_ 4), (0, .nameAndType 5 6), (0, u "java/lang/Object"), (0, u "<init>"), (0, u "()V"), (0, .class_ 8), (0, u "java/lang/Record")] 13

def k11c0 : Code := { maxStack := 1, maxLocals := 1, code := jdk_30_method_1_code, exceptionTable := #[], attributes := #[] }
def k11m0 : Method := { name := "<init>", desc := "()V", sig := { parameters := [], returnType := none }, accessFlags := 4, code := some k11c0 }
/-- java/lang/Record -/
def k11 : Class := { plain "java/lang/Record" (some 0) with
  accessFlags := 1057
  interfaces := #[]
  cf := some (fileOf pool11 7 #[] #[{ accessFlags := 4, nameIndex := 5, descriptorIndex := 6, attributes := #[] }] 1057 2 #[] #[])
  fields := #[]
  methods := #[k11m0]
  instanceTypes := #[]
  staticTypes := #[]
  resolved := Array.replicate 22 none
  statics := none }

def pool12 : Array CpInfo := pool [(1, .methodref 2 3), (0, .class_ 4), (0, .nameAndType 5 6), (0, u "java/lang/Record"), (0, u "<init>"), (0, u "()V"), (0, .fieldref 8 9), (0, .class_ 10), (0, .nameAndType 11 12), (0, u "com/example/poolwright/poolwright/Copy"), (0, u "source"), (0, u "Ljava/lang/String;"), (0, .fieldref 8 14), (0, .nameAndType 15 12), (0, u "destination"), (0, .fieldref 8 17), (0, .nameAndType 18 19), (0, u "refusal"), (0, u "Lcom/example/poolwright/poolwright/Copy$Refusal;"), (0, .methodref 8 21), (0, .nameAndType 5 22), (0, u "(Ljava/lang/String;Ljava/lang/String;Lcom/example/poolwright/poolwright/Copy$Refusal;)V"), (15, u "started"), (0, u "(Ljava/lang/String;Ljava/lang/String;)Lcom/example/poolwright/poolwright/Copy;"), (0, u "refused"), (0, u "(Ljava/lang/String;Lcom/example/poolwright/poolwright/Copy$Refusal;)Lcom/example/poolwright/poolwright/Copy;"), (0, u "starts"), (0, u "()Z"), (8, .class_ 53), (0, u "com/example/poolwright/poolwright/Copy$Refusal")] 21

def k12c0 : Code := { maxStack := 2, maxLocals := 4, code := prog_11_method_1_code, exceptionTable := #[], attributes := #[] }
def k12m0 : Method := { name := "<init>", desc := "(Ljava/lang/String;Ljava/lang/String;Lcom/example/poolwright/poolwright/Copy$Refusal;)V", sig := { parameters := [(.object "java/lang/String"), (.object "java/lang/String"), (.object "com/example/poolwright/poolwright/Copy$Refusal")], returnType := none }, accessFlags := 0, code := some k12c0 }
def k12c1 : Code := { maxStack := 5, maxLocals := 2, code := prog_11_method_2_code, exceptionTable := #[], attributes := #[] }
def k12m1 : Method := { name := "started", desc := "(Ljava/lang/String;Ljava/lang/String;)Lcom/example/poolwright/poolwright/Copy;", sig := { parameters := [(.object "java/lang/String"), (.object "java/lang/String")], returnType := some (.object "com/example/poolwright/poolwright/Copy") }, accessFlags := 8, code := some k12c1 }
def k12c2 : Code := { maxStack := 5, maxLocals := 2, code := prog_11_method_3_code, exceptionTable := #[], attributes := #[] }
def k12m2 : Method := { name := "refused", desc := "(Ljava/lang/String;Lcom/example/poolwright/poolwright/Copy$Refusal;)Lcom/example/poolwright/poolwright/Copy;", sig := { parameters := [(.object "java/lang/String"), (.object "com/example/poolwright/poolwright/Copy$Refusal")], returnType := some (.object "com/example/poolwright/poolwright/Copy") }, accessFlags := 8, code := some k12c2 }
def k12c3 : Code := { maxStack := 1, maxLocals := 1, code := prog_11_method_4_code, exceptionTable := #[], attributes := #[] }
def k12m3 : Method := { name := "starts", desc := "()Z", sig := { parameters := [], returnType := some .boolean }, accessFlags := 0, code := some k12c3 }
/-- com/example/poolwright/poolwright/Copy -/
def k12 : Class := { plain "com/example/poolwright/poolwright/Copy" (some 11) with
  accessFlags := 48
  interfaces := #[]
  cf := some (fileOf pool12 8 #[.nestMembers #[52]] #[{ accessFlags := 0, nameIndex := 5, descriptorIndex := 22, attributes := #[] }, { accessFlags := 8, nameIndex := 38, descriptorIndex := 39, attributes := #[] }, { accessFlags := 8, nameIndex := 40, descriptorIndex := 41, attributes := #[] }, { accessFlags := 0, nameIndex := 42, descriptorIndex := 43, attributes := #[] }] 48 2 #[] #[{ accessFlags := 18, nameIndex := 11, descriptorIndex := 12, attributes := #[] }, { accessFlags := 18, nameIndex := 15, descriptorIndex := 12, attributes := #[] }, { accessFlags := 18, nameIndex := 18, descriptorIndex := 19, attributes := #[] }])
  fields := #[{ name := "source", type := (.object "java/lang/String"), accessFlags := 18, slot := 0, constantValue := 0 }, { name := "destination", type := (.object "java/lang/String"), accessFlags := 18, slot := 1, constantValue := 0 }, { name := "refusal", type := (.object "com/example/poolwright/poolwright/Copy$Refusal"), accessFlags := 18, slot := 2, constantValue := 0 }]
  methods := #[k12m0, k12m1, k12m2, k12m3]
  instanceTypes := #[(.object "java/lang/String"), (.object "java/lang/String"), (.object "com/example/poolwright/poolwright/Copy$Refusal")]
  staticTypes := #[]
  resolved := Array.replicate 75 none
  statics := none }

def pool13 : Array CpInfo := pool [(4, .class_ 6), (1, u "java/lang/Object"), (0, u "<init>"), (0, u "()V"), (5, .class_ 16), (1, u "java/lang/StringLatin1"), (104, u "$assertionsDisabled"), (0, u "Z"), (98, .class_ 223), (1, u "java/lang/StringLatin1$LinesSpliterator"), (166, .class_ 391), (0, u "java/lang/StringLatin1$CharsSpliterator")] 3

def k13m0 : Method := { name := "<init>", desc := "()V", sig := { parameters := [], returnType := none }, accessFlags := 0, code := none }
/-- java/lang/StringLatin1 -/
def k13 : Class := { plain "java/lang/StringLatin1" (some 0) with
  accessFlags := 48
  interfaces := #[]
  cf := some (fileOf pool13 14 #[.nestMembers #[390, 221]] #[{ accessFlags := 0, nameIndex := 7, descriptorIndex := 8, attributes := #[] }] 48 4 #[] #[{ accessFlags := 4120, nameIndex := 121, descriptorIndex := 122, attributes := #[] }])
  fields := #[{ name := "$assertionsDisabled", type := .boolean, accessFlags := 4120, slot := 0, constantValue := 0 }]
  methods := #[k13m0]
  instanceTypes := #[]
  staticTypes := #[.boolean]
  resolved := Array.replicate 395 none
  statics := none }

def pool14 : Array CpInfo := pool [(2, .class_ 4), (1, u "java/lang/Object"), (0, u "<init>"), (0, u "()V"), (17, .class_ 26), (1, u "jdk/internal/util/Preconditions"), (28, .class_ 56), (0, u "jdk/internal/util/Preconditions$4"), (57, .class_ 115), (0, u "jdk/internal/util/Preconditions$1"), (7, u "SIOOBE_FORMATTER"), (0, u "Ljava/util/function/BiFunction;"), (0, .class_ 126), (0, u "jdk/internal/util/Preconditions$2"), (3, u "AIOOBE_FORMATTER"), (0, .class_ 132), (0, u "jdk/internal/util/Preconditions$3"), (3, u "IOOBE_FORMATTER")] 57

def k14m0 : Method := { name := "<init>", desc := "()V", sig := { parameters := [], returnType := none }, accessFlags := 1, code := none }
/-- jdk/internal/util/Preconditions -/
def k14 : Class := { plain "jdk/internal/util/Preconditions" (some 0) with
  accessFlags := 33
  interfaces := #[]
  cf := some (fileOf pool14 24 #[.nestMembers #[55, 131, 125, 114]] #[{ accessFlags := 1, nameIndex := 5, descriptorIndex := 6, attributes := #[] }] 33 2 #[] #[{ accessFlags := 25, nameIndex := 123, descriptorIndex := 124, attributes := #[] }, { accessFlags := 25, nameIndex := 130, descriptorIndex := 124, attributes := #[] }, { accessFlags := 25, nameIndex := 136, descriptorIndex := 124, attributes := #[] }])
  fields := #[{ name := "SIOOBE_FORMATTER", type := (.object "java/util/function/BiFunction"), accessFlags := 25, slot := 0, constantValue := 0 }, { name := "AIOOBE_FORMATTER", type := (.object "java/util/function/BiFunction"), accessFlags := 25, slot := 1, constantValue := 0 }, { name := "IOOBE_FORMATTER", type := (.object "java/util/function/BiFunction"), accessFlags := 25, slot := 2, constantValue := 0 }]
  methods := #[k14m0]
  instanceTypes := #[]
  staticTypes := #[(.object "java/util/function/BiFunction"), (.object "java/util/function/BiFunction"), (.object "java/util/function/BiFunction")]
  resolved := Array.replicate 194 none
  statics := some 2 }

def pool15 : Array CpInfo := pool [(9, u "<init>"), (6, .class_ 18), (1, u "java/lang/Object"), (0, u "()V"), (1, .class_ 23), (1, u "jdk/internal/util/ArraysSupport"), (0, u "LOG2_ARRAY_LONG_INDEX_SCALE"), (0, u "I"), (2, u "U"), (0, u "Ljdk/internal/misc/Unsafe;"), (8, u "BIG_ENDIAN"), (0, u "Z"), (8, u "LOG2_BYTE_BIT_SIZE"), (4, u "LOG2_ARRAY_INT_INDEX_SCALE"), (54, u "JLA"), (0, u "Ljdk/internal/access/JavaLangAccess;"), (11, u "LOG2_ARRAY_BOOLEAN_INDEX_SCALE"), (9, u "LOG2_ARRAY_BYTE_INDEX_SCALE"), (5, u "LOG2_ARRAY_CHAR_INDEX_SCALE"), (5, u "LOG2_ARRAY_SHORT_INDEX_SCALE"), (18, u "LOG2_ARRAY_FLOAT_INDEX_SCALE"), (24, u "LOG2_ARRAY_DOUBLE_INDEX_SCALE"), (89, u "T_BOOLEAN"), (2, u "T_CHAR"), (1, u "T_FLOAT"), (1, u "T_DOUBLE"), (1, u "T_BYTE"), (1, u "T_SHORT"), (1, u "T_INT"), (1, u "T_LONG"), (1, u "SOFT_MAX_ARRAY_LENGTH")] 83

def k15m0 : Method := { name := "<init>", desc := "()V", sig := { parameters := [], returnType := none }, accessFlags := 2, code := none }
/-- jdk/internal/util/ArraysSupport -/
def k15 : Class := { plain "jdk/internal/util/ArraysSupport" (some 0) with
  accessFlags := 33
  interfaces := #[]
  cf := some (fileOf pool15 21 #[] #[{ accessFlags := 2, nameIndex := 9, descriptorIndex := 19, attributes := #[] }] 33 16 #[] #[{ accessFlags := 24, nameIndex := 28, descriptorIndex := 29, attributes := #[] }, { accessFlags := 26, nameIndex := 38, descriptorIndex := 39, attributes := #[] }, { accessFlags := 25, nameIndex := 121, descriptorIndex := 25, attributes := #[] }, { accessFlags := 25, nameIndex := 131, descriptorIndex := 25, attributes := #[] }, { accessFlags := 25, nameIndex := 137, descriptorIndex := 25, attributes := #[] }, { accessFlags := 25, nameIndex := 143, descriptorIndex := 25, attributes := #[] }, { accessFlags := 25, nameIndex := 53, descriptorIndex := 25, attributes := #[] }, { accessFlags := 25, nameIndex := 24, descriptorIndex := 25, attributes := #[] }, { accessFlags := 25, nameIndex := 162, descriptorIndex := 25, attributes := #[] }, { accessFlags := 25, nameIndex := 187, descriptorIndex := 25, attributes := #[] }, { accessFlags := 26, nameIndex := 48, descriptorIndex := 25, attributes := #[] }, { accessFlags := 25, nameIndex := 277, descriptorIndex := 25, attributes := #[] }, { accessFlags := 25, nameIndex := 280, descriptorIndex := 25, attributes := #[] }, { accessFlags := 25, nameIndex := 282, descriptorIndex := 25, attributes := #[] }, { accessFlags := 25, nameIndex := 284, descriptorIndex := 25, attributes := #[] }, { accessFlags := 25, nameIndex := 286, descriptorIndex := 25, attributes := #[] }, { accessFlags := 25, nameIndex := 288, descriptorIndex := 25, attributes := #[] }, { accessFlags := 25, nameIndex := 290, descriptorIndex := 25, attributes := #[] }, { accessFlags := 25, nameIndex := 292, descriptorIndex := 25, attributes := #[] }, { accessFlags := 26, nameIndex := 108, descriptorIndex := 109, attributes := #[] }, { accessFlags := 25, nameIndex := 294, descriptorIndex := 25, attributes := #[] }])
  fields := #[{ name := "U", type := (.object "jdk/internal/misc/Unsafe"), accessFlags := 24, slot := 0, constantValue := 0 }, { name := "BIG_ENDIAN", type := .boolean, accessFlags := 26, slot := 1, constantValue := 0 }, { name := "LOG2_ARRAY_BOOLEAN_INDEX_SCALE", type := .int, accessFlags := 25, slot := 2, constantValue := 0 }, { name := "LOG2_ARRAY_BYTE_INDEX_SCALE", type := .int, accessFlags := 25, slot := 3, constantValue := 0 }, { name := "LOG2_ARRAY_CHAR_INDEX_SCALE", type := .int, accessFlags := 25, slot := 4, constantValue := 0 }, { name := "LOG2_ARRAY_SHORT_INDEX_SCALE", type := .int, accessFlags := 25, slot := 5, constantValue := 0 }, { name := "LOG2_ARRAY_INT_INDEX_SCALE", type := .int, accessFlags := 25, slot := 6, constantValue := 0 }, { name := "LOG2_ARRAY_LONG_INDEX_SCALE", type := .int, accessFlags := 25, slot := 7, constantValue := 0 }, { name := "LOG2_ARRAY_FLOAT_INDEX_SCALE", type := .int, accessFlags := 25, slot := 8, constantValue := 0 }, { name := "LOG2_ARRAY_DOUBLE_INDEX_SCALE", type := .int, accessFlags := 25, slot := 9, constantValue := 0 }, { name := "LOG2_BYTE_BIT_SIZE", type := .int, accessFlags := 26, slot := 10, constantValue := 0 }, { name := "T_BOOLEAN", type := .int, accessFlags := 25, slot := 11, constantValue := 0 }, { name := "T_CHAR", type := .int, accessFlags := 25, slot := 12, constantValue := 0 }, { name := "T_FLOAT", type := .int, accessFlags := 25, slot := 13, constantValue := 0 }, { name := "T_DOUBLE", type := .int, accessFlags := 25, slot := 14, constantValue := 0 }, { name := "T_BYTE", type := .int, accessFlags := 25, slot := 15, constantValue := 0 }, { name := "T_SHORT", type := .int, accessFlags := 25, slot := 16, constantValue := 0 }, { name := "T_INT", type := .int, accessFlags := 25, slot := 17, constantValue := 0 }, { name := "T_LONG", type := .int, accessFlags := 25, slot := 18, constantValue := 0 }, { name := "JLA", type := (.object "jdk/internal/access/JavaLangAccess"), accessFlags := 26, slot := 19, constantValue := 0 }, { name := "SOFT_MAX_ARRAY_LENGTH", type := .int, accessFlags := 25, slot := 20, constantValue := 0 }]
  methods := #[k15m0]
  instanceTypes := #[]
  staticTypes := #[(.object "jdk/internal/misc/Unsafe"), .boolean, .int, .int, .int, .int, .int, .int, .int, .int, .int, .int, .int, .int, .int, .int, .int, .int, .int, (.object "jdk/internal/access/JavaLangAccess"), .int]
  resolved := Array.replicate 378 none
  statics := none }

def pool16 : Array CpInfo := pool [(1, u "java/lang/Cloneable"), (0, .class_ 1), (0, u "java/lang/Object"), (0, .class_ 3)] 3

/-- java/lang/Cloneable -/
def k16 : Class := { plain "java/lang/Cloneable" (some 0) with
  accessFlags := 1537
  interfaces := #[]
  cf := some (fileOf pool16 2 #[] #[] 1537 4 #[] #[])
  fields := #[]
  methods := #[]
  instanceTypes := #[]
  staticTypes := #[]
  resolved := Array.replicate 8 none
  statics := none }

/-- the primitive byte -/
def k17 : Class := { plain "byte" none with kind := .primitive 'B', accessFlags := 0x411 }
/-- [B -/
def k18 : Class := { plain "[B" (some 0) with kind := .array 17 .byte, interfaces := #[16, 2], accessFlags := 1041 }

/-- the primitive char -/
def k19 : Class := { plain "char" none with kind := .primitive 'C', accessFlags := 0x411 }
/-- [C -/
def k20 : Class := { plain "[C" (some 0) with kind := .array 19 .char, interfaces := #[16, 2], accessFlags := 1041 }

/-- the primitive int -/
def k21 : Class := { plain "int" none with kind := .primitive 'I', accessFlags := 0x411 }
/-- [I -/
def k22 : Class := { plain "[I" (some 0) with kind := .array 21 .int, interfaces := #[16, 2], accessFlags := 1041 }

def heap : Heap := #[{ cls := 7, slots := #[.long 0, .int 1, .null, .int 0, .null, .int 0, .int 0], vm := .statics 7 },
  { cls := 10, slots := #[.ref 3, .ref 4, .ref 5, .ref 6, .null], vm := .statics 10 },
  { cls := 14, slots := #[.null, .null, .null], vm := .statics 14 },
  { cls := 10, slots := #[.null, .int 0, .int 0, .null], vm := .none },
  { cls := 10, slots := #[.null, .int 1, .int 0, .null], vm := .none },
  { cls := 10, slots := #[.null, .int 2, .int 0, .null], vm := .none },
  { cls := 10, slots := #[.null, .int 3, .int 0, .null], vm := .none }]
def classes : Array Class := #[k0, k1, k2, k3, k4, k5, k6, k7, k8, k9, k10, k11, k12, k13, k14, k15, k16, k17, k18, k19, k20, k21, k22]
def interned : List (Array UInt16 × Addr) := []
def slotsUsed : Nat := 31
def theMethod : MethodId := ⟨1, 3⟩
def args0 : Array Value := #[.int 5, .int 7, .int 3]
def aboutOver (below : List Frame) : State where
  vm := { classes := classes, interned := interned.toArray }
  heap := heap
  slotsUsed := slotsUsed
  threads := #[{ frames := .invoking theMethod args0 :: below }]
def below0 : List Frame := [.native { method := ⟨0, 0⟩, args := #[] }]
def about1 : State := aboutOver below0
def p0 : Program := .bare "" "" ""
def e0 : Env := launch0.env 0 0 0
theorem w_frames : about1.frames = Frame.invoking theMethod args0 :: below0 := rfl
set_option maxRecDepth 65536 in
theorem w_args : argsFit about1.vm theMethod args0 = true := by decide +kernel
set_option maxRecDepth 65536 in
theorem w_heap : heapFits about1 = true := by decide +kernel
set_option maxRecDepth 65536 in
theorem w_runnable : about1.curStatus? = some .runnable := by decide +kernel
set_option maxRecDepth 65536 in
theorem w_alone : about1.alone = true := by decide +kernel
set_option maxRecDepth 65536 in
theorem w_named : about1.methodNamed? x = some theMethod := by decide +kernel
set_option maxRecDepth 65536 in
theorem w_hears : about1.hears theMethod below0 = true := by decide +kernel
set_option maxRecDepth 65536 in
theorem w_ripe : about1.ripe theMethod args0 below0 = true := by decide +kernel
theorem w_running : about1.status = .running := rfl
set_option maxRecDepth 65536 in
theorem w_room : about1.hasRoom e0.platform room_1 = true :=
  launch0.hasRoom_least _ room_1 (by decide +kernel) (by decide +kernel) (by decide +kernel) (by decide +kernel) (by decide +kernel) (by decide +kernel)
theorem allAtoms_all (ts : List Jvm.Cond) (a : Array Jvm.Value) (st : Jvm.State) : (allAtoms ts).before a st = ts.all (fun c => c.before a st) := by
  induction ts with
  | nil => rfl
  | cons c t ih =>
    show (Jvm.Cond.and c (allAtoms t)).before a st = _
    rw [Jvm.Cond.before_and, ih, List.all_cons]
def words1 : List Jvm.Cond := Jvm.Cond.code x code maxLocals ret :: tables_1
/-- a 'code' word, met by the world's own term for the bytes: nothing is compared byte by byte -/
theorem code_word {y : MethodName} {bytes : ByteArray} {mx : Nat} {rt : Option FieldType} {a : Array Value} {s : State} {m : MethodId} {meth : Method} {c : Code} (h1 : s.methodNamed? y = some m) (h2 : s.vm.method? m = some meth) (h3 : meth.code = some c) (h4 : c.code = bytes)
    (h5 : (c.maxLocals == mx && c.exceptionTable.isEmpty && decide (c.maxStack ≤ mostOperands) && decide (meth.sig.returnType = rt) && !meth.locks && decide (parseMethodDescriptor y.desc = some meth.sig)) = true) : (Jvm.Cond.code y bytes mx rt).before a s = true := by
  simp only [Bool.and_eq_true, beq_iff_eq, Bool.not_eq_true', decide_eq_true_eq] at h5
  obtain ⟨⟨⟨⟨⟨g1, g2⟩, g3⟩, g4⟩, g5⟩, g6⟩ := h5
  simp [Cond.before, Cond.holds, Cond.value, h1, h2, h3, h4, g1, g2, g3, g4, g5, g6]
def isCode : Jvm.Cond → Bool
  | .code _ _ _ _ => true
  | _ => false
theorem all_split {L : List Jvm.Cond} {P : Jvm.Cond → Bool} (h1 : L.all (fun c => isCode c || P c) = true) (h2 : ∀ c ∈ L.filter isCode, P c = true) : L.all P = true := by
  refine List.all_eq_true.mpr fun c hc => ?_
  have h := List.all_eq_true.mp h1 c hc
  rcases Bool.eq_false_or_eq_true (isCode c) with hi | hi
  · exact h2 c (List.mem_filter.mpr ⟨hc, hi⟩)
  · simpa [hi] using h
set_option maxRecDepth 65536 in
theorem w_c0 : (Jvm.Cond.code x code maxLocals ret).before args0 about1 = true := code_word (m := ⟨1, 3⟩) (meth := k1m3) (c := k1c3) (by decide +kernel) rfl rfl rfl (by decide +kernel)
set_option maxRecDepth 65536 in
theorem w_c1 : (Jvm.Cond.code ({ cls := "com/example/poolwright/poolwright/CopyStartsPinLaw", name := "draw", desc := "(III)Ljava/lang/String;" } : Jvm.MethodName) method_3_code (5 : Nat) (Option.some (Jvm.ClassFile.FieldType.object "java/lang/String"))).before args0 about1 = true := code_word (m := ⟨1, 2⟩) (meth := k1m2) (c := k1c2) (by decide +kernel) rfl rfl rfl (by decide +kernel)
set_option maxRecDepth 65536 in
theorem w_c2 : (Jvm.Cond.code ({ cls := "java/lang/String", name := "<init>", desc := "([C)V" } : Jvm.MethodName) jdk_42_method_3_code (2 : Nat) (Option.none : Option Jvm.ClassFile.FieldType)).before args0 about1 = true := code_word (m := ⟨7, 1⟩) (meth := k7m1) (c := k7c1) (by decide +kernel) rfl rfl rfl (by decide +kernel)
set_option maxRecDepth 65536 in
theorem w_c3 : (Jvm.Cond.code ({ cls := "java/lang/String", name := "<init>", desc := "([CIILjava/lang/Void;)V" } : Jvm.MethodName) jdk_42_method_149_code (6 : Nat) (Option.none : Option Jvm.ClassFile.FieldType)).before args0 about1 = true := code_word (m := ⟨7, 2⟩) (meth := k7m2) (c := k7c2) (by decide +kernel) rfl rfl rfl (by decide +kernel)
set_option maxRecDepth 65536 in
theorem w_c4 : (Jvm.Cond.code ({ cls := "java/lang/Object", name := "<init>", desc := "()V" } : Jvm.MethodName) object_method_1_code (1 : Nat) (Option.none : Option Jvm.ClassFile.FieldType)).before args0 about1 = true := code_word (m := ⟨0, 0⟩) (meth := k0m0) (c := k0c0) (by decide +kernel) rfl rfl rfl (by decide +kernel)
set_option maxRecDepth 65536 in
theorem w_c5 : (Jvm.Cond.code ({ cls := "java/lang/StringUTF16", name := "compress", desc := "([CII)[B" } : Jvm.MethodName) jdk_52_method_16_code (6 : Nat) (Option.some (Jvm.ClassFile.FieldType.array Jvm.ClassFile.FieldType.byte))).before args0 about1 = true := code_word (m := ⟨8, 2⟩) (meth := k8m2) (c := k8c2) (by decide +kernel) rfl rfl rfl (by decide +kernel)
set_option maxRecDepth 65536 in
theorem w_c6 : (Jvm.Cond.code ({ cls := "java/lang/StringUTF16", name := "compress", desc := "([CI[BII)I" } : Jvm.MethodName) jdk_52_method_21_code (7 : Nat) (Option.some Jvm.ClassFile.FieldType.int)).before args0 about1 = true := code_word (m := ⟨8, 3⟩) (meth := k8m3) (c := k8c3) (by decide +kernel) rfl rfl rfl (by decide +kernel)
set_option maxRecDepth 65536 in
theorem w_c7 : (Jvm.Cond.code ({ cls := "java/lang/StringUTF16", name := "coderFromArrayLen", desc := "([BI)B" } : Jvm.MethodName) jdk_52_method_15_code (2 : Nat) (Option.some Jvm.ClassFile.FieldType.byte)).before args0 about1 = true := code_word (m := ⟨8, 1⟩) (meth := k8m1) (c := k8c1) (by decide +kernel) rfl rfl rfl (by decide +kernel)
set_option maxRecDepth 65536 in
theorem w_c8 : (Jvm.Cond.code ({ cls := "com/example/poolwright/poolwright/CopyStartsPinLaw", name := "pick", desc := "(I)Lcom/example/poolwright/poolwright/Copy$Refusal;" } : Jvm.MethodName) method_2_code (2 : Nat) (Option.some (Jvm.ClassFile.FieldType.object "com/example/poolwright/poolwright/Copy$Refusal"))).before args0 about1 = true := code_word (m := ⟨1, 1⟩) (meth := k1m1) (c := k1c1) (by decide +kernel) rfl rfl rfl (by decide +kernel)
set_option maxRecDepth 65536 in
theorem w_c9 : (Jvm.Cond.code ({ cls := "com/example/poolwright/poolwright/Copy", name := "<init>", desc := "(Ljava/lang/String;Ljava/lang/String;Lcom/example/poolwright/poolwright/Copy$Refusal;)V" } : Jvm.MethodName) prog_11_method_1_code (4 : Nat) (Option.none : Option Jvm.ClassFile.FieldType)).before args0 about1 = true := code_word (m := ⟨12, 0⟩) (meth := k12m0) (c := k12c0) (by decide +kernel) rfl rfl rfl (by decide +kernel)
set_option maxRecDepth 65536 in
theorem w_c10 : (Jvm.Cond.code ({ cls := "java/lang/Record", name := "<init>", desc := "()V" } : Jvm.MethodName) jdk_30_method_1_code (1 : Nat) (Option.none : Option Jvm.ClassFile.FieldType)).before args0 about1 = true := code_word (m := ⟨11, 0⟩) (meth := k11m0) (c := k11c0) (by decide +kernel) rfl rfl rfl (by decide +kernel)
set_option maxRecDepth 65536 in
theorem w_c11 : (Jvm.Cond.code ({ cls := "com/example/poolwright/poolwright/Copy", name := "starts", desc := "()Z" } : Jvm.MethodName) prog_11_method_4_code (1 : Nat) (Option.some Jvm.ClassFile.FieldType.boolean)).before args0 about1 = true := code_word (m := ⟨12, 3⟩) (meth := k12m3) (c := k12c3) (by decide +kernel) rfl rfl rfl (by decide +kernel)
set_option maxRecDepth 65536 in
theorem w_c12 : (Jvm.Cond.code ({ cls := "com/example/poolwright/poolwright/Copy", name := "started", desc := "(Ljava/lang/String;Ljava/lang/String;)Lcom/example/poolwright/poolwright/Copy;" } : Jvm.MethodName) prog_11_method_2_code (2 : Nat) (Option.some (Jvm.ClassFile.FieldType.object "com/example/poolwright/poolwright/Copy"))).before args0 about1 = true := code_word (m := ⟨12, 1⟩) (meth := k12m1) (c := k12c1) (by decide +kernel) rfl rfl rfl (by decide +kernel)
set_option maxRecDepth 65536 in
theorem w_c13 : (Jvm.Cond.code ({ cls := "com/example/poolwright/poolwright/Copy", name := "refused", desc := "(Ljava/lang/String;Lcom/example/poolwright/poolwright/Copy$Refusal;)Lcom/example/poolwright/poolwright/Copy;" } : Jvm.MethodName) prog_11_method_3_code (2 : Nat) (Option.some (Jvm.ClassFile.FieldType.object "com/example/poolwright/poolwright/Copy"))).before args0 about1 = true := code_word (m := ⟨12, 2⟩) (meth := k12m2) (c := k12c2) (by decide +kernel) rfl rfl rfl (by decide +kernel)
def codes1 : List Jvm.Cond := [Jvm.Cond.code x code maxLocals ret, Jvm.Cond.code ({ cls := "com/example/poolwright/poolwright/CopyStartsPinLaw", name := "draw", desc := "(III)Ljava/lang/String;" } : Jvm.MethodName) method_3_code (5 : Nat) (Option.some (Jvm.ClassFile.FieldType.object "java/lang/String")), Jvm.Cond.code ({ cls := "java/lang/String", name := "<init>", desc := "([C)V" } : Jvm.MethodName) jdk_42_method_3_code (2 : Nat) (Option.none : Option Jvm.ClassFile.FieldType), Jvm.Cond.code ({ cls := "java/lang/String", name := "<init>", desc := "([CIILjava/lang/Void;)V" } : Jvm.MethodName) jdk_42_method_149_code (6 : Nat) (Option.none : Option Jvm.ClassFile.FieldType), Jvm.Cond.code ({ cls := "java/lang/Object", name := "<init>", desc := "()V" } : Jvm.MethodName) object_method_1_code (1 : Nat) (Option.none : Option Jvm.ClassFile.FieldType), Jvm.Cond.code ({ cls := "java/lang/StringUTF16", name := "compress", desc := "([CII)[B" } : Jvm.MethodName) jdk_52_method_16_code (6 : Nat) (Option.some (Jvm.ClassFile.FieldType.array Jvm.ClassFile.FieldType.byte)), Jvm.Cond.code ({ cls := "java/lang/StringUTF16", name := "compress", desc := "([CI[BII)I" } : Jvm.MethodName) jdk_52_method_21_code (7 : Nat) (Option.some Jvm.ClassFile.FieldType.int), Jvm.Cond.code ({ cls := "java/lang/StringUTF16", name := "coderFromArrayLen", desc := "([BI)B" } : Jvm.MethodName) jdk_52_method_15_code (2 : Nat) (Option.some Jvm.ClassFile.FieldType.byte), Jvm.Cond.code ({ cls := "com/example/poolwright/poolwright/CopyStartsPinLaw", name := "pick", desc := "(I)Lcom/example/poolwright/poolwright/Copy$Refusal;" } : Jvm.MethodName) method_2_code (2 : Nat) (Option.some (Jvm.ClassFile.FieldType.object "com/example/poolwright/poolwright/Copy$Refusal")), Jvm.Cond.code ({ cls := "com/example/poolwright/poolwright/Copy", name := "<init>", desc := "(Ljava/lang/String;Ljava/lang/String;Lcom/example/poolwright/poolwright/Copy$Refusal;)V" } : Jvm.MethodName) prog_11_method_1_code (4 : Nat) (Option.none : Option Jvm.ClassFile.FieldType), Jvm.Cond.code ({ cls := "java/lang/Record", name := "<init>", desc := "()V" } : Jvm.MethodName) jdk_30_method_1_code (1 : Nat) (Option.none : Option Jvm.ClassFile.FieldType), Jvm.Cond.code ({ cls := "com/example/poolwright/poolwright/Copy", name := "starts", desc := "()Z" } : Jvm.MethodName) prog_11_method_4_code (1 : Nat) (Option.some Jvm.ClassFile.FieldType.boolean), Jvm.Cond.code ({ cls := "com/example/poolwright/poolwright/Copy", name := "started", desc := "(Ljava/lang/String;Ljava/lang/String;)Lcom/example/poolwright/poolwright/Copy;" } : Jvm.MethodName) prog_11_method_2_code (2 : Nat) (Option.some (Jvm.ClassFile.FieldType.object "com/example/poolwright/poolwright/Copy")), Jvm.Cond.code ({ cls := "com/example/poolwright/poolwright/Copy", name := "refused", desc := "(Ljava/lang/String;Lcom/example/poolwright/poolwright/Copy$Refusal;)Lcom/example/poolwright/poolwright/Copy;" } : Jvm.MethodName) prog_11_method_3_code (2 : Nat) (Option.some (Jvm.ClassFile.FieldType.object "com/example/poolwright/poolwright/Copy"))]
set_option maxRecDepth 65536 in
theorem codes_eq : words1.filter isCode = codes1 := rfl
theorem w_codes : ∀ c ∈ words1.filter isCode, c.before args0 about1 = true := by
  rw [codes_eq]
  intro c hc
  simp only [codes1, List.mem_cons, List.not_mem_nil, or_false] at hc
  rcases hc with rfl | rfl | rfl | rfl | rfl | rfl | rfl | rfl | rfl | rfl | rfl | rfl | rfl | rfl
  · exact w_c0
  · exact w_c1
  · exact w_c2
  · exact w_c3
  · exact w_c4
  · exact w_c5
  · exact w_c6
  · exact w_c7
  · exact w_c8
  · exact w_c9
  · exact w_c10
  · exact w_c11
  · exact w_c12
  · exact w_c13
set_option maxRecDepth 65536 in
theorem w_t1 : (words1.take 24).all (fun c => isCode c || c.before args0 about1) = true := by decide +kernel
set_option maxRecDepth 65536 in
theorem w_t2 : ((words1.drop 24).take 24).all (fun c => isCode c || c.before args0 about1) = true := by decide +kernel
set_option maxRecDepth 65536 in
theorem w_t3 : (((words1.drop 24).drop 24).take 24).all (fun c => isCode c || c.before args0 about1) = true := by decide +kernel
set_option maxRecDepth 65536 in
theorem w_t4 : (((words1.drop 24).drop 24).drop 24).all (fun c => isCode c || c.before args0 about1) = true := by decide +kernel
theorem w_tables : (allAtoms (Jvm.Cond.code x code maxLocals ret :: tables_1)).before args0 about1 = true := by
  rw [allAtoms_all]
  show words1.all (fun c => c.before args0 about1) = true
  refine all_split ?_ w_codes
  rw [← List.take_append_drop 24 words1, List.all_append, w_t1, ← List.take_append_drop 24 (words1.drop 24), List.all_append, w_t2, ← List.take_append_drop 24 ((words1.drop 24).drop 24), List.all_append, w_t3, w_t4]
  rfl
set_option maxRecDepth 65536 in
theorem w_rest : rest_1_c.before args0 about1 = true := by decide +kernel
set_option maxRecDepth 65536 in
theorem w_case : (Jvm.Cond.and given_1 narrow_1).before args0 about1 = true := by decide +kernel
set_option maxRecDepth 65536 in
theorem w_consts : constsHeld consts_1 about1 := Jvm.Lit.constsHeldB_iff.mp (by decide +kernel)
theorem w_applies : (headSpec (Jvm.Cond.code x code maxLocals ret :: tables_1) room_1).applies x e0.platform about1 = true :=
  (Spec.applies_iff w_frames).mpr ⟨w_running, w_runnable, w_alone, w_named, w_hears, w_ripe, w_room, w_tables⟩
theorem atStart : AtStart classFile x code maxLocals ret World_1 tables_1 room_1 Calls_1 rest_1 Pre_1 launch0 p0 e0 about1 theMethod args0 below0 :=
  ⟨lists_1, trivial, launch0.admits_env _ _ _, launch0.least_env, fairChoices_fair.cas, fairChoices_fair.clock, w_frames, w_args, w_heap, w_applies, ⟨w_consts, trivial⟩, w_rest, w_case⟩
end start1
theorem witness_1 : WitnessClaimed_1 := ⟨start1.p0, start1.e0, start1.about1, start1.theMethod, start1.args0, start1.below0, start1.atStart⟩
end Jvm.Pilot.@@N@@
