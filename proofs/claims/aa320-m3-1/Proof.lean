import JvmDerived
import JvmDerived.Pilot.@@N@@Statement
import JvmDerived.Pilot.@@N@@Code
set_option linter.unusedVariables false
set_option linter.unusedSimpArgs false
namespace Jvm.RoadKit
open Sem ClassFile Op Lib Jvm.Stand Jvm.Free Jvm.LawKit
section New
variable {p : Program} {l : Launch} {e : Env} {R : Room} {s : State} {m : MethodId} {args : Array Value} {below : List Frame} {meth : Method} {c : Code} {T : State} {locs : List Loc} {cells slots : Nat}
theorem retI (X : Stand p l e R s m args below meth c T locs cells slots) (hx : p.tables.exec = Jvm.exec) {pc : Nat} {Ls : Array Slot} {z : Int32} {rest : List Value} (hret : meth.sig.returnType = some .int) (hd : decode c.code pc = .ok (.ireturn, 1)) {fs : List Frame}
    (hl : ∀ (f : JFrame) (acts : List Action), f.method = m → f.locked = none → f.entered = [] → (doReturn e (T.setTop f) acts (some (.int z))).1 = T.setFrames fs) : Steps p.tables e below (T.setTop (mkF m pc Ls (.int z :: rest))) (T.setFrames fs) := by
  have hm' : T.vm.method? m = some meth := X.method'
  have hn : narrow .int (.int z) = .int z := rfl
  show Steps p.tables e below (T.setTop { method := m, pc := pc, locals := Ls, stack := _ :: rest, locked := none }) _
  jvm_step X.here [X.here.top, hx, hd, hm', hret, hn]
  first | (intro acts; rw [hl _ acts rfl rfl rfl]) | rw [hl _ _ rfl rfl rfl]
  exact Steps.refl _
theorem retD (X : Stand p l e R s m args below meth c T locs cells slots) (hx : p.tables.exec = Jvm.exec) {pc : Nat} {Ls : Array Slot} {z : UInt64} {rest : List Value} (hret : meth.sig.returnType = some .double) (hd : decode c.code pc = .ok (.dreturn, 1)) {fs : List Frame}
    (hl : ∀ (f : JFrame) (acts : List Action), f.method = m → f.locked = none → f.entered = [] → (doReturn e (T.setTop f) acts (some (.double z))).1 = T.setFrames fs) : Steps p.tables e below (T.setTop (mkF m pc Ls (.double z :: rest))) (T.setFrames fs) := by
  have hm' : T.vm.method? m = some meth := X.method'
  have hn : narrow .double (.double z) = .double z := rfl
  show Steps p.tables e below (T.setTop { method := m, pc := pc, locals := Ls, stack := _ :: rest, locked := none }) _
  jvm_step X.here [X.here.top, hx, hd, hm', hret, hn]
  first | (intro acts; rw [hl _ acts rfl rfl rfl]) | rw [hl _ _ rfl rfl rfl]
  exact Steps.refl _
end New
end Jvm.RoadKit
/- laws to paste: Road.backV, Road.lenW, Road.chN, Road.codOf (cut by pick.py; bodies as the Statement names them) -/
namespace Jvm.Pilot.@@N@@
namespace StrChars
open Jvm Sem ClassFile Op Lib Jvm.Stand Jvm.Free.XT Jvm.Free.ALB Jvm.Free.JM Jvm.Free
open Jvm.Lib.Cold (StaticIs)
/-- a char array whose places are chars -/
def Ch (a : Addr) (A : Cell) (U : State) : Prop := Arr .char a A U ∧ Typed .char A
theorem Ch.mv {a : Addr} {A : Cell} {U U' : State} (h : Ch a A U) (hal : U.vm.Alike U'.vm) (hh : U'.heap = U.heap) : Ch a A U' := ⟨h.1.mv hal hh, h.2⟩
theorem Ch.keep {a : Addr} {A : Cell} {U U' : State} (h : Ch a A U) (hal : U.vm.Alike U'.vm) (hk : U'.heap[a]? = some A) : Ch a A U' := ⟨h.1.keep hal hk, h.2⟩
/-- what place i of a char[]'s cell holds -/
def cv (A : Cell) (i : Nat) : Int32 := match A.slots[i]? with | some (.int x) => x | _ => 0
theorem Ch.get {a : Addr} {A : Cell} {U : State} (h : Ch a A U) {i : Nat} (hi : i < A.slots.size) : A.slots[i]? = some (.int (cv A i)) := by
  have e := Array.getElem?_eq_getElem hi
  have f := h.2 i _ e
  unfold cv; rw [e]
  generalize A.slots[i] = v at f
  cases v <;> simp [fits] at f ⊢
/-- the byte that i2b leaves of a char -/
def lo8 (x : Int32) : Int32 := x.toInt8.toInt32
theorem fits_lo8 (y : Int32) : fits .byte (.int (lo8 y)) = true := by
  have h1 := y.toInt8.le_toInt
  have h2 := y.toInt8.toInt_lt
  simp only [lo8, fits, Bool.and_eq_true, decide_eq_true_eq, Int32.le_iff_toInt_le, Int8.toInt_toInt32, show (-128 : Int32).toInt = -128 from by decide, show (127 : Int32).toInt = 127 from by decide]
  omega
/-- A' is A but that each place j of lo .. hi - 1 holds f j -/
def Laid (A A' : Cell) (lo hi : Nat) (f : Nat → Value) : Prop := A'.cls = A.cls ∧ A'.vm = A.vm ∧ A'.slots.size = A.slots.size ∧ ∀ i, A'.slots[i]? = if lo ≤ i ∧ i < hi then some (f i) else A.slots[i]?
theorem Laid.zero (A : Cell) (lo : Nat) (f : Nat → Value) : Laid A A lo (lo + 0) f := ⟨rfl, rfl, rfl, fun i => by rw [if_neg (by omega)]⟩
theorem Laid.step {A Ak : Cell} {lo k : Nat} {f : Nat → Value} {v : Value} (h : Laid A Ak lo k f) (hlo : lo ≤ k) (hk : k < Ak.slots.size) (hv : v = f k) : Laid A (Ak.setSlot k v) lo (k + 1) f := by
  refine ⟨h.1, h.2.1, by simpa [Cell.setSlot] using h.2.2.1, fun i => ?_⟩
  by_cases e : k = i
  · subst e; rw [Cell.slots_setSlot_self v hk, if_pos (by omega), hv]
  · rw [Cell.slots_setSlot_ne v e, h.2.2.2 i]
    by_cases q : lo ≤ i ∧ i < k
    · rw [if_pos q, if_pos (by omega)]
    · rw [if_neg q, if_neg (by omega)]
def U16 : String := "java/lang/StringUTF16"
namespace Cmp5
def yN : MethodName := ⟨"java/lang/StringUTF16", "compress", "([CI[BII)I"⟩
abbrev yB : ByteArray := jdk_52_method_21_code
theorem d0 : decode yB 0 = .ok (.iconst 0, 1) := by decide +kernel
theorem d1 : decode yB 1 = .ok (.istore 5, 2) := by decide +kernel
theorem d3 : decode yB 3 = .ok (.iload 5, 2) := by decide +kernel
theorem d5 : decode yB 5 = .ok (.iload 4, 2) := by decide +kernel
theorem d7 : decode yB 7 = .ok (.if_icmp (.ge) 37, 3) := by decide +kernel
theorem d10 : decode yB 10 = .ok (.aload_n 0, 1) := by decide +kernel
theorem d11 : decode yB 11 = .ok (.iload_n 1, 1) := by decide +kernel
theorem d12 : decode yB 12 = .ok (.caload, 1) := by decide +kernel
theorem d13 : decode yB 13 = .ok (.istore 6, 2) := by decide +kernel
theorem d15 : decode yB 15 = .ok (.iload 6, 2) := by decide +kernel
theorem d17 : decode yB 17 = .ok (.sipush 255, 3) := by decide +kernel
theorem d20 : decode yB 20 = .ok (.if_icmp (.le) 6, 3) := by decide +kernel
theorem d26 : decode yB 26 = .ok (.aload_n 2, 1) := by decide +kernel
theorem d27 : decode yB 27 = .ok (.iload_n 3, 1) := by decide +kernel
theorem d28 : decode yB 28 = .ok (.iload 6, 2) := by decide +kernel
theorem d30 : decode yB 30 = .ok (.i2b, 1) := by decide +kernel
theorem d31 : decode yB 31 = .ok (.bastore, 1) := by decide +kernel
theorem d32 : decode yB 32 = .ok (.iinc 1 1, 3) := by decide +kernel
theorem d35 : decode yB 35 = .ok (.iinc 3 1, 3) := by decide +kernel
theorem d38 : decode yB 38 = .ok (.iinc 5 1, 3) := by decide +kernel
theorem d41 : decode yB 41 = .ok (.goto (-38), 3) := by decide +kernel
theorem d44 : decode yB 44 = .ok (.iload 4, 2) := by decide +kernel
theorem d46 : decode yB 46 = .ok (.ireturn, 1) := by decide +kernel
def site : List Cond := []
def tab : Cond := tabOf yN yB 7 (some .int) site
def P (b : Addr) (A : Cell) (d : Addr) (B : Cell) (o q len : Nat) (args : Array Value) (s : State) : Prop := args = #[.ref b, .int (Int32.ofNat o), .ref d, .int (Int32.ofNat q), .int (Int32.ofNat len)] ∧ Ch b A s ∧ Arr .byte d B s ∧ b ≠ d ∧ o + len ≤ A.slots.size ∧ q + len ≤ B.slots.size ∧ ∀ i, i < len → ¬ 255 < cv A (o + i)
def E (b : Addr) (A : Cell) (d : Addr) (B : Cell) (o q len : Nat) (r : Option Value) (s u : State) : Prop := r = some (.int (Int32.ofNat len)) ∧ ∃ B', Put d B' s u ∧ Laid B B' q (q + len) (fun j => Value.int (lo8 (cv A (o + (j - q)))))
/-- no char of the range above 255: len; the places written hold each char's low byte -/
theorem law (l : Launch) (b : Addr) (A : Cell) (d : Addr) (B : Cell) (o q len : Nat) : Law l yN 5 5 0 0 yB 7 (some .int) site (P b A d B o q len) (E b A d B o q len) (copyLocs d q len) 0 0 := by
  refine Law.of_walk (plainFor_of_name (by decide +kernel)) (by decide +kernel) (by decide +kernel) (by decide) (fun _ _ h => by rw [h.1]; rfl) (fun _ U U' hal hh h => ⟨h.1, h.2.1.mv hal hh, h.2.2.1.mv hal hh, h.2.2.2⟩) (fun r U U' V V' h1 hal h2 h => ⟨h.1, h.2.elim fun B' q => ⟨B', q.1.mv h1 h2, q.2⟩⟩) ?_
  intro p e s m args below meth c s₁ X0 hexec hbytes hml hret hlk hnm hown hh0 W hP
  obtain ⟨rfl, hA, hB, hne, l1, l2, hp⟩ := hP
  have c1 : Steps p.tables e below (s₁.setTop (entryFrame m #[.ref b, .int (Int32.ofNat o), .ref d, .int (Int32.ofNat q), .int (Int32.ofNat len)] 7)) (s₁.setTop (mkF m 0 #[.val (.ref b), .val (.int (Int32.ofNat o)), .val (.ref d), .val (.int (Int32.ofNat q)), .val (.int (Int32.ofNat len)), .unset, .unset] [])) := entry rfl
  have hA0 := hA.1.mv X0.warmed.alike hh0
  have hB0 := hB.mv X0.warmed.alike hh0
  have a31 := hA.1.2.2.2
  have c2 : Steps p.tables e below (s₁.setTop (entryFrame m #[.ref b, .int (Int32.ofNat o), .ref d, .int (Int32.ofNat q), .int (Int32.ofNat len)] 7)) (s₁.setTop (mkF m 3 #[.val (.ref b), .val (.int (Int32.ofNat o)), .val (.ref d), .val (.int (Int32.ofNat q)), .val (.int (Int32.ofNat len)), .val (.int 0), .unset] [])) := c1.trans (by
    refine iconstV X0.here hexec rfl 0 (hb hbytes d0) (by decide) ?_
    refine XS.istore X0.here hexec rfl (hb hbytes d1) rfl rfl ?_
    exact Steps.refl _)
  have loop : ∀ (r i : Nat), i + r = len → ∀ (z : Slot), (z = .unset ∨ ∃ w, z = .val w ∧ w.category = 1) → ∀ (Tl : State) (Bk : Cell), Stand p l e { frames := 0, locals := 0, cells := 0, slots := 0 } s m #[.ref b, .int (Int32.ofNat o), .ref d, .int (Int32.ofNat q), .int (Int32.ofNat len)] below meth c Tl ([] ++ copyLocs d q i) 0 0 → Put d Bk s₁ Tl → Laid B Bk q (q + i) (fun j => Value.int (lo8 (cv A (o + (j - q))))) →
      Steps p.tables e below (s₁.setTop (entryFrame m #[.ref b, .int (Int32.ofNat o), .ref d, .int (Int32.ofNat q), .int (Int32.ofNat len)] 7)) (Tl.setTop (mkF m 3 #[.val (.ref b), .val (.int (Int32.ofNat (o + i))), .val (.ref d), .val (.int (Int32.ofNat (q + i))), .val (.int (Int32.ofNat len)), .val (.int (Int32.ofNat i)), z] [])) → ∃ (T' : State) (B' : Cell) (z' : Slot), Stand p l e { frames := 0, locals := 0, cells := 0, slots := 0 } s m #[.ref b, .int (Int32.ofNat o), .ref d, .int (Int32.ofNat q), .int (Int32.ofNat len)] below meth c T' ([] ++ copyLocs d q len) 0 0 ∧ Put d B' s₁ T' ∧ Laid B B' q (q + len) (fun j => Value.int (lo8 (cv A (o + (j - q))))) ∧
      Steps p.tables e below (s₁.setTop (entryFrame m #[.ref b, .int (Int32.ofNat o), .ref d, .int (Int32.ofNat q), .int (Int32.ofNat len)] 7)) (T'.setTop (mkF m 3 #[.val (.ref b), .val (.int (Int32.ofNat (o + len))), .val (.ref d), .val (.int (Int32.ofNat (q + len))), .val (.int (Int32.ofNat len)), .val (.int (Int32.ofNat len)), z'] [])) := by
    intro r
    induction r with
    | zero =>
      intro i hi z hz Tl Bk Xl pl fl cl
      have hil : i = len := by omega
      rw [hil] at Xl fl cl
      exact ⟨Tl, Bk, z, Xl, pl, fl, cl⟩
    | succ r ih =>
      intro i hi z hz Tl Bk Xl pl fl cl
      have all := X0.warmed.alike.symm.trans Xl.warmed.alike
      have hAl := hA0.keep all (pl.other hne hA0.1)
      have hBk := hB0.like all pl.1 fl.1 fl.2.1 fl.2.2.1
      have hlt : q + i < Bk.slots.size := by rw [fl.2.2.1]; omega
      have c3 : Steps p.tables e below (s₁.setTop (entryFrame m #[.ref b, .int (Int32.ofNat o), .ref d, .int (Int32.ofNat q), .int (Int32.ofNat len)] 7)) (Tl.setTop (mkF m 12 #[.val (.ref b), .val (.int (Int32.ofNat (o + i))), .val (.ref d), .val (.int (Int32.ofNat (q + i))), .val (.int (Int32.ofNat len)), .val (.int (Int32.ofNat i)), z] [.int (Int32.ofNat (o + i)), .ref b])) := cl.trans (by
        refine XS.iload Xl.here hexec rfl (hb hbytes d3) rfl ?_
        refine XS.iload Xl.here hexec rfl (hb hbytes d5) rfl ?_
        refine XS.icmpNo Xl.here hexec rfl (hb hbytes d7) rfl (ii_ge_f (lt32 (by omega) (by omega))) ?_
        refine XS.aloadN Xl.here hexec rfl (hb hbytes d10) rfl rfl ?_
        refine XS.iloadN Xl.here hexec rfl (hb hbytes d11) rfl ?_
        exact Steps.refl _)
      have c4 : Steps p.tables e below (s₁.setTop (entryFrame m #[.ref b, .int (Int32.ofNat o), .ref d, .int (Int32.ofNat q), .int (Int32.ofNat len)] 7)) (Tl.setTop (mkF m 13 #[.val (.ref b), .val (.int (Int32.ofNat (o + i))), .val (.ref d), .val (.int (Int32.ofNat (q + i))), .val (.int (Int32.ofNat len)), .val (.int (Int32.ofNat i)), z] [.int (cv A (o + i))])) := c3.trans (by
        refine Xl.aget hexec hAl rfl (hA.get (i := o + i) (by omega)) rfl rfl (hb hbytes d12) ?_
        exact Steps.refl _)
      have c5 : Steps p.tables e below (s₁.setTop (entryFrame m #[.ref b, .int (Int32.ofNat o), .ref d, .int (Int32.ofNat q), .int (Int32.ofNat len)] 7)) (Tl.setTop (mkF m 15 #[.val (.ref b), .val (.int (Int32.ofNat (o + i))), .val (.ref d), .val (.int (Int32.ofNat (q + i))), .val (.int (Int32.ofNat len)), .val (.int (Int32.ofNat i)), .val (.int (cv A (o + i)))] [])) := c4.trans (by
        refine XS.istoreS Xl.here hexec rfl (hb hbytes d13) rfl rfl hz ?_
        exact Steps.refl _)
      have c6 : Steps p.tables e below (s₁.setTop (entryFrame m #[.ref b, .int (Int32.ofNat o), .ref d, .int (Int32.ofNat q), .int (Int32.ofNat len)] 7)) (Tl.setTop (mkF m 31 #[.val (.ref b), .val (.int (Int32.ofNat (o + i))), .val (.ref d), .val (.int (Int32.ofNat (q + i))), .val (.int (Int32.ofNat len)), .val (.int (Int32.ofNat i)), .val (.int (cv A (o + i)))] [.int (lo8 (cv A (o + i))), .int (Int32.ofNat (q + i)), .ref d])) := c5.trans (by
        refine XS.iload Xl.here hexec rfl (hb hbytes d15) rfl ?_
        refine sipushV Xl.here hexec rfl 255 (hb hbytes d17) (by decide) ?_
        refine XS.icmpYes Xl.here hexec rfl (pc0 := 20) rfl (hb hbytes d20) rfl (ii_le_t (hp i (by omega))) (by decide) rfl ?_
        refine XS.aloadN Xl.here hexec rfl (hb hbytes d26) rfl rfl ?_
        refine XS.iloadN Xl.here hexec rfl (hb hbytes d27) rfl ?_
        refine XS.iload Xl.here hexec rfl (hb hbytes d28) rfl ?_
        refine i2b Xl.here hexec rfl (hb hbytes d30) rfl ?_
        exact Steps.refl _)
      obtain ⟨T7, X7, p7, st7⟩ := Xl.aput hexec hBk rfl hlt rfl (fits_lo8 (cv A (o + i))) (g := (mkF m 31 #[.val (.ref b), .val (.int (Int32.ofNat (o + i))), .val (.ref d), .val (.int (Int32.ofNat (q + i))), .val (.int (Int32.ofNat len)), .val (.int (Int32.ofNat i)), .val (.int (cv A (o + i)))] [.int (lo8 (cv A (o + i))), .int (Int32.ofNat (q + i)), .ref d])) rfl (rest := []) rfl (hb hbytes d31)
      have c8 : Steps p.tables e below (s₁.setTop (entryFrame m #[.ref b, .int (Int32.ofNat o), .ref d, .int (Int32.ofNat q), .int (Int32.ofNat len)] 7)) (T7.setTop (mkF m 32 #[.val (.ref b), .val (.int (Int32.ofNat (o + i))), .val (.ref d), .val (.int (Int32.ofNat (q + i))), .val (.int (Int32.ofNat len)), .val (.int (Int32.ofNat i)), .val (.int (cv A (o + i)))] [])) := c6.trans (st7 _ (Steps.refl _))
      have c9 : Steps p.tables e below (s₁.setTop (entryFrame m #[.ref b, .int (Int32.ofNat o), .ref d, .int (Int32.ofNat q), .int (Int32.ofNat len)] 7)) (T7.setTop (mkF m 3 #[.val (.ref b), .val (.int (Int32.ofNat (o + i) + 1)), .val (.ref d), .val (.int (Int32.ofNat (q + i) + 1)), .val (.int (Int32.ofNat len)), .val (.int (Int32.ofNat i + 1)), .val (.int (cv A (o + i)))] [])) := c8.trans (by
        refine iincV X7.here hexec rfl 1 (hb hbytes d32) (by decide) rfl rfl ?_
        refine iincV X7.here hexec rfl 1 (hb hbytes d35) (by decide) rfl rfl ?_
        refine iincV X7.here hexec rfl 1 (hb hbytes d38) (by decide) rfl rfl ?_
        refine XS.goto X7.here hexec rfl (pc0 := 41) rfl (hb hbytes d41) (by decide) rfl ?_
        exact Steps.refl _)
      have c10 : Steps p.tables e below (s₁.setTop (entryFrame m #[.ref b, .int (Int32.ofNat o), .ref d, .int (Int32.ofNat q), .int (Int32.ofNat len)] 7)) (T7.setTop (mkF m 3 #[.val (.ref b), .val (.int (Int32.ofNat (o + (i + 1)))), .val (.ref d), .val (.int (Int32.ofNat (q + (i + 1)))), .val (.int (Int32.ofNat len)), .val (.int (Int32.ofNat (i + 1))), .val (.int (cv A (o + i)))] [])) := by
        have := c9
        rw [succ32, succ32, succ32] at this
        exact this
      exact ih (i + 1) (by omega) _ (Or.inr ⟨_, rfl, rfl⟩) T7 _ (by rw [copyLocs_step, ← List.append_assoc]; exact X7) (pl.trans p7) (fl.step (by omega) hlt (by simp)) c10
  obtain ⟨T9, B9, z9, X9, p9, f9, g9⟩ := loop len 0 (by omega) .unset (Or.inl rfl) s₁ B (by simpa [copyLocs] using X0) ⟨hB0.1, fun _ _ => rfl, rfl⟩ (Laid.zero _ _ _) c2
  have c11 : Steps p.tables e below (s₁.setTop (entryFrame m #[.ref b, .int (Int32.ofNat o), .ref d, .int (Int32.ofNat q), .int (Int32.ofNat len)] 7)) (T9.setTop (mkF m 46 #[.val (.ref b), .val (.int (Int32.ofNat (o + len))), .val (.ref d), .val (.int (Int32.ofNat (q + len))), .val (.int (Int32.ofNat len)), .val (.int (Int32.ofNat len)), z9] [.int (Int32.ofNat len)])) := g9.trans (by
    refine XS.iload X9.here hexec rfl (hb hbytes d3) rfl ?_
    refine XS.iload X9.here hexec rfl (hb hbytes d5) rfl ?_
    refine XS.icmpYes X9.here hexec rfl (pc0 := 7) rfl (hb hbytes d7) rfl (ii_ge_t (nlt32 (by omega) (Nat.le_refl _))) (by decide) rfl ?_
    refine XS.iload X9.here hexec rfl (hb hbytes d44) rfl ?_
    exact Steps.refl _)
  exact ⟨T9, some (.int (Int32.ofNat len)), _, _, _, X9, by simp, rfl, rfl, (fun h => by cases h), ⟨rfl, B9, p9.from hh0, f9⟩, fun fs hl => c11.trans (X9.ireturnOut hexec hret rfl (Or.inl rfl) (hb hbytes d46) hl)⟩
end Cmp5
namespace Cmp3
def yN : MethodName := ⟨"java/lang/StringUTF16", "compress", "([CII)[B"⟩
abbrev yB : ByteArray := jdk_52_method_16_code
theorem d0 : decode yB 0 = .ok (.iload_n 2, 1) := by decide +kernel
theorem d1 : decode yB 1 = .ok (.newarray .byte, 2) := by decide +kernel
theorem d3 : decode yB 3 = .ok (.astore_n 3, 1) := by decide +kernel
theorem d4 : decode yB 4 = .ok (.aload_n 0, 1) := by decide +kernel
theorem d5 : decode yB 5 = .ok (.iload_n 1, 1) := by decide +kernel
theorem d6 : decode yB 6 = .ok (.aload_n 3, 1) := by decide +kernel
theorem d7 : decode yB 7 = .ok (.iconst 0, 1) := by decide +kernel
theorem d8 : decode yB 8 = .ok (.iload_n 2, 1) := by decide +kernel
theorem d9 : decode yB 9 = .ok (.invokestatic 115, 3) := by decide +kernel
theorem d12 : decode yB 12 = .ok (.istore 4, 2) := by decide +kernel
theorem d14 : decode yB 14 = .ok (.iload 4, 2) := by decide +kernel
theorem d16 : decode yB 16 = .ok (.iload_n 2, 1) := by decide +kernel
theorem d17 : decode yB 17 = .ok (.if_icmp (.eq) 40, 3) := by decide +kernel
theorem d57 : decode yB 57 = .ok (.aload_n 3, 1) := by decide +kernel
theorem d58 : decode yB 58 = .ok (.areturn, 1) := by decide +kernel
def site : List Cond := [.arrayClass .byte, Cmp5.tab] ++ staticW U16 115 Cmp5.yN
def tab : Cond := tabOf yN yB 6 (some (.array .byte)) site
def P (b : Addr) (A : Cell) (o len : Nat) (args : Array Value) (s : State) : Prop := args = #[.ref b, .int (Int32.ofNat o), .int (Int32.ofNat len)] ∧ Ch b A s ∧ o + len ≤ A.slots.size ∧ len ≤ 536870912 ∧ ∀ i, i < len → ¬ 255 < cv A (o + i)
def E (b : Addr) (A : Cell) (o len : Nat) (r : Option Value) (s u : State) : Prop := NewArr .byte "[B" len (fun j => .int (lo8 (cv A (o + j)))) r s u ∧ u.heap.size = s.heap.size + 1
/-- no char of the range above 255: a new byte[] of their low bytes -/
theorem law (l : Launch) (b : Addr) (A : Cell) (o len : Nat) : Law l yN 3 3 1 18 yB 6 (some (.array .byte)) site (P b A o len) (E b A o len) [] 1 len := by
  refine Law.of_walk (plainFor_of_name (by decide +kernel)) (by decide +kernel) (by decide +kernel) (by decide) (fun _ _ h => by rw [h.1]; rfl) (fun _ U U' hal hh h => ⟨h.1, h.2.1.mv hal hh, h.2.2⟩) (fun r U U' V V' h1 hal h2 h => ⟨NewArr.mv r U U' V V' h1 hal h2 h.1, by rw [h1, h2]; exact h.2⟩) ?_
  intro p e s m args below meth c s₁ X0 hexec hbytes hml hret hlk hnm hown hh0 W hP
  obtain ⟨rfl, hA, l1, l2, hp⟩ := hP
  have a31 := hA.1.2.2.2
  have c1 : Steps p.tables e below (s₁.setTop (entryFrame m #[.ref b, .int (Int32.ofNat o), .int (Int32.ofNat len)] 6)) (s₁.setTop (mkF m 0 #[.val (.ref b), .val (.int (Int32.ofNat o)), .val (.int (Int32.ofNat len)), .unset, .unset, .unset] [])) := entry rfl
  have c2 : Steps p.tables e below (s₁.setTop (entryFrame m #[.ref b, .int (Int32.ofNat o), .int (Int32.ofNat len)] 6)) (s₁.setTop (mkF m 1 #[.val (.ref b), .val (.int (Int32.ofNat o)), .val (.int (Int32.ofNat len)), .unset, .unset, .unset] [.int (Int32.ofNat len)])) := c1.trans (by
    refine XS.iloadN X0.here hexec rfl (hb hbytes d0) rfl ?_
    exact Steps.refl _)
  obtain ⟨T3, B3, X3, ba3, bs3, bv3, bh3, bf3, st3⟩ := X0.anew hexec (atype := .byte) (wk W (.arrayClass .byte)) rfl (by show len * 1 ≤ _; omega) (by omega) (g := (mkF m 1 #[.val (.ref b), .val (.int (Int32.ofNat o)), .val (.int (Int32.ofNat len)), .unset, .unset, .unset] [.int (Int32.ofNat len)])) rfl (hb hbytes d1) (rest := []) rfl (Nat.le_refl _) (by show 0 + len ≤ len; omega)
  rw [hh0] at ba3 st3
  have kp3 : XT.Kept s T3 := (XT.Kept.of_eq hh0).push bh3
  have hA3 := hA.keep X3.warmed.alike (kp3 _ _ hA.1.1)
  have hne : b ≠ s.heap.size := hA.1.ne
  have c4 : Steps p.tables e below (s₁.setTop (entryFrame m #[.ref b, .int (Int32.ofNat o), .int (Int32.ofNat len)] 6)) (T3.setTop (mkF m 3 #[.val (.ref b), .val (.int (Int32.ofNat o)), .val (.int (Int32.ofNat len)), .unset, .unset, .unset] [.ref s.heap.size])) := c2.trans (st3 _ (Steps.refl _))
  have c5 : Steps p.tables e below (s₁.setTop (entryFrame m #[.ref b, .int (Int32.ofNat o), .int (Int32.ofNat len)] 6)) (T3.setTop (mkF m 9 #[.val (.ref b), .val (.int (Int32.ofNat o)), .val (.int (Int32.ofNat len)), .val (.ref s.heap.size), .unset, .unset] [.int (Int32.ofNat len), .int 0, .ref s.heap.size, .int (Int32.ofNat o), .ref b])) := c4.trans (by
    refine XS.astoreN X3.here hexec rfl (hb hbytes d3) rfl rfl rfl ?_
    refine XS.aloadN X3.here hexec rfl (hb hbytes d4) rfl rfl ?_
    refine XS.iloadN X3.here hexec rfl (hb hbytes d5) rfl ?_
    refine XS.aloadN X3.here hexec rfl (hb hbytes d6) rfl rfl ?_
    refine iconstV X3.here hexec rfl 0 (hb hbytes d7) (by decide) ?_
    refine XS.iloadN X3.here hexec rfl (hb hbytes d8) rfl ?_
    exact Steps.refl _)
  obtain ⟨v6, T6, X6, E6, g6⟩ := X3.callS hexec (Cmp5.law l b A s.heap.size B3 o 0 len) hown (wks W (staticW U16 115 Cmp5.yN)) (wk W Cmp5.tab) (W := 0) (Nat.le_of_ble_eq_true rfl) (Nat.le_of_ble_eq_true rfl) (Nat.le_refl _) (by show 0 + len + 0 ≤ len; omega) (g := (mkF m 9 #[.val (.ref b), .val (.int (Int32.ofNat o)), .val (.int (Int32.ofNat len)), .val (.ref s.heap.size), .unset, .unset] [.int (Int32.ofNat len), .int (Int32.ofNat 0), .ref s.heap.size, .int (Int32.ofNat o), .ref b])) rfl (by rw [hml]; rfl) c5 (argsL := [.ref b, .int (Int32.ofNat o), .ref s.heap.size, .int (Int32.ofNat 0), .int (Int32.ofNat len)]) (rest := []) rfl rfl (by show 2 * 0 + 0 ≤ _; decide) (hb hbytes d9) (⟨rfl, hA3, ba3, hne, l1, by rw [bs3]; simp, hp⟩)
  obtain ⟨rfl, B6, p6, f6⟩ := E6
  have c7 : Steps p.tables e below (s₁.setTop (entryFrame m #[.ref b, .int (Int32.ofNat o), .int (Int32.ofNat len)] 6)) (T6.setTop (mkF m 12 #[.val (.ref b), .val (.int (Int32.ofNat o)), .val (.int (Int32.ofNat len)), .val (.ref s.heap.size), .unset, .unset] [.int (Int32.ofNat len)])) := g6
  have c8 : Steps p.tables e below (s₁.setTop (entryFrame m #[.ref b, .int (Int32.ofNat o), .int (Int32.ofNat len)] 6)) (T6.setTop (mkF m 58 #[.val (.ref b), .val (.int (Int32.ofNat o)), .val (.int (Int32.ofNat len)), .val (.ref s.heap.size), .val (.int (Int32.ofNat len)), .unset] [.ref s.heap.size])) := c7.trans (by
    refine XS.istore X6.here hexec rfl (hb hbytes d12) rfl rfl ?_
    refine XS.iload X6.here hexec rfl (hb hbytes d14) rfl ?_
    refine XS.iloadN X6.here hexec rfl (hb hbytes d16) rfl ?_
    refine XS.icmpYes X6.here hexec rfl (pc0 := 17) rfl (hb hbytes d17) rfl (ii_eq_t rfl) (by decide) rfl ?_
    refine XS.aloadN X6.here hexec rfl (hb hbytes d57) rfl rfl ?_
    exact Steps.refl _)
  have X8 := X6.wide (L' := []) (cells' := 1) (slots' := len) (fun x hx hlt => by
    simp only [List.nil_append, copyLocs, List.mem_map, List.mem_range] at hx
    obtain ⟨i, -, rfl⟩ := hx
    exact absurd hlt (Nat.lt_irrefl _)) (Nat.le_refl _) (by omega)
  exact ⟨T6, some (.ref s.heap.size), _, _, _, X8, rfl, rfl, rfl, (fun h => by cases h), ⟨⟨rfl, B6, ba3.like (X3.warmed.alike.symm.trans X6.warmed.alike) p6.1 f6.1 f6.2.1 f6.2.2.1, f6.2.1.trans bv3, by rw [X6.warmed.alike.findClass, f6.1]; exact bf3, by rw [f6.2.2.1, bs3]; simp, fun j hj => by rw [f6.2.2.2 j, if_pos (by omega)]; rfl, kp3.put p6 (Nat.le_refl _)⟩, by rw [p6.2.2, bh3, hh0]; simp⟩, fun fs hl => c8.trans (X8.areturnOut hexec rfl hret rfl (hb hbytes d58) hl)⟩
end Cmp3
namespace CodL
def yN : MethodName := ⟨"java/lang/StringUTF16", "coderFromArrayLen", "([BI)B"⟩
abbrev yB : ByteArray := jdk_52_method_15_code
theorem d0 : decode yB 0 = .ok (.iload_n 1, 1) := by decide +kernel
theorem d1 : decode yB 1 = .ok (.aload_n 0, 1) := by decide +kernel
theorem d2 : decode yB 2 = .ok (.arraylength, 1) := by decide +kernel
theorem d3 : decode yB 3 = .ok (.isub, 1) := by decide +kernel
theorem d4 : decode yB 4 = .ok (.bipush 31, 2) := by decide +kernel
theorem d6 : decode yB 6 = .ok (.iushr, 1) := by decide +kernel
theorem d7 : decode yB 7 = .ok (.i2b, 1) := by decide +kernel
theorem d8 : decode yB 8 = .ok (.ireturn, 1) := by decide +kernel
def site : List Cond := []
def tab : Cond := tabOf yN yB 2 (some .byte) site
def P (d : Addr) (B : Cell) (args : Array Value) (s : State) : Prop := args = #[.ref d, .int (Int32.ofNat B.slots.size)] ∧ Arr .byte d B s
def E (r : Option Value) (s u : State) : Prop := XT.PureE (some (.int 0)) r s u
/-- an array as long as the number of chars: LATIN1 -/
theorem law (l : Launch) (d : Addr) (B : Cell) : Law l yN 2 2 0 0 yB 2 (some .byte) site (P d B) E [] 0 0 := by
  refine Law.of_walk (plainFor_of_name (by decide +kernel)) (by decide +kernel) (by decide +kernel) (by decide) (fun _ _ h => by rw [h.1]; rfl) (fun _ U U' hal hh h => ⟨h.1, h.2.mv hal hh⟩) (fun r U U' V V' h1 hal h2 h => XT.PureE.mv r U U' V V' h1 hal h2 h) ?_
  intro p e s m args below meth c s₁ X0 hexec hbytes hml hret hlk hnm hown hh0 W hP
  obtain ⟨rfl, hB⟩ := hP
  have hB0 := hB.mv X0.warmed.alike hh0
  have c1 : Steps p.tables e below (s₁.setTop (entryFrame m #[.ref d, .int (Int32.ofNat B.slots.size)] 2)) (s₁.setTop (mkF m 0 #[.val (.ref d), .val (.int (Int32.ofNat B.slots.size))] [])) := entry rfl
  have c2 : Steps p.tables e below (s₁.setTop (entryFrame m #[.ref d, .int (Int32.ofNat B.slots.size)] 2)) (s₁.setTop (mkF m 2 #[.val (.ref d), .val (.int (Int32.ofNat B.slots.size))] [.ref d, .int (Int32.ofNat B.slots.size)])) := c1.trans (by
    refine XS.iloadN X0.here hexec rfl (hb hbytes d0) rfl ?_
    refine XS.aloadN X0.here hexec rfl (hb hbytes d1) rfl rfl ?_
    exact Steps.refl _)
  have c3 : Steps p.tables e below (s₁.setTop (entryFrame m #[.ref d, .int (Int32.ofNat B.slots.size)] 2)) (s₁.setTop (mkF m 8 #[.val (.ref d), .val (.int (Int32.ofNat B.slots.size))] [.int (lo8 (ushr (Int32.ofNat B.slots.size - Int32.ofNat B.slots.size) 31))])) := c2.trans (by
    refine X0.alen hexec hB0 rfl rfl (hb hbytes d2) ?_
    refine XS.isub X0.here hexec rfl (hb hbytes d3) rfl ?_
    refine bipushV X0.here hexec rfl 31 (hb hbytes d4) (by decide) ?_
    refine iushr X0.here hexec rfl (hb hbytes d6) rfl ?_
    refine i2b X0.here hexec rfl (hb hbytes d7) rfl ?_
    exact Steps.refl _)
  have e0 : lo8 (ushr (Int32.ofNat B.slots.size - Int32.ofNat B.slots.size) 31) = 0 := by rw [Int32.sub_self]; decide
  rw [e0] at c3
  exact ⟨s₁, some (.int 0), _, _, _, X0, rfl, rfl, rfl, (fun h => by cases h), ⟨rfl, hh0⟩, fun fs hl => c3.trans (X0.ireturnOut hexec hret rfl (Or.inr (Or.inr (Or.inl rfl))) (hb hbytes d8) hl)⟩
end CodL
/-- the String at a is Latin-1 over a new byte[] (the heap's one new cell): the low bytes of the len chars of A from o on; every cell but a is kept -/
def Got (a : Addr) (D : Cell) (fV fC : Field) (A : Cell) (o len : Nat) (r : Option Value) (s u : State) : Prop := r = none ∧ ∃ D' V : Cell, Blank "java/lang/String" a D' u ∧ Same D D' [fV.slot, fC.slot] ∧ D'.slots[fV.slot]? = some (.ref s.heap.size) ∧ D'.slots[fC.slot]? = some (.int 0) ∧ Arr .byte s.heap.size V u ∧ V.vm = .none ∧ u.vm.findClass "[B" = some V.cls ∧ V.slots.size = len ∧ (∀ j, j < len → V.slots[j]? = some (.int (lo8 (cv A (o + j))))) ∧ (∀ (y : Addr) (c : Cell), y ≠ a → s.heap[y]? = some c → u.heap[y]? = some c) ∧ u.heap.size = s.heap.size + 1
theorem Got.mv {a : Addr} {D A : Cell} {fV fC : Field} {o len : Nat} : ∀ r (U U' V V' : State), U'.heap = U.heap → V.vm.Alike V'.vm → V'.heap = V.heap → Got a D fV fC A o len r U V → Got a D fV fC A o len r U' V' :=
  fun r U U' V V' h1 hal h2 ⟨e0, D', X, a1, a2, a3, a4, a5, a6, a7, a8, a9, a10, a11⟩ => ⟨e0, D', X, a1.mv hal h2, a2, by rw [h1]; exact a3, a4, by rw [h1]; exact a5.mv hal h2, a6, by rw [hal.findClass]; exact a7, a8, a9, by rw [h1, h2]; exact a10, by rw [h1, h2]; exact a11⟩
namespace New4
def yN : MethodName := ⟨"java/lang/String", "<init>", "([CIILjava/lang/Void;)V"⟩
abbrev yB : ByteArray := jdk_42_method_149_code
theorem d0 : decode yB 0 = .ok (.aload_n 0, 1) := by decide +kernel
theorem d1 : decode yB 1 = .ok (.invokespecial 1, 3) := by decide +kernel
theorem d4 : decode yB 4 = .ok (.iload_n 3, 1) := by decide +kernel
theorem d5 : decode yB 5 = .ok (.ifCond (.ne) 22, 3) := by decide +kernel
theorem d27 : decode yB 27 = .ok (.getstatic 38, 3) := by decide +kernel
theorem d30 : decode yB 30 = .ok (.ifCond (.eq) 28, 3) := by decide +kernel
theorem d33 : decode yB 33 = .ok (.aload_n 1, 1) := by decide +kernel
theorem d34 : decode yB 34 = .ok (.iload_n 2, 1) := by decide +kernel
theorem d35 : decode yB 35 = .ok (.iload_n 3, 1) := by decide +kernel
theorem d36 : decode yB 36 = .ok (.invokestatic 177, 3) := by decide +kernel
theorem d39 : decode yB 39 = .ok (.astore 5, 2) := by decide +kernel
theorem d41 : decode yB 41 = .ok (.aload_n 0, 1) := by decide +kernel
theorem d42 : decode yB 42 = .ok (.aload 5, 2) := by decide +kernel
theorem d44 : decode yB 44 = .ok (.iload_n 3, 1) := by decide +kernel
theorem d45 : decode yB 45 = .ok (.invokestatic 47, 3) := by decide +kernel
theorem d48 : decode yB 48 = .ok (.putfield 15, 3) := by decide +kernel
theorem d51 : decode yB 51 = .ok (.aload_n 0, 1) := by decide +kernel
theorem d52 : decode yB 52 = .ok (.aload 5, 2) := by decide +kernel
theorem d54 : decode yB 54 = .ok (.putfield 9, 3) := by decide +kernel
theorem d57 : decode yB 57 = .ok (.return_, 1) := by decide +kernel
def site : List Cond := [.fieldLink "java/lang/String" 38 "java/lang/String" "COMPACT_STRINGS" "Z", Cmp3.tab, CodL.tab, .laysFinal "java/lang/String" "java/lang/String" "value" "[B", .fieldLink "java/lang/String" 9 "java/lang/String" "value" "[B", .laysFinal "java/lang/String" "java/lang/String" "coder" "B", .fieldLink "java/lang/String" 15 "java/lang/String" "coder" "B"] ++ objW "java/lang/String" 1 ++ staticW "java/lang/String" 177 Cmp3.yN ++ staticW "java/lang/String" 47 CodL.yN
def tab : Cond := tabOf yN yB 6 none site
def P (a : Addr) (D : Cell) (fV fC : Field) (b : Addr) (A : Cell) (z : Int32) (o len : Nat) (args : Array Value) (s : State) : Prop := args = #[.ref a, .ref b, .int (Int32.ofNat o), .int (Int32.ofNat len), .null] ∧ Blank "java/lang/String" a D s ∧ Found "java/lang/String" "value" "[B" fV s ∧ Found "java/lang/String" "coder" "B" fC s ∧ Ch b A s ∧ StaticIs s "java/lang/String" "COMPACT_STRINGS" "Z" (.int z) ∧ ¬ z = 0 ∧ 0 < len ∧ o + len ≤ A.slots.size ∧ len ≤ 536870912 ∧ ∀ i, i < len → ¬ 255 < cv A (o + i)
def E (a : Addr) (D : Cell) (fV fC : Field) (A : Cell) (o len : Nat) (r : Option Value) (s u : State) : Prop := Got a D fV fC A o len r s u
/-- len > 0, no char of the range above 255: a Latin-1 String of their low bytes -/
theorem law (l : Launch) (a : Addr) (D : Cell) (fV fC : Field) (b : Addr) (A : Cell) (z : Int32) (o len : Nat) : Law l yN 5 4 2 35 yB 6 none site (P a D fV fC b A z o len) (E a D fV fC A o len) [⟨a, fC.slot⟩, ⟨a, fV.slot⟩] 1 len := by
  refine Law.of_walk (plainFor_of_name (by decide +kernel)) (by decide +kernel) (by decide +kernel) (by decide) (fun _ _ h => by rw [h.1]; rfl) (fun _ U U' hal hh h => ⟨h.1, h.2.1.mv hal hh, h.2.2.1.al hal, h.2.2.2.1.al hal, h.2.2.2.2.1.mv hal hh, h.2.2.2.2.2.1.there hal hh, h.2.2.2.2.2.2⟩) (fun r U U' V V' h1 hal h2 h => Got.mv r U U' V V' h1 hal h2 h) ?_
  intro p e s m args below meth c s₁ X0 hexec hbytes hml hret hlk hnm hown hh0 W hP
  obtain ⟨rfl, hB, f1, f2, hA, s1, hz, l0, l1, l2, hp⟩ := hP
  have a31 := hA.1.2.2.2
  have c1 : Steps p.tables e below (s₁.setTop (entryFrame m #[.ref a, .ref b, .int (Int32.ofNat o), .int (Int32.ofNat len), .null] 6)) (s₁.setTop (mkF m 0 #[.val (.ref a), .val (.ref b), .val (.int (Int32.ofNat o)), .val (.int (Int32.ofNat len)), .val .null, .unset] [])) := entry rfl
  have c2 : Steps p.tables e below (s₁.setTop (entryFrame m #[.ref a, .ref b, .int (Int32.ofNat o), .int (Int32.ofNat len), .null] 6)) (s₁.setTop (mkF m 1 #[.val (.ref a), .val (.ref b), .val (.int (Int32.ofNat o)), .val (.int (Int32.ofNat len)), .val .null, .unset] [.ref a])) := c1.trans (by
    refine XS.aloadN X0.here hexec rfl (hb hbytes d0) rfl rfl ?_
    exact Steps.refl _)
  obtain ⟨T3, X3, q3, st3⟩ := X0.oinit hexec hown (wks W (objW "java/lang/String" 1)) (g := (mkF m 1 #[.val (.ref a), .val (.ref b), .val (.int (Int32.ofNat o)), .val (.int (Int32.ofNat len)), .val .null, .unset] [.ref a])) rfl (by rw [hml]; rfl) (rest := []) rfl (hb hbytes d1) (W := 0) (by show 2 * 0 + 0 ≤ _; decide) (Nat.le_of_ble_eq_true rfl) (Nat.le_of_ble_eq_true rfl)
  have hh3 := q3.trans hh0
  have c4 : Steps p.tables e below (s₁.setTop (entryFrame m #[.ref a, .ref b, .int (Int32.ofNat o), .int (Int32.ofNat len), .null] 6)) (T3.setTop (mkF m 27 #[.val (.ref a), .val (.ref b), .val (.int (Int32.ofNat o)), .val (.int (Int32.ofNat len)), .val .null, .unset] [])) := (c2.trans (st3 _ (Steps.refl _))).trans (by
    refine XS.iloadN X3.here hexec rfl (hb hbytes d4) rfl ?_
    refine XS.ifYes X3.here hexec rfl (pc0 := 5) rfl (hb hbytes d5) rfl (i0_ne_t (nz32 (by omega) l0)) (by decide) rfl ?_
    exact Steps.refl _)
  obtain ⟨T5, X5, q5, st5⟩ := X3.sget hexec hown (wk W (.fieldLink "java/lang/String" 38 "java/lang/String" "COMPACT_STRINGS" "Z")) s1 (fun _ _ h => by rw [hh3]; exact h) (g := (mkF m 27 #[.val (.ref a), .val (.ref b), .val (.int (Int32.ofNat o)), .val (.int (Int32.ofNat len)), .val .null, .unset] [])) rfl (hb hbytes d27)
  have hh5 := q5.trans hh3
  have c6 : Steps p.tables e below (s₁.setTop (entryFrame m #[.ref a, .ref b, .int (Int32.ofNat o), .int (Int32.ofNat len), .null] 6)) (T5.setTop (mkF m 30 #[.val (.ref a), .val (.ref b), .val (.int (Int32.ofNat o)), .val (.int (Int32.ofNat len)), .val .null, .unset] [.int z])) := c4.trans (st5 _ (Steps.refl _))
  have c7 : Steps p.tables e below (s₁.setTop (entryFrame m #[.ref a, .ref b, .int (Int32.ofNat o), .int (Int32.ofNat len), .null] 6)) (T5.setTop (mkF m 36 #[.val (.ref a), .val (.ref b), .val (.int (Int32.ofNat o)), .val (.int (Int32.ofNat len)), .val .null, .unset] [.int (Int32.ofNat len), .int (Int32.ofNat o), .ref b])) := c6.trans (by
    refine XS.ifNo X5.here hexec rfl (hb hbytes d30) rfl (i0_eq_f hz) ?_
    refine XS.aloadN X5.here hexec rfl (hb hbytes d33) rfl rfl ?_
    refine XS.iloadN X5.here hexec rfl (hb hbytes d34) rfl ?_
    refine XS.iloadN X5.here hexec rfl (hb hbytes d35) rfl ?_
    exact Steps.refl _)
  obtain ⟨v8, T8, X8, E8, g8⟩ := X5.callS hexec (Cmp3.law l b A o len) hown (wks W (staticW "java/lang/String" 177 Cmp3.yN)) (wk W Cmp3.tab) (W := 0) (Nat.le_of_ble_eq_true rfl) (Nat.le_of_ble_eq_true rfl) (Nat.le_refl _) (by show 0 + len ≤ len; omega) (g := (mkF m 36 #[.val (.ref a), .val (.ref b), .val (.int (Int32.ofNat o)), .val (.int (Int32.ofNat len)), .val .null, .unset] [.int (Int32.ofNat len), .int (Int32.ofNat o), .ref b])) rfl (by rw [hml]; rfl) c7 (argsL := [.ref b, .int (Int32.ofNat o), .int (Int32.ofNat len)]) (rest := []) rfl rfl (by show 2 * 0 + 0 ≤ _; decide) (hb hbytes d36) (⟨rfl, hA.mv X5.warmed.alike hh5, l1, l2, hp⟩)
  obtain ⟨e8, z8⟩ := E8
  obtain ⟨rfl, N, n1, n2, n3, n4, n5, n6⟩ := NewArr.mv _ T5 s _ _ hh5.symm (Vm.Alike.refl _) rfl e8
  rw [hh5] at z8
  have hB1 := hB.keep X8.warmed.alike (n6 _ _ hB.1)
  have hne : s.heap.size ≠ a := (Nat.ne_of_lt (Array.getElem?_eq_some_iff.mp hB.1).1).symm
  have c9 : Steps p.tables e below (s₁.setTop (entryFrame m #[.ref a, .ref b, .int (Int32.ofNat o), .int (Int32.ofNat len), .null] 6)) (T8.setTop (mkF m 39 #[.val (.ref a), .val (.ref b), .val (.int (Int32.ofNat o)), .val (.int (Int32.ofNat len)), .val .null, .unset] [.ref s.heap.size])) := g8
  have c10 : Steps p.tables e below (s₁.setTop (entryFrame m #[.ref a, .ref b, .int (Int32.ofNat o), .int (Int32.ofNat len), .null] 6)) (T8.setTop (mkF m 45 #[.val (.ref a), .val (.ref b), .val (.int (Int32.ofNat o)), .val (.int (Int32.ofNat len)), .val .null, .val (.ref s.heap.size)] [.int (Int32.ofNat N.slots.size), .ref s.heap.size, .ref a])) := by
    have hc : Steps p.tables e below (s₁.setTop (entryFrame m #[.ref a, .ref b, .int (Int32.ofNat o), .int (Int32.ofNat len), .null] 6)) (T8.setTop (mkF m 45 #[.val (.ref a), .val (.ref b), .val (.int (Int32.ofNat o)), .val (.int (Int32.ofNat len)), .val .null, .val (.ref s.heap.size)] [.int (Int32.ofNat len), .ref s.heap.size, .ref a])) := c9.trans (by
      refine XS.astore X8.here hexec rfl (hb hbytes d39) rfl rfl rfl ?_
      refine XS.aloadN X8.here hexec rfl (hb hbytes d41) rfl rfl ?_
      refine XS.aload X8.here hexec rfl (hb hbytes d42) rfl rfl ?_
      refine XS.iloadN X8.here hexec rfl (hb hbytes d44) rfl ?_
      exact Steps.refl _)
    rw [n4]; exact hc
  obtain ⟨v11, T11, X11, E11, g11⟩ := X8.callS hexec (CodL.law l s.heap.size N) hown (wks W (staticW "java/lang/String" 47 CodL.yN)) (wk W CodL.tab) (W := 1) (Nat.le_of_ble_eq_true rfl) (Nat.le_of_ble_eq_true rfl) (Nat.le_refl _) (by show 0 + len + 0 ≤ len; omega) (g := (mkF m 45 #[.val (.ref a), .val (.ref b), .val (.int (Int32.ofNat o)), .val (.int (Int32.ofNat len)), .val .null, .val (.ref s.heap.size)] [.int (Int32.ofNat N.slots.size), .ref s.heap.size, .ref a])) rfl (by rw [hml]; rfl) c10 (argsL := [.ref s.heap.size, .int (Int32.ofNat N.slots.size)]) (rest := [.ref a]) rfl rfl (by show 2 * 0 + (1 + 0) ≤ _; decide) (hb hbytes d45) (⟨rfl, n1⟩)
  obtain ⟨rfl, q11⟩ := E11
  have hB11 := hB1.mv (X8.warmed.alike.symm.trans X11.warmed.alike) q11
  have c12 : Steps p.tables e below (s₁.setTop (entryFrame m #[.ref a, .ref b, .int (Int32.ofNat o), .int (Int32.ofNat len), .null] 6)) (T11.setTop (mkF m 48 #[.val (.ref a), .val (.ref b), .val (.int (Int32.ofNat o)), .val (.int (Int32.ofNat len)), .val .null, .val (.ref s.heap.size)] [.int 0, .ref a])) := g11
  obtain ⟨T13, X13, p13, bl13, sl13, st13⟩ := X11.finit hexec hown (wk W (.fieldLink "java/lang/String" 15 "java/lang/String" "coder" "B")) (Or.inr ⟨_, (wk W (.laysFinal "java/lang/String" "java/lang/String" "coder" "B"))⟩) (Or.inl ⟨rfl, hnm⟩) f2 (Or.inl rfl) hB11 (t := .byte) (by decide +kernel) rfl (g := (mkF m 48 #[.val (.ref a), .val (.ref b), .val (.int (Int32.ofNat o)), .val (.int (Int32.ofNat len)), .val .null, .val (.ref s.heap.size)] [.int 0, .ref a])) rfl (rest := []) rfl (hb hbytes d48)
  have c14 : Steps p.tables e below (s₁.setTop (entryFrame m #[.ref a, .ref b, .int (Int32.ofNat o), .int (Int32.ofNat len), .null] 6)) (T13.setTop (mkF m 54 #[.val (.ref a), .val (.ref b), .val (.int (Int32.ofNat o)), .val (.int (Int32.ofNat len)), .val .null, .val (.ref s.heap.size)] [.ref s.heap.size, .ref a])) := (c12.trans (st13 _ (Steps.refl _))).trans (by
    refine XS.aloadN X13.here hexec rfl (hb hbytes d51) rfl rfl ?_
    refine XS.aload X13.here hexec rfl (hb hbytes d52) rfl rfl ?_
    exact Steps.refl _)
  obtain ⟨T15, X15, p15, bl15, sl15, st15⟩ := X13.finit hexec hown (wk W (.fieldLink "java/lang/String" 9 "java/lang/String" "value" "[B")) (Or.inr ⟨_, (wk W (.laysFinal "java/lang/String" "java/lang/String" "value" "[B"))⟩) (Or.inl ⟨rfl, hnm⟩) f1 (Or.inl rfl) bl13 (t := (.array .byte)) (by decide +kernel) rfl (g := (mkF m 54 #[.val (.ref a), .val (.ref b), .val (.int (Int32.ofNat o)), .val (.int (Int32.ofNat len)), .val .null, .val (.ref s.heap.size)] [.ref s.heap.size, .ref a])) rfl (rest := []) rfl (hb hbytes d54)
  have c16 : Steps p.tables e below (s₁.setTop (entryFrame m #[.ref a, .ref b, .int (Int32.ofNat o), .int (Int32.ofNat len), .null] 6)) (T15.setTop (mkF m 57 #[.val (.ref a), .val (.ref b), .val (.int (Int32.ofNat o)), .val (.int (Int32.ofNat len)), .val .null, .val (.ref s.heap.size)] [])) := c14.trans (st15 _ (Steps.refl _))
  have ap := apart (Or.inr ⟨_, (wk W (.laysFinal "java/lang/String" "java/lang/String" "value" "[B"))⟩) (Or.inr ⟨_, (wk W (.laysFinal "java/lang/String" "java/lang/String" "coder" "B"))⟩) f1 f2 (t₁ := .array .byte) (t₂ := .byte) (by decide +kernel) (by decide +kernel) (by decide)
  have al := X8.warmed.alike.symm.trans X15.warmed.alike
  have n7 : T11.heap[s.heap.size]? = some N := by rw [q11]; exact n1.1
  exact ⟨T15, none, _, _, _, X15, by simp, rfl, by omega, (fun _ => rfl), ⟨rfl, _, N, bl15, ((Same.refl D _).set _ (by simp)).set _ (by simp), sl15, (Cell.slots_setSlot_ne _ ap).trans sl13, n1.keep al (p15.other hne (p13.other hne n7)), n2, by rw [al.findClass]; exact n3, n4, n5, fun y c h1 h2 => p15.other h1 (p13.other h1 (by rw [q11]; exact n6 y c h2)), by rw [p15.2.2, p13.2.2, q11]; exact z8⟩, fun fs hl => c16.trans (X15.returnOut hexec hret (hb hbytes d57) hl)⟩
end New4
namespace New1
def yN : MethodName := ⟨"java/lang/String", "<init>", "([C)V"⟩
abbrev yB : ByteArray := jdk_42_method_3_code
theorem d0 : decode yB 0 = .ok (.aload_n 0, 1) := by decide +kernel
theorem d1 : decode yB 1 = .ok (.aload_n 1, 1) := by decide +kernel
theorem d2 : decode yB 2 = .ok (.iconst 0, 1) := by decide +kernel
theorem d3 : decode yB 3 = .ok (.aload_n 1, 1) := by decide +kernel
theorem d4 : decode yB 4 = .ok (.arraylength, 1) := by decide +kernel
theorem d5 : decode yB 5 = .ok (.aconst_null, 1) := by decide +kernel
theorem d6 : decode yB 6 = .ok (.invokespecial 27, 3) := by decide +kernel
theorem d9 : decode yB 9 = .ok (.return_, 1) := by decide +kernel
def site : List Cond := [New4.tab] ++ initW "java/lang/String" 27 New4.yN
def tab : Cond := tabOf yN yB 2 none site
def P (a : Addr) (D : Cell) (fV fC : Field) (b : Addr) (A : Cell) (z : Int32) (args : Array Value) (s : State) : Prop := args = #[.ref a, .ref b] ∧ Blank "java/lang/String" a D s ∧ Found "java/lang/String" "value" "[B" fV s ∧ Found "java/lang/String" "coder" "B" fC s ∧ Ch b A s ∧ StaticIs s "java/lang/String" "COMPACT_STRINGS" "Z" (.int z) ∧ ¬ z = 0 ∧ 0 < A.slots.size ∧ A.slots.size ≤ 536870912 ∧ ∀ i, i < A.slots.size → ¬ 255 < cv A i
def E (a : Addr) (D : Cell) (fV fC : Field) (A : Cell) (r : Option Value) (s u : State) : Prop := Got a D fV fC A 0 A.slots.size r s u
/-- new String(chars), not empty, no char above 255: a Latin-1 String of their low bytes -/
theorem law (l : Launch) (a : Addr) (D : Cell) (fV fC : Field) (b : Addr) (A : Cell) (z : Int32) : Law l yN 2 1 3 52 yB 2 none site (P a D fV fC b A z) (E a D fV fC A) [⟨a, fC.slot⟩, ⟨a, fV.slot⟩] 1 A.slots.size := by
  refine Law.of_walk (plainFor_of_name (by decide +kernel)) (by decide +kernel) (by decide +kernel) (by decide) (fun _ _ h => by rw [h.1]; rfl) (fun _ U U' hal hh h => ⟨h.1, h.2.1.mv hal hh, h.2.2.1.al hal, h.2.2.2.1.al hal, h.2.2.2.2.1.mv hal hh, h.2.2.2.2.2.1.there hal hh, h.2.2.2.2.2.2⟩) (fun r U U' V V' h1 hal h2 h => Got.mv r U U' V V' h1 hal h2 h) ?_
  intro p e s m args below meth c s₁ X0 hexec hbytes hml hret hlk hnm hown hh0 W hP
  obtain ⟨rfl, hB, f1, f2, hA, s1, hz, l0, l2, hp⟩ := hP
  have c1 : Steps p.tables e below (s₁.setTop (entryFrame m #[.ref a, .ref b] 2)) (s₁.setTop (mkF m 0 #[.val (.ref a), .val (.ref b)] [])) := entry rfl
  have c2 : Steps p.tables e below (s₁.setTop (entryFrame m #[.ref a, .ref b] 2)) (s₁.setTop (mkF m 6 #[.val (.ref a), .val (.ref b)] [.null, .int (Int32.ofNat A.slots.size), .int 0, .ref b, .ref a])) := c1.trans (by
    refine XS.aloadN X0.here hexec rfl (hb hbytes d0) rfl rfl ?_
    refine XS.aloadN X0.here hexec rfl (hb hbytes d1) rfl rfl ?_
    refine iconstV X0.here hexec rfl 0 (hb hbytes d2) (by decide) ?_
    refine XS.aloadN X0.here hexec rfl (hb hbytes d3) rfl rfl ?_
    refine X0.alen hexec (hA.1.mv X0.warmed.alike hh0) rfl rfl (hb hbytes d4) ?_
    refine XS.aconstNull X0.here hexec rfl (hb hbytes d5) ?_
    exact Steps.refl _)
  obtain ⟨v3, T3, X3, E3, g3⟩ := X0.callN hexec (New4.law l a D fV fC b A z 0 A.slots.size) rfl hown (wks W (initW "java/lang/String" 27 New4.yN)) (W New4.tab (by simp only [site, List.mem_cons, List.mem_append, true_or, or_true])) (W := 0) (Nat.le_of_ble_eq_true rfl) (Nat.le_of_ble_eq_true rfl) (Nat.le_refl _) (by show 0 + A.slots.size ≤ A.slots.size; omega) (g := (mkF m 6 #[.val (.ref a), .val (.ref b)] [.null, .int (Int32.ofNat A.slots.size), .int (Int32.ofNat 0), .ref b, .ref a])) rfl (by rw [hml]; rfl) c2 (argsL := [.ref b, .int (Int32.ofNat 0), .int (Int32.ofNat A.slots.size), .null]) (rest := []) rfl rfl (by show 2 * 0 + 0 ≤ _; decide) (hb hbytes d6) (⟨rfl, hB.mv X0.warmed.alike hh0, f1.al X0.warmed.alike, f2.al X0.warmed.alike, hA.mv X0.warmed.alike hh0, s1.there X0.warmed.alike hh0, hz, l0, by omega, l2, fun i hi => by rw [Nat.zero_add]; exact hp i hi⟩)
  have e0 := Got.mv _ s₁ s _ _ hh0.symm (Vm.Alike.refl _) rfl E3
  obtain rfl := e0.1
  have c4 : Steps p.tables e below (s₁.setTop (entryFrame m #[.ref a, .ref b] 2)) (T3.setTop (mkF m 9 #[.val (.ref a), .val (.ref b)] [])) := g3
  exact ⟨T3, none, _, _, _, X3, by simp, rfl, by omega, (fun _ => rfl), e0, fun fs hl => c4.trans (X3.returnOut hexec hret (hb hbytes d9) hl)⟩
theorem pays {l : Launch} {R : Room} {p : Program} {e : Env} {below : List Frame} {s : State} {sargs : Array Value} {len W : Nat} (a : Addr) (D : Cell) (fV fC : Field) (b : Addr) (A : Cell) (z : Int32) (htab : tab.before sargs s = true) (hfr : 4 ≤ R.frames) (hlo : W + 65 ≤ R.locals) :
    Back l R p e below s sargs yN len W (fun A₁ a₁ => A₁.cells + 1 ≤ R.cells ∧ A₁.slots + A.slots.size ≤ R.slots ∧ P a D fV fC b A z a₁ A₁.U) (fun A₁ _ v₁ B₁ => E a D fV fC A v₁ A₁.U B₁.U ∧ B₁.locs = A₁.locs ++ [⟨a, fC.slot⟩, ⟨a, fV.slot⟩] ∧ B₁.cells = A₁.cells + 1 ∧ B₁.slots = A₁.slots + A.slots.size) :=
  (law l a D fV fC b A z).pays htab hfr (by omega)
end New1
/-- the byte, read back as charAt reads it, is the char -/
theorem lo8_mask {x : Int32} (h0 : ¬ x < 0) (h1 : ¬ 255 < x) : lo8 x &&& 255 = x := by
  have t : ∀ k : Fin 256, lo8 (Int32.ofNat k.val) &&& 255 = Int32.ofNat k.val := by decide +kernel
  rw [Int32.lt_iff_toInt_lt] at h0 h1
  have e0 : (0 : Int32).toInt = 0 := rfl
  have e1 : (255 : Int32).toInt = 255 := rfl
  obtain ⟨k, hk⟩ : ∃ k : Nat, x.toInt = k := ⟨x.toInt.toNat, by omega⟩
  have hx : x = Int32.ofNat k := Int32.toInt_inj.mp (by rw [hk, Int32.toInt_ofNat_small (by omega)])
  rw [hx]
  exact t ⟨k, by omega⟩
end StrChars
namespace StrChars.Road
open Jvm Sem ClassFile Op Lib Jvm.Stand Jvm.Free Jvm.Free.XT
open Jvm.Lib.Cold (StaticIs)
abbrev ST : String := "java/lang/String"
/-- every table word that New1's law asks, flat -/
abbrev words : List Jvm.Cond := [.code New1.yN New1.yB 2 none, .initialized ST, .methodLink ST 27 New4.yN, .instanceMethod New4.yN,
  .code New4.yN New4.yB 6 none, .fieldLink ST 38 ST "COMPACT_STRINGS" "Z", .laysFinal ST ST "value" "[B", .fieldLink ST 9 ST "value" "[B", .laysFinal ST ST "coder" "B", .fieldLink ST 15 ST "coder" "B",
  .methodLink ST 1 Lib.objectInit, .instanceMethod Lib.objectInit, .code Lib.objectInit ⟨#[0xb1]⟩ 1 none, .methodLink ST 177 Cmp3.yN, .static Cmp3.yN, .methodLink ST 47 CodL.yN, .static CodL.yN,
  .code Cmp3.yN Cmp3.yB 6 (some (.array .byte)), .initialized U16, .arrayClass .byte, .methodLink U16 115 Cmp5.yN, .static Cmp5.yN, .code Cmp5.yN Cmp5.yB 7 (some .int), .code CodL.yN CodL.yB 2 (some .byte)]
theorem tab_of {a : Array Value} {s : State} (h : ∀ w ∈ words, w.before a s = true) : New1.tab.before a s = true := by
  have h5 : Cmp5.tab.before a s = true := unparts (wk h (.code Cmp5.yN Cmp5.yB 7 (some .int))) (wks h (.initialized Cmp5.yN.cls :: Cmp5.site))
  have hc : CodL.tab.before a s = true := unparts (wk h (.code CodL.yN CodL.yB 2 (some .byte))) (wks h (.initialized CodL.yN.cls :: CodL.site))
  have q5 : ∀ w ∈ Cmp5.tab :: words, w.before a s = true := fun w hw => (List.mem_cons.mp hw).elim (fun e => e ▸ h5) (h w)
  have h3 : Cmp3.tab.before a s = true := unparts (wk q5 (.code Cmp3.yN Cmp3.yB 6 (some (.array .byte)))) (wks q5 (.initialized Cmp3.yN.cls :: Cmp3.site))
  have q3 : ∀ w ∈ Cmp3.tab :: CodL.tab :: words, w.before a s = true := fun w hw => (List.mem_cons.mp hw).elim (fun e => e ▸ h3) fun hw => (List.mem_cons.mp hw).elim (fun e => e ▸ hc) (h w)
  have h4 : New4.tab.before a s = true := unparts (wk q3 (.code New4.yN New4.yB 6 none)) (wks q3 (.initialized New4.yN.cls :: New4.site))
  have q4 : ∀ w ∈ New4.tab :: words, w.before a s = true := fun w hw => (List.mem_cons.mp hw).elim (fun e => e ▸ h4) (h w)
  exact unparts (wk q4 (.code New1.yN New1.yB 2 none)) (wks q4 (.initialized New1.yN.cls :: New1.site))
/-- the words ride from the start Z to the walk's own state -/
theorem moved {Z s : State} {a0 args : Array Value} (hZ : Z.Warmed39 s.vm) (hw : ∀ d ∈ words, d.before a0 Z = true) : ∀ d ∈ words, d.before args s = true := fun d hd => by
  have q := hw d hd
  have t : ∀ d ∈ words, d = .arrayClass .byte ∨ (d.onTables && d.keepsFace) = true := by decide +kernel
  rcases t d hd with rfl | t
  · exact RoadKit.mvA hZ q
  · exact RoadKit.mv hZ q t
/-- WHAT COMES BACK, over the tables of the start Z: h the heap at the call, h' behind it -/
def Q (Z : State) (x : Addr) (A : Cell) (h : Heap) (v : Option Value) (h' : Heap) (L : List Loc) : Prop := v = none ∧ (∀ y ∈ L, y.base = x) ∧ RoadKit.Keep h h' [x] ∧ h'.size = h.size + 1 ∧ RoadKit.Exa Z h' x ST ∧ RoadKit.Fld Z h' x ST "value" "[B" (.ref h.size) ∧ RoadKit.Fld Z h' x ST "coder" "B" (.int 0) ∧
  (∃ V : Cell, RoadKit.Arr Z h' h.size V .byte ∧ V.vm = .none ∧ Z.vm.findClass "[B" = some V.cls ∧ V.slots.size = A.slots.size ∧ ∀ j, j < A.slots.size → V.slots[j]? = some (.int (lo8 (cv A j)))) ∧
  ∀ (O n d : String) (w : Value), RoadKit.Fld Z h x O n d w → RoadKit.slotOf Z O n d ≠ RoadKit.slotOf Z ST "value" "[B" → RoadKit.slotOf Z O n d ≠ RoadKit.slotOf Z ST "coder" "B" → RoadKit.Fld Z h' x O n d w
/-- **new String(chars) AT A CALL, IN THE ROAD'S FORM**: for specialBack behind newO: x the fresh String, b the char[] with the cell A -/
theorem back {p : Program} {l : Launch} {e : Env} {R : Room} {s : State} {args : Array Value} {below : List Frame} {len W : Nat} {Z : State} {a0 : Array Value} {h : Heap} (hZ : Z.Warmed39 s.vm) (hw : ∀ d ∈ words, d.before a0 Z = true) {kI : Nat} (wi : (Jvm.Cond.instantiable ST kI).before a0 Z = true)
    {x b : Addr} {A : Cell} {z : Int32} {v0 c0 : Value} (E : RoadKit.Exa Z h x ST) (V : RoadKit.Fld Z h x ST "value" "[B" v0) (C : RoadKit.Fld Z h x ST "coder" "B" c0) (K : RoadKit.Arr Z h b A .char) (hty : Typed .char A) (S : RoadKit.Sta Z h ST "COMPACT_STRINGS" "Z" (.int z)) (hz : ¬ z = 0)
    (l0 : 0 < A.slots.size) (l2 : A.slots.size ≤ 536870912) (hp : ∀ i, i < A.slots.size → ¬ 255 < cv A i) (hfr : 4 ≤ R.frames) (hlo : W + 65 ≤ R.locals) :
    Back l R p e below s args New1.yN len W (fun P a => a = #[.ref x, .ref b] ∧ P.U.heap = h ∧ P.cells + 1 ≤ R.cells ∧ P.slots + A.slots.size ≤ R.slots)
      (fun P _ v B => ∃ L, Q Z x A h v B.U.heap L ∧ B.locs = P.locs ++ L ∧ B.cells = P.cells + 1 ∧ B.slots = P.slots + A.slots.size) := by
  intro m meth c P g ig mk a X hg hsize hdg hW hn hp'
  obtain ⟨rfl, rfl, r1, r2⟩ := hp'
  have al : Z.vm.Alike P.U.vm := hZ.alike.trans X.warmed.alike
  obtain ⟨D, cfV, kV, iV, fV, hD, gV, stV, knV, obV, asV, slV⟩ := id V
  obtain ⟨D', cfC, kC, iC, fC, hD', gC, stC, -, -, asC, slC⟩ := id C
  cases hD.symm.trans hD'
  obtain ⟨D2, kD, e1, e2, e3, e4, e5⟩ := id E
  cases hD.symm.trans e1
  obtain ⟨c2, k2, i1, i2, i3, -⟩ := Cond.instantiable_spec wi
  cases e2.symm.trans i1
  cases e3.symm.trans i2
  obtain ⟨kU, u1, u2⟩ := al.2.2 _ _ e3
  have hB : Blank ST x D P.U := ⟨hD, ⟨knV, fun q hq => by rw [hq] at obV; cases obV⟩, by rw [al.findClass]; exact e2, kU, u1, by rw [u2]; exact i3, by rw [u2]; exact e5 i3⟩
  have F1 : Found ST "value" "[B" fV P.U := ⟨SBG.found_only al ⟨cfV, kV, iV, gV⟩, stV⟩
  have F2 : Found ST "coder" "B" fC P.U := ⟨SBG.found_only al ⟨cfC, kC, iC, gC⟩, stC⟩
  have hA : Ch b A P.U := ⟨⟨K.1, State.isArrayOf_alike al K.2.1, K.2.2, by omega⟩, hty⟩
  have hS : StaticIs P.U ST "COMPACT_STRINGS" "Z" (.int z) := by
    obtain ⟨cfS, iS, kS, fS, st, cS, t1, t2, t3, t4, t5, t6, t7⟩ := S
    exact StaticIs.there (s := { Z with heap := P.U.heap }) ⟨cfS, iS, kS, fS, st, cS, t1, t2, t3, t4, t5, (fun q => by rw [q] at t6; cases t6), t7⟩ al rfl
  obtain ⟨v, B, X', ⟨⟨hv, E', V', q1, q2, q3, q4, q5, q6, q7, q8, q9, q10, q11⟩, hl, hc, hs⟩, st⟩ := New1.pays x D fV fC b A z (tab_of (moved hZ hw)) hfr hlo m meth c P g ig mk _ X hg hsize hdg hW hn ⟨r1, r2, rfl, hB, F1, F2, hA, hS, hz, l0, l2, hp⟩
  have al' : Z.vm.Alike B.U.vm := hZ.alike.trans X'.warmed.alike
  have hsz : E'.slots.size = D.slots.size := by
    obtain ⟨-, -, -, kB, w1, w2, w3⟩ := q1
    obtain ⟨kB', y1, y2⟩ := al'.2.2 _ _ e3
    rw [q2.2.1] at w1
    cases w1.symm.trans y1
    rw [w3, e5 i3, y2]
  refine ⟨v, B, X', ⟨_, ⟨hv, ?_, ⟨by omega, fun y cy hy hn' => q10 y cy (by simpa using hn') hy, fun y cy hy => ?_⟩, q11, ⟨E', _, q1.1, by rw [q2.2.1]; exact e2, by rw [q2.2.1]; exact e3, by rw [q2.1]; exact obV, fun _ => by rw [hsz]; exact e5 i3⟩,
    ⟨E', cfV, kV, iV, fV, q1.1, gV, stV, by rw [q2.1]; exact knV, by rw [q2.1]; exact obV, by rw [q2.2.1]; exact asV, q3⟩, ⟨E', cfC, kC, iC, fC, q1.1, gC, stC, by rw [q2.1]; exact knV, by rw [q2.1]; exact obV, by rw [q2.2.1]; exact asC, q4⟩,
    ⟨V', ⟨q5.1, State.isArrayOf_alike al'.symm q5.2.1, q5.2.2.1⟩, q6, by rw [← al'.findClass]; exact q7, q8, fun j hj => by have := q9 j hj; rwa [Nat.zero_add] at this⟩, fun O n d w F n1 n2 => ?_⟩, hl, hc, hs⟩, st⟩
  · intro y hy
    simp only [List.mem_cons, List.not_mem_nil, or_false] at hy
    rcases hy with rfl | rfl <;> rfl
  · by_cases q : y = x
    · subst q
      cases hD.symm.trans hy
      exact ⟨E', q1.1, q2.2.1, q2.1, hsz⟩
    · exact ⟨cy, q10 y cy q hy, rfl, rfl, rfl⟩
  · obtain ⟨D3, cf, k, i, f, g1, g2, g3, g4, g5, g6, g7⟩ := F
    cases hD.symm.trans g1
    simp only [RoadKit.slotOf, g2, gV, gC, Option.map_some, Option.getD_some] at n1 n2
    exact ⟨E', cf, k, i, f, q1.1, g2, g3, by rw [q2.1]; exact g4, by rw [q2.1]; exact g5, by rw [q2.2.1]; exact g6, by rw [q2.2.2 f.slot (by simp [n1, n2])]; exact g7⟩
end StrChars.Road
namespace StrChars.Road
open Jvm Sem ClassFile Op Lib Jvm.Stand Jvm.Free Jvm.Free.XT
/-- WHAT COMES BACK, the byte[] as a list of values -/
def QA (Z : State) (x : Addr) (zn : Int32) (cs : List Int32) (h : Heap) (v : Option Value) (h' : Heap) (L : List Loc) : Prop := v = none ∧ (∀ y ∈ L, y.base = x) ∧ RoadKit.Keep h h' [x] ∧ h'.size = h.size + 1 ∧ RoadKit.Exa Z h' x ST ∧ RoadKit.Fld Z h' x ST "value" "[B" (.ref h.size) ∧ RoadKit.Fld Z h' x ST "coder" "B" (.int 0) ∧
  (∃ kb, Z.vm.findClass "[B" = some kb ∧ RoadKit.Arv Z h' h.size kb .byte zn (cs.map fun c => .int (lo8 c)) (.int 0)) ∧
  ∀ (O n d : String) (w : Value), RoadKit.Fld Z h x O n d w → RoadKit.slotOf Z O n d ≠ RoadKit.slotOf Z ST "value" "[B" → RoadKit.slotOf Z O n d ≠ RoadKit.slotOf Z ST "coder" "B" → RoadKit.Fld Z h' x O n d w
/-- **new String(chars) AT A CALL, THE ARRAYS AS LISTS**: the char[] at b holds cs, not empty, no char above 255 -/
theorem backArv {p : Program} {l : Launch} {e : Env} {R : Room} {s : State} {args : Array Value} {below : List Frame} {len W : Nat} {Z : State} {a0 : Array Value} {h : Heap} (hZ : Z.Warmed39 s.vm) (hw : ∀ d ∈ words, d.before a0 Z = true) {kI : Nat} (wi : (Jvm.Cond.instantiable ST kI).before a0 Z = true)
    {x b : Addr} {k : ClassId} {zn z : Int32} {cs : List Int32} {dv v0 c0 : Value} (E : RoadKit.Exa Z h x ST) (V : RoadKit.Fld Z h x ST "value" "[B" v0) (C : RoadKit.Fld Z h x ST "coder" "B" c0) (K : RoadKit.Arv Z h b k .char zn (cs.map Value.int) dv) (S : RoadKit.Sta Z h ST "COMPACT_STRINGS" "Z" (.int z)) (hz : ¬ z = 0)
    (hlen : zn.toNatClampNeg = cs.length) (h0 : 0 < cs.length) (hbig : cs.length ≤ 536870912) (hall : ∀ c ∈ cs, ¬ 255 < c) (hfr : 4 ≤ R.frames) (hlo : W + 65 ≤ R.locals) :
    Back l R p e below s args New1.yN len W (fun P a => a = #[.ref x, .ref b] ∧ P.U.heap = h ∧ P.cells + 1 ≤ R.cells ∧ P.slots + cs.length ≤ R.slots)
      (fun P _ v B => ∃ L, QA Z x zn cs h v B.U.heap L ∧ B.locs = P.locs ++ L ∧ B.cells = P.cells + 1 ∧ B.slots = P.slots + cs.length) := by
  obtain ⟨A, K1, K2, K3, K4, K5, K6⟩ := K
  have e : A.slots.size = cs.length := K3.trans hlen
  have hat : ∀ (i : Nat) (hi : i < cs.length), A.slots[i]? = some (.int cs[i]) := fun i hi => by rw [K5 i (by omega)]; simp [List.getD_eq_getElem?_getD, hi]
  have hcv : ∀ (i : Nat) (hi : i < cs.length), cv A i = cs[i] := fun i hi => by unfold cv; rw [hat i hi]
  have hty : Typed .char A := fun i v hv => by
    have hi : i < A.slots.size := (Array.getElem?_eq_some_iff.mp hv).1
    have q := K5 i hi
    rw [hv] at q
    rw [Option.some.inj q]
    exact K6 i hi
  refine Back.mono (back hZ hw wi E V C K1 hty S hz (by omega) (by omega) (fun i hi => by rw [hcv i (by omega)]; exact hall _ (List.getElem_mem _)) hfr hlo) (fun P a hp => ⟨hp.1, hp.2.1, hp.2.2.1, by rw [e]; exact hp.2.2.2⟩) (fun P a v B hp hq => ?_)
  obtain ⟨L, ⟨q1, q2, q3, q4, q5, q6, q7, ⟨V', v1, v2, v3, v4, v5⟩, q9⟩, hl, hc, hs⟩ := hq
  refine ⟨L, ⟨q1, q2, q3, q4, q5, q6, q7, ⟨V'.cls, v3, V', v1, rfl, by rw [v4, e, hlen], K4, fun i hi => ?_, fun i hi => ?_⟩, q9⟩, hl, hc, by rw [hs, e]⟩
  · have hi' : i < cs.length := by omega
    rw [v5 i (by omega), hcv i hi']; simp [List.getD_eq_getElem?_getD, hi']
  · have hi' : i < cs.length := by omega
    simp only [List.getD_eq_getElem?_getD, List.getElem?_map, List.getElem?_eq_getElem hi', Option.map_some, Option.getD_some]
    exact fits_lo8 _
end StrChars.Road
namespace StrChars.Road
open Jvm Sem ClassFile Op Lib Jvm.Stand Jvm.Free Jvm.Free.XT
/-- WHAT COMES BACK, in the writer's own shape -/
def QV (Z : State) (x : Addr) (N : Int32) (bs : List Int32) (h : Heap) (n0 : Nat) (v : Option Value) (h' : Heap) (L : List Loc) : Prop := v = none ∧ RoadKit.Fr n0 L ∧ RoadKit.Keep h h' [x] ∧ RoadKit.Exa Z h' x ST ∧ RoadKit.Fld Z h' x ST "coder" "B" (.int 0) ∧
  ∃ (t : Addr) (kb : ClassId), n0 ≤ t ∧ h.size ≤ t ∧ ¬ t = x ∧ RoadKit.Fld Z h' x ST "value" "[B" (.ref t) ∧ RoadKit.Arv Z h' t kb .byte N (bs.map Value.int) (.int 0)
/-- **new String(chars) AT A CALL, FOR THE WRITER**: a char[] of n known ints, each 0 to 255 -/
theorem backV {p : Program} {l : Launch} {e : Env} {R : Room} {s : State} {args : Array Value} {below : List Frame} {len W : Nat} {Z : State} {a0 : Array Value} {h : Heap} (hZ : Z.Warmed39 s.vm) (hw : ∀ d ∈ words, d.before a0 Z = true) {kI : Nat} (wi : (Jvm.Cond.instantiable ST kI).before a0 Z = true)
    {x b : Addr} {kC : ClassId} {cs bs : List Int32} {d v0 c0 : Value} {z N : Int32} {n n0 : Nat} (hx0 : n0 ≤ x) (hh0 : n0 ≤ h.size) (E : RoadKit.Exa Z h x ST) (V : RoadKit.Fld Z h x ST "value" "[B" v0) (C : RoadKit.Fld Z h x ST "coder" "B" c0) (K : RoadKit.Arv Z h b kC .char N (cs.map Value.int) d) (S : RoadKit.Sta Z h ST "COMPACT_STRINGS" "Z" (.int z)) (hz : ¬ z = 0)
    (hn : cs.length = n) (hN : N = Int32.ofNat n) (l0 : 0 < n) (l2 : n ≤ 4000) (hp : ∀ c ∈ cs, ¬ c < 0 ∧ ¬ (255 : Int32) < c) (hb : bs = cs.map (fun c => c.toInt8.toInt32)) (hfr : 4 ≤ R.frames) (hlo : W + 65 ≤ R.locals) :
    Back l R p e below s args (⟨"java/lang/String", "<init>", "([C)V"⟩ : MethodName) len W (fun P a => a = #[.ref x, .ref b] ∧ P.U.heap = h ∧ P.cells + 1 ≤ R.cells ∧ P.slots + n ≤ R.slots)
      (fun P _ v B => ∃ L, QV Z x N bs h n0 v B.U.heap L ∧ B.locs = P.locs ++ L ∧ B.cells = P.cells + 1 ∧ B.slots = P.slots + n) := by
  subst hn hN hb
  refine Back.mono (backArv hZ hw wi E V C K S hz (n32 (by omega)) l0 (by omega) (fun c hc => (hp c hc).2) hfr hlo) (fun P a hp => hp) (fun P a v B hp hq => ?_)
  obtain ⟨L, ⟨q1, q2, q3, q4, q5, q6, q7, ⟨kb, v1, v2⟩, q9⟩, hl, hc, hs⟩ := hq
  exact ⟨L, ⟨q1, fun y hy => by rw [q2 y hy]; exact hx0, q3, q5, q7, h.size, kb, hh0, Nat.le_refl _, Nat.ne_of_gt E.lt, q6, by rw [List.map_map]; exact v2⟩, hl, hc, hs⟩
end StrChars.Road
namespace StrChars
open Jvm Sem ClassFile Op Lib Jvm.Stand Jvm.Free.XT Jvm.Free.ALB Jvm.Free.JM Jvm.Free
open Jvm.Lib.Cold (StaticIs)
def hi8 (x : Int32) : Int32 := lo8 (x >>> ((8 : Int32) &&& 31))
/-- what StringUTF16.getChar makes of two bytes -/
def pairCh (u v : Int32) : Int32 := (((u &&& 255) <<< ((0 : Int32) &&& 31)) ||| ((v &&& 255) <<< ((8 : Int32) &&& 31))).toUInt32.toUInt16.toUInt32.toInt32
theorem shr0 (c : Int32) : c >>> ((0 : Int32) &&& 31) = c := by
  have e : ((0 : Int32) &&& 31) = 0 := by decide
  rw [e]
  apply Int32.toBitVec_inj.mp
  rw [Int32.toBitVec_shiftRight]
  have e1 : ((0 : Int32).toBitVec.smod 32) = 0#32 := by decide
  rw [e1, BitVec.sshiftRight_eq']
  exact BitVec.sshiftRight_zero
theorem lo8_and (x : Int32) : (lo8 x &&& 255).toBitVec.toNat = x.toBitVec.toNat % 256 := by
  have h : (lo8 x).toBitVec = (x.toBitVec.signExtend 8).signExtend 32 := by rw [lo8, Int8.toBitVec_toInt32, Int32.toBitVec_toInt8]
  rw [Int32.toBitVec_and, BitVec.toNat_and, h]
  have e : ((x.toBitVec.signExtend 8).signExtend 32).toNat % 256 = x.toBitVec.toNat % 256 := by
    rw [BitVec.toNat_signExtend]
    have hlt := x.toBitVec.isLt
    simp only [BitVec.toNat_setWidth, BitVec.toNat_signExtend]
    split <;> split <;> omega
  rw [← e]
  exact Nat.and_two_pow_sub_one_eq_mod _ 8
theorem pair_says {c : Int32} (h0 : ¬ c < 0) (h1 : ¬ 65535 < c) : pairCh (lo8 c) (hi8 c) = c := by
  rw [Int32.lt_iff_toInt_lt] at h0 h1
  have e0 : (0 : Int32).toInt = 0 := rfl
  have e1 : (65535 : Int32).toInt = 65535 := rfl
  have hc : c.toInt = c.toBitVec.toNat := by
    have := c.toBitVec.isLt
    have e : c.toInt = c.toBitVec.toInt := rfl
    rw [e] at h0 h1
    rw [e]
    rw [BitVec.toInt_eq_toNat_cond] at h0 h1 ⊢
    split at h0 <;> split <;> omega
  have hn : c.toBitVec.toNat < 65536 := by omega
  have a1 := lo8_and c
  have a2 : (hi8 c &&& 255).toBitVec.toNat = c.toBitVec.toNat / 256 := by
    rw [hi8, lo8_and]
    have e : ((8 : Int32) &&& 31) = 8 := by decide
    rw [e, Int32.toBitVec_shiftRight]
    have e2 : ((8 : Int32).toBitVec.smod 32) = 8#32 := by decide
    rw [e2, BitVec.sshiftRight_eq', BitVec.toNat_sshiftRight_of_msb_false (by rw [BitVec.msb_eq_false_iff_two_mul_lt]; omega)]
    show c.toBitVec.toNat >>> 8 % 256 = _
    rw [Nat.shiftRight_eq_div_pow]
    omega
  unfold pairCh
  apply Int32.toBitVec_inj.mp
  apply BitVec.eq_of_toNat_eq
  have f0 : ((0 : Int32) &&& 31) = 0 := by decide
  have f8 : ((8 : Int32) &&& 31) = 8 := by decide
  rw [f0, f8]
  have g : (((lo8 c &&& 255) <<< (0 : Int32)) ||| ((hi8 c &&& 255) <<< (8 : Int32))).toBitVec.toNat = c.toBitVec.toNat := by
    rw [Int32.toBitVec_or, Int32.toBitVec_shiftLeft, Int32.toBitVec_shiftLeft]
    have s0 : ((0 : Int32).toBitVec.smod 32) = 0#32 := by decide
    have s8 : ((8 : Int32).toBitVec.smod 32) = 8#32 := by decide
    rw [s0, s8, BitVec.toNat_or]
    simp only [BitVec.shiftLeft_eq', BitVec.toNat_shiftLeft, a1, a2]
    show (c.toBitVec.toNat % 256) <<< 0 % 2 ^ 32 ||| (c.toBitVec.toNat / 256) <<< 8 % 2 ^ 32 = _
    rw [Nat.shiftLeft_zero, Nat.mod_eq_of_lt (show c.toBitVec.toNat % 256 < 2 ^ 32 by omega), Nat.mod_eq_of_lt (show (c.toBitVec.toNat / 256) <<< 8 < 2 ^ 32 by rw [Nat.shiftLeft_eq]; omega), Nat.or_comm, ← Nat.shiftLeft_add_eq_or_of_lt (by omega), Nat.shiftLeft_eq]
    omega
  show BitVec.toNat (((((lo8 c &&& 255) <<< (0 : Int32)) ||| ((hi8 c &&& 255) <<< (8 : Int32))).toBitVec.setWidth 16).setWidth 32) = _
  rw [BitVec.toNat_setWidth, BitVec.toNat_setWidth, g]
  omega
end StrChars
namespace StrChars
open Jvm Sem ClassFile Op Lib Jvm.Stand Jvm.Free.XT Jvm.Free.ALB Jvm.Free.JM Jvm.Free
open Jvm.Lib.Cold (StaticIs)
theorem shr1 {n : Nat} (h : 2 * n < 2 ^ 31) : Int32.ofNat (2 * n) >>> ((1 : Int32) &&& 31) = Int32.ofNat n := by
  have e : ((1 : Int32) &&& 31) = 1 := by decide
  rw [e]
  apply Int32.toBitVec_inj.mp
  rw [Int32.toBitVec_shiftRight]
  have e1 : ((1 : Int32).toBitVec.smod 32) = 1#32 := by decide
  have hm : (BitVec.ofNat 32 (2 * n)).toNat = 2 * n := by rw [BitVec.toNat_ofNat, Nat.mod_eq_of_lt (by omega)]
  rw [e1, BitVec.sshiftRight_eq']
  apply BitVec.eq_of_toNat_eq
  show ((BitVec.ofNat 32 (2 * n)).sshiftRight 1).toNat = (BitVec.ofNat 32 n).toNat
  rw [BitVec.toNat_sshiftRight_of_msb_false (by rw [BitVec.msb_eq_false_iff_two_mul_lt, hm]; omega), hm, BitVec.toNat_ofNat, Nat.shiftRight_eq_div_pow]
  omega
/-- charAt's cast of a byte read back -/
def chr8 (u : Int32) : Int32 := (u &&& 255).toUInt32.toUInt16.toUInt32.toInt32
theorem chr8_lo8 {c : Int32} (h0 : ¬ c < 0) (h1 : ¬ 255 < c) : chr8 (lo8 c) = c := by
  have t : ∀ k : Fin 256, (Int32.ofNat k.val).toUInt32.toUInt16.toUInt32.toInt32 = Int32.ofNat k.val := by decide +kernel
  unfold chr8
  rw [lo8_mask h0 h1]
  rw [Int32.lt_iff_toInt_lt] at h0 h1
  have e0 : (0 : Int32).toInt = 0 := rfl
  have e1 : (255 : Int32).toInt = 255 := rfl
  obtain ⟨k, hk⟩ : ∃ k : Nat, c.toInt = k := ⟨c.toInt.toNat, by omega⟩
  have hx : c = Int32.ofNat k := Int32.toInt_inj.mp (by rw [hk, Int32.toInt_ofNat_small (by omega)])
  rw [hx]
  exact t ⟨k, by omega⟩
theorem narrow_ch {c : Int32} (h0 : ¬ c < 0) (h1 : ¬ 65535 < c) : narrow .char (.int c) = .int c := by
  have q : narrow .char (.int (pairCh (lo8 c) (hi8 c))) = .int (pairCh (lo8 c) (hi8 c)) := narrow_c _
  rwa [pair_says h0 h1] at q
/-- the array's cell V codes the n chars f 0 .. f (n - 1) by the coder cd, as the JDK does: coder 1 just where some char is above 255 -/
def Cod (cd : Int32) (n : Nat) (f : Nat → Int32) (V : Cell) : Prop := (cd = 0 ∧ V.slots.size = n ∧ ∀ j, j < n → V.slots[j]? = some (.int (lo8 (f j))) ∧ ¬ 255 < f j) ∨ (cd = 1 ∧ V.slots.size = 2 * n ∧ (∀ j, j < n → V.slots[2 * j]? = some (.int (lo8 (f j))) ∧ V.slots[2 * j + 1]? = some (.int (hi8 (f j)))) ∧ ∃ j, j < n ∧ 255 < f j)
theorem Cod.cd {cd : Int32} {n : Nat} {f : Nat → Int32} {V : Cell} (h : Cod cd n f V) : cd = 0 ∨ cd = 1 := h.imp (fun q => q.1) fun q => q.1
theorem Cod.len {cd : Int32} {n : Nat} {f : Nat → Int32} {V : Cell} (h : Cod cd n f V) (hs : V.slots.size < 2 ^ 31) : Int32.ofNat V.slots.size >>> (cd &&& 31) = Int32.ofNat n := by
  rcases h with ⟨rfl, h, -⟩ | ⟨rfl, h, -⟩
  · rw [shr0, h]
  · rw [h, shr1 (by omega)]
/-- **x is a String of the n chars f 0 .. f (n - 1)**, Latin-1 or UTF-16; its array at t has the cell V -/
def Txt (x t : Addr) (V : Cell) (cd : Int32) (n : Nat) (f : Nat → Int32) (U : State) : Prop := Exact "java/lang/String" x U ∧ Has x "java/lang/String" "value" "[B" (.ref t) U ∧ Has x "java/lang/String" "coder" "B" (.int cd) U ∧ XT.Arr .byte t V U ∧ Cod cd n f V ∧ ∀ j, j < n → ¬ f j < 0 ∧ ¬ 65535 < f j
theorem Txt.mv {x t : Addr} {V : Cell} {cd : Int32} {n : Nat} {f : Nat → Int32} {U U' : State} (h : Txt x t V cd n f U) (hal : U.vm.Alike U'.vm) (hh : U'.heap = U.heap) : Txt x t V cd n f U' := ⟨h.1.mv hal hh, h.2.1.mv hal hh, h.2.2.1.mv hal hh, h.2.2.2.1.mv hal hh, h.2.2.2.2⟩
namespace Cdr
def yN : MethodName := ⟨"java/lang/String", "coder", "()B"⟩
abbrev yB : ByteArray := jdk_42_method_152_code
theorem d0 : decode yB 0 = .ok (.getstatic 38, 3) := by decide +kernel
theorem d3 : decode yB 3 = .ok (.ifCond (.eq) 10, 3) := by decide +kernel
theorem d6 : decode yB 6 = .ok (.aload_n 0, 1) := by decide +kernel
theorem d7 : decode yB 7 = .ok (.getfield 15, 3) := by decide +kernel
theorem d10 : decode yB 10 = .ok (.goto 4, 3) := by decide +kernel
theorem d14 : decode yB 14 = .ok (.ireturn, 1) := by decide +kernel
def site : List Cond := [.fieldLink "java/lang/String" 38 "java/lang/String" "COMPACT_STRINGS" "Z", .fieldLink "java/lang/String" 15 "java/lang/String" "coder" "B"]
def tab : Cond := tabOf yN yB 1 (some .byte) site
def P (x : Addr) (cd z : Int32) (args : Array Value) (s : State) : Prop := args = #[.ref x] ∧ Has x "java/lang/String" "coder" "B" (.int cd) s ∧ (cd = 0 ∨ cd = 1) ∧ StaticIs s "java/lang/String" "COMPACT_STRINGS" "Z" (.int z) ∧ ¬ z = 0
def E (cd : Int32) (r : Option Value) (s u : State) : Prop := XT.PureE (some (.int cd)) r s u
theorem law (l : Launch) (x : Addr) (cd z : Int32) : Law l yN 1 0 0 0 yB 1 (some .byte) site (P x cd z) (E cd) [] 0 0 := by
  refine Law.of_walk (plainFor_of_name (by decide +kernel)) (by decide +kernel) (by decide +kernel) (by decide) (fun _ _ h => by rw [h.1]; rfl) (fun _ U U' hal hh h => ⟨h.1, h.2.1.mv hal hh, h.2.2.1, h.2.2.2.1.there hal hh, h.2.2.2.2⟩) (fun r U U' V V' h1 hal h2 h => XT.PureE.mv r U U' V V' h1 hal h2 h) ?_
  intro p e s m args below meth c s₁ X0 hexec hbytes hml hret hlk hnm hown hh0 W hP
  obtain ⟨rfl, hx, hc, s1, hz⟩ := hP
  have c1 : Steps p.tables e below (s₁.setTop (entryFrame m #[.ref x] 1)) (s₁.setTop (mkF m 0 #[.val (.ref x)] [])) := entry rfl
  obtain ⟨T2, X2, q2, st2⟩ := X0.sget hexec hown (wk W (.fieldLink "java/lang/String" 38 "java/lang/String" "COMPACT_STRINGS" "Z")) s1 (fun _ _ h => by rw [hh0]; exact h) (g := (mkF m 0 #[.val (.ref x)] [])) rfl (hb hbytes d0)
  have hh2 := q2.trans hh0
  have c3 : Steps p.tables e below (s₁.setTop (entryFrame m #[.ref x] 1)) (T2.setTop (mkF m 7 #[.val (.ref x)] [.ref x])) := (c1.trans (st2 _ (Steps.refl _))).trans (by
    refine XS.ifNo X2.here hexec rfl (hb hbytes d3) rfl (i0_eq_f hz) ?_
    refine XS.aloadN X2.here hexec rfl (hb hbytes d6) rfl rfl ?_
    exact Steps.refl _)
  obtain ⟨T4, X4, q4, st4⟩ := X2.hget hexec hown (wk W (.fieldLink "java/lang/String" 15 "java/lang/String" "coder" "B")) (hx.mv X2.warmed.alike hh2) (g := (mkF m 7 #[.val (.ref x)] [.ref x])) rfl (rest := []) rfl (hb hbytes d7)
  have c5 : Steps p.tables e below (s₁.setTop (entryFrame m #[.ref x] 1)) (T4.setTop (mkF m 14 #[.val (.ref x)] [.int cd])) := (c3.trans (st4 _ (Steps.refl _))).trans (by
    refine XS.goto X4.here hexec rfl (pc0 := 10) rfl (hb hbytes d10) (by decide) rfl ?_
    exact Steps.refl _)
  exact ⟨T4, some (.int cd), _, _, _, X4, rfl, rfl, rfl, (fun h => by cases h), ⟨rfl, q4.trans hh2⟩, fun fs hl => c5.trans (X4.ireturnOut hexec hret (by rcases hc with rfl | rfl <;> rfl) (Or.inr (Or.inr (Or.inl rfl))) (hb hbytes d14) hl)⟩
end Cdr
namespace Len
def yN : MethodName := ⟨"java/lang/String", "length", "()I"⟩
abbrev yB : ByteArray := jdk_42_method_54_code
theorem d0 : decode yB 0 = .ok (.aload_n 0, 1) := by decide +kernel
theorem d1 : decode yB 1 = .ok (.getfield 9, 3) := by decide +kernel
theorem d4 : decode yB 4 = .ok (.arraylength, 1) := by decide +kernel
theorem d5 : decode yB 5 = .ok (.aload_n 0, 1) := by decide +kernel
theorem d6 : decode yB 6 = .ok (.invokevirtual 335, 3) := by decide +kernel
theorem d9 : decode yB 9 = .ok (.ishr, 1) := by decide +kernel
theorem d10 : decode yB 10 = .ok (.ireturn, 1) := by decide +kernel
def site : List Cond := [.fieldLink "java/lang/String" 9 "java/lang/String" "value" "[B", Cdr.tab] ++ virtW "java/lang/String" 335 "java/lang/String" Cdr.yN Cdr.yN
def tab : Cond := tabOf yN yB 1 (some .int) site
def P (x t : Addr) (V : Cell) (cd : Int32) (n : Nat) (f : Nat → Int32) (z : Int32) (args : Array Value) (s : State) : Prop := args = #[.ref x] ∧ Txt x t V cd n f s ∧ StaticIs s "java/lang/String" "COMPACT_STRINGS" "Z" (.int z) ∧ ¬ z = 0
def E (n : Nat) (r : Option Value) (s u : State) : Prop := XT.PureE (some (.int (Int32.ofNat n))) r s u
/-- length() of a String of n chars, in either coding -/
theorem law (l : Launch) (x t : Addr) (V : Cell) (cd : Int32) (n : Nat) (f : Nat → Int32) (z : Int32) : Law l yN 1 0 1 13 yB 1 (some .int) site (P x t V cd n f z) (E n) [] 0 0 := by
  refine Law.of_walk (plainFor_of_name (by decide +kernel)) (by decide +kernel) (by decide +kernel) (by decide) (fun _ _ h => by rw [h.1]; rfl) (fun _ U U' hal hh h => ⟨h.1, h.2.1.mv hal hh, h.2.2.1.there hal hh, h.2.2.2⟩) (fun r U U' V V' h1 hal h2 h => XT.PureE.mv r U U' V V' h1 hal h2 h) ?_
  intro p e s m args below meth c s₁ X0 hexec hbytes hml hret hlk hnm hown hh0 W hP
  obtain ⟨rfl, hx, s1, hz⟩ := hP
  have v31 := hx.2.2.2.1.2.2.2
  have c1 : Steps p.tables e below (s₁.setTop (entryFrame m #[.ref x] 1)) (s₁.setTop (mkF m 1 #[.val (.ref x)] [.ref x])) := Steps.trans (entry rfl) (by
    show Steps p.tables e below (s₁.setTop (mkF m 0 #[.val (.ref x)] [])) _
    refine XS.aloadN X0.here hexec rfl (hb hbytes d0) rfl rfl ?_
    exact Steps.refl _)
  obtain ⟨T2, X2, q2, st2⟩ := X0.hget hexec hown (wk W (.fieldLink "java/lang/String" 9 "java/lang/String" "value" "[B")) (hx.mv X0.warmed.alike hh0).2.1 (g := (mkF m 1 #[.val (.ref x)] [.ref x])) rfl (rest := []) rfl (hb hbytes d1)
  have hh2 := q2.trans hh0
  have hx2 := hx.mv X2.warmed.alike hh2
  have c3 : Steps p.tables e below (s₁.setTop (entryFrame m #[.ref x] 1)) (T2.setTop (mkF m 6 #[.val (.ref x)] [.ref x, .int (Int32.ofNat V.slots.size)])) := (c1.trans (st2 _ (Steps.refl _))).trans (by
    refine X2.alen hexec hx2.2.2.2.1 rfl rfl (hb hbytes d4) ?_
    refine XS.aloadN X2.here hexec rfl (hb hbytes d5) rfl rfl ?_
    exact Steps.refl _)
  obtain ⟨v4, T4, X4, E4, g4⟩ := X2.callV hexec (Cdr.law l x cd z) hown (wks W (virtW "java/lang/String" 335 "java/lang/String" Cdr.yN Cdr.yN)) rfl (by decide) (wk W Cdr.tab) (W := 1) (Nat.le_of_ble_eq_true rfl) (Nat.le_of_ble_eq_true rfl) (Nat.le_refl _) (Nat.le_refl _) (hx2.1.fc X2.warmed.alike) hx2.1.is (g := (mkF m 6 #[.val (.ref x)] [.ref x, .int (Int32.ofNat V.slots.size)])) rfl (by rw [hml]; rfl) c3 (argsL := []) (rest := [.int (Int32.ofNat V.slots.size)]) rfl rfl (by show 2 * 0 + (1 + 0) ≤ _; decide) (hb hbytes d6) (⟨rfl, hx2.2.2.1, hx.2.2.2.2.1.cd, s1.there X2.warmed.alike hh2, hz⟩)
  obtain ⟨rfl, q4⟩ := E4
  have c5 : Steps p.tables e below (s₁.setTop (entryFrame m #[.ref x] 1)) (T4.setTop (mkF m 10 #[.val (.ref x)] [.int (Int32.ofNat V.slots.size >>> (cd &&& 31))])) := Steps.trans g4 (by
    refine ishr X4.here hexec rfl (hb hbytes d9) rfl ?_
    exact Steps.refl _)
  rw [hx.2.2.2.2.1.len v31] at c5
  exact ⟨T4, some (.int (Int32.ofNat n)), _, _, _, X4, rfl, rfl, rfl, (fun h => by cases h), ⟨rfl, q4.trans hh2⟩, fun fs hl => c5.trans (X4.ireturnOut hexec hret rfl (Or.inl rfl) (hb hbytes d10) hl)⟩
theorem pays {l : Launch} {R : Room} {p : Program} {e : Env} {below : List Frame} {s : State} {sargs : Array Value} {len W : Nat} (x t : Addr) (V : Cell) (cd : Int32) (n : Nat) (f : Nat → Int32) (z : Int32) (htab : tab.before sargs s = true) (hfr : 2 ≤ R.frames) (hlo : W + 25 ≤ R.locals) :
    Back l R p e below s sargs yN len W (fun A₁ a₁ => A₁.cells + 0 ≤ R.cells ∧ A₁.slots + 0 ≤ R.slots ∧ P x t V cd n f z a₁ A₁.U) (fun A₁ _ v₁ B₁ => E n v₁ A₁.U B₁.U ∧ B₁.locs = A₁.locs ++ [] ∧ B₁.cells = A₁.cells + 0 ∧ B₁.slots = A₁.slots + 0) :=
  (law l x t V cd n f z).pays htab hfr (by omega)
end Len
namespace IsL
def yN : MethodName := ⟨"java/lang/String", "isLatin1", "()Z"⟩
abbrev yB : ByteArray := jdk_42_method_154_code
theorem d0 : decode yB 0 = .ok (.getstatic 38, 3) := by decide +kernel
theorem d3 : decode yB 3 = .ok (.ifCond (.eq) 14, 3) := by decide +kernel
theorem d6 : decode yB 6 = .ok (.aload_n 0, 1) := by decide +kernel
theorem d7 : decode yB 7 = .ok (.getfield 15, 3) := by decide +kernel
theorem d10 : decode yB 10 = .ok (.ifCond (.ne) 7, 3) := by decide +kernel
theorem d13 : decode yB 13 = .ok (.iconst 1, 1) := by decide +kernel
theorem d14 : decode yB 14 = .ok (.goto 4, 3) := by decide +kernel
theorem d17 : decode yB 17 = .ok (.iconst 0, 1) := by decide +kernel
theorem d18 : decode yB 18 = .ok (.ireturn, 1) := by decide +kernel
def site : List Cond := [.fieldLink "java/lang/String" 38 "java/lang/String" "COMPACT_STRINGS" "Z", .fieldLink "java/lang/String" 15 "java/lang/String" "coder" "B"]
def tab : Cond := tabOf yN yB 1 (some .boolean) site
def P (x : Addr) (cd z : Int32) (args : Array Value) (s : State) : Prop := args = #[.ref x] ∧ Has x "java/lang/String" "coder" "B" (.int cd) s ∧ (cd = 0 ∨ cd = 1) ∧ StaticIs s "java/lang/String" "COMPACT_STRINGS" "Z" (.int z) ∧ ¬ z = 0
def E (cd : Int32) (r : Option Value) (s u : State) : Prop := XT.PureE (some (.int (1 - cd))) r s u
theorem law (l : Launch) (x : Addr) (cd z : Int32) : Law l yN 1 0 0 0 yB 1 (some .boolean) site (P x cd z) (E cd) [] 0 0 := by
  refine Law.of_walk (plainFor_of_name (by decide +kernel)) (by decide +kernel) (by decide +kernel) (by decide) (fun _ _ h => by rw [h.1]; rfl) (fun _ U U' hal hh h => ⟨h.1, h.2.1.mv hal hh, h.2.2.1, h.2.2.2.1.there hal hh, h.2.2.2.2⟩) (fun r U U' V V' h1 hal h2 h => XT.PureE.mv r U U' V V' h1 hal h2 h) ?_
  intro p e s m args below meth c s₁ X0 hexec hbytes hml hret hlk hnm hown hh0 W hP
  obtain ⟨rfl, hx, hc, s1, hz⟩ := hP
  have c1 : Steps p.tables e below (s₁.setTop (entryFrame m #[.ref x] 1)) (s₁.setTop (mkF m 0 #[.val (.ref x)] [])) := entry rfl
  obtain ⟨T2, X2, q2, st2⟩ := X0.sget hexec hown (wk W (.fieldLink "java/lang/String" 38 "java/lang/String" "COMPACT_STRINGS" "Z")) s1 (fun _ _ h => by rw [hh0]; exact h) (g := (mkF m 0 #[.val (.ref x)] [])) rfl (hb hbytes d0)
  have hh2 := q2.trans hh0
  have c3 : Steps p.tables e below (s₁.setTop (entryFrame m #[.ref x] 1)) (T2.setTop (mkF m 7 #[.val (.ref x)] [.ref x])) := (c1.trans (st2 _ (Steps.refl _))).trans (by
    refine XS.ifNo X2.here hexec rfl (hb hbytes d3) rfl (i0_eq_f hz) ?_
    refine XS.aloadN X2.here hexec rfl (hb hbytes d6) rfl rfl ?_
    exact Steps.refl _)
  obtain ⟨T4, X4, q4, st4⟩ := X2.hget hexec hown (wk W (.fieldLink "java/lang/String" 15 "java/lang/String" "coder" "B")) (hx.mv X2.warmed.alike hh2) (g := (mkF m 7 #[.val (.ref x)] [.ref x])) rfl (rest := []) rfl (hb hbytes d7)
  have c5 : Steps p.tables e below (s₁.setTop (entryFrame m #[.ref x] 1)) (T4.setTop (mkF m 10 #[.val (.ref x)] [.int cd])) := c3.trans (st4 _ (Steps.refl _))
  have c6 : Steps p.tables e below (s₁.setTop (entryFrame m #[.ref x] 1)) (T4.setTop (mkF m 18 #[.val (.ref x)] [.int (1 - cd)])) := by
    rcases hc with rfl | rfl
    · exact c5.trans (by
        refine XS.ifNo X4.here hexec rfl (hb hbytes d10) rfl (i0_ne_f rfl) ?_
        refine iconstV X4.here hexec rfl 1 (hb hbytes d13) (by decide) ?_
        refine XS.goto X4.here hexec rfl (pc0 := 14) rfl (hb hbytes d14) (by decide) rfl ?_
        exact Steps.refl _)
    · exact c5.trans (by
        refine XS.ifYes X4.here hexec rfl (pc0 := 10) rfl (hb hbytes d10) rfl (i0_ne_t (by decide)) (by decide) rfl ?_
        refine iconstV X4.here hexec rfl 0 (hb hbytes d17) (by decide) ?_
        exact Steps.refl _)
  exact ⟨T4, some (.int (1 - cd)), _, _, _, X4, rfl, rfl, rfl, (fun h => by cases h), ⟨rfl, q4.trans hh2⟩, fun fs hl => c6.trans (X4.ireturnOut hexec hret (by rcases hc with rfl | rfl <;> rfl) (Or.inr (Or.inl rfl)) (hb hbytes d18) hl)⟩
end IsL
namespace LChA
def yN : MethodName := ⟨"java/lang/StringLatin1", "charAt", "([BI)C"⟩
abbrev yB : ByteArray := jdk_43_method_2_code
theorem d0 : decode yB 0 = .ok (.iload_n 1, 1) := by decide +kernel
theorem d1 : decode yB 1 = .ok (.aload_n 0, 1) := by decide +kernel
theorem d2 : decode yB 2 = .ok (.arraylength, 1) := by decide +kernel
theorem d3 : decode yB 3 = .ok (.invokestatic 9, 3) := by decide +kernel
theorem d6 : decode yB 6 = .ok (.aload_n 0, 1) := by decide +kernel
theorem d7 : decode yB 7 = .ok (.iload_n 1, 1) := by decide +kernel
theorem d8 : decode yB 8 = .ok (.baload, 1) := by decide +kernel
theorem d9 : decode yB 9 = .ok (.sipush 255, 3) := by decide +kernel
theorem d12 : decode yB 12 = .ok (.iand, 1) := by decide +kernel
theorem d13 : decode yB 13 = .ok (.i2c, 1) := by decide +kernel
theorem d14 : decode yB 14 = .ok (.ireturn, 1) := by decide +kernel
def site : List Cond := [JO.Str_checkIndex.tab] ++ staticW "java/lang/StringLatin1" 9 JO.Str_checkIndex.yN
def tab : Cond := tabOf yN yB 2 (some .char) site
def P (t : Addr) (V : Cell) (i : Nat) (u : Int32) (fm : Value) (args : Array Value) (s : State) : Prop := args = #[.ref t, .int (Int32.ofNat i)] ∧ XT.Arr .byte t V s ∧ V.slots[i]? = some (.int u) ∧ (StaticIs s "jdk/internal/util/Preconditions" "SIOOBE_FORMATTER" "Ljava/util/function/BiFunction;" fm ∧ fm.isRef = true)
def E (u : Int32) (r : Option Value) (s w : State) : Prop := XT.PureE (some (.int (chr8 u))) r s w
theorem law (l : Launch) (t : Addr) (V : Cell) (i : Nat) (u : Int32) (fm : Value) : Law l yN 2 2 2 27 yB 2 (some .char) site (P t V i u fm) (E u) [] 0 0 := by
  refine Law.of_walk (plainFor_of_name (by decide +kernel)) (by decide +kernel) (by decide +kernel) (by decide) (fun _ _ h => by rw [h.1]; rfl) (fun _ U U' hal hh h => ⟨h.1, h.2.1.mv hal hh, h.2.2.1, h.2.2.2.1.there hal hh, h.2.2.2.2⟩) (fun r U U' V V' h1 hal h2 h => XT.PureE.mv r U U' V V' h1 hal h2 h) ?_
  intro p e s m args below meth c s₁ X0 hexec hbytes hml hret hlk hnm hown hh0 W hP
  obtain ⟨rfl, hV, hu, s1, rf⟩ := hP
  have v31 := hV.2.2.2
  have hi : i < V.slots.size := (Array.getElem?_eq_some_iff.mp hu).1
  have c1 : Steps p.tables e below (s₁.setTop (entryFrame m #[.ref t, .int (Int32.ofNat i)] 2)) (s₁.setTop (mkF m 0 #[.val (.ref t), .val (.int (Int32.ofNat i))] [])) := entry rfl
  have c2 : Steps p.tables e below (s₁.setTop (entryFrame m #[.ref t, .int (Int32.ofNat i)] 2)) (s₁.setTop (mkF m 3 #[.val (.ref t), .val (.int (Int32.ofNat i))] [.int (Int32.ofNat V.slots.size), .int (Int32.ofNat i)])) := c1.trans (by
    refine XS.iloadN X0.here hexec rfl (hb hbytes d0) rfl ?_
    refine XS.aloadN X0.here hexec rfl (hb hbytes d1) rfl rfl ?_
    refine X0.alen hexec (hV.mv X0.warmed.alike hh0) rfl rfl (hb hbytes d2) ?_
    exact Steps.refl _)
  obtain ⟨v3, T3, X3, E3, g3⟩ := X0.callS hexec (JO.Str_checkIndex.law l (Int32.ofNat i) (Int32.ofNat V.slots.size) fm) hown (wks W (staticW "java/lang/StringLatin1" 9 JO.Str_checkIndex.yN)) (wk W JO.Str_checkIndex.tab) (W := 0) (Nat.le_of_ble_eq_true rfl) (Nat.le_of_ble_eq_true rfl) (Nat.le_refl _) (Nat.le_refl _) (g := (mkF m 3 #[.val (.ref t), .val (.int (Int32.ofNat i))] [.int (Int32.ofNat V.slots.size), .int (Int32.ofNat i)])) rfl (by rw [hml]; rfl) c2 (argsL := [.int (Int32.ofNat i), .int (Int32.ofNat V.slots.size)]) (rest := []) rfl rfl (by show 2 * 0 + 0 ≤ _; decide) (hb hbytes d3) (⟨rfl, rf, s1.there X0.warmed.alike hh0, Int32.ofNat_not_neg (by omega), lt32 v31 hi⟩)
  obtain ⟨rfl, q3⟩ := E3
  have hh3 := q3.trans hh0
  have c4 : Steps p.tables e below (s₁.setTop (entryFrame m #[.ref t, .int (Int32.ofNat i)] 2)) (T3.setTop (mkF m 14 #[.val (.ref t), .val (.int (Int32.ofNat i))] [.int (chr8 u)])) := Steps.trans g3 (by
    refine XS.aloadN X3.here hexec rfl (hb hbytes d6) rfl rfl ?_
    refine XS.iloadN X3.here hexec rfl (hb hbytes d7) rfl ?_
    refine X3.aget hexec (hV.mv X3.warmed.alike hh3) rfl hu rfl rfl (hb hbytes d8) ?_
    refine sipushV X3.here hexec rfl 255 (hb hbytes d9) (by decide) ?_
    refine XS.iand X3.here hexec rfl (hb hbytes d12) rfl ?_
    refine i2c X3.here hexec rfl (hb hbytes d13) rfl ?_
    exact Steps.refl _)
  exact ⟨T3, some (.int (chr8 u)), _, _, _, X3, rfl, rfl, rfl, (fun h => by cases h), ⟨rfl, hh3⟩, fun fs hl => c4.trans (X3.ireturnOut hexec hret (narrow_c _) (Or.inr (Or.inr (Or.inr (Or.inl rfl)))) (hb hbytes d14) hl)⟩
end LChA
end StrChars
namespace StrChars.Road
open Jvm Sem ClassFile Op Lib Jvm.Stand Jvm.Free Jvm.Free.XT
open Jvm.Lib.Cold (StaticIs)
theorem consq {a : Array Value} {s : State} {c : Jvm.Cond} {L : List Jvm.Cond} (h0 : c.before a s = true) (h : ∀ w ∈ L, w.before a s = true) : ∀ w ∈ c :: L, w.before a s = true := fun w hw => (List.mem_cons.mp hw).elim (fun e => e ▸ h0) (h w)
/-- the words of String.length(), either coding -/
abbrev wordsLen : List Jvm.Cond := [.code Len.yN Len.yB 1 (some .int), .initialized ST, .fieldLink ST 9 ST "value" "[B", .fieldLink ST 38 ST "COMPACT_STRINGS" "Z", .fieldLink ST 15 ST "coder" "B", .code Cdr.yN Cdr.yB 1 (some .byte), .methodLink ST 335 Cdr.yN, .declares Cdr.yN, .selects ST Cdr.yN Cdr.yN, .instanceMethod Cdr.yN]
theorem tabLen_of {a : Array Value} {s : State} (h : ∀ w ∈ wordsLen, w.before a s = true) : Len.tab.before a s = true := by
  have hc : Cdr.tab.before a s = true := unparts (wk h (.code Cdr.yN Cdr.yB 1 (some .byte))) (wks h (.initialized Cdr.yN.cls :: Cdr.site))
  have q := consq hc h
  exact unparts (wk q (.code Len.yN Len.yB 1 (some .int))) (wks q (.initialized Len.yN.cls :: Len.site))
theorem movedLen {Z s : State} {a0 args : Array Value} (hZ : Z.Warmed39 s.vm) (hw : ∀ d ∈ wordsLen, d.before a0 Z = true) : ∀ d ∈ wordsLen, d.before args s = true := fun d hd => by
  have q := hw d hd
  have t : ∀ d ∈ wordsLen, d = .arrayClass .byte ∨ (d.onTables && d.keepsFace) = true := by decide +kernel
  rcases t d hd with rfl | t
  · exact RoadKit.mvA hZ q
  · exact RoadKit.mv hZ q t
/-- the bytes of the chars cs, low before high -/
def wideBytes : List Int32 → List Value
  | [] => []
  | c :: cs => .int (lo8 c) :: .int (hi8 c) :: wideBytes cs
theorem wide_lo (d : Value) : ∀ (cs : List Int32) (j : Nat), j < cs.length → (wideBytes cs).getD (2 * j) d = .int (lo8 (cs.getD j 0))
  | [], j, h => absurd h (Nat.not_lt_zero j)
  | c :: cs, 0, _ => rfl
  | c :: cs, j + 1, h => by
    have q := wide_lo d cs j (by simpa using h)
    rw [show 2 * (j + 1) = 2 * j + 1 + 1 from by omega]
    simpa [wideBytes] using q
theorem wide_hi (d : Value) : ∀ (cs : List Int32) (j : Nat), j < cs.length → (wideBytes cs).getD (2 * j + 1) d = .int (hi8 (cs.getD j 0))
  | [], j, h => absurd h (Nat.not_lt_zero j)
  | c :: cs, 0, _ => rfl
  | c :: cs, j + 1, h => by
    have q := wide_hi d cs j (by simpa using h)
    rw [show 2 * (j + 1) + 1 = 2 * j + 1 + 1 + 1 from by omega]
    simpa [wideBytes] using q
theorem low_at (d : Value) (cs : List Int32) (j : Nat) (h : j < cs.length) : (cs.map fun c => Value.int (lo8 c)).getD j d = .int (lo8 (cs.getD j 0)) := by
  simp [List.getD_eq_getElem?_getD, h]
/-- an array of N2 bytes vs codes the chars cs by the coder cd -/
def CodA (cs : List Int32) (cd N2 : Int32) (vs : List Value) : Prop := (cd = 0 ∧ N2 = Int32.ofNat cs.length ∧ vs = (cs.map fun c => Value.int (lo8 c)) ∧ ∀ c ∈ cs, ¬ 255 < c) ∨ (cd = 1 ∧ N2 = Int32.ofNat (2 * cs.length) ∧ vs = wideBytes cs ∧ ∃ c ∈ cs, 255 < c)
theorem CodA.cod {cs : List Int32} {cd N2 : Int32} {vs : List Value} {V : Cell} (h : CodA cs cd N2 vs) (hn : 2 * cs.length < 2 ^ 31) (hs : V.slots.size = N2.toNatClampNeg) (hv : RoadKit.Has V vs (.int 0)) : Cod cd cs.length (fun j => cs.getD j 0) V := by
  rcases h with ⟨rfl, rfl, rfl, h⟩ | ⟨rfl, rfl, rfl, c, hc, hw⟩
  · rw [n32 (by omega)] at hs
    exact Or.inl ⟨rfl, hs, fun j hj => ⟨by rw [hv j (by omega), low_at _ _ _ hj], by
      have e : cs.getD j 0 = cs[j] := by simp [List.getD_eq_getElem?_getD, hj]
      show ¬ 255 < cs.getD j 0
      rw [e]; exact h _ (List.getElem_mem _)⟩⟩
  · rw [n32 (by omega)] at hs
    obtain ⟨j, hj, rfl⟩ := List.getElem_of_mem hc
    exact Or.inr ⟨rfl, hs, fun j hj => ⟨by rw [hv _ (by omega), wide_lo _ _ _ hj], by rw [hv _ (by omega), wide_hi _ _ _ hj]⟩, j, hj, by
      have e : cs.getD j 0 = cs[j] := by simp [List.getD_eq_getElem?_getD, hj]
      show 255 < cs.getD j 0
      rw [e]; exact hw⟩
/-- an object of exactly java/lang/String, its two fields found: as the laws ask it -/
theorem strObj {Z U : State} {a0 : Array Value} {kI : Nat} (wi : (Jvm.Cond.instantiable ST kI).before a0 Z = true) (al : Z.vm.Alike U.vm) {x : Addr} {v0 c0 : Value} (E : RoadKit.Exa Z U.heap x ST) (V : RoadKit.Fld Z U.heap x ST "value" "[B" v0) (C : RoadKit.Fld Z U.heap x ST "coder" "B" c0) :
    ∃ (D : Cell) (fV fC : Field), Blank ST x D U ∧ Found ST "value" "[B" fV U ∧ Found ST "coder" "B" fC U ∧ D.slots[fV.slot]? = some v0 ∧ D.slots[fC.slot]? = some c0 ∧ RoadKit.slotOf Z ST "value" "[B" = fV.slot ∧ RoadKit.slotOf Z ST "coder" "B" = fC.slot := by
  obtain ⟨D, cfV, kV, iV, fV, hD, gV, stV, knV, obV, asV, slV⟩ := V
  obtain ⟨D', cfC, kC, iC, fC, hD', gC, stC, -, -, asC, slC⟩ := C
  cases hD.symm.trans hD'
  obtain ⟨D2, kD, e1, e2, e3, e4, e5⟩ := E
  cases hD.symm.trans e1
  obtain ⟨c2, k2, i1, i2, i3, -⟩ := Cond.instantiable_spec wi
  cases e2.symm.trans i1
  cases e3.symm.trans i2
  obtain ⟨kU, u1, u2⟩ := al.2.2 _ _ e3
  exact ⟨D, fV, fC, ⟨hD, ⟨knV, fun q hq => by rw [hq] at obV; cases obV⟩, by rw [al.findClass]; exact e2, kU, u1, by rw [u2]; exact i3, by rw [u2]; exact e5 i3⟩, ⟨SBG.found_only al ⟨cfV, kV, iV, gV⟩, stV⟩, ⟨SBG.found_only al ⟨cfC, kC, iC, gC⟩, stC⟩, slV, slC, by simp [RoadKit.slotOf, gV], by simp [RoadKit.slotOf, gC]⟩
theorem sta_is {Z U : State} (al : Z.vm.Alike U.vm) {C n d : String} {v : Value} (S : RoadKit.Sta Z U.heap C n d v) : StaticIs U C n d v := by
  obtain ⟨cfS, iS, kS, fS, st, cS, t1, t2, t3, t4, t5, t6, t7⟩ := S
  exact StaticIs.there (s := { Z with heap := U.heap }) ⟨cfS, iS, kS, fS, st, cS, t1, t2, t3, t4, t5, (fun q => by rw [q] at t6; cases t6), t7⟩ al rfl
/-- **length() OF SUCH A STRING** -/
theorem lenW {p : Program} {l : Launch} {e : Env} {R : Room} {s : State} {args : Array Value} {below : List Frame} {len W : Nat} {Z : State} {a0 : Array Value} {h : Heap} (hZ : Z.Warmed39 s.vm) (hw : ∀ d ∈ wordsLen, d.before a0 Z = true) {kI : Nat} (wi : (Jvm.Cond.instantiable ST kI).before a0 Z = true)
    {x t : Addr} {kb : ClassId} {cs : List Int32} {cd N2 z : Int32} {vs : List Value} (E : RoadKit.Exa Z h x ST) (V : RoadKit.Fld Z h x ST "value" "[B" (.ref t)) (C : RoadKit.Fld Z h x ST "coder" "B" (.int cd)) (K : RoadKit.Arv Z h t kb .byte N2 vs (.int 0)) (hc : CodA cs cd N2 vs) (hb : ∀ c ∈ cs, ¬ c < 0 ∧ ¬ (65535 : Int32) < c)
    (S : RoadKit.Sta Z h ST "COMPACT_STRINGS" "Z" (.int z)) (hz : ¬ z = 0) (l2 : cs.length ≤ 4000) (hfr : 2 ≤ R.frames) (hlo : W + 25 ≤ R.locals) :
    Back l R p e below s args (⟨"java/lang/String", "length", "()I"⟩ : MethodName) len W (fun P a => a = #[.ref x] ∧ P.U.heap = h ∧ P.cells + 0 ≤ R.cells ∧ P.slots + 0 ≤ R.slots)
      (fun P _ v B => ∃ L, (v = some (.int (Int32.ofNat cs.length)) ∧ L = [] ∧ B.U.heap = h) ∧ B.locs = P.locs ++ L ∧ B.cells = P.cells + 0 ∧ B.slots = P.slots + 0) := by
  obtain ⟨A, K1, K2, K3, K4, K5, K6⟩ := K
  have hcod := hc.cod (by omega) K3 K5
  intro m meth c P g ig mk a X hg hsize hdg hW hn hp'
  obtain ⟨rfl, rfl, r1, r2⟩ := hp'
  have al : Z.vm.Alike P.U.vm := hZ.alike.trans X.warmed.alike
  obtain ⟨D, fV, fC, hB, F1, F2, g1, g2, -, -⟩ := strObj wi al E V C
  have hx : Txt x t A cd cs.length (fun j => cs.getD j 0) P.U := ⟨⟨_, hB.2.2.1, D, hB.1, rfl, by cases q : D.vm <;> first | rfl | exact absurd q (hB.2.1.2 _)⟩, Has.of hB F1 g1, Has.of hB F2 g2, ⟨K1.1, State.isArrayOf_alike al K1.2.1, K1.2.2, by rcases hcod with ⟨-, q, -⟩ | ⟨-, q, -⟩ <;> omega⟩, hcod, fun j hj => by
    have e : cs.getD j 0 = cs[j] := by simp [List.getD_eq_getElem?_getD, hj]
    show ¬ cs.getD j 0 < 0 ∧ ¬ 65535 < cs.getD j 0
    rw [e]; exact hb _ (List.getElem_mem _)⟩
  obtain ⟨v, B, X', ⟨⟨hv, hh⟩, hl, hk, hs⟩, st⟩ := Len.pays x t A cd cs.length (fun j => cs.getD j 0) z (tabLen_of (movedLen hZ hw)) hfr hlo m meth c P g ig mk _ X hg hsize hdg hW hn ⟨r1, r2, rfl, hx, sta_is al S, hz⟩
  exact ⟨v, B, X', ⟨[], ⟨hv, rfl, hh⟩, hl, hk, hs⟩, st⟩
end StrChars.Road
namespace StrChars.Road
open Jvm Sem ClassFile Op Lib Jvm.Stand Jvm.Free Jvm.Free.XT
open Jvm.Lib.Cold (StaticIs)
/-- the road's facts of a String, as the laws ask it -/
theorem txt_of {Z U : State} {a0 : Array Value} {kI : Nat} (wi : (Jvm.Cond.instantiable ST kI).before a0 Z = true) (al : Z.vm.Alike U.vm) {x t : Addr} {kb : ClassId} {cs : List Int32} {cd N2 : Int32} {vs : List Value} (E : RoadKit.Exa Z U.heap x ST) (V : RoadKit.Fld Z U.heap x ST "value" "[B" (.ref t)) (C : RoadKit.Fld Z U.heap x ST "coder" "B" (.int cd)) (K : RoadKit.Arv Z U.heap t kb .byte N2 vs (.int 0)) (hc : CodA cs cd N2 vs) (hb : ∀ c ∈ cs, ¬ c < 0 ∧ ¬ (65535 : Int32) < c) (l2 : cs.length ≤ 4000) :
    ∃ A, Txt x t A cd cs.length (fun j => cs.getD j 0) U := by
  obtain ⟨A, K1, K2, K3, K4, K5, K6⟩ := K
  have hcod := hc.cod (by omega) K3 K5
  obtain ⟨D, fV, fC, hB, F1, F2, g1, g2, -, -⟩ := strObj wi al E V C
  exact ⟨A, ⟨_, hB.2.2.1, D, hB.1, rfl, by cases q : D.vm <;> first | rfl | exact absurd q (hB.2.1.2 _)⟩, Has.of hB F1 g1, Has.of hB F2 g2, ⟨K1.1, State.isArrayOf_alike al K1.2.1, K1.2.2, by rcases hcod with ⟨-, q, -⟩ | ⟨-, q, -⟩ <;> omega⟩, hcod, fun j hj => by
    have e : cs.getD j 0 = cs[j] := by simp [List.getD_eq_getElem?_getD, hj]
    show ¬ cs.getD j 0 < 0 ∧ ¬ 65535 < cs.getD j 0
    rw [e]; exact hb _ (List.getElem_mem _)⟩
end StrChars.Road
namespace StrChars
open Jvm Sem ClassFile Op Lib Jvm.Stand Jvm.Free.XT Jvm.Free.ALB Jvm.Free.JM Jvm.Free
open Jvm.Lib.Cold (StaticIs)
namespace ChN
def yN : MethodName := ⟨"java/lang/String", "charAt", "(I)C"⟩
abbrev yB : ByteArray := jdk_42_method_56_code
theorem d0 : decode yB 0 = .ok (.aload_n 0, 1) := by decide +kernel
theorem d1 : decode yB 1 = .ok (.invokevirtual 492, 3) := by decide +kernel
theorem d4 : decode yB 4 = .ok (.ifCond (.eq) 12, 3) := by decide +kernel
theorem d7 : decode yB 7 = .ok (.aload_n 0, 1) := by decide +kernel
theorem d8 : decode yB 8 = .ok (.getfield 9, 3) := by decide +kernel
theorem d11 : decode yB 11 = .ok (.iload_n 1, 1) := by decide +kernel
theorem d12 : decode yB 12 = .ok (.invokestatic 495, 3) := by decide +kernel
theorem d15 : decode yB 15 = .ok (.ireturn, 1) := by decide +kernel
def site : List Cond := [.fieldLink "java/lang/String" 9 "java/lang/String" "value" "[B", IsL.tab, LChA.tab] ++ virtW "java/lang/String" 492 "java/lang/String" IsL.yN IsL.yN ++ staticW "java/lang/String" 495 LChA.yN
def tab : Cond := tabOf yN yB 2 (some .char) site
def P (x t : Addr) (V : Cell) (n : Nat) (f : Nat → Int32) (z : Int32) (fm : Value) (i : Nat) (args : Array Value) (s : State) : Prop := args = #[.ref x, .int (Int32.ofNat i)] ∧ Txt x t V 0 n f s ∧ i < n ∧ StaticIs s "java/lang/String" "COMPACT_STRINGS" "Z" (.int z) ∧ ¬ z = 0 ∧ StaticIs s "jdk/internal/util/Preconditions" "SIOOBE_FORMATTER" "Ljava/util/function/BiFunction;" fm ∧ fm.isRef = true
def E (f : Nat → Int32) (i : Nat) (r : Option Value) (s u : State) : Prop := XT.PureE (some (.int (f i))) r s u
/-- charAt(i) of a Latin-1 String of n chars, i < n: f i -/
theorem law (l : Launch) (x t : Addr) (V : Cell) (n : Nat) (f : Nat → Int32) (z : Int32) (fm : Value) (i : Nat) : Law l yN 2 1 3 40 yB 2 (some .char) site (P x t V n f z fm i) (E f i) [] 0 0 := by
  refine Law.of_walk (plainFor_of_name (by decide +kernel)) (by decide +kernel) (by decide +kernel) (by decide) (fun _ _ h => by rw [h.1]; rfl) (fun _ U U' hal hh h => ⟨h.1, h.2.1.mv hal hh, h.2.2.1, h.2.2.2.1.there hal hh, h.2.2.2.2.1, h.2.2.2.2.2.1.there hal hh, h.2.2.2.2.2.2⟩) (fun r U U' V V' h1 hal h2 h => XT.PureE.mv r U U' V V' h1 hal h2 h) ?_
  intro p e s m args below meth c s₁ X0 hexec hbytes hml hret hlk hnm hown hh0 W hP
  obtain ⟨rfl, hx, hi, s1, hz, s3, rf⟩ := hP
  have v31 := hx.2.2.2.1.2.2.2
  have hr := hx.2.2.2.2.2 i hi
  have hx0 := hx.mv X0.warmed.alike hh0
  have c1 : Steps p.tables e below (s₁.setTop (entryFrame m #[.ref x, .int (Int32.ofNat i)] 2)) (s₁.setTop (mkF m 1 #[.val (.ref x), .val (.int (Int32.ofNat i))] [.ref x])) := Steps.trans (entry rfl) (by
    show Steps p.tables e below (s₁.setTop (mkF m 0 #[.val (.ref x), .val (.int (Int32.ofNat i))] [])) _
    refine XS.aloadN X0.here hexec rfl (hb hbytes d0) rfl rfl ?_
    exact Steps.refl _)
  obtain ⟨v2, T2, X2, E2, g2⟩ := X0.callV hexec (IsL.law l x 0 z) hown (wks W (virtW "java/lang/String" 492 "java/lang/String" IsL.yN IsL.yN)) rfl (by decide) (wk W IsL.tab) (W := 0) (Nat.le_of_ble_eq_true rfl) (Nat.le_of_ble_eq_true rfl) (Nat.le_refl _) (Nat.le_refl _) (hx0.1.fc X0.warmed.alike) hx0.1.is (g := (mkF m 1 #[.val (.ref x), .val (.int (Int32.ofNat i))] [.ref x])) rfl (by rw [hml]; rfl) c1 (argsL := []) (rest := []) rfl rfl (by show 2 * 0 + 0 ≤ _; decide) (hb hbytes d1) (⟨rfl, hx0.2.2.1, hx.2.2.2.2.1.cd, s1.there X0.warmed.alike hh0, hz⟩)
  obtain ⟨rfl, q2⟩ := E2
  have hh2 := q2.trans hh0
  have hx2 := hx.mv X2.warmed.alike hh2
  obtain ⟨-, k1, k2⟩ | ⟨k0, -⟩ := hx.2.2.2.2.1
  · have c3 : Steps p.tables e below (s₁.setTop (entryFrame m #[.ref x, .int (Int32.ofNat i)] 2)) (T2.setTop (mkF m 8 #[.val (.ref x), .val (.int (Int32.ofNat i))] [.ref x])) := Steps.trans g2 (by
      refine XS.ifNo X2.here hexec rfl (hb hbytes d4) rfl (i0_eq_f (by decide)) ?_
      refine XS.aloadN X2.here hexec rfl (hb hbytes d7) rfl rfl ?_
      exact Steps.refl _)
    obtain ⟨T4, X4, q4, st4⟩ := X2.hget hexec hown (wk W (.fieldLink "java/lang/String" 9 "java/lang/String" "value" "[B")) hx2.2.1 (g := (mkF m 8 #[.val (.ref x), .val (.int (Int32.ofNat i))] [.ref x])) rfl (rest := []) rfl (hb hbytes d8)
    have hh4 := q4.trans hh2
    have c5 : Steps p.tables e below (s₁.setTop (entryFrame m #[.ref x, .int (Int32.ofNat i)] 2)) (T4.setTop (mkF m 12 #[.val (.ref x), .val (.int (Int32.ofNat i))] [.int (Int32.ofNat i), .ref t])) := (c3.trans (st4 _ (Steps.refl _))).trans (by
      refine XS.iloadN X4.here hexec rfl (hb hbytes d11) rfl ?_
      exact Steps.refl _)
    obtain ⟨v6, T6, X6, E6, g6⟩ := X4.callS hexec (LChA.law l t V i (lo8 (f i)) fm) hown (wks W (staticW "java/lang/String" 495 LChA.yN)) (wk W LChA.tab) (W := 0) (Nat.le_of_ble_eq_true rfl) (Nat.le_of_ble_eq_true rfl) (Nat.le_refl _) (Nat.le_refl _) (g := (mkF m 12 #[.val (.ref x), .val (.int (Int32.ofNat i))] [.int (Int32.ofNat i), .ref t])) rfl (by rw [hml]; rfl) c5 (argsL := [.ref t, .int (Int32.ofNat i)]) (rest := []) rfl rfl (by show 2 * 0 + 0 ≤ _; decide) (hb hbytes d12) (⟨rfl, hx.2.2.2.1.mv X4.warmed.alike hh4, (k2 i hi).1, s3.there X4.warmed.alike hh4, rf⟩)
    obtain ⟨rfl, q6⟩ := E6
    rw [chr8_lo8 hr.1 (k2 i hi).2] at g6
    exact ⟨T6, some (.int (f i)), _, _, _, X6, rfl, rfl, rfl, (fun h => by cases h), ⟨rfl, q6.trans hh4⟩, fun fs hl => Steps.trans g6 (X6.ireturnOut hexec hret (narrow_ch hr.1 hr.2) (Or.inr (Or.inr (Or.inr (Or.inl rfl)))) (hb hbytes d15) hl)⟩
  · exact absurd k0 (by decide)
theorem pays {l : Launch} {R : Room} {p : Program} {e : Env} {below : List Frame} {s : State} {sargs : Array Value} {len W : Nat} (x t : Addr) (V : Cell) (n : Nat) (f : Nat → Int32) (z : Int32) (fm : Value) (i : Nat) (htab : tab.before sargs s = true) (hfr : 4 ≤ R.frames) (hlo : W + 53 ≤ R.locals) :
    Back l R p e below s sargs yN len W (fun A₁ a₁ => A₁.cells + 0 ≤ R.cells ∧ A₁.slots + 0 ≤ R.slots ∧ P x t V n f z fm i a₁ A₁.U) (fun A₁ _ v₁ B₁ => E f i v₁ A₁.U B₁.U ∧ B₁.locs = A₁.locs ++ [] ∧ B₁.cells = A₁.cells + 0 ∧ B₁.slots = A₁.slots + 0) :=
  (law l x t V n f z fm i).pays htab hfr (by omega)
end ChN
end StrChars
namespace StrChars.Road
open Jvm Sem ClassFile Op Lib Jvm.Stand Jvm.Free Jvm.Free.XT
open Jvm.Lib.Cold (StaticIs)
/-- the words of String.charAt(int), the Latin-1 road alone -/
abbrev wordsChN : List Jvm.Cond := [.code ChN.yN ChN.yB 2 (some .char), .initialized ST, .fieldLink ST 9 ST "value" "[B", .fieldLink ST 38 ST "COMPACT_STRINGS" "Z", .fieldLink ST 15 ST "coder" "B", .code IsL.yN IsL.yB 1 (some .boolean), .methodLink ST 492 IsL.yN, .declares IsL.yN, .selects ST IsL.yN IsL.yN, .instanceMethod IsL.yN,
  .methodLink ST 495 LChA.yN, .static LChA.yN, .code LChA.yN LChA.yB 2 (some .char), .initialized "java/lang/StringLatin1", .methodLink "java/lang/StringLatin1" 9 JO.Str_checkIndex.yN, .static JO.Str_checkIndex.yN, .code JO.Str_checkIndex.yN JO.Str_checkIndex.yB 2 none,
  .fieldLink ST 1053 "jdk/internal/util/Preconditions" "SIOOBE_FORMATTER" "Ljava/util/function/BiFunction;", .methodLink ST 1059 JC.PreCheck.yN, .static JC.PreCheck.yN, .code JC.PreCheck.yN JC.PreCheck.yB 3 (some .int), .initialized "jdk/internal/util/Preconditions"]
theorem tabChN_of {a : Array Value} {s : State} (h : ∀ w ∈ wordsChN, w.before a s = true) : ChN.tab.before a s = true := by
  have hp : JC.PreCheck.tab.before a s = true := unparts (wk h (.code JC.PreCheck.yN JC.PreCheck.yB 3 (some .int))) (wks h (.initialized JC.PreCheck.yN.cls :: JC.PreCheck.site))
  have qk := consq hp h
  have hk : JO.Str_checkIndex.tab.before a s = true := unparts (wk qk (.code JO.Str_checkIndex.yN JO.Str_checkIndex.yB 2 none)) (wks qk (.initialized JO.Str_checkIndex.yN.cls :: JO.Str_checkIndex.site))
  have ql := consq hk h
  have hl : LChA.tab.before a s = true := unparts (wk ql (.code LChA.yN LChA.yB 2 (some .char))) (wks ql (.initialized LChA.yN.cls :: LChA.site))
  have hi : IsL.tab.before a s = true := unparts (wk h (.code IsL.yN IsL.yB 1 (some .boolean))) (wks h (.initialized IsL.yN.cls :: IsL.site))
  have q := consq hi (consq hl h)
  exact unparts (wk q (.code ChN.yN ChN.yB 2 (some .char))) (wks q (.initialized ChN.yN.cls :: ChN.site))
theorem movedChN {Z s : State} {a0 args : Array Value} (hZ : Z.Warmed39 s.vm) (hw : ∀ d ∈ wordsChN, d.before a0 Z = true) : ∀ d ∈ wordsChN, d.before args s = true := fun d hd => by
  have t : ∀ d ∈ wordsChN, (d.onTables && d.keepsFace) = true := by decide +kernel
  exact RoadKit.mv hZ (hw d hd) (t d hd)
/-- **charAt(i) OF A LATIN-1 STRING**, i < n: the char -/
theorem chN {p : Program} {l : Launch} {e : Env} {R : Room} {s : State} {args : Array Value} {below : List Frame} {len W : Nat} {Z : State} {a0 : Array Value} {h : Heap} (hZ : Z.Warmed39 s.vm) (hw : ∀ d ∈ wordsChN, d.before a0 Z = true) {kI : Nat} (wi : (Jvm.Cond.instantiable ST kI).before a0 Z = true)
    {x t : Addr} {kb : ClassId} {cs : List Int32} {N2 z : Int32} {vs : List Value} {fm : Value} {i : Nat} {j : Int32} (E : RoadKit.Exa Z h x ST) (V : RoadKit.Fld Z h x ST "value" "[B" (.ref t)) (C : RoadKit.Fld Z h x ST "coder" "B" (.int 0)) (K : RoadKit.Arv Z h t kb .byte N2 vs (.int 0)) (hc : CodA cs 0 N2 vs) (hb : ∀ c ∈ cs, ¬ c < 0 ∧ ¬ (65535 : Int32) < c)
    (S : RoadKit.Sta Z h ST "COMPACT_STRINGS" "Z" (.int z)) (hz : ¬ z = 0) (F : RoadKit.Sta Z h "jdk/internal/util/Preconditions" "SIOOBE_FORMATTER" "Ljava/util/function/BiFunction;" fm) (rf : fm.isRef = true) (l2 : cs.length ≤ 4000) (hi : i < cs.length) (hj : j = Int32.ofNat i) (hfr : 4 ≤ R.frames) (hlo : W + 53 ≤ R.locals) :
    Back l R p e below s args (⟨"java/lang/String", "charAt", "(I)C"⟩ : MethodName) len W (fun P a => a = #[.ref x, .int j] ∧ P.U.heap = h ∧ P.cells + 0 ≤ R.cells ∧ P.slots + 0 ≤ R.slots)
      (fun P _ v B => ∃ L, (v = some (.int (cs.getD i 0)) ∧ L = [] ∧ B.U.heap = h) ∧ B.locs = P.locs ++ L ∧ B.cells = P.cells + 0 ∧ B.slots = P.slots + 0) := by
  subst hj
  intro m meth c P g ig mk a X hg hsize hdg hW hn hp'
  obtain ⟨rfl, rfl, r1, r2⟩ := hp'
  have al : Z.vm.Alike P.U.vm := hZ.alike.trans X.warmed.alike
  obtain ⟨A, hx⟩ := txt_of wi al E V C K hc hb l2
  obtain ⟨v, B, X', ⟨⟨hv, hh⟩, hl, hk, hs⟩, st⟩ := ChN.pays x t A cs.length (fun j => cs.getD j 0) z fm i (tabChN_of (movedChN hZ hw)) hfr hlo m meth c P g ig mk _ X hg hsize hdg hW hn ⟨r1, r2, rfl, hx, hi, sta_is al S, hz, sta_is al F, rf⟩
  exact ⟨v, B, X', ⟨[], ⟨hv, rfl, hh⟩, hl, hk, hs⟩, st⟩
/-- what backV says of its String, as the contracts of this text ask it: cs's low bytes, coder 0 -/
theorem codOf {cs : List Int32} {n : Nat} (hn : cs.length = n) (hb : ∀ c ∈ cs, ¬ 255 < c) : CodA cs 0 (Int32.ofNat n) ((cs.map lo8).map Value.int) := Or.inl ⟨rfl, by rw [hn], by simp [List.map_map, Function.comp_def], hb⟩
end StrChars.Road
end Jvm.Pilot.@@N@@
namespace Jvm.Pilot.@@N@@
open Jvm Jvm.ClassFile Sem Op Lib Jvm.Free Jvm.Stand Jvm.LawKit Jvm.RoadKit Bundle Jvm.Pilot.@@N@@.Jvm.D
theorem own_words : ∀ d ∈ StrChars.Road.words, d ∈ tables_1 := by decide +kernel
theorem own_wLen : ∀ d ∈ StrChars.Road.wordsLen, d ∈ tables_1 := by decide +kernel
theorem own_wCh : ∀ d ∈ StrChars.Road.wordsChN, d ∈ tables_1 := by decide +kernel
/-! numbers -/
theorem own_ti {i : Nat} (h : i < 2147483648) : (Int32.ofNat i).toInt = (i : Int) := Int32.toInt_ofNat_of_lt h
theorem own_tn {i : Nat} (h : i < 2147483648) : (Int32.ofNat i).toNatClampNeg = i := by
  have := own_ti h
  simp only [Int32.toNatClampNeg]
  omega
theorem own_nn {i : Nat} (h : i < 2147483648) : ¬ Int32.ofNat i < 0 := by
  rw [Int32.lt_iff_toInt_lt, own_ti h]
  have e0 : (0 : Int32).toInt = 0 := by decide
  omega
theorem own_lt {i j : Nat} (hi : i < 2147483648) (hj : j < 2147483648) : Int32.ofNat i < Int32.ofNat j ↔ i < j := by
  rw [Int32.lt_iff_toInt_lt, own_ti hi, own_ti hj]
  omega
theorem own_irr (x : Int32) : ¬ x < x := by rw [Int32.lt_iff_toInt_lt]; omega
theorem own_succ {i : Nat} (h : i + 1 < 2147483648) : Int32.ofNat i + (1 : Int32) = Int32.ofNat (i + 1) := by
  apply Int32.toInt_inj.mp
  have h1 := c_iadd (Int32.ofNat i) 1
  have h2 := rng32 (Int32.ofNat i + 1)
  have e1 : (1 : Int32).toInt = 1 := by decide
  rw [own_ti (by omega)] at h1
  rw [own_ti h]
  omega
theorem own_lt_of {n i : Nat} (hn : n ≤ 4000) (hi : i < 2147483648) (h : Int32.ofNat i < Int32.ofNat n) : i < n := (own_lt hi (by omega)).mp h
theorem own_ge_of {n i : Nat} (hn : n ≤ 4000) (hi : i < 2147483648) (h : ¬ Int32.ofNat i < Int32.ofNat n) : n ≤ i := Nat.le_of_not_lt fun q => h ((own_lt hi (by omega)).mpr q)
/-! a String's bytes -/
def own_by (cl : List Int32) : List Value := (cl.map (fun c => c.toInt8.toInt32)).map Value.int
theorem own_byL (cl : List Int32) : (own_by cl).length = cl.length := by simp [own_by]
theorem own_up (cl : List Int32) (hp : ∀ c ∈ cl, ¬ c < 0 ∧ ¬ (255 : Int32) < c) : ∀ c ∈ cl, ¬ c < 0 ∧ ¬ (65535 : Int32) < c := fun c hc => by
  have := hp c hc
  simp only [Int32.lt_iff_toInt_lt] at this ⊢
  have e0 : (0 : Int32).toInt = 0 := by decide
  have e1 : (255 : Int32).toInt = 255 := by decide
  have e2 : (65535 : Int32).toInt = 65535 := by decide
  omega
theorem own_cod (cl : List Int32) (hp : ∀ c ∈ cl, ¬ c < 0 ∧ ¬ (255 : Int32) < c) : StrChars.Road.CodA cl 0 (Int32.ofNat cl.length) (own_by cl) := StrChars.Road.codOf rfl (fun c hc => (hp c hc).2)
theorem own_byAt {cl : List Int32} {i : Nat} (hi : i < cl.length) (hl : cl.length ≤ 4000) : (own_by cl).getD (Int32.ofNat i).toNatClampNeg (.int 0) = .int ((cl.getD i 0).toInt8.toInt32) := by
  rw [own_tn (by omega)]
  simp [own_by, List.getD_eq_getElem?_getD, hi]
theorem own_getD {cl : List Int32} (hp : ∀ c ∈ cl, ¬ c < 0 ∧ ¬ (255 : Int32) < c) {i : Nat} (hi : i < cl.length) : ¬ cl.getD i 0 < 0 ∧ ¬ (255 : Int32) < cl.getD i 0 := by
  have e : cl.getD i 0 = cl[i] := by simp [List.getD_eq_getElem?_getD, hi]
  rw [e]
  exact hp _ (List.getElem_mem _)
theorem own_lo8 {c q : Int32} (hc : ¬ c < 0 ∧ ¬ (255 : Int32) < c) (hq : ¬ q < 0 ∧ ¬ (255 : Int32) < q) (h : c.toInt8.toInt32 = q.toInt8.toInt32) : c = q := by
  have h' := congrArg Int32.toInt h
  simp only [Int32.lt_iff_toInt_lt] at hc hq
  have e0 : (0 : Int32).toInt = 0 := by decide
  have e1 : (255 : Int32).toInt = 255 := by decide
  simp only [Int8.toInt_toInt32, Int32.toInt_toInt8, Int.bmod_def] at h'
  apply Int32.toInt_inj.mp
  omega
theorem own_rec {G : Prop} (P : Nat → Prop) (k0 : Nat) (h0 : P k0) (hs : ∀ k, (∀ j, j < k → P j → G) → P k → G) : G := by
  have : ∀ k, P k → G := fun k => Nat.strongRecOn k fun k ih => hs k ih
  exact this k0 h0
/-! the first place of q from i on -/
def own_fo (cl : List Int32) (q : Int32) (i : Nat) : Option Nat := if h : i < cl.length then (if cl.getD i 0 = q then some i else own_fo cl q (i + 1)) else none
termination_by cl.length - i
def own_ix (cl : List Int32) (q : Int32) (i : Nat) : Int32 := match own_fo cl q i with | none => -1 | some j => Int32.ofNat j
theorem own_fo_end {cl : List Int32} {q : Int32} {i : Nat} (h : cl.length ≤ i) : own_fo cl q i = none := by rw [own_fo, dif_neg (by omega)]
theorem own_fo_hit {cl : List Int32} {q : Int32} {i : Nat} (h : i < cl.length) (e : cl.getD i 0 = q) : own_fo cl q i = some i := by rw [own_fo, dif_pos h, if_pos e]
theorem own_fo_miss {cl : List Int32} {q : Int32} {i : Nat} (h : i < cl.length) (e : ¬ cl.getD i 0 = q) : own_fo cl q i = own_fo cl q (i + 1) := by rw [own_fo, dif_pos h, if_neg e]
theorem own_ix_end {cl : List Int32} {q : Int32} {i : Nat} (h : cl.length ≤ i) : own_ix cl q i = -1 := by rw [own_ix, own_fo_end h]
theorem own_ix_hit {cl : List Int32} {q : Int32} {i : Nat} (h : i < cl.length) (e : cl.getD i 0 = q) : own_ix cl q i = Int32.ofNat i := by rw [own_ix, own_fo_hit h e]
theorem own_ix_miss {cl : List Int32} {q : Int32} {i : Nat} (h : i < cl.length) (e : ¬ cl.getD i 0 = q) : own_ix cl q i = own_ix cl q (i + 1) := by rw [own_ix, own_fo_miss h e, own_ix]
theorem own_fo_lt {cl : List Int32} {q : Int32} : ∀ (n i j : Nat), cl.length - i ≤ n → own_fo cl q i = some j → i ≤ j ∧ j < cl.length ∧ cl.getD j 0 = q
  | 0, i, j, hn, h => by rw [own_fo_end (by omega)] at h; exact nomatch h
  | n + 1, i, j, hn, h => by
    by_cases hi : i < cl.length
    · by_cases e : cl.getD i 0 = q
      · rw [own_fo_hit hi e] at h
        cases h
        exact ⟨Nat.le_refl _, hi, e⟩
      · rw [own_fo_miss hi e] at h
        have := own_fo_lt n (i + 1) j (by omega) h
        exact ⟨by omega, this.2⟩
    · rw [own_fo_end (by omega)] at h
      exact nomatch h

theorem pn_11 : plainName "java/lang/String" = true := by first | (simp [plainName, overriddenIn]; done) | decide +kernel
theorem ef_rm_sl (m : MethodId) (x0 : Addr) : entryFrame m #[(.ref x0)] 1 = mkF m 0 #[.val (.ref x0)] [] := by first | (simp [entryFrame, mkF, argsToLocals, Value.category]; done) | rfl
def Q_rm_sl (Z : State) (a1 : Addr) (cz : Int32) (h0 : Heap) (n0 : Nat) (v : Option Value) (h : Heap) (L : List Loc) : Prop := v = some (.int (1 : Int32)) ∧ Fr n0 L ∧ h = h0
theorem d11_0 : decode jdk_42_method_154_code 0 = .ok (.getstatic 38, 3) := by decide +kernel
theorem d11_3 : decode jdk_42_method_154_code 3 = .ok (.ifCond .eq 14, 3) := by decide +kernel
theorem d11_6 : decode jdk_42_method_154_code 6 = .ok (.aload_n 0, 1) := by decide +kernel
theorem d11_7 : decode jdk_42_method_154_code 7 = .ok (.getfield 15, 3) := by decide +kernel
theorem d11_10 : decode jdk_42_method_154_code 10 = .ok (.ifCond .ne 7, 3) := by decide +kernel
theorem d11_13 : decode jdk_42_method_154_code 13 = .ok (.iconst 1, 1) := by decide +kernel
theorem d11_14 : decode jdk_42_method_154_code 14 = .ok (.goto 4, 3) := by decide +kernel
theorem d11_18 : decode jdk_42_method_154_code 18 = .ok (.ireturn, 1) := by decide +kernel
set_option maxRecDepth 65536 in
set_option maxHeartbeats 40000000 in
theorem rm_sl (l : Launch) (Z : State) (a0 : Array Value) (hw : ∀ d ∈ tables_1, d.before a0 Z = true) (ws : List Jvm.Cond) (a1 : Addr) (cz : Int32) (h0 : Heap) (n0 : Nat) (Z0 : n0 ≤ h0.size) (S_CS : Sta Z h0 "java/lang/String" "COMPACT_STRINGS" "Z" (.int cz)) (hcs : ¬ cz = (0 : Int32)) (F_coder_a1 : Fld Z h0 a1 "java/lang/String" "coder" "B" (.int (0 : Int32))) :
    MetFree l (⟨"java/lang/String", "isLatin1", "()Z"⟩ : MethodName) (head1 (Jvm.Cond.code (⟨"java/lang/String", "isLatin1", "()Z"⟩ : MethodName) jdk_42_method_154_code 1 (some .boolean) :: ws) ({ frames := 0, cells := 0, slots := 0, locals := 0 } : Room)) (fun a U => a = #[(.ref a1)] ∧ Z.Warmed39 U.vm ∧ U.heap = h0) (fun _ _ _ _ _ => True) (fun _ U o U' => ∃ v L, o = .returned v ∧ Q_rm_sl Z a1 cz h0 n0 v U'.heap L ∧ FrameEnd U o U' L ({ frames := 0, cells := 0, slots := 0, locals := 0 } : Room).cells ({ frames := 0, cells := 0, slots := 0, locals := 0 } : Room).slots) := by
  refine MetFree.of_bodySF (plainFor_of_name pn_11) hisR ?_
  intro p e s m args below meth c s₁ Bd hml0 hP hK
  obtain ⟨rfl, hZ, hh⟩ := hP
  have hx := Bd.exec
  have hby := Bd.bytes
  have hml : c.maxLocals = 1 := hml0
  have hown : s.vm.findClass "java/lang/String" = some m.cls := findClass_of_methodNamed Bd.named
  have hnm := (name_of_methodNamed Bd.named Bd.method).1
  have X0 : Stand p l e ({ frames := 0, cells := 0, slots := 0, locals := 0 } : Room) s m #[(.ref a1)] below meth c s₁ [] 0 0 := Stand.of_body Bd
  have e0 : s₁.heap = h0 := by rw [← hh, Bd.state]; rfl
  have N0 := Fr.nil n0
  have pre0 : ∀ t, Steps p.tables e below (s₁.setTop (mkF m 0 #[.val (.ref a1)] [])) t → Steps p.tables e below (s₁.setTop (entryFrame m #[(.ref a1)] 1)) t := fun t kt => castTop (ef_rm_sl m a1) kt
  obtain ⟨T1, X1, e1, st1⟩ := getS2 X0 hx hZ hown (host := "") (Or.inl (hw _ (List.mem_of_getElem? (i := 19) rfl))) Via.refl e0 S_CS (g := (mkF m 0 #[.val (.ref a1)] [])) rfl (hb hby d11_0)
  obtain ⟨T2, X2, e2, st2⟩ := getF X1 hx hZ hown (host := "") (Or.inl (hw _ (List.mem_of_getElem? (i := 31) rfl))) Via.refl e1 F_coder_a1 (g := (mkF m 7 #[.val (.ref a1)] [(.ref a1)])) rfl rfl (hb hby d11_7)
  obtain ⟨fs, hr, hrun, hended, hW, hsame⟩ := X2.leave (v := some (.int (1 : Int32))) (fun h => by rw [Bd.returns] at h; cases h) (hlocks := Bd.notSynchronized)
  refine ⟨_, _, pre0 _ ?_, hrun, hended, _, _, rfl, ?_, ⟨_, rfl⟩, hW, hsame.mono (by decide) (by decide)⟩
  · show Steps p.tables e below (s₁.setTop (mkF m 0 #[.val (.ref a1)] [])) _
    refine st1 _ ?_
    show Steps p.tables e below (T1.setTop (mkF m 3 #[.val (.ref a1)] [(.int cz)])) _
    refine XS.ifNo X1.here hx rfl (hb hby d11_3) rfl ((if0 _ _).trans (feq hcs).1) ?_
    show Steps p.tables e below (T1.setTop (mkF m 6 #[.val (.ref a1)] [])) _
    refine XS.aloadN X1.here hx rfl (hb hby d11_6) rfl rfl ?_
    show Steps p.tables e below (T1.setTop (mkF m 7 #[.val (.ref a1)] [(.ref a1)])) _
    refine st2 _ ?_
    show Steps p.tables e below (T2.setTop (mkF m 10 #[.val (.ref a1)] [(.int (0 : Int32))])) _
    refine XS.ifNo X2.here hx rfl (hb hby d11_10) rfl ((if0 _ _).trans (teq (by decide : (0 : Int32) = (0 : Int32))).2) ?_
    show Steps p.tables e below (T2.setTop (mkF m 13 #[.val (.ref a1)] [])) _
    refine XS.iconst X2.here hx rfl (hb hby d11_13) ?_
    show Steps p.tables e below (T2.setTop (mkF m 14 #[.val (.ref a1)] [(.int (1 : Int32))])) _
    refine XS.goto X2.here hx rfl (pc0 := 14) (pc' := 18) rfl (hb hby d11_14) (by decide) (by decide) ?_
    show Steps p.tables e below (T2.setTop (mkF m 18 #[.val (.ref a1)] [(.int (1 : Int32))])) _
    exact retN X2 hx (t := .boolean) Bd.returns (by simp) (hb hby d11_18) hr
  · show Q_rm_sl Z a1 cz h0 n0 _ T2.heap _
    rw [e2]
    exact ⟨rfl, N0, rfl⟩
theorem pn_30 : plainName "java/lang/AbstractStringBuilder" = true := by first | (simp [plainName, overriddenIn]; done) | decide +kernel
theorem ef_rm_bl (m : MethodId) (x0 : Addr) : entryFrame m #[(.ref x0)] 1 = mkF m 0 #[.val (.ref x0)] [] := by first | (simp [entryFrame, mkF, argsToLocals, Value.category]; done) | rfl
def Q_rm_bl (Z : State) (a1 : Addr) (cz : Int32) (h0 : Heap) (n0 : Nat) (v : Option Value) (h : Heap) (L : List Loc) : Prop := v = some (.int (1 : Int32)) ∧ Fr n0 L ∧ h = h0
theorem d30_0 : decode jdk_68_method_68_code 0 = .ok (.getstatic 18, 3) := by decide +kernel
theorem d30_3 : decode jdk_68_method_68_code 3 = .ok (.ifCond .eq 14, 3) := by decide +kernel
theorem d30_6 : decode jdk_68_method_68_code 6 = .ok (.aload_n 0, 1) := by decide +kernel
theorem d30_7 : decode jdk_68_method_68_code 7 = .ok (.getfield 22, 3) := by decide +kernel
theorem d30_10 : decode jdk_68_method_68_code 10 = .ok (.ifCond .ne 7, 3) := by decide +kernel
theorem d30_13 : decode jdk_68_method_68_code 13 = .ok (.iconst 1, 1) := by decide +kernel
theorem d30_14 : decode jdk_68_method_68_code 14 = .ok (.goto 4, 3) := by decide +kernel
theorem d30_18 : decode jdk_68_method_68_code 18 = .ok (.ireturn, 1) := by decide +kernel
set_option maxRecDepth 65536 in
set_option maxHeartbeats 40000000 in
theorem rm_bl (l : Launch) (Z : State) (a0 : Array Value) (hw : ∀ d ∈ tables_1, d.before a0 Z = true) (ws : List Jvm.Cond) (a1 : Addr) (cz : Int32) (h0 : Heap) (n0 : Nat) (Z0 : n0 ≤ h0.size) (S_CS : Sta Z h0 "java/lang/String" "COMPACT_STRINGS" "Z" (.int cz)) (hcs : ¬ cz = (0 : Int32)) (F_coder_a1 : Fld Z h0 a1 "java/lang/AbstractStringBuilder" "coder" "B" (.int (0 : Int32))) :
    MetFree l (⟨"java/lang/AbstractStringBuilder", "isLatin1", "()Z"⟩ : MethodName) (head1 (Jvm.Cond.code (⟨"java/lang/AbstractStringBuilder", "isLatin1", "()Z"⟩ : MethodName) jdk_68_method_68_code 1 (some .boolean) :: ws) ({ frames := 0, cells := 0, slots := 0, locals := 0 } : Room)) (fun a U => a = #[(.ref a1)] ∧ Z.Warmed39 U.vm ∧ U.heap = h0) (fun _ _ _ _ _ => True) (fun _ U o U' => ∃ v L, o = .returned v ∧ Q_rm_bl Z a1 cz h0 n0 v U'.heap L ∧ FrameEnd U o U' L ({ frames := 0, cells := 0, slots := 0, locals := 0 } : Room).cells ({ frames := 0, cells := 0, slots := 0, locals := 0 } : Room).slots) := by
  refine MetFree.of_bodySF (plainFor_of_name pn_30) hisR ?_
  intro p e s m args below meth c s₁ Bd hml0 hP hK
  obtain ⟨rfl, hZ, hh⟩ := hP
  have hx := Bd.exec
  have hby := Bd.bytes
  have hml : c.maxLocals = 1 := hml0
  have hown : s.vm.findClass "java/lang/AbstractStringBuilder" = some m.cls := findClass_of_methodNamed Bd.named
  have hnm := (name_of_methodNamed Bd.named Bd.method).1
  have X0 : Stand p l e ({ frames := 0, cells := 0, slots := 0, locals := 0 } : Room) s m #[(.ref a1)] below meth c s₁ [] 0 0 := Stand.of_body Bd
  have e0 : s₁.heap = h0 := by rw [← hh, Bd.state]; rfl
  have N0 := Fr.nil n0
  have pre0 : ∀ t, Steps p.tables e below (s₁.setTop (mkF m 0 #[.val (.ref a1)] [])) t → Steps p.tables e below (s₁.setTop (entryFrame m #[(.ref a1)] 1)) t := fun t kt => castTop (ef_rm_bl m a1) kt
  obtain ⟨T1, X1, e1, st1⟩ := getS2 X0 hx hZ hown (host := "") (Or.inl (hw _ (List.mem_of_getElem? (i := 78) rfl))) Via.refl e0 S_CS (g := (mkF m 0 #[.val (.ref a1)] [])) rfl (hb hby d30_0)
  obtain ⟨T2, X2, e2, st2⟩ := getF X1 hx hZ hown (host := "") (Or.inl (hw _ (List.mem_of_getElem? (i := 81) rfl))) Via.refl e1 F_coder_a1 (g := (mkF m 7 #[.val (.ref a1)] [(.ref a1)])) rfl rfl (hb hby d30_7)
  obtain ⟨fs, hr, hrun, hended, hW, hsame⟩ := X2.leave (v := some (.int (1 : Int32))) (fun h => by rw [Bd.returns] at h; cases h) (hlocks := Bd.notSynchronized)
  refine ⟨_, _, pre0 _ ?_, hrun, hended, _, _, rfl, ?_, ⟨_, rfl⟩, hW, hsame.mono (by decide) (by decide)⟩
  · show Steps p.tables e below (s₁.setTop (mkF m 0 #[.val (.ref a1)] [])) _
    refine st1 _ ?_
    show Steps p.tables e below (T1.setTop (mkF m 3 #[.val (.ref a1)] [(.int cz)])) _
    refine XS.ifNo X1.here hx rfl (hb hby d30_3) rfl ((if0 _ _).trans (feq hcs).1) ?_
    show Steps p.tables e below (T1.setTop (mkF m 6 #[.val (.ref a1)] [])) _
    refine XS.aloadN X1.here hx rfl (hb hby d30_6) rfl rfl ?_
    show Steps p.tables e below (T1.setTop (mkF m 7 #[.val (.ref a1)] [(.ref a1)])) _
    refine st2 _ ?_
    show Steps p.tables e below (T2.setTop (mkF m 10 #[.val (.ref a1)] [(.int (0 : Int32))])) _
    refine XS.ifNo X2.here hx rfl (hb hby d30_10) rfl ((if0 _ _).trans (teq (by decide : (0 : Int32) = (0 : Int32))).2) ?_
    show Steps p.tables e below (T2.setTop (mkF m 13 #[.val (.ref a1)] [])) _
    refine XS.iconst X2.here hx rfl (hb hby d30_13) ?_
    show Steps p.tables e below (T2.setTop (mkF m 14 #[.val (.ref a1)] [(.int (1 : Int32))])) _
    refine XS.goto X2.here hx rfl (pc0 := 14) (pc' := 18) rfl (hb hby d30_14) (by decide) (by decide) ?_
    show Steps p.tables e below (T2.setTop (mkF m 18 #[.val (.ref a1)] [(.int (1 : Int32))])) _
    exact retN X2 hx (t := .boolean) Bd.returns (by simp) (hb hby d30_18) hr
  · show Q_rm_bl Z a1 cz h0 n0 _ T2.heap _
    rw [e2]
    exact ⟨rfl, N0, rfl⟩
theorem pn_21 : plainName "java/lang/StringLatin1" = true := by first | (simp [plainName, overriddenIn]; done) | decide +kernel
theorem ef_rm_ei (m : MethodId) (x0 : Int32) : entryFrame m #[(.int x0)] 1 = mkF m 0 #[.val (.int x0)] [] := by first | (simp [entryFrame, mkF, argsToLocals, Value.category]; done) | rfl
def Q_rm_ei (Z : State) (p1 : Int32) (h0 : Heap) (n0 : Nat) (v : Option Value) (h : Heap) (L : List Loc) : Prop := v = some (.int (1 : Int32)) ∧ Fr n0 L ∧ h = h0
theorem d21_0 : decode jdk_43_method_4_code 0 = .ok (.iload_n 0, 1) := by decide +kernel
theorem d21_1 : decode jdk_43_method_4_code 1 = .ok (.ifCond .lt 14, 3) := by decide +kernel
theorem d21_4 : decode jdk_43_method_4_code 4 = .ok (.iload_n 0, 1) := by decide +kernel
theorem d21_5 : decode jdk_43_method_4_code 5 = .ok (.sipush 255, 3) := by decide +kernel
theorem d21_8 : decode jdk_43_method_4_code 8 = .ok (.if_icmp .gt 7, 3) := by decide +kernel
theorem d21_11 : decode jdk_43_method_4_code 11 = .ok (.iconst 1, 1) := by decide +kernel
theorem d21_12 : decode jdk_43_method_4_code 12 = .ok (.goto 4, 3) := by decide +kernel
theorem d21_16 : decode jdk_43_method_4_code 16 = .ok (.ireturn, 1) := by decide +kernel
set_option maxRecDepth 65536 in
set_option maxHeartbeats 40000000 in
theorem rm_ei (l : Launch) (Z : State) (a0 : Array Value) (hw : ∀ d ∈ tables_1, d.before a0 Z = true) (ws : List Jvm.Cond) (p1 : Int32) (h0 : Heap) (n0 : Nat) (Z0 : n0 ≤ h0.size) (hq : ¬ p1 < 0 ∧ ¬ (255 : Int32) < p1) :
    MetFree l (⟨"java/lang/StringLatin1", "canEncode", "(I)Z"⟩ : MethodName) (head1 (Jvm.Cond.code (⟨"java/lang/StringLatin1", "canEncode", "(I)Z"⟩ : MethodName) jdk_43_method_4_code 1 (some .boolean) :: ws) ({ frames := 0, cells := 0, slots := 0, locals := 0 } : Room)) (fun a U => a = #[(.int p1)] ∧ Z.Warmed39 U.vm ∧ U.heap = h0) (fun _ _ _ _ _ => True) (fun _ U o U' => ∃ v L, o = .returned v ∧ Q_rm_ei Z p1 h0 n0 v U'.heap L ∧ FrameEnd U o U' L ({ frames := 0, cells := 0, slots := 0, locals := 0 } : Room).cells ({ frames := 0, cells := 0, slots := 0, locals := 0 } : Room).slots) := by
  refine MetFree.of_bodySF (plainFor_of_name pn_21) hisR ?_
  intro p e s m args below meth c s₁ Bd hml0 hP hK
  obtain ⟨rfl, hZ, hh⟩ := hP
  have hx := Bd.exec
  have hby := Bd.bytes
  have hml : c.maxLocals = 1 := hml0
  have hown : s.vm.findClass "java/lang/StringLatin1" = some m.cls := findClass_of_methodNamed Bd.named
  have hnm := (name_of_methodNamed Bd.named Bd.method).1
  have X0 : Stand p l e ({ frames := 0, cells := 0, slots := 0, locals := 0 } : Room) s m #[(.int p1)] below meth c s₁ [] 0 0 := Stand.of_body Bd
  have e0 : s₁.heap = h0 := by rw [← hh, Bd.state]; rfl
  have N0 := Fr.nil n0
  have pre0 : ∀ t, Steps p.tables e below (s₁.setTop (mkF m 0 #[.val (.int p1)] [])) t → Steps p.tables e below (s₁.setTop (entryFrame m #[(.int p1)] 1)) t := fun t kt => castTop (ef_rm_ei m p1) kt
  obtain ⟨fs, hr, hrun, hended, hW, hsame⟩ := X0.leave (v := some (.int (1 : Int32))) (fun h => by rw [Bd.returns] at h; cases h) (hlocks := Bd.notSynchronized)
  refine ⟨_, _, pre0 _ ?_, hrun, hended, _, _, rfl, ?_, ⟨_, rfl⟩, hW, hsame.mono (by decide) (by decide)⟩
  · show Steps p.tables e below (s₁.setTop (mkF m 0 #[.val (.int p1)] [])) _
    refine XS.iloadN X0.here hx rfl (hb hby d21_0) rfl ?_
    show Steps p.tables e below (s₁.setTop (mkF m 1 #[.val (.int p1)] [(.int p1)])) _
    refine XS.ifNo X0.here hx rfl (hb hby d21_1) rfl ((if0 _ _).trans (flt hq.1).1) ?_
    show Steps p.tables e below (s₁.setTop (mkF m 4 #[.val (.int p1)] [])) _
    refine XS.iloadN X0.here hx rfl (hb hby d21_4) rfl ?_
    show Steps p.tables e below (s₁.setTop (mkF m 5 #[.val (.int p1)] [(.int p1)])) _
    refine XS.sipush X0.here hx rfl (hb hby d21_5) ?_
    show Steps p.tables e below (s₁.setTop (mkF m 8 #[.val (.int p1)] [(.int (255 : Int32)), (.int p1)])) _
    refine XS.icmpNo X0.here hx rfl (hb hby d21_8) rfl (flt hq.2).2.2.1 ?_
    show Steps p.tables e below (s₁.setTop (mkF m 11 #[.val (.int p1)] [])) _
    refine XS.iconst X0.here hx rfl (hb hby d21_11) ?_
    show Steps p.tables e below (s₁.setTop (mkF m 12 #[.val (.int p1)] [(.int (1 : Int32))])) _
    refine XS.goto X0.here hx rfl (pc0 := 12) (pc' := 16) rfl (hb hby d21_12) (by decide) (by decide) ?_
    show Steps p.tables e below (s₁.setTop (mkF m 16 #[.val (.int p1)] [(.int (1 : Int32))])) _
    exact retN X0 hx (t := .boolean) Bd.returns (by simp) (hb hby d21_16) hr
  · show Q_rm_ei Z p1 h0 n0 _ s₁.heap _
    rw [e0]
    exact ⟨rfl, N0, rfl⟩
theorem ef_rm_mx (m : MethodId) (x0 : Int32) (x1 : Int32) : entryFrame m #[(.int x0), (.int x1)] 2 = mkF m 0 #[.val (.int x0), .val (.int x1)] [] := by first | (simp [entryFrame, mkF, argsToLocals, Value.category]; done) | rfl
def Q_rm_mx (Z : State) (p1 : Int32) (p2 : Int32) (h0 : Heap) (n0 : Nat) (v : Option Value) (h : Heap) (L : List Loc) : Prop := v = some (.int p1) ∧ Fr n0 L ∧ h = h0
theorem d22_0 : decode jdk_29_method_65_code 0 = .ok (.iload_n 0, 1) := by decide +kernel
theorem d22_1 : decode jdk_29_method_65_code 1 = .ok (.iload_n 1, 1) := by decide +kernel
theorem d22_2 : decode jdk_29_method_65_code 2 = .ok (.if_icmp .lt 7, 3) := by decide +kernel
theorem d22_5 : decode jdk_29_method_65_code 5 = .ok (.iload_n 0, 1) := by decide +kernel
theorem d22_6 : decode jdk_29_method_65_code 6 = .ok (.goto 4, 3) := by decide +kernel
theorem d22_10 : decode jdk_29_method_65_code 10 = .ok (.ireturn, 1) := by decide +kernel
set_option maxRecDepth 65536 in
set_option maxHeartbeats 40000000 in
theorem rm_mx (l : Launch) (Z : State) (a0 : Array Value) (hw : ∀ d ∈ tables_1, d.before a0 Z = true) (ws : List Jvm.Cond) (p1 : Int32) (p2 : Int32) (h0 : Heap) (n0 : Nat) (Z0 : n0 ≤ h0.size) (hlt : ¬ p1 < p2) :
    MetFree l (⟨"java/lang/Math", "max", "(II)I"⟩ : MethodName) (head1 (Jvm.Cond.code (⟨"java/lang/Math", "max", "(II)I"⟩ : MethodName) jdk_29_method_65_code 2 (some .int) :: ws) ({ frames := 0, cells := 0, slots := 0, locals := 0 } : Room)) (fun a U => a = #[(.int p1), (.int p2)] ∧ Z.Warmed39 U.vm ∧ U.heap = h0) (fun _ _ _ _ _ => True) (fun _ U o U' => ∃ v L, o = .returned v ∧ Q_rm_mx Z p1 p2 h0 n0 v U'.heap L ∧ FrameEnd U o U' L ({ frames := 0, cells := 0, slots := 0, locals := 0 } : Room).cells ({ frames := 0, cells := 0, slots := 0, locals := 0 } : Room).slots) := by
  refine MetFree.of_bodySF (Jvm.Free.JP.mathPlain rfl (by decide +kernel)) hisR ?_
  intro p e s m args below meth c s₁ Bd hml0 hP hK
  obtain ⟨rfl, hZ, hh⟩ := hP
  have hx := Bd.exec
  have hby := Bd.bytes
  have hml : c.maxLocals = 2 := hml0
  have hown : s.vm.findClass "java/lang/Math" = some m.cls := findClass_of_methodNamed Bd.named
  have hnm := (name_of_methodNamed Bd.named Bd.method).1
  have X0 : Stand p l e ({ frames := 0, cells := 0, slots := 0, locals := 0 } : Room) s m #[(.int p1), (.int p2)] below meth c s₁ [] 0 0 := Stand.of_body Bd
  have e0 : s₁.heap = h0 := by rw [← hh, Bd.state]; rfl
  have N0 := Fr.nil n0
  have pre0 : ∀ t, Steps p.tables e below (s₁.setTop (mkF m 0 #[.val (.int p1), .val (.int p2)] [])) t → Steps p.tables e below (s₁.setTop (entryFrame m #[(.int p1), (.int p2)] 2)) t := fun t kt => castTop (ef_rm_mx m p1 p2) kt
  obtain ⟨fs, hr, hrun, hended, hW, hsame⟩ := X0.leave (v := some (.int p1)) (fun h => by rw [Bd.returns] at h; cases h) (hlocks := Bd.notSynchronized)
  refine ⟨_, _, pre0 _ ?_, hrun, hended, _, _, rfl, ?_, ⟨_, rfl⟩, hW, hsame.mono (by decide) (by decide)⟩
  · show Steps p.tables e below (s₁.setTop (mkF m 0 #[.val (.int p1), .val (.int p2)] [])) _
    refine XS.iloadN X0.here hx rfl (hb hby d22_0) rfl ?_
    show Steps p.tables e below (s₁.setTop (mkF m 1 #[.val (.int p1), .val (.int p2)] [(.int p1)])) _
    refine XS.iloadN X0.here hx rfl (hb hby d22_1) rfl ?_
    show Steps p.tables e below (s₁.setTop (mkF m 2 #[.val (.int p1), .val (.int p2)] [(.int p2), (.int p1)])) _
    refine XS.icmpNo X0.here hx rfl (hb hby d22_2) rfl (flt hlt).1 ?_
    show Steps p.tables e below (s₁.setTop (mkF m 5 #[.val (.int p1), .val (.int p2)] [])) _
    refine XS.iloadN X0.here hx rfl (hb hby d22_5) rfl ?_
    show Steps p.tables e below (s₁.setTop (mkF m 6 #[.val (.int p1), .val (.int p2)] [(.int p1)])) _
    refine XS.goto X0.here hx rfl (pc0 := 6) (pc' := 10) rfl (hb hby d22_6) (by decide) (by decide) ?_
    show Steps p.tables e below (s₁.setTop (mkF m 10 #[.val (.int p1), .val (.int p2)] [(.int p1)])) _
    exact retI X0 hx Bd.returns (hb hby d22_10) hr
  · show Q_rm_mx Z p1 p2 h0 n0 _ s₁.heap _
    rw [e0]
    exact ⟨rfl, N0, rfl⟩
theorem ef_rm_m1 (m : MethodId) (x0 : Int32) (x1 : Int32) : entryFrame m #[(.int x0), (.int x1)] 2 = mkF m 0 #[.val (.int x0), .val (.int x1)] [] := by first | (simp [entryFrame, mkF, argsToLocals, Value.category]; done) | rfl
def Q_rm_m1 (Z : State) (p1 : Int32) (p2 : Int32) (h0 : Heap) (n0 : Nat) (v : Option Value) (h : Heap) (L : List Loc) : Prop := v = some (.int p1) ∧ Fr n0 L ∧ h = h0
theorem d23_0 : decode jdk_29_method_69_code 0 = .ok (.iload_n 0, 1) := by decide +kernel
theorem d23_1 : decode jdk_29_method_69_code 1 = .ok (.iload_n 1, 1) := by decide +kernel
theorem d23_2 : decode jdk_29_method_69_code 2 = .ok (.if_icmp .gt 7, 3) := by decide +kernel
theorem d23_5 : decode jdk_29_method_69_code 5 = .ok (.iload_n 0, 1) := by decide +kernel
theorem d23_6 : decode jdk_29_method_69_code 6 = .ok (.goto 4, 3) := by decide +kernel
theorem d23_10 : decode jdk_29_method_69_code 10 = .ok (.ireturn, 1) := by decide +kernel
set_option maxRecDepth 65536 in
set_option maxHeartbeats 40000000 in
theorem rm_m1 (l : Launch) (Z : State) (a0 : Array Value) (hw : ∀ d ∈ tables_1, d.before a0 Z = true) (ws : List Jvm.Cond) (p1 : Int32) (p2 : Int32) (h0 : Heap) (n0 : Nat) (Z0 : n0 ≤ h0.size) (hlt : ¬ p2 < p1) :
    MetFree l (⟨"java/lang/Math", "min", "(II)I"⟩ : MethodName) (head1 (Jvm.Cond.code (⟨"java/lang/Math", "min", "(II)I"⟩ : MethodName) jdk_29_method_69_code 2 (some .int) :: ws) ({ frames := 0, cells := 0, slots := 0, locals := 0 } : Room)) (fun a U => a = #[(.int p1), (.int p2)] ∧ Z.Warmed39 U.vm ∧ U.heap = h0) (fun _ _ _ _ _ => True) (fun _ U o U' => ∃ v L, o = .returned v ∧ Q_rm_m1 Z p1 p2 h0 n0 v U'.heap L ∧ FrameEnd U o U' L ({ frames := 0, cells := 0, slots := 0, locals := 0 } : Room).cells ({ frames := 0, cells := 0, slots := 0, locals := 0 } : Room).slots) := by
  refine MetFree.of_bodySF (Jvm.Free.JP.mathPlain rfl (by decide +kernel)) hisR ?_
  intro p e s m args below meth c s₁ Bd hml0 hP hK
  obtain ⟨rfl, hZ, hh⟩ := hP
  have hx := Bd.exec
  have hby := Bd.bytes
  have hml : c.maxLocals = 2 := hml0
  have hown : s.vm.findClass "java/lang/Math" = some m.cls := findClass_of_methodNamed Bd.named
  have hnm := (name_of_methodNamed Bd.named Bd.method).1
  have X0 : Stand p l e ({ frames := 0, cells := 0, slots := 0, locals := 0 } : Room) s m #[(.int p1), (.int p2)] below meth c s₁ [] 0 0 := Stand.of_body Bd
  have e0 : s₁.heap = h0 := by rw [← hh, Bd.state]; rfl
  have N0 := Fr.nil n0
  have pre0 : ∀ t, Steps p.tables e below (s₁.setTop (mkF m 0 #[.val (.int p1), .val (.int p2)] [])) t → Steps p.tables e below (s₁.setTop (entryFrame m #[(.int p1), (.int p2)] 2)) t := fun t kt => castTop (ef_rm_m1 m p1 p2) kt
  obtain ⟨fs, hr, hrun, hended, hW, hsame⟩ := X0.leave (v := some (.int p1)) (fun h => by rw [Bd.returns] at h; cases h) (hlocks := Bd.notSynchronized)
  refine ⟨_, _, pre0 _ ?_, hrun, hended, _, _, rfl, ?_, ⟨_, rfl⟩, hW, hsame.mono (by decide) (by decide)⟩
  · show Steps p.tables e below (s₁.setTop (mkF m 0 #[.val (.int p1), .val (.int p2)] [])) _
    refine XS.iloadN X0.here hx rfl (hb hby d23_0) rfl ?_
    show Steps p.tables e below (s₁.setTop (mkF m 1 #[.val (.int p1), .val (.int p2)] [(.int p1)])) _
    refine XS.iloadN X0.here hx rfl (hb hby d23_1) rfl ?_
    show Steps p.tables e below (s₁.setTop (mkF m 2 #[.val (.int p1), .val (.int p2)] [(.int p2), (.int p1)])) _
    refine XS.icmpNo X0.here hx rfl (hb hby d23_2) rfl (flt hlt).2.2.1 ?_
    show Steps p.tables e below (s₁.setTop (mkF m 5 #[.val (.int p1), .val (.int p2)] [])) _
    refine XS.iloadN X0.here hx rfl (hb hby d23_5) rfl ?_
    show Steps p.tables e below (s₁.setTop (mkF m 6 #[.val (.int p1), .val (.int p2)] [(.int p1)])) _
    refine XS.goto X0.here hx rfl (pc0 := 6) (pc' := 10) rfl (hb hby d23_6) (by decide) (by decide) ?_
    show Steps p.tables e below (s₁.setTop (mkF m 10 #[.val (.int p1), .val (.int p2)] [(.int p1)])) _
    exact retI X0 hx Bd.returns (hb hby d23_10) hr
  · show Q_rm_m1 Z p1 p2 h0 n0 _ s₁.heap _
    rw [e0]
    exact ⟨rfl, N0, rfl⟩
theorem ef_rm_m2 (m : MethodId) (x0 : Int32) (x1 : Int32) : entryFrame m #[(.int x0), (.int x1)] 2 = mkF m 0 #[.val (.int x0), .val (.int x1)] [] := by first | (simp [entryFrame, mkF, argsToLocals, Value.category]; done) | rfl
def Q_rm_m2 (Z : State) (p1 : Int32) (p2 : Int32) (h0 : Heap) (n0 : Nat) (v : Option Value) (h : Heap) (L : List Loc) : Prop := v = some (.int p2) ∧ Fr n0 L ∧ h = h0
theorem d23_9 : decode jdk_29_method_69_code 9 = .ok (.iload_n 1, 1) := by decide +kernel
set_option maxRecDepth 65536 in
set_option maxHeartbeats 40000000 in
theorem rm_m2 (l : Launch) (Z : State) (a0 : Array Value) (hw : ∀ d ∈ tables_1, d.before a0 Z = true) (ws : List Jvm.Cond) (p1 : Int32) (p2 : Int32) (h0 : Heap) (n0 : Nat) (Z0 : n0 ≤ h0.size) (hlt : p2 < p1) :
    MetFree l (⟨"java/lang/Math", "min", "(II)I"⟩ : MethodName) (head1 (Jvm.Cond.code (⟨"java/lang/Math", "min", "(II)I"⟩ : MethodName) jdk_29_method_69_code 2 (some .int) :: ws) ({ frames := 0, cells := 0, slots := 0, locals := 0 } : Room)) (fun a U => a = #[(.int p1), (.int p2)] ∧ Z.Warmed39 U.vm ∧ U.heap = h0) (fun _ _ _ _ _ => True) (fun _ U o U' => ∃ v L, o = .returned v ∧ Q_rm_m2 Z p1 p2 h0 n0 v U'.heap L ∧ FrameEnd U o U' L ({ frames := 0, cells := 0, slots := 0, locals := 0 } : Room).cells ({ frames := 0, cells := 0, slots := 0, locals := 0 } : Room).slots) := by
  refine MetFree.of_bodySF (Jvm.Free.JP.mathPlain rfl (by decide +kernel)) hisR ?_
  intro p e s m args below meth c s₁ Bd hml0 hP hK
  obtain ⟨rfl, hZ, hh⟩ := hP
  have hx := Bd.exec
  have hby := Bd.bytes
  have hml : c.maxLocals = 2 := hml0
  have hown : s.vm.findClass "java/lang/Math" = some m.cls := findClass_of_methodNamed Bd.named
  have hnm := (name_of_methodNamed Bd.named Bd.method).1
  have X0 : Stand p l e ({ frames := 0, cells := 0, slots := 0, locals := 0 } : Room) s m #[(.int p1), (.int p2)] below meth c s₁ [] 0 0 := Stand.of_body Bd
  have e0 : s₁.heap = h0 := by rw [← hh, Bd.state]; rfl
  have N0 := Fr.nil n0
  have pre0 : ∀ t, Steps p.tables e below (s₁.setTop (mkF m 0 #[.val (.int p1), .val (.int p2)] [])) t → Steps p.tables e below (s₁.setTop (entryFrame m #[(.int p1), (.int p2)] 2)) t := fun t kt => castTop (ef_rm_m2 m p1 p2) kt
  obtain ⟨fs, hr, hrun, hended, hW, hsame⟩ := X0.leave (v := some (.int p2)) (fun h => by rw [Bd.returns] at h; cases h) (hlocks := Bd.notSynchronized)
  refine ⟨_, _, pre0 _ ?_, hrun, hended, _, _, rfl, ?_, ⟨_, rfl⟩, hW, hsame.mono (by decide) (by decide)⟩
  · show Steps p.tables e below (s₁.setTop (mkF m 0 #[.val (.int p1), .val (.int p2)] [])) _
    refine XS.iloadN X0.here hx rfl (hb hby d23_0) rfl ?_
    show Steps p.tables e below (s₁.setTop (mkF m 1 #[.val (.int p1), .val (.int p2)] [(.int p1)])) _
    refine XS.iloadN X0.here hx rfl (hb hby d23_1) rfl ?_
    show Steps p.tables e below (s₁.setTop (mkF m 2 #[.val (.int p1), .val (.int p2)] [(.int p2), (.int p1)])) _
    refine XS.icmpYes X0.here hx rfl (pc0 := 2) (pc' := 9) rfl (hb hby d23_2) rfl (tlt hlt).2.2.1 (by decide) (by decide) ?_
    show Steps p.tables e below (s₁.setTop (mkF m 9 #[.val (.int p1), .val (.int p2)] [])) _
    refine XS.iloadN X0.here hx rfl (hb hby d23_9) rfl ?_
    show Steps p.tables e below (s₁.setTop (mkF m 10 #[.val (.int p1), .val (.int p2)] [(.int p2)])) _
    exact retI X0 hx Bd.returns (hb hby d23_10) hr
  · show Q_rm_m2 Z p1 p2 h0 n0 _ s₁.heap _
    rw [e0]
    exact ⟨rfl, N0, rfl⟩
theorem pn_24 : plainName "java/lang/StringLatin1" = true := by first | (simp [plainName, overriddenIn]; done) | decide +kernel
theorem ef_rm_ic (m : MethodId) (x0 : Addr) (x1 : Int32) (x2 : Int32) (x3 : Int32) : entryFrame m #[(.ref x0), (.int x1), (.int x2), (.int x3)] 6 = mkF m 0 #[.val (.ref x0), .val (.int x1), .val (.int x2), .val (.int x3), .unset, .unset] [] := by first | (simp [entryFrame, mkF, argsToLocals, Value.category]; done) | rfl
def Q_rm_ic (Z : State) (a1 : Addr) (p2 : Int32) (cl : List Int32) (i0 : Nat) (kb : ClassId) (h0 : Heap) (n0 : Nat) (v : Option Value) (h : Heap) (L : List Loc) : Prop := v = some (.int (own_ix cl p2 i0)) ∧ Fr n0 L ∧ h = h0
theorem d24_0 : decode jdk_43_method_23_code 0 = .ok (.iload_n 1, 1) := by decide +kernel
theorem d24_1 : decode jdk_43_method_23_code 1 = .ok (.i2b, 1) := by decide +kernel
theorem d24_2 : decode jdk_43_method_23_code 2 = .ok (.istore 4, 2) := by decide +kernel
theorem d24_4 : decode jdk_43_method_23_code 4 = .ok (.iload_n 2, 1) := by decide +kernel
theorem d24_5 : decode jdk_43_method_23_code 5 = .ok (.istore 5, 2) := by decide +kernel
theorem d24_7 : decode jdk_43_method_23_code 7 = .ok (.iload 5, 2) := by decide +kernel
theorem d24_9 : decode jdk_43_method_23_code 9 = .ok (.iload_n 3, 1) := by decide +kernel
theorem d24_10 : decode jdk_43_method_23_code 10 = .ok (.if_icmp .ge 21, 3) := by decide +kernel
theorem d24_13 : decode jdk_43_method_23_code 13 = .ok (.aload_n 0, 1) := by decide +kernel
theorem d24_14 : decode jdk_43_method_23_code 14 = .ok (.iload 5, 2) := by decide +kernel
theorem d24_16 : decode jdk_43_method_23_code 16 = .ok (.baload, 1) := by decide +kernel
theorem d24_17 : decode jdk_43_method_23_code 17 = .ok (.iload 4, 2) := by decide +kernel
theorem d24_19 : decode jdk_43_method_23_code 19 = .ok (.if_icmp .ne 6, 3) := by decide +kernel
theorem d24_22 : decode jdk_43_method_23_code 22 = .ok (.iload 5, 2) := by decide +kernel
theorem d24_24 : decode jdk_43_method_23_code 24 = .ok (.ireturn, 1) := by decide +kernel
theorem d24_25 : decode jdk_43_method_23_code 25 = .ok (.iinc 5 1, 3) := by decide +kernel
theorem d24_28 : decode jdk_43_method_23_code 28 = .ok (.goto (-21), 3) := by decide +kernel
theorem d24_31 : decode jdk_43_method_23_code 31 = .ok (.iconst (-1), 1) := by decide +kernel
theorem d24_32 : decode jdk_43_method_23_code 32 = .ok (.ireturn, 1) := by decide +kernel
set_option maxRecDepth 65536 in
set_option maxHeartbeats 40000000 in
theorem rm_ic (l : Launch) (Z : State) (a0 : Array Value) (hw : ∀ d ∈ tables_1, d.before a0 Z = true) (ws : List Jvm.Cond) (a1 : Addr) (p2 : Int32) (cl : List Int32) (i0 : Nat) (kb : ClassId) (h0 : Heap) (n0 : Nat) (Z0 : n0 ≤ h0.size) (V_a1 : Arv Z h0 a1 kb .byte (Int32.ofNat cl.length) (own_by cl) (.int 0)) (hi0 : i0 ≤ cl.length) (hp : ∀ c ∈ cl, ¬ c < 0 ∧ ¬ (255 : Int32) < c) (hl : cl.length ≤ 4000) (hq : ¬ p2 < 0 ∧ ¬ (255 : Int32) < p2) :
    MetFree l (⟨"java/lang/StringLatin1", "indexOfChar", "([BIII)I"⟩ : MethodName) (head1 (Jvm.Cond.code (⟨"java/lang/StringLatin1", "indexOfChar", "([BIII)I"⟩ : MethodName) jdk_43_method_23_code 6 (some .int) :: ws) ({ frames := 0, cells := 0, slots := 0, locals := 0 } : Room)) (fun a U => a = #[(.ref a1), (.int p2), (.int (Int32.ofNat i0)), (.int (Int32.ofNat cl.length))] ∧ Z.Warmed39 U.vm ∧ U.heap = h0) (fun _ _ _ _ _ => True) (fun _ U o U' => ∃ v L, o = .returned v ∧ Q_rm_ic Z a1 p2 cl i0 kb h0 n0 v U'.heap L ∧ FrameEnd U o U' L ({ frames := 0, cells := 0, slots := 0, locals := 0 } : Room).cells ({ frames := 0, cells := 0, slots := 0, locals := 0 } : Room).slots) := by
  refine MetFree.of_bodySF (plainFor_of_name pn_24) hisR ?_
  intro p e s m args below meth c s₁ Bd hml0 hP hK
  obtain ⟨rfl, hZ, hh⟩ := hP
  have hx := Bd.exec
  have hby := Bd.bytes
  have hml : c.maxLocals = 6 := hml0
  have hown : s.vm.findClass "java/lang/StringLatin1" = some m.cls := findClass_of_methodNamed Bd.named
  have hnm := (name_of_methodNamed Bd.named Bd.method).1
  have X0 : Stand p l e ({ frames := 0, cells := 0, slots := 0, locals := 0 } : Room) s m #[(.ref a1), (.int p2), (.int (Int32.ofNat i0)), (.int (Int32.ofNat cl.length))] below meth c s₁ [] 0 0 := Stand.of_body Bd
  have e0 : s₁.heap = h0 := by rw [← hh, Bd.state]; rfl
  have N0 := Fr.nil n0
  have pre0 : ∀ t, Steps p.tables e below (s₁.setTop (mkF m 0 #[.val (.ref a1), .val (.int p2), .val (.int (Int32.ofNat i0)), .val (.int (Int32.ofNat cl.length)), .unset, .unset] [])) t → Steps p.tables e below (s₁.setTop (entryFrame m #[(.ref a1), (.int p2), (.int (Int32.ofNat i0)), (.int (Int32.ofNat cl.length))] 6)) t := fun t kt => castTop (ef_rm_ic m a1 p2 (Int32.ofNat i0) (Int32.ofNat cl.length)) kt
  have pre_1 : ∀ t, Steps p.tables e below (s₁.setTop (mkF m 7 #[.val (.ref a1), .val (.int p2), .val (.int (Int32.ofNat i0)), .val (.int (Int32.ofNat cl.length)), .val (.int (p2.toInt8.toInt32)), .val (.int (Int32.ofNat i0))] [])) t → Steps p.tables e below (s₁.setTop (entryFrame m #[(.ref a1), (.int p2), (.int (Int32.ofNat i0)), (.int (Int32.ofNat cl.length))] 6)) t := by
    intro t kt
    refine pre0 _ ?_
    show Steps p.tables e below (s₁.setTop (mkF m 0 #[.val (.ref a1), .val (.int p2), .val (.int (Int32.ofNat i0)), .val (.int (Int32.ofNat cl.length)), .unset, .unset] [])) _
    refine XS.iloadN X0.here hx rfl (hb hby d24_0) rfl ?_
    show Steps p.tables e below (s₁.setTop (mkF m 1 #[.val (.ref a1), .val (.int p2), .val (.int (Int32.ofNat i0)), .val (.int (Int32.ofNat cl.length)), .unset, .unset] [(.int p2)])) _
    refine XS.i2b X0.here hx rfl (hb hby d24_1) rfl ?_
    show Steps p.tables e below (s₁.setTop (mkF m 2 #[.val (.ref a1), .val (.int p2), .val (.int (Int32.ofNat i0)), .val (.int (Int32.ofNat cl.length)), .unset, .unset] [(.int (p2.toInt8.toInt32))])) _
    refine XS.istore X0.here hx rfl (hb hby d24_2) rfl (l' := #[.val (.ref a1), .val (.int p2), .val (.int (Int32.ofNat i0)), .val (.int (Int32.ofNat cl.length)), .val (.int (p2.toInt8.toInt32)), .unset]) rfl ?_
    show Steps p.tables e below (s₁.setTop (mkF m 4 #[.val (.ref a1), .val (.int p2), .val (.int (Int32.ofNat i0)), .val (.int (Int32.ofNat cl.length)), .val (.int (p2.toInt8.toInt32)), .unset] [])) _
    refine XS.iloadN X0.here hx rfl (hb hby d24_4) rfl ?_
    show Steps p.tables e below (s₁.setTop (mkF m 5 #[.val (.ref a1), .val (.int p2), .val (.int (Int32.ofNat i0)), .val (.int (Int32.ofNat cl.length)), .val (.int (p2.toInt8.toInt32)), .unset] [(.int (Int32.ofNat i0))])) _
    refine XS.istore X0.here hx rfl (hb hby d24_5) rfl (l' := #[.val (.ref a1), .val (.int p2), .val (.int (Int32.ofNat i0)), .val (.int (Int32.ofNat cl.length)), .val (.int (p2.toInt8.toInt32)), .val (.int (Int32.ofNat i0))]) rfl ?_
    exact kt
  refine own_rec (fun k => ∃ i, i + k = cl.length ∧ own_ix cl p2 i0 = own_ix cl p2 i ∧ (∀ t, Steps p.tables e below (s₁.setTop (mkF m 7 #[.val (.ref a1), .val (.int p2), .val (.int (Int32.ofNat i0)), .val (.int (Int32.ofNat cl.length)), .val (.int (p2.toInt8.toInt32)), .val (.int (Int32.ofNat i))] [])) t → Steps p.tables e below (s₁.setTop (entryFrame m #[(.ref a1), (.int p2), (.int (Int32.ofNat i0)), (.int (Int32.ofNat cl.length))] 6)) t)) (cl.length - i0) ⟨i0, by omega, rfl, pre_1⟩ ?_
  rintro k ih ⟨i, hik, hix, preL⟩
  have pre_2 : ∀ t, Steps p.tables e below (s₁.setTop (mkF m 10 #[.val (.ref a1), .val (.int p2), .val (.int (Int32.ofNat i0)), .val (.int (Int32.ofNat cl.length)), .val (.int (p2.toInt8.toInt32)), .val (.int (Int32.ofNat i))] [(.int (Int32.ofNat cl.length)), (.int (Int32.ofNat i))])) t → Steps p.tables e below (s₁.setTop (entryFrame m #[(.ref a1), (.int p2), (.int (Int32.ofNat i0)), (.int (Int32.ofNat cl.length))] 6)) t := by
    intro t kt
    refine preL _ ?_
    show Steps p.tables e below (s₁.setTop (mkF m 7 #[.val (.ref a1), .val (.int p2), .val (.int (Int32.ofNat i0)), .val (.int (Int32.ofNat cl.length)), .val (.int (p2.toInt8.toInt32)), .val (.int (Int32.ofNat i))] [])) _
    refine XS.iload X0.here hx rfl (hb hby d24_7) rfl ?_
    show Steps p.tables e below (s₁.setTop (mkF m 9 #[.val (.ref a1), .val (.int p2), .val (.int (Int32.ofNat i0)), .val (.int (Int32.ofNat cl.length)), .val (.int (p2.toInt8.toInt32)), .val (.int (Int32.ofNat i))] [(.int (Int32.ofNat i))])) _
    refine XS.iloadN X0.here hx rfl (hb hby d24_9) rfl ?_
    exact kt
  by_cases hc10 : (Int32.ofNat i) < (Int32.ofNat cl.length)
  · obtain ⟨cl3, Ar3, aq3, aS3, aN3, aH3, aG3⟩ := id V_a1
    have hin3 : ¬ ((Int32.ofNat i) < 0 ∨ cl3.slots.size ≤ ((Int32.ofNat i)).toNatClampNeg) := inb_of aS3 ⟨own_nn (by omega), hc10⟩
    have pre_4 : ∀ t, Steps p.tables e below (s₁.setTop (mkF m 19 #[.val (.ref a1), .val (.int p2), .val (.int (Int32.ofNat i0)), .val (.int (Int32.ofNat cl.length)), .val (.int (p2.toInt8.toInt32)), .val (.int (Int32.ofNat i))] [(.int (p2.toInt8.toInt32)), (.int ((cl.getD i 0).toInt8.toInt32))])) t → Steps p.tables e below (s₁.setTop (entryFrame m #[(.ref a1), (.int p2), (.int (Int32.ofNat i0)), (.int (Int32.ofNat cl.length))] 6)) t := by
      intro t kt
      refine pre_2 _ ?_
      show Steps p.tables e below (s₁.setTop (mkF m 10 #[.val (.ref a1), .val (.int p2), .val (.int (Int32.ofNat i0)), .val (.int (Int32.ofNat cl.length)), .val (.int (p2.toInt8.toInt32)), .val (.int (Int32.ofNat i))] [(.int (Int32.ofNat cl.length)), (.int (Int32.ofNat i))])) _
      refine XS.icmpNo X0.here hx rfl (hb hby d24_10) rfl (tlt hc10).2.1 ?_
      show Steps p.tables e below (s₁.setTop (mkF m 13 #[.val (.ref a1), .val (.int p2), .val (.int (Int32.ofNat i0)), .val (.int (Int32.ofNat cl.length)), .val (.int (p2.toInt8.toInt32)), .val (.int (Int32.ofNat i))] [])) _
      refine XS.aloadN X0.here hx rfl (hb hby d24_13) rfl rfl ?_
      show Steps p.tables e below (s₁.setTop (mkF m 14 #[.val (.ref a1), .val (.int p2), .val (.int (Int32.ofNat i0)), .val (.int (Int32.ofNat cl.length)), .val (.int (p2.toInt8.toInt32)), .val (.int (Int32.ofNat i))] [(.ref a1)])) _
      refine XS.iload X0.here hx rfl (hb hby d24_14) rfl ?_
      show Steps p.tables e below (s₁.setTop (mkF m 16 #[.val (.ref a1), .val (.int p2), .val (.int (Int32.ofNat i0)), .val (.int (Int32.ofNat cl.length)), .val (.int (p2.toInt8.toInt32)), .val (.int (Int32.ofNat i))] [(.int (Int32.ofNat i)), (.ref a1)])) _
      refine X0.baloadBytes hx (j := (Int32.ofNat i)) (v := (.int ((cl.getD i 0).toInt8.toInt32))) (by rw [e0]; exact Ar3.1) (State.isArrayOf_alike hZ.alike Ar3.2.1) Ar3.2.2 hin3 (Has.at aH3 hin3 (own_byAt (own_lt_of hl (by omega) hc10) hl)) (g := (mkF m 16 #[.val (.ref a1), .val (.int p2), .val (.int (Int32.ofNat i0)), .val (.int (Int32.ofNat cl.length)), .val (.int (p2.toInt8.toInt32)), .val (.int (Int32.ofNat i))] [(.int (Int32.ofNat i)), (.ref a1)])) rfl rfl (hb hby d24_16) _ ?_
      show Steps p.tables e below (s₁.setTop (mkF m 17 #[.val (.ref a1), .val (.int p2), .val (.int (Int32.ofNat i0)), .val (.int (Int32.ofNat cl.length)), .val (.int (p2.toInt8.toInt32)), .val (.int (Int32.ofNat i))] [(.int ((cl.getD i 0).toInt8.toInt32))])) _
      refine XS.iload X0.here hx rfl (hb hby d24_17) rfl ?_
      exact kt
    by_cases hc19 : ((cl.getD i 0).toInt8.toInt32) = (p2.toInt8.toInt32)
    · obtain ⟨fs, hr, hrun, hended, hW, hsame⟩ := X0.leave (v := some (.int (Int32.ofNat i))) (fun h => by rw [Bd.returns] at h; cases h) (hlocks := Bd.notSynchronized)
      refine ⟨_, _, pre_4 _ ?_, hrun, hended, _, _, rfl, ?_, ⟨_, rfl⟩, hW, hsame.mono (by decide) (by decide)⟩
      · show Steps p.tables e below (s₁.setTop (mkF m 19 #[.val (.ref a1), .val (.int p2), .val (.int (Int32.ofNat i0)), .val (.int (Int32.ofNat cl.length)), .val (.int (p2.toInt8.toInt32)), .val (.int (Int32.ofNat i))] [(.int (p2.toInt8.toInt32)), (.int ((cl.getD i 0).toInt8.toInt32))])) _
        refine XS.icmpNo X0.here hx rfl (hb hby d24_19) rfl (teq hc19).2 ?_
        show Steps p.tables e below (s₁.setTop (mkF m 22 #[.val (.ref a1), .val (.int p2), .val (.int (Int32.ofNat i0)), .val (.int (Int32.ofNat cl.length)), .val (.int (p2.toInt8.toInt32)), .val (.int (Int32.ofNat i))] [])) _
        refine XS.iload X0.here hx rfl (hb hby d24_22) rfl ?_
        show Steps p.tables e below (s₁.setTop (mkF m 24 #[.val (.ref a1), .val (.int p2), .val (.int (Int32.ofNat i0)), .val (.int (Int32.ofNat cl.length)), .val (.int (p2.toInt8.toInt32)), .val (.int (Int32.ofNat i))] [(.int (Int32.ofNat i))])) _
        exact retI X0 hx Bd.returns (hb hby d24_24) hr
      · show Q_rm_ic Z a1 p2 cl i0 kb h0 n0 _ s₁.heap _
        rw [e0]
        exact ⟨by rw [hix, own_ix_hit (own_lt_of hl (by omega) hc10) (own_lo8 (own_getD hp (own_lt_of hl (by omega) hc10)) hq hc19)], N0, rfl⟩
    · have pre_5 : ∀ t, Steps p.tables e below (s₁.setTop (mkF m 7 #[.val (.ref a1), .val (.int p2), .val (.int (Int32.ofNat i0)), .val (.int (Int32.ofNat cl.length)), .val (.int (p2.toInt8.toInt32)), .val (.int ((Int32.ofNat i) + (1 : Int32)))] [])) t → Steps p.tables e below (s₁.setTop (entryFrame m #[(.ref a1), (.int p2), (.int (Int32.ofNat i0)), (.int (Int32.ofNat cl.length))] 6)) t := by
        intro t kt
        refine pre_4 _ ?_
        show Steps p.tables e below (s₁.setTop (mkF m 19 #[.val (.ref a1), .val (.int p2), .val (.int (Int32.ofNat i0)), .val (.int (Int32.ofNat cl.length)), .val (.int (p2.toInt8.toInt32)), .val (.int (Int32.ofNat i))] [(.int (p2.toInt8.toInt32)), (.int ((cl.getD i 0).toInt8.toInt32))])) _
        refine XS.icmpYes X0.here hx rfl (pc0 := 19) (pc' := 25) rfl (hb hby d24_19) rfl (feq hc19).2 (by decide) (by decide) ?_
        show Steps p.tables e below (s₁.setTop (mkF m 25 #[.val (.ref a1), .val (.int p2), .val (.int (Int32.ofNat i0)), .val (.int (Int32.ofNat cl.length)), .val (.int (p2.toInt8.toInt32)), .val (.int (Int32.ofNat i))] [])) _
        refine XS.iinc X0.here hx rfl (hb hby d24_25) rfl (l' := #[.val (.ref a1), .val (.int p2), .val (.int (Int32.ofNat i0)), .val (.int (Int32.ofNat cl.length)), .val (.int (p2.toInt8.toInt32)), .val (.int ((Int32.ofNat i) + (1 : Int32)))]) rfl ?_
        show Steps p.tables e below (s₁.setTop (mkF m 28 #[.val (.ref a1), .val (.int p2), .val (.int (Int32.ofNat i0)), .val (.int (Int32.ofNat cl.length)), .val (.int (p2.toInt8.toInt32)), .val (.int ((Int32.ofNat i) + (1 : Int32)))] [])) _
        refine XS.goto X0.here hx rfl (pc0 := 28) (pc' := 7) rfl (hb hby d24_28) (by decide) (by decide) ?_
        exact kt
      exact ih (k - 1) (by have := own_lt_of hl (by omega) hc10; omega) ⟨i + 1, by have := own_lt_of hl (by omega) hc10; omega, by rw [hix, own_ix_miss (own_lt_of hl (by omega) hc10) (fun q => hc19 (by rw [q]))], fun t kt => pre_5 t (by rw [own_succ (by have := own_lt_of hl (by omega) hc10; omega)]; exact kt)⟩
  · obtain ⟨fs, hr, hrun, hended, hW, hsame⟩ := X0.leave (v := some (.int (-1 : Int32))) (fun h => by rw [Bd.returns] at h; cases h) (hlocks := Bd.notSynchronized)
    refine ⟨_, _, pre_2 _ ?_, hrun, hended, _, _, rfl, ?_, ⟨_, rfl⟩, hW, hsame.mono (by decide) (by decide)⟩
    · show Steps p.tables e below (s₁.setTop (mkF m 10 #[.val (.ref a1), .val (.int p2), .val (.int (Int32.ofNat i0)), .val (.int (Int32.ofNat cl.length)), .val (.int (p2.toInt8.toInt32)), .val (.int (Int32.ofNat i))] [(.int (Int32.ofNat cl.length)), (.int (Int32.ofNat i))])) _
      refine XS.icmpYes X0.here hx rfl (pc0 := 10) (pc' := 31) rfl (hb hby d24_10) rfl (flt hc10).2.1 (by decide) (by decide) ?_
      show Steps p.tables e below (s₁.setTop (mkF m 31 #[.val (.ref a1), .val (.int p2), .val (.int (Int32.ofNat i0)), .val (.int (Int32.ofNat cl.length)), .val (.int (p2.toInt8.toInt32)), .val (.int (Int32.ofNat i))] [])) _
      refine XS.iconst X0.here hx rfl (hb hby d24_31) ?_
      show Steps p.tables e below (s₁.setTop (mkF m 32 #[.val (.ref a1), .val (.int p2), .val (.int (Int32.ofNat i0)), .val (.int (Int32.ofNat cl.length)), .val (.int (p2.toInt8.toInt32)), .val (.int (Int32.ofNat i))] [(.int (-1 : Int32))])) _
      exact retI X0 hx Bd.returns (hb hby d24_32) hr
    · show Q_rm_ic Z a1 p2 cl i0 kb h0 n0 _ s₁.heap _
      rw [e0]
      exact ⟨by rw [hix, own_ix_end (own_ge_of hl (by omega) hc10)], N0, rfl⟩
theorem pn_20 : plainName "java/lang/StringLatin1" = true := by first | (simp [plainName, overriddenIn]; done) | decide +kernel
theorem ef_rm_li (m : MethodId) (x0 : Addr) (x1 : Int32) (x2 : Int32) (x3 : Int32) : entryFrame m #[(.ref x0), (.int x1), (.int x2), (.int x3)] 4 = mkF m 0 #[.val (.ref x0), .val (.int x1), .val (.int x2), .val (.int x3)] [] := by first | (simp [entryFrame, mkF, argsToLocals, Value.category]; done) | rfl
def Q_rm_li (Z : State) (a1 : Addr) (p2 : Int32) (cl : List Int32) (i0 : Nat) (kb : ClassId) (h0 : Heap) (n0 : Nat) (v : Option Value) (h : Heap) (L : List Loc) : Prop := v = some (.int (own_ix cl p2 i0)) ∧ Fr n0 L ∧ h = h0
theorem d20_0 : decode jdk_43_method_22_code 0 = .ok (.iload_n 1, 1) := by decide +kernel
theorem pd__I_Z_244 : parseMethodDescriptor "(I)Z" = some ⟨[.int], some .boolean⟩ := by decide +kernel
theorem d20_1 : decode jdk_43_method_22_code 1 = .ok (.invokestatic 88, 3) := by decide +kernel
theorem d20_4 : decode jdk_43_method_22_code 4 = .ok (.ifCond .ne 5, 3) := by decide +kernel
theorem d20_9 : decode jdk_43_method_22_code 9 = .ok (.iload_n 2, 1) := by decide +kernel
theorem d20_10 : decode jdk_43_method_22_code 10 = .ok (.iconst 0, 1) := by decide +kernel
theorem pd__II_I_300 : parseMethodDescriptor "(II)I" = some ⟨[.int, .int], some .int⟩ := by decide +kernel
theorem d20_11 : decode jdk_43_method_22_code 11 = .ok (.invokestatic 92, 3) := by decide +kernel
theorem d20_14 : decode jdk_43_method_22_code 14 = .ok (.istore_n 2, 1) := by decide +kernel
theorem d20_15 : decode jdk_43_method_22_code 15 = .ok (.iload_n 3, 1) := by decide +kernel
theorem d20_16 : decode jdk_43_method_22_code 16 = .ok (.aload_n 0, 1) := by decide +kernel
theorem d20_17 : decode jdk_43_method_22_code 17 = .ok (.arraylength, 1) := by decide +kernel
theorem d20_18 : decode jdk_43_method_22_code 18 = .ok (.invokestatic 38, 3) := by decide +kernel
theorem d20_21 : decode jdk_43_method_22_code 21 = .ok (.istore_n 3, 1) := by decide +kernel
theorem d20_22 : decode jdk_43_method_22_code 22 = .ok (.iload_n 2, 1) := by decide +kernel
theorem d20_23 : decode jdk_43_method_22_code 23 = .ok (.iload_n 3, 1) := by decide +kernel
theorem d20_24 : decode jdk_43_method_22_code 24 = .ok (.if_icmp .lt 5, 3) := by decide +kernel
theorem d20_29 : decode jdk_43_method_22_code 29 = .ok (.aload_n 0, 1) := by decide +kernel
theorem d20_30 : decode jdk_43_method_22_code 30 = .ok (.iload_n 1, 1) := by decide +kernel
theorem d20_31 : decode jdk_43_method_22_code 31 = .ok (.iload_n 2, 1) := by decide +kernel
theorem d20_32 : decode jdk_43_method_22_code 32 = .ok (.iload_n 3, 1) := by decide +kernel
theorem pd___BIII_I_530 : parseMethodDescriptor "([BIII)I" = some ⟨[(.array .byte), .int, .int, .int], some .int⟩ := by decide +kernel
theorem d20_33 : decode jdk_43_method_22_code 33 = .ok (.invokestatic 95, 3) := by decide +kernel
theorem d20_36 : decode jdk_43_method_22_code 36 = .ok (.ireturn, 1) := by decide +kernel
theorem d20_27 : decode jdk_43_method_22_code 27 = .ok (.iconst (-1), 1) := by decide +kernel
theorem d20_28 : decode jdk_43_method_22_code 28 = .ok (.ireturn, 1) := by decide +kernel
set_option maxRecDepth 65536 in
set_option maxHeartbeats 40000000 in
theorem rm_li (l : Launch) (Z : State) (a0 : Array Value) (hw : ∀ d ∈ tables_1, d.before a0 Z = true) (ws : List Jvm.Cond) (a1 : Addr) (p2 : Int32) (cl : List Int32) (i0 : Nat) (kb : ClassId) (h0 : Heap) (n0 : Nat) (Z0 : n0 ≤ h0.size) (V_a1 : Arv Z h0 a1 kb .byte (Int32.ofNat cl.length) (own_by cl) (.int 0)) (hi0 : i0 ≤ cl.length) (hp : ∀ c ∈ cl, ¬ c < 0 ∧ ¬ (255 : Int32) < c) (hl : cl.length ≤ 4000) (hq : ¬ p2 < 0 ∧ ¬ (255 : Int32) < p2) :
    MetFree l (⟨"java/lang/StringLatin1", "indexOf", "([BIII)I"⟩ : MethodName) (head1 (Jvm.Cond.code (⟨"java/lang/StringLatin1", "indexOf", "([BIII)I"⟩ : MethodName) jdk_43_method_22_code 4 (some .int) :: ws) ({ frames := 1, cells := 0, slots := 0, locals := 17 } : Room)) (fun a U => a = #[(.ref a1), (.int p2), (.int (Int32.ofNat i0)), (.int (Int32.ofNat cl.length))] ∧ Z.Warmed39 U.vm ∧ U.heap = h0) (fun _ _ _ _ _ => True) (fun _ U o U' => ∃ v L, o = .returned v ∧ Q_rm_li Z a1 p2 cl i0 kb h0 n0 v U'.heap L ∧ FrameEnd U o U' L ({ frames := 1, cells := 0, slots := 0, locals := 17 } : Room).cells ({ frames := 1, cells := 0, slots := 0, locals := 17 } : Room).slots) := by
  refine MetFree.of_bodySF (plainFor_of_name pn_20) hisR ?_
  intro p e s m args below meth c s₁ Bd hml0 hP hK
  obtain ⟨rfl, hZ, hh⟩ := hP
  have hx := Bd.exec
  have hby := Bd.bytes
  have hml : c.maxLocals = 4 := hml0
  have hown : s.vm.findClass "java/lang/StringLatin1" = some m.cls := findClass_of_methodNamed Bd.named
  have hnm := (name_of_methodNamed Bd.named Bd.method).1
  have X0 : Stand p l e ({ frames := 1, cells := 0, slots := 0, locals := 17 } : Room) s m #[(.ref a1), (.int p2), (.int (Int32.ofNat i0)), (.int (Int32.ofNat cl.length))] below meth c s₁ [] 0 0 := Stand.of_body Bd
  have e0 : s₁.heap = h0 := by rw [← hh, Bd.state]; rfl
  have N0 := Fr.nil n0
  have pre0 : ∀ t, Steps p.tables e below (s₁.setTop (mkF m 0 #[.val (.ref a1), .val (.int p2), .val (.int (Int32.ofNat i0)), .val (.int (Int32.ofNat cl.length))] [])) t → Steps p.tables e below (s₁.setTop (entryFrame m #[(.ref a1), (.int p2), (.int (Int32.ofNat i0)), (.int (Int32.ofNat cl.length))] 4)) t := fun t kt => castTop (ef_rm_li m a1 p2 (Int32.ofNat i0) (Int32.ofNat cl.length)) kt
  obtain ⟨_, _, ⟨T1, L1, k1, n1⟩, -, X1, ⟨Lc1, hQ1, l1, y1, z1⟩, st1⟩ := Jvm.LawKit.callS X0 hx (y := (⟨"java/lang/StringLatin1", "canEncode", "(I)Z"⟩ : MethodName)) hown (mvT hZ (hw _ (List.mem_of_getElem? (i := 101) rfl))) (mvT hZ (hw _ (List.mem_of_getElem? (i := 102) rfl))) (mvT hZ (hw _ (List.mem_of_getElem? (i := 55) rfl))) (mvT hZ (hw _ (List.mem_of_getElem? (i := 103) rfl))) (by decide) (backOf (W := 0) (rm_ei l Z a0 hw [] p2 h0 n0 Z0 hq) hZ (hw _ (List.mem_of_getElem? (i := 103) rfl)) (hw _ (List.mem_of_getElem? (i := 55) rfl)) (by decide) (by decide)) (g := (mkF m 1 #[.val (.ref a1), .val (.int p2), .val (.int (Int32.ofNat i0)), .val (.int (Int32.ofNat cl.length))] [(.int p2)])) rfl (by rw [hml]; rfl) (argsL := [(.int p2)]) (rest := []) (lenOf pd__I_Z_244 rfl) rfl (by show 2 * 0 + _ ≤ _; exact Nat.le_of_eq rfl) (hb hby d20_1) (fun _ _ => ⟨rfl, e0, (by decide : 0 + 0 ≤ _), (by decide : 0 + 0 ≤ _)⟩)
  dsimp only [Pt.U, Pt.locs, Pt.cells, Pt.slots] at X1 l1 y1 z1 st1 hQ1
  subst l1 y1 z1
  obtain ⟨rfl, N1q, e1⟩ := hQ1
  have N1 := Fr.app N0 N1q
  obtain ⟨_, _, ⟨T2, L2, k2, n2⟩, -, X2, ⟨Lc2, hQ2, l2, y2, z2⟩, st2⟩ := Jvm.LawKit.callS X1 hx (y := (⟨"java/lang/Math", "max", "(II)I"⟩ : MethodName)) hown (mvT hZ (hw _ (List.mem_of_getElem? (i := 104) rfl))) (mvT hZ (hw _ (List.mem_of_getElem? (i := 105) rfl))) (mvT hZ (hw _ (List.mem_of_getElem? (i := 106) rfl))) (mvT hZ (hw _ (List.mem_of_getElem? (i := 107) rfl))) (by decide) (backOf (W := 0) (rm_mx l Z a0 hw [] (Int32.ofNat i0) (0 : Int32) h0 n0 Z0 (own_nn (by omega))) hZ (hw _ (List.mem_of_getElem? (i := 107) rfl)) (hw _ (List.mem_of_getElem? (i := 106) rfl)) (by decide) (by decide)) (g := (mkF m 11 #[.val (.ref a1), .val (.int p2), .val (.int (Int32.ofNat i0)), .val (.int (Int32.ofNat cl.length))] [(.int (0 : Int32)), (.int (Int32.ofNat i0))])) rfl (by rw [hml]; rfl) (argsL := [(.int (Int32.ofNat i0)), (.int (0 : Int32))]) (rest := []) (lenOf pd__II_I_300 rfl) rfl (by show 2 * 0 + _ ≤ _; exact Nat.le_of_eq rfl) (hb hby d20_11) (fun _ _ => ⟨rfl, e1, (by decide : 0 + 0 ≤ _), (by decide : 0 + 0 ≤ _)⟩)
  dsimp only [Pt.U, Pt.locs, Pt.cells, Pt.slots] at X2 l2 y2 z2 st2 hQ2
  subst l2 y2 z2
  obtain ⟨rfl, N2q, e2⟩ := hQ2
  have N2 := Fr.app N1 N2q
  obtain ⟨cl3, Ar3, aq3, aS3, aN3, aH3, aG3⟩ := id V_a1
  obtain ⟨_, _, ⟨T4, L4, k4, n4⟩, -, X4, ⟨Lc4, hQ4, l4, y4, z4⟩, st4⟩ := Jvm.LawKit.callS X2 hx (y := (⟨"java/lang/Math", "min", "(II)I"⟩ : MethodName)) hown (mvT hZ (hw _ (List.mem_of_getElem? (i := 108) rfl))) (mvT hZ (hw _ (List.mem_of_getElem? (i := 109) rfl))) (mvT hZ (hw _ (List.mem_of_getElem? (i := 106) rfl))) (mvT hZ (hw _ (List.mem_of_getElem? (i := 110) rfl))) (by decide) (backOf (W := 0) (rm_m1 l Z a0 hw [] (Int32.ofNat cl.length) (Int32.ofNat cl.length) h0 n0 Z0 (own_irr _)) hZ (hw _ (List.mem_of_getElem? (i := 110) rfl)) (hw _ (List.mem_of_getElem? (i := 106) rfl)) (by decide) (by decide)) (g := (mkF m 18 #[.val (.ref a1), .val (.int p2), .val (.int (Int32.ofNat i0)), .val (.int (Int32.ofNat cl.length))] [(.int (Int32.ofNat cl.length)), (.int (Int32.ofNat cl.length))])) rfl (by rw [hml]; rfl) (argsL := [(.int (Int32.ofNat cl.length)), (.int (Int32.ofNat cl.length))]) (rest := []) (lenOf pd__II_I_300 rfl) rfl (by show 2 * 0 + _ ≤ _; exact Nat.le_of_eq rfl) (hb hby d20_18) (fun _ _ => ⟨rfl, e2, (by decide : 0 + 0 ≤ _), (by decide : 0 + 0 ≤ _)⟩)
  dsimp only [Pt.U, Pt.locs, Pt.cells, Pt.slots] at X4 l4 y4 z4 st4 hQ4
  subst l4 y4 z4
  obtain ⟨rfl, N4q, e4⟩ := hQ4
  have N4 := Fr.app N2 N4q
  have pre_5 : ∀ t, Steps p.tables e below (T4.setTop (mkF m 24 #[.val (.ref a1), .val (.int p2), .val (.int (Int32.ofNat i0)), .val (.int (Int32.ofNat cl.length))] [(.int (Int32.ofNat cl.length)), (.int (Int32.ofNat i0))])) t → Steps p.tables e below (s₁.setTop (entryFrame m #[(.ref a1), (.int p2), (.int (Int32.ofNat i0)), (.int (Int32.ofNat cl.length))] 4)) t := by
    intro t kt
    refine pre0 _ ?_
    show Steps p.tables e below (s₁.setTop (mkF m 0 #[.val (.ref a1), .val (.int p2), .val (.int (Int32.ofNat i0)), .val (.int (Int32.ofNat cl.length))] [])) _
    refine XS.iloadN X0.here hx rfl (hb hby d20_0) rfl ?_
    show Steps p.tables e below (s₁.setTop (mkF m 1 #[.val (.ref a1), .val (.int p2), .val (.int (Int32.ofNat i0)), .val (.int (Int32.ofNat cl.length))] [(.int p2)])) _
    refine st1 _ ?_
    show Steps p.tables e below (T1.setTop (mkF m 4 #[.val (.ref a1), .val (.int p2), .val (.int (Int32.ofNat i0)), .val (.int (Int32.ofNat cl.length))] [(.int (1 : Int32))])) _
    refine XS.ifYes X1.here hx rfl (pc0 := 4) (pc' := 9) rfl (hb hby d20_4) rfl ((if0 _ _).trans (feq (by decide : ¬ ((1 : Int32) = (0 : Int32)))).2) (by decide) (by decide) ?_
    show Steps p.tables e below (T1.setTop (mkF m 9 #[.val (.ref a1), .val (.int p2), .val (.int (Int32.ofNat i0)), .val (.int (Int32.ofNat cl.length))] [])) _
    refine XS.iloadN X1.here hx rfl (hb hby d20_9) rfl ?_
    show Steps p.tables e below (T1.setTop (mkF m 10 #[.val (.ref a1), .val (.int p2), .val (.int (Int32.ofNat i0)), .val (.int (Int32.ofNat cl.length))] [(.int (Int32.ofNat i0))])) _
    refine XS.iconst X1.here hx rfl (hb hby d20_10) ?_
    show Steps p.tables e below (T1.setTop (mkF m 11 #[.val (.ref a1), .val (.int p2), .val (.int (Int32.ofNat i0)), .val (.int (Int32.ofNat cl.length))] [(.int (0 : Int32)), (.int (Int32.ofNat i0))])) _
    refine st2 _ ?_
    show Steps p.tables e below (T2.setTop (mkF m 14 #[.val (.ref a1), .val (.int p2), .val (.int (Int32.ofNat i0)), .val (.int (Int32.ofNat cl.length))] [(.int (Int32.ofNat i0))])) _
    refine XS.istoreN X2.here hx rfl (hb hby d20_14) rfl (l' := #[.val (.ref a1), .val (.int p2), .val (.int (Int32.ofNat i0)), .val (.int (Int32.ofNat cl.length))]) rfl ?_
    show Steps p.tables e below (T2.setTop (mkF m 15 #[.val (.ref a1), .val (.int p2), .val (.int (Int32.ofNat i0)), .val (.int (Int32.ofNat cl.length))] [])) _
    refine XS.iloadN X2.here hx rfl (hb hby d20_15) rfl ?_
    show Steps p.tables e below (T2.setTop (mkF m 16 #[.val (.ref a1), .val (.int p2), .val (.int (Int32.ofNat i0)), .val (.int (Int32.ofNat cl.length))] [(.int (Int32.ofNat cl.length))])) _
    refine XS.aloadN X2.here hx rfl (hb hby d20_16) rfl rfl ?_
    show Steps p.tables e below (T2.setTop (mkF m 17 #[.val (.ref a1), .val (.int p2), .val (.int (Int32.ofNat i0)), .val (.int (Int32.ofNat cl.length))] [(.ref a1), (.int (Int32.ofNat cl.length))])) _
    refine X2.arraylength hx (by rw [e2]; exact Ar3.1) (State.isArrayOf_alike hZ.alike Ar3.2.1) (g := (mkF m 17 #[.val (.ref a1), .val (.int p2), .val (.int (Int32.ofNat i0)), .val (.int (Int32.ofNat cl.length))] [(.ref a1), (.int (Int32.ofNat cl.length))])) rfl rfl (hb hby d20_17) _ ?_
    rw [len_of aS3 aN3]
    show Steps p.tables e below (T2.setTop (mkF m 18 #[.val (.ref a1), .val (.int p2), .val (.int (Int32.ofNat i0)), .val (.int (Int32.ofNat cl.length))] [(.int (Int32.ofNat cl.length)), (.int (Int32.ofNat cl.length))])) _
    refine st4 _ ?_
    show Steps p.tables e below (T4.setTop (mkF m 21 #[.val (.ref a1), .val (.int p2), .val (.int (Int32.ofNat i0)), .val (.int (Int32.ofNat cl.length))] [(.int (Int32.ofNat cl.length))])) _
    refine XS.istoreN X4.here hx rfl (hb hby d20_21) rfl (l' := #[.val (.ref a1), .val (.int p2), .val (.int (Int32.ofNat i0)), .val (.int (Int32.ofNat cl.length))]) rfl ?_
    show Steps p.tables e below (T4.setTop (mkF m 22 #[.val (.ref a1), .val (.int p2), .val (.int (Int32.ofNat i0)), .val (.int (Int32.ofNat cl.length))] [])) _
    refine XS.iloadN X4.here hx rfl (hb hby d20_22) rfl ?_
    show Steps p.tables e below (T4.setTop (mkF m 23 #[.val (.ref a1), .val (.int p2), .val (.int (Int32.ofNat i0)), .val (.int (Int32.ofNat cl.length))] [(.int (Int32.ofNat i0))])) _
    refine XS.iloadN X4.here hx rfl (hb hby d20_23) rfl ?_
    exact kt
  by_cases hc24 : (Int32.ofNat i0) < (Int32.ofNat cl.length)
  · obtain ⟨_, _, ⟨T6, L6, k6, n6⟩, -, X6, ⟨Lc6, hQ6, l6, y6, z6⟩, st6⟩ := Jvm.LawKit.callS X4 hx (y := (⟨"java/lang/StringLatin1", "indexOfChar", "([BIII)I"⟩ : MethodName)) hown (mvT hZ (hw _ (List.mem_of_getElem? (i := 111) rfl))) (mvT hZ (hw _ (List.mem_of_getElem? (i := 112) rfl))) (mvT hZ (hw _ (List.mem_of_getElem? (i := 55) rfl))) (mvT hZ (hw _ (List.mem_of_getElem? (i := 113) rfl))) (by decide) (backOf (W := 0) (rm_ic l Z a0 hw [] a1 p2 cl i0 kb h0 n0 Z0 V_a1 hi0 hp hl hq) hZ (hw _ (List.mem_of_getElem? (i := 113) rfl)) (hw _ (List.mem_of_getElem? (i := 55) rfl)) (by decide) (by decide)) (g := (mkF m 33 #[.val (.ref a1), .val (.int p2), .val (.int (Int32.ofNat i0)), .val (.int (Int32.ofNat cl.length))] [(.int (Int32.ofNat cl.length)), (.int (Int32.ofNat i0)), (.int p2), (.ref a1)])) rfl (by rw [hml]; rfl) (argsL := [(.ref a1), (.int p2), (.int (Int32.ofNat i0)), (.int (Int32.ofNat cl.length))]) (rest := []) (lenOf pd___BIII_I_530 rfl) rfl (by show 2 * 0 + _ ≤ _; exact Nat.le_of_eq rfl) (hb hby d20_33) (fun _ _ => ⟨rfl, e4, (by decide : 0 + 0 ≤ _), (by decide : 0 + 0 ≤ _)⟩)
    dsimp only [Pt.U, Pt.locs, Pt.cells, Pt.slots] at X6 l6 y6 z6 st6 hQ6
    subst l6 y6 z6
    obtain ⟨rfl, N6q, e6⟩ := hQ6
    have N6 := Fr.app N4 N6q
    obtain ⟨fs, hr, hrun, hended, hW, hsame⟩ := X6.leave (v := some (.int (own_ix cl p2 i0))) (fun h => by rw [Bd.returns] at h; cases h) (hlocks := Bd.notSynchronized)
    refine ⟨_, _, pre_5 _ ?_, hrun, hended, _, _, rfl, ?_, ⟨_, rfl⟩, hW, hsame.mono (by decide) (by decide)⟩
    · show Steps p.tables e below (T4.setTop (mkF m 24 #[.val (.ref a1), .val (.int p2), .val (.int (Int32.ofNat i0)), .val (.int (Int32.ofNat cl.length))] [(.int (Int32.ofNat cl.length)), (.int (Int32.ofNat i0))])) _
      refine XS.icmpYes X4.here hx rfl (pc0 := 24) (pc' := 29) rfl (hb hby d20_24) rfl (tlt hc24).1 (by decide) (by decide) ?_
      show Steps p.tables e below (T4.setTop (mkF m 29 #[.val (.ref a1), .val (.int p2), .val (.int (Int32.ofNat i0)), .val (.int (Int32.ofNat cl.length))] [])) _
      refine XS.aloadN X4.here hx rfl (hb hby d20_29) rfl rfl ?_
      show Steps p.tables e below (T4.setTop (mkF m 30 #[.val (.ref a1), .val (.int p2), .val (.int (Int32.ofNat i0)), .val (.int (Int32.ofNat cl.length))] [(.ref a1)])) _
      refine XS.iloadN X4.here hx rfl (hb hby d20_30) rfl ?_
      show Steps p.tables e below (T4.setTop (mkF m 31 #[.val (.ref a1), .val (.int p2), .val (.int (Int32.ofNat i0)), .val (.int (Int32.ofNat cl.length))] [(.int p2), (.ref a1)])) _
      refine XS.iloadN X4.here hx rfl (hb hby d20_31) rfl ?_
      show Steps p.tables e below (T4.setTop (mkF m 32 #[.val (.ref a1), .val (.int p2), .val (.int (Int32.ofNat i0)), .val (.int (Int32.ofNat cl.length))] [(.int (Int32.ofNat i0)), (.int p2), (.ref a1)])) _
      refine XS.iloadN X4.here hx rfl (hb hby d20_32) rfl ?_
      show Steps p.tables e below (T4.setTop (mkF m 33 #[.val (.ref a1), .val (.int p2), .val (.int (Int32.ofNat i0)), .val (.int (Int32.ofNat cl.length))] [(.int (Int32.ofNat cl.length)), (.int (Int32.ofNat i0)), (.int p2), (.ref a1)])) _
      refine st6 _ ?_
      show Steps p.tables e below (T6.setTop (mkF m 36 #[.val (.ref a1), .val (.int p2), .val (.int (Int32.ofNat i0)), .val (.int (Int32.ofNat cl.length))] [(.int (own_ix cl p2 i0))])) _
      exact retI X6 hx Bd.returns (hb hby d20_36) hr
    · show Q_rm_li Z a1 p2 cl i0 kb h0 n0 _ T6.heap _
      rw [e6]
      exact ⟨rfl, N6, rfl⟩
  · obtain ⟨fs, hr, hrun, hended, hW, hsame⟩ := X4.leave (v := some (.int (-1 : Int32))) (fun h => by rw [Bd.returns] at h; cases h) (hlocks := Bd.notSynchronized)
    refine ⟨_, _, pre_5 _ ?_, hrun, hended, _, _, rfl, ?_, ⟨_, rfl⟩, hW, hsame.mono (by decide) (by decide)⟩
    · show Steps p.tables e below (T4.setTop (mkF m 24 #[.val (.ref a1), .val (.int p2), .val (.int (Int32.ofNat i0)), .val (.int (Int32.ofNat cl.length))] [(.int (Int32.ofNat cl.length)), (.int (Int32.ofNat i0))])) _
      refine XS.icmpNo X4.here hx rfl (hb hby d20_24) rfl (flt hc24).1 ?_
      show Steps p.tables e below (T4.setTop (mkF m 27 #[.val (.ref a1), .val (.int p2), .val (.int (Int32.ofNat i0)), .val (.int (Int32.ofNat cl.length))] [])) _
      refine XS.iconst X4.here hx rfl (hb hby d20_27) ?_
      show Steps p.tables e below (T4.setTop (mkF m 28 #[.val (.ref a1), .val (.int p2), .val (.int (Int32.ofNat i0)), .val (.int (Int32.ofNat cl.length))] [(.int (-1 : Int32))])) _
      exact retI X4 hx Bd.returns (hb hby d20_28) hr
    · show Q_rm_li Z a1 p2 cl i0 kb h0 n0 _ T4.heap _
      rw [e4]
      exact ⟨by rw [own_ix_end (own_ge_of hl (by omega) hc24)], N4, rfl⟩
theorem pn_17 : plainName "java/lang/String" = true := by first | (simp [plainName, overriddenIn]; done) | decide +kernel
theorem ef_rm_si (m : MethodId) (x0 : Addr) (x1 : Int32) (x2 : Int32) : entryFrame m #[(.ref x0), (.int x1), (.int x2)] 3 = mkF m 0 #[.val (.ref x0), .val (.int x1), .val (.int x2)] [] := by first | (simp [entryFrame, mkF, argsToLocals, Value.category]; done) | rfl
def Q_rm_si (Z : State) (a1 : Addr) (p2 : Int32) (t1 : Addr) (kb1 : ClassId) (cl : List Int32) (i0 : Nat) (cz : Int32) (h0 : Heap) (n0 : Nat) (v : Option Value) (h : Heap) (L : List Loc) : Prop := v = some (.int (own_ix cl p2 i0)) ∧ Fr n0 L ∧ h = h0
theorem d17_0 : decode jdk_42_method_80_code 0 = .ok (.aload_n 0, 1) := by decide +kernel
theorem pd___Z_171 : parseMethodDescriptor "()Z" = some ⟨[], some .boolean⟩ := by decide +kernel
theorem d17_1 : decode jdk_42_method_80_code 1 = .ok (.invokevirtual 492, 3) := by decide +kernel
theorem d17_4 : decode jdk_42_method_80_code 4 = .ok (.ifCond .eq 19, 3) := by decide +kernel
theorem d17_7 : decode jdk_42_method_80_code 7 = .ok (.aload_n 0, 1) := by decide +kernel
theorem d17_8 : decode jdk_42_method_80_code 8 = .ok (.getfield 9, 3) := by decide +kernel
theorem d17_11 : decode jdk_42_method_80_code 11 = .ok (.iload_n 1, 1) := by decide +kernel
theorem d17_12 : decode jdk_42_method_80_code 12 = .ok (.iload_n 2, 1) := by decide +kernel
theorem d17_13 : decode jdk_42_method_80_code 13 = .ok (.aload_n 0, 1) := by decide +kernel
theorem pd___I_154 : parseMethodDescriptor "()I" = some ⟨[], some .int⟩ := by decide +kernel
theorem d17_14 : decode jdk_42_method_80_code 14 = .ok (.invokevirtual 505, 3) := by decide +kernel
theorem d17_17 : decode jdk_42_method_80_code 17 = .ok (.invokestatic 637, 3) := by decide +kernel
theorem d17_20 : decode jdk_42_method_80_code 20 = .ok (.goto 16, 3) := by decide +kernel
theorem d17_36 : decode jdk_42_method_80_code 36 = .ok (.ireturn, 1) := by decide +kernel
set_option maxRecDepth 65536 in
set_option maxHeartbeats 40000000 in
theorem rm_si (l : Launch) (Z : State) (a0 : Array Value) (hw : ∀ d ∈ tables_1, d.before a0 Z = true) (ws : List Jvm.Cond) (a1 : Addr) (p2 : Int32) (t1 : Addr) (kb1 : ClassId) (cl : List Int32) (i0 : Nat) (cz : Int32) (h0 : Heap) (n0 : Nat) (Z0 : n0 ≤ h0.size) (E_a1 : Exa Z h0 a1 "java/lang/String") (F_coder_a1 : Fld Z h0 a1 "java/lang/String" "coder" "B" (.int (0 : Int32))) (F_value_a1 : Fld Z h0 a1 "java/lang/String" "value" "[B" (.ref t1)) (V_t1 : Arv Z h0 t1 kb1 .byte (Int32.ofNat cl.length) (own_by cl) (.int 0)) (hp : ∀ c ∈ cl, ¬ c < 0 ∧ ¬ (255 : Int32) < c) (hl : cl.length ≤ 4000) (hi0 : i0 ≤ cl.length) (hq : ¬ p2 < 0 ∧ ¬ (255 : Int32) < p2) (S_CS : Sta Z h0 "java/lang/String" "COMPACT_STRINGS" "Z" (.int cz)) (hcs : ¬ cz = (0 : Int32)) :
    MetFree l (⟨"java/lang/String", "indexOf", "(II)I"⟩ : MethodName) (head1 (Jvm.Cond.code (⟨"java/lang/String", "indexOf", "(II)I"⟩ : MethodName) jdk_42_method_80_code 3 (some .int) :: ws) ({ frames := 2, cells := 0, slots := 0, locals := 32 } : Room)) (fun a U => a = #[(.ref a1), (.int p2), (.int (Int32.ofNat i0))] ∧ Z.Warmed39 U.vm ∧ U.heap = h0) (fun _ _ _ _ _ => True) (fun _ U o U' => ∃ v L, o = .returned v ∧ Q_rm_si Z a1 p2 t1 kb1 cl i0 cz h0 n0 v U'.heap L ∧ FrameEnd U o U' L ({ frames := 2, cells := 0, slots := 0, locals := 32 } : Room).cells ({ frames := 2, cells := 0, slots := 0, locals := 32 } : Room).slots) := by
  refine MetFree.of_bodySF (plainFor_of_name pn_17) hisR ?_
  intro p e s m args below meth c s₁ Bd hml0 hP hK
  obtain ⟨rfl, hZ, hh⟩ := hP
  have hx := Bd.exec
  have hby := Bd.bytes
  have hml : c.maxLocals = 3 := hml0
  have hown : s.vm.findClass "java/lang/String" = some m.cls := findClass_of_methodNamed Bd.named
  have hnm := (name_of_methodNamed Bd.named Bd.method).1
  have X0 : Stand p l e ({ frames := 2, cells := 0, slots := 0, locals := 32 } : Room) s m #[(.ref a1), (.int p2), (.int (Int32.ofNat i0))] below meth c s₁ [] 0 0 := Stand.of_body Bd
  have e0 : s₁.heap = h0 := by rw [← hh, Bd.state]; rfl
  have N0 := Fr.nil n0
  have pre0 : ∀ t, Steps p.tables e below (s₁.setTop (mkF m 0 #[.val (.ref a1), .val (.int p2), .val (.int (Int32.ofNat i0))] [])) t → Steps p.tables e below (s₁.setTop (entryFrame m #[(.ref a1), (.int p2), (.int (Int32.ofNat i0))] 3)) t := fun t kt => castTop (ef_rm_si m a1 p2 (Int32.ofNat i0)) kt
  obtain ⟨cq1, kq1, q1a, q1b, q1c⟩ := isOf hZ e0 E_a1
  obtain ⟨_, _, ⟨T1, L1, k1, n1⟩, -, X1, ⟨Lc1, hQ1, l1, y1, z1⟩, st1⟩ := X0.virtualBack hx (y := (⟨"java/lang/String", "isLatin1", "()Z"⟩ : MethodName)) (z := (⟨"java/lang/String", "isLatin1", "()Z"⟩ : MethodName)) hown (mvT hZ (hw _ (List.mem_of_getElem? (i := 48) rfl))) (mvT hZ (hw _ (List.mem_of_getElem? (i := 49) rfl))) (notFace_of_selects (args := #[]) (mvT hZ (hw _ (List.mem_of_getElem? (i := 51) rfl)))) (mvT hZ (hw _ (List.mem_of_getElem? (i := 51) rfl))) (mvT hZ (hw _ (List.mem_of_getElem? (i := 50) rfl))) (by decide) (backOf (W := 0) (rm_sl l Z a0 hw [] a1 cz h0 n0 Z0 S_CS hcs F_coder_a1) hZ (hw _ (List.mem_of_getElem? (i := 52) rfl)) (hw _ (List.mem_of_getElem? (i := 8) rfl)) (by decide) (by decide)) q1a q1c (g := (mkF m 1 #[.val (.ref a1), .val (.int p2), .val (.int (Int32.ofNat i0))] [(.ref a1)])) rfl (by rw [hml]; rfl) (Steps.refl _) (argsL := []) (rest := []) (lenOf pd___Z_171 rfl) rfl (by show 2 * 0 + _ ≤ _; exact Nat.le_of_eq rfl) (hb hby d17_1) (fun _ _ => ⟨rfl, e0, (by decide : 0 + 0 ≤ _), (by decide : 0 + 0 ≤ _)⟩)
  dsimp only [Pt.U, Pt.locs, Pt.cells, Pt.slots] at X1 l1 y1 z1 st1 hQ1
  subst l1 y1 z1
  obtain ⟨rfl, N1q, e1⟩ := hQ1
  have N1 := Fr.app N0 N1q
  obtain ⟨T2, X2, e2, st2⟩ := getF X1 hx hZ hown (host := "") (Or.inl (hw _ (List.mem_of_getElem? (i := 33) rfl))) Via.refl e1 F_value_a1 (g := (mkF m 8 #[.val (.ref a1), .val (.int p2), .val (.int (Int32.ofNat i0))] [(.ref a1)])) rfl rfl (hb hby d17_8)
  obtain ⟨cq3, kq3, q3a, q3b, q3c⟩ := isOf hZ e2 E_a1
  obtain ⟨_, _, ⟨T3, L3, k3, n3⟩, -, X3, ⟨Lc3, hQ3, l3, y3, z3⟩, st3⟩ := X2.virtualBack hx (y := (⟨"java/lang/String", "length", "()I"⟩ : MethodName)) (z := (⟨"java/lang/String", "length", "()I"⟩ : MethodName)) hown (mvT hZ (hw _ (List.mem_of_getElem? (i := 88) rfl))) (mvT hZ (hw _ (List.mem_of_getElem? (i := 89) rfl))) (notFace_of_selects (args := #[]) (mvT hZ (hw _ (List.mem_of_getElem? (i := 91) rfl)))) (mvT hZ (hw _ (List.mem_of_getElem? (i := 91) rfl))) (mvT hZ (hw _ (List.mem_of_getElem? (i := 90) rfl))) (by decide) (StrChars.Road.lenW (W := 3) hZ (fun d hd => hw d (own_wLen d hd)) (kI := 4) (hw _ (List.mem_of_getElem? (i := 7) rfl)) (cs := cl) E_a1 F_value_a1 F_coder_a1 V_t1 (own_cod cl hp) (own_up _ hp) S_CS hcs hl (by decide) (by decide)) q3a q3c (g := (mkF m 14 #[.val (.ref a1), .val (.int p2), .val (.int (Int32.ofNat i0))] [(.ref a1), (.int (Int32.ofNat i0)), (.int p2), (.ref t1)])) rfl (by rw [hml]; rfl) (Steps.refl _) (argsL := []) (rest := [(.int (Int32.ofNat i0)), (.int p2), (.ref t1)]) (lenOf pd___I_154 rfl) rfl (by show 2 * 0 + _ ≤ _; exact Nat.le_of_eq rfl) (hb hby d17_14) (fun _ _ => ⟨rfl, e2, (by decide : 0 + 0 ≤ _), (by decide : 0 + 0 ≤ _)⟩)
  dsimp only [Pt.U, Pt.locs, Pt.cells, Pt.slots] at X3 l3 y3 z3 st3 hQ3
  subst l3 y3 z3
  obtain ⟨rfl, rfl, e3⟩ := hQ3
  have N3q := Fr.nil n0
  have N3 := Fr.app N1 N3q
  obtain ⟨_, _, ⟨T4, L4, k4, n4⟩, -, X4, ⟨Lc4, hQ4, l4, y4, z4⟩, st4⟩ := Jvm.LawKit.callS X3 hx (y := (⟨"java/lang/StringLatin1", "indexOf", "([BIII)I"⟩ : MethodName)) hown (mvT hZ (hw _ (List.mem_of_getElem? (i := 98) rfl))) (mvT hZ (hw _ (List.mem_of_getElem? (i := 99) rfl))) (mvT hZ (hw _ (List.mem_of_getElem? (i := 55) rfl))) (mvT hZ (hw _ (List.mem_of_getElem? (i := 100) rfl))) (by decide) (backOf (W := 0) (rm_li l Z a0 hw [] t1 p2 cl i0 kb1 h0 n0 Z0 V_t1 hi0 hp hl hq) hZ (hw _ (List.mem_of_getElem? (i := 100) rfl)) (hw _ (List.mem_of_getElem? (i := 55) rfl)) (by decide) (by decide)) (g := (mkF m 17 #[.val (.ref a1), .val (.int p2), .val (.int (Int32.ofNat i0))] [(.int (Int32.ofNat cl.length)), (.int (Int32.ofNat i0)), (.int p2), (.ref t1)])) rfl (by rw [hml]; rfl) (argsL := [(.ref t1), (.int p2), (.int (Int32.ofNat i0)), (.int (Int32.ofNat cl.length))]) (rest := []) (lenOf pd___BIII_I_530 rfl) rfl (by show 2 * 0 + _ ≤ _; exact Nat.le_of_eq rfl) (hb hby d17_17) (fun _ _ => ⟨rfl, e3, (by decide : 0 + 0 ≤ _), (by decide : 0 + 0 ≤ _)⟩)
  dsimp only [Pt.U, Pt.locs, Pt.cells, Pt.slots] at X4 l4 y4 z4 st4 hQ4
  subst l4 y4 z4
  obtain ⟨rfl, N4q, e4⟩ := hQ4
  have N4 := Fr.app N3 N4q
  obtain ⟨fs, hr, hrun, hended, hW, hsame⟩ := X4.leave (v := some (.int (own_ix cl p2 i0))) (fun h => by rw [Bd.returns] at h; cases h) (hlocks := Bd.notSynchronized)
  refine ⟨_, _, pre0 _ ?_, hrun, hended, _, _, rfl, ?_, ⟨_, rfl⟩, hW, hsame.mono (by decide) (by decide)⟩
  · show Steps p.tables e below (s₁.setTop (mkF m 0 #[.val (.ref a1), .val (.int p2), .val (.int (Int32.ofNat i0))] [])) _
    refine XS.aloadN X0.here hx rfl (hb hby d17_0) rfl rfl ?_
    show Steps p.tables e below (s₁.setTop (mkF m 1 #[.val (.ref a1), .val (.int p2), .val (.int (Int32.ofNat i0))] [(.ref a1)])) _
    refine st1.trans ?_
    show Steps p.tables e below (T1.setTop (mkF m 4 #[.val (.ref a1), .val (.int p2), .val (.int (Int32.ofNat i0))] [(.int (1 : Int32))])) _
    refine XS.ifNo X1.here hx rfl (hb hby d17_4) rfl ((if0 _ _).trans (feq (by decide : ¬ ((1 : Int32) = (0 : Int32)))).1) ?_
    show Steps p.tables e below (T1.setTop (mkF m 7 #[.val (.ref a1), .val (.int p2), .val (.int (Int32.ofNat i0))] [])) _
    refine XS.aloadN X1.here hx rfl (hb hby d17_7) rfl rfl ?_
    show Steps p.tables e below (T1.setTop (mkF m 8 #[.val (.ref a1), .val (.int p2), .val (.int (Int32.ofNat i0))] [(.ref a1)])) _
    refine st2 _ ?_
    show Steps p.tables e below (T2.setTop (mkF m 11 #[.val (.ref a1), .val (.int p2), .val (.int (Int32.ofNat i0))] [(.ref t1)])) _
    refine XS.iloadN X2.here hx rfl (hb hby d17_11) rfl ?_
    show Steps p.tables e below (T2.setTop (mkF m 12 #[.val (.ref a1), .val (.int p2), .val (.int (Int32.ofNat i0))] [(.int p2), (.ref t1)])) _
    refine XS.iloadN X2.here hx rfl (hb hby d17_12) rfl ?_
    show Steps p.tables e below (T2.setTop (mkF m 13 #[.val (.ref a1), .val (.int p2), .val (.int (Int32.ofNat i0))] [(.int (Int32.ofNat i0)), (.int p2), (.ref t1)])) _
    refine XS.aloadN X2.here hx rfl (hb hby d17_13) rfl rfl ?_
    show Steps p.tables e below (T2.setTop (mkF m 14 #[.val (.ref a1), .val (.int p2), .val (.int (Int32.ofNat i0))] [(.ref a1), (.int (Int32.ofNat i0)), (.int p2), (.ref t1)])) _
    refine st3.trans ?_
    show Steps p.tables e below (T3.setTop (mkF m 17 #[.val (.ref a1), .val (.int p2), .val (.int (Int32.ofNat i0))] [(.int (Int32.ofNat cl.length)), (.int (Int32.ofNat i0)), (.int p2), (.ref t1)])) _
    refine st4 _ ?_
    show Steps p.tables e below (T4.setTop (mkF m 20 #[.val (.ref a1), .val (.int p2), .val (.int (Int32.ofNat i0))] [(.int (own_ix cl p2 i0))])) _
    refine XS.goto X4.here hx rfl (pc0 := 20) (pc' := 36) rfl (hb hby d17_20) (by decide) (by decide) ?_
    show Steps p.tables e below (T4.setTop (mkF m 36 #[.val (.ref a1), .val (.int p2), .val (.int (Int32.ofNat i0))] [(.int (own_ix cl p2 i0))])) _
    exact retI X4 hx Bd.returns (hb hby d17_36) hr
  · show Q_rm_si Z a1 p2 t1 kb1 cl i0 cz h0 n0 _ T4.heap _
    rw [e4]
    exact ⟨rfl, N4, rfl⟩
theorem own_staK {Z : State} {h h' : Heap} {C n d : String} {v : Value} {ws : List Addr} (F : Sta Z h C n d v) (K : Keep h h' ws) (q : ∀ x ∈ ws, ∀ cell : Cell, h[x]? = some cell → cell.vm.isStatics = false) : Sta Z h' C n d v := by
  obtain ⟨cf, i, k, f, st, cell, h1, h2, h3, h4, h5, h6, r⟩ := F
  exact ⟨cf, i, k, f, st, cell, h1, h2, h3, h4, K.2.1 st cell h5 (fun m => by rw [q st m cell h5] at h6; cases h6), h6, r⟩
theorem own_decl {a0 : Array Value} {Z : State} {y : MethodName} {b : ByteArray} {ml : Nat} {r : Option FieldType} (w : (Cond.instanceMethod y).before a0 Z = true) (wc : (Cond.code y b ml r).before a0 Z = true) : (Cond.declares y).before a0 Z = true := by
  obtain ⟨m, meth, h1, h2, h3, -⟩ := Cond.instanceMethod_spec w
  obtain ⟨m2, c, q1, -, -, -, -, -, -, q9⟩ := Cond.code_spec h1 wc
  cases h2.symm.trans q1
  simp [Cond.before, Cond.holds, Cond.value, h1, h2, h3, q9]
theorem own_nf {a0 : Array Value} {Z : State} {C : String} {x y z : MethodName} (hc : z.cls = y.cls) (ws : (Cond.selects C x z).before a0 Z = true) : NotFace Z y := fun r0 h0 => by
  obtain ⟨c2, r2, m2, q1, q2, q3, q4, kP, hkP, hkPi⟩ := Cond.selects_spec ws
  have e1 := findClass_of_methodNamed h0
  have e2 := findClass_of_methodNamed q3
  rw [hc, e1] at e2
  exact ⟨kP, by rw [Option.some.inj e2]; exact hkP, hkPi⟩
theorem own_sm {a0 : Array Value} {Z : State} {C : String} {x y z : MethodName} (hc : z.cls = y.cls) (hn : y.cls ≠ "java/lang/invoke/MethodHandle" ∧ y.cls ≠ "java/lang/invoke/VarHandle") (w : (Cond.instanceMethod y).before a0 Z = true) (ws : (Cond.selects C x z).before a0 Z = true) : (Cond.sameMethod y.cls y.cls y.name y.desc).before a0 Z = true := by
  obtain ⟨m, meth, h1, h2, -, -⟩ := Cond.instanceMethod_spec w
  obtain ⟨kP, k1, k2⟩ := own_nf hc ws m h1
  have e1 := findClass_of_methodNamed h1
  have e2 := State.methodFound?_of_named h1 hn
  have h1' : Z.methodNamed? ⟨y.cls, y.name, y.desc⟩ = some m := h1
  simp [Cond.before, Cond.holds, Cond.value, h1', e1, e2, k1, k2]
theorem own_sub {i j : Nat} (hij : i ≤ j) (hj : j < 2147483648) : Int32.ofNat j - Int32.ofNat i = Int32.ofNat (j - i) := by
  apply Int32.toInt_inj.mp
  have h1 := c_isub (Int32.ofNat j) (Int32.ofNat i)
  have h2 := rng32 (Int32.ofNat j - Int32.ofNat i)
  rw [own_ti hj, own_ti (show i < 2147483648 by omega)] at h1
  rw [own_ti (show j - i < 2147483648 by omega)]
  omega
theorem own_add {i j : Nat} (hj : i + j < 2147483648) : Int32.ofNat i + Int32.ofNat j = Int32.ofNat (i + j) := by
  apply Int32.toInt_inj.mp
  have h1 := c_iadd (Int32.ofNat i) (Int32.ofNat j)
  have h2 := rng32 (Int32.ofNat i + Int32.ofNat j)
  rw [own_ti (show j < 2147483648 by omega), own_ti (show i < 2147483648 by omega)] at h1
  rw [own_ti hj]
  omega
theorem own_nlt {i j : Nat} (hij : i ≤ j) (hj : j < 2147483648) : ¬ Int32.ofNat j < Int32.ofNat i := fun q => by
  have := (own_lt hj (show i < 2147483648 by omega)).mp q
  omega
theorem own_ec {k : Nat} (hk : k ≤ 16) : ¬ (0 : Int32) < Int32.ofNat k - ((16 : Int32) >>> ((0 : Int32) &&& 31)) := by
  have e : ((16 : Int32) >>> ((0 : Int32) &&& 31)) = 16 := by decide
  rw [e, Int32.lt_iff_toInt_lt]
  have h1 := c_isub (Int32.ofNat k) 16
  have h2 := rng32 (Int32.ofNat k - 16)
  have e0 : (0 : Int32).toInt = 0 := by decide
  have e1 : (16 : Int32).toInt = 16 := by decide
  rw [own_ti (show k < 2147483648 by omega)] at h1
  omega
theorem own_ec1 {k : Nat} (hk : k + 1 ≤ 16) : ¬ (0 : Int32) < (Int32.ofNat k + (1 : Int32)) - ((16 : Int32) >>> ((0 : Int32) &&& 31)) := by
  rw [own_succ (by omega)]
  exact own_ec hk
theorem own_ec2 {k i j : Nat} (hij : i ≤ j) (hj : j < 2147483648) (hk : k + (j - i) ≤ 16) : ¬ (0 : Int32) < (Int32.ofNat k + (Int32.ofNat j - Int32.ofNat i)) - ((16 : Int32) >>> ((0 : Int32) &&& 31)) := by
  rw [own_sub hij hj, own_add (by omega)]
  exact own_ec hk
/-! a slice -/
def own_sl (cl : List Int32) (i j : Nat) : List Int32 := (cl.drop i).take (j - i)
theorem own_slL {cl : List Int32} {i j : Nat} (hj : j ≤ cl.length) : (own_sl cl i j).length = j - i := by simp [own_sl]; omega
theorem own_slP {cl : List Int32} (hp : ∀ c ∈ cl, ¬ c < 0 ∧ ¬ (255 : Int32) < c) (i j : Nat) : ∀ c ∈ own_sl cl i j, ¬ c < 0 ∧ ¬ (255 : Int32) < c := fun c hc => hp c (List.mem_of_mem_drop (List.mem_of_mem_take hc))
theorem own_slEq {cl : List Int32} {i j : Nat} (hij : i ≤ j) (hj : j ≤ cl.length) (hl : cl.length ≤ 4000) : own_by (own_sl cl i j) = (List.range (Int32.ofNat j - Int32.ofNat i).toNatClampNeg).map fun x => (own_by cl).getD ((Int32.ofNat i).toNatClampNeg + x) (.int 0) := by
  rw [own_sub hij (by omega), own_tn (by omega), own_tn (by omega)]
  apply List.ext_getElem
  · rw [own_byL, own_slL hj]; simp
  · intro k h1 h2
    have h3 : k < j - i := by simpa using h2
    have h4 : i + k < cl.length := by omega
    simp [own_by, own_sl, List.getD_eq_getElem?_getD, h4]
theorem own_cat0 {A U : List Value} {n k : Nat} {d : Value} (hn : A.length = n) : (A ++ List.replicate k d).take n ++ U ++ (A ++ List.replicate k d).drop (n + k) = A ++ U := by
  subst hn
  rw [List.take_left, List.drop_eq_nil_of_le (by simp), List.append_nil]
theorem own_byA (a b : List Int32) : own_by (a ++ b) = own_by a ++ own_by b := by simp [own_by]
theorem own_cat {ac cl : List Int32} {i j : Nat} (hij : i ≤ j) (hj : j ≤ cl.length) (hl : cl.length ≤ 4000) (ha : ac.length ≤ 4000) :
    ((own_by ac ++ List.replicate (j - i) (Value.int 0)).take (Int32.ofNat ac.length).toNatClampNeg ++ own_by (own_sl cl i j) ++ (own_by ac ++ List.replicate (j - i) (Value.int 0)).drop ((Int32.ofNat ac.length).toNatClampNeg + (Int32.ofNat j - Int32.ofNat i).toNatClampNeg)) = own_by (ac ++ own_sl cl i j) := by
  rw [own_sub hij (by omega), own_tn (by omega), own_tn (by omega), own_cat0 (own_byL ac), own_byA]
theorem own_cnt {ac cl : List Int32} {i j : Nat} (hij : i ≤ j) (hj : j ≤ cl.length) (hl : cl.length ≤ 4000) (ha : ac.length ≤ 4000) : Int32.ofNat ac.length + (Int32.ofNat j - Int32.ofNat i) = Int32.ofNat (ac ++ own_sl cl i j).length := by
  rw [own_sub hij (by omega), own_add (by omega), List.length_append, own_slL hj]
theorem own_narb (x : Int32) : nar .byte (x.toInt8.toInt32) = x.toInt8.toInt32 := by
  show (x.toInt8.toInt32).toInt8.toInt32 = _
  simp
theorem own_set {ac : List Int32} {x : Int32} : ((own_by ac ++ List.replicate 1 (Value.int 0)).set ac.length (Value.int (nar .byte (x.toInt8.toInt32)))) = own_by (ac ++ [x]) := by
  rw [own_narb, own_byA, List.set_append_right _ _ (by rw [own_byL]; exact Nat.le_refl _), own_byL, Nat.sub_self]
  rfl
theorem own_cnt1 {ac : List Int32} {x : Int32} (ha : ac.length ≤ 4000) : Int32.ofNat ac.length + (1 : Int32) = Int32.ofNat (ac ++ [x]).length := by rw [own_succ (by omega), List.length_append]; rfl
theorem own_s0 (x : Int32) : x - (0 : Int32) = x := by simp
theorem own_mn {n : Nat} (h : n < 16) : Int32.ofNat n - (0 : Int32) < (16 : Int32) - (0 : Int32) := by
  rw [own_s0, own_s0]
  exact (own_lt (show n < 2147483648 by omega) (show 16 < 2147483648 by omega)).mpr h
theorem own_ne16 {n : Nat} (h : n < 16) : ¬ Int32.ofNat n = (16 : Int32) := fun q => by
  have := congrArg Int32.toInt q
  rw [own_ti (show n < 2147483648 by omega)] at this
  have e1 : (16 : Int32).toInt = 16 := by decide
  omega
theorem own_cpEq {ac : List Int32} (h : ac.length < 16) : own_by ac = (List.range (Int32.ofNat ac.length - (0 : Int32)).toNatClampNeg).map fun x => (own_by ac).getD ((0 : Int32).toNatClampNeg + x) (.int 0) := by
  rw [own_s0, own_tn (by omega), show (0 : Int32).toNatClampNeg = 0 from rfl]
  apply List.ext_getElem
  · rw [own_byL]; simp
  · intro k h1 h2
    have h3 : k < ac.length := by simpa using h2
    simp [own_by, List.getD_eq_getElem?_getD, h3]
theorem own_cat1 {ac : List Int32} {d : Value} (h : ac.length < 16) : (([] ++ List.replicate ac.length d).take (0 : Int32).toNatClampNeg ++ own_by ac ++ ([] ++ List.replicate ac.length d).drop ((0 : Int32).toNatClampNeg + (Int32.ofNat ac.length - (0 : Int32)).toNatClampNeg)) = own_by ac := by
  rw [own_s0, own_tn (by omega), show (0 : Int32).toNatClampNeg = 0 from rfl, Nat.zero_add, List.take_zero, List.drop_eq_nil_of_le (by simp), List.append_nil, List.nil_append]

theorem pn_16 : plainName "java/lang/AbstractStringBuilder" = true := by first | (simp [plainName, overriddenIn]; done) | decide +kernel
theorem ef_rm_bi (m : MethodId) (x0 : Addr) (x1 : Int32) : entryFrame m #[(.ref x0), (.int x1)] 2 = mkF m 0 #[.val (.ref x0), .val (.int x1)] [] := by first | (simp [entryFrame, mkF, argsToLocals, Value.category]; done) | rfl
def Q_rm_bi (Z : State) (a1 : Addr) (cz : Int32) (h0 : Heap) (n0 : Nat) (v : Option Value) (h : Heap) (L : List Loc) : Prop := v = none ∧ Fr n0 L ∧ Keep h0 h [a1] ∧ ∃ (b : Addr) (k : ClassId), n0 ≤ b ∧ h0.size ≤ b ∧ Exa Z h a1 "java/lang/StringBuilder" ∧ Fld Z h a1 "java/lang/AbstractStringBuilder" "value" "[B" (.ref b) ∧ Fld Z h a1 "java/lang/AbstractStringBuilder" "coder" "B" (.int (0 : Int32)) ∧ Fld Z h a1 "java/lang/AbstractStringBuilder" "count" "I" (.int (Int32.ofNat ([] : List Int32).length)) ∧ Arv Z h b k .byte (16 : Int32) (own_by ([] : List Int32)) (.int 0)
theorem d16_0 : decode jdk_68_method_2_code 0 = .ok (.aload_n 0, 1) := by decide +kernel
theorem d16_1 : decode jdk_68_method_2_code 1 = .ok (.invokespecial 3, 3) := by decide +kernel
theorem d16_4 : decode jdk_68_method_2_code 4 = .ok (.getstatic 18, 3) := by decide +kernel
theorem d16_7 : decode jdk_68_method_2_code 7 = .ok (.ifCond .eq 18, 3) := by decide +kernel
theorem d16_10 : decode jdk_68_method_2_code 10 = .ok (.aload_n 0, 1) := by decide +kernel
theorem d16_11 : decode jdk_68_method_2_code 11 = .ok (.iload_n 1, 1) := by decide +kernel
theorem d16_12 : decode jdk_68_method_2_code 12 = .ok (.newarray .byte, 2) := by decide +kernel
theorem d16_14 : decode jdk_68_method_2_code 14 = .ok (.putfield 15, 3) := by decide +kernel
theorem d16_17 : decode jdk_68_method_2_code 17 = .ok (.aload_n 0, 1) := by decide +kernel
theorem d16_18 : decode jdk_68_method_2_code 18 = .ok (.iconst 0, 1) := by decide +kernel
theorem d16_19 : decode jdk_68_method_2_code 19 = .ok (.putfield 22, 3) := by decide +kernel
theorem d16_22 : decode jdk_68_method_2_code 22 = .ok (.goto 16, 3) := by decide +kernel
theorem d16_38 : decode jdk_68_method_2_code 38 = .ok (.return_, 1) := by decide +kernel
set_option maxRecDepth 65536 in
set_option maxHeartbeats 40000000 in
theorem rm_bi (l : Launch) (Z : State) (a0 : Array Value) (hw : ∀ d ∈ tables_1, d.before a0 Z = true) (ws : List Jvm.Cond) (a1 : Addr) (cz : Int32) (h0 : Heap) (n0 : Nat) (Z0 : n0 ≤ h0.size) (E_a1 : Exa Z h0 a1 "java/lang/StringBuilder") (F_value_a1 : Fld Z h0 a1 "java/lang/AbstractStringBuilder" "value" "[B" .null) (F_coder_a1 : Fld Z h0 a1 "java/lang/AbstractStringBuilder" "coder" "B" (.int (0 : Int32))) (F_count_a1 : Fld Z h0 a1 "java/lang/AbstractStringBuilder" "count" "I" (.int (0 : Int32))) (g_a1 : n0 ≤ a1) (S_CS : Sta Z h0 "java/lang/String" "COMPACT_STRINGS" "Z" (.int cz)) (hcs : ¬ cz = (0 : Int32)) :
    MetFree l (⟨"java/lang/AbstractStringBuilder", "<init>", "(I)V"⟩ : MethodName) (head1 (Jvm.Cond.code (⟨"java/lang/AbstractStringBuilder", "<init>", "(I)V"⟩ : MethodName) jdk_68_method_2_code 2 none :: ws) ({ frames := 1, cells := 1, slots := 16, locals := 12 } : Room)) (fun a U => a = #[(.ref a1), (.int (16 : Int32))] ∧ Z.Warmed39 U.vm ∧ U.heap = h0) (fun _ _ _ _ _ => True) (fun _ U o U' => ∃ v L, o = .returned v ∧ Q_rm_bi Z a1 cz h0 n0 v U'.heap L ∧ FrameEnd U o U' L ({ frames := 1, cells := 1, slots := 16, locals := 12 } : Room).cells ({ frames := 1, cells := 1, slots := 16, locals := 12 } : Room).slots) := by
  refine MetFree.of_bodySF (plainFor_of_name pn_16) hisR ?_
  intro p e s m args below meth c s₁ Bd hml0 hP hK
  obtain ⟨rfl, hZ, hh⟩ := hP
  have hx := Bd.exec
  have hby := Bd.bytes
  have hml : c.maxLocals = 2 := hml0
  have hown : s.vm.findClass "java/lang/AbstractStringBuilder" = some m.cls := findClass_of_methodNamed Bd.named
  have hnm := (name_of_methodNamed Bd.named Bd.method).1
  have X0 : Stand p l e ({ frames := 1, cells := 1, slots := 16, locals := 12 } : Room) s m #[(.ref a1), (.int (16 : Int32))] below meth c s₁ [] 0 0 := Stand.of_body Bd
  have e0 : s₁.heap = h0 := by rw [← hh, Bd.state]; rfl
  have N0 := Fr.nil n0
  have pre0 : ∀ t, Steps p.tables e below (s₁.setTop (mkF m 0 #[.val (.ref a1), .val (.int (16 : Int32))] [])) t → Steps p.tables e below (s₁.setTop (entryFrame m #[(.ref a1), (.int (16 : Int32))] 2)) t := fun t kt => castTop (ef_rm_bi m a1 (16 : Int32)) kt
  obtain ⟨T1, X1, e1, st1⟩ := initO X0 hx hZ hown (hw _ (List.mem_of_getElem? (i := 77) rfl)) (hw _ (List.mem_of_getElem? (i := 17) rfl)) (hw _ (List.mem_of_getElem? (i := 18) rfl)) e0 (g := (mkF m 1 #[.val (.ref a1), .val (.int (16 : Int32))] [(.ref a1)])) rfl (by rw [hml]; rfl) rfl (hb hby d16_1) (by decide) (W := 0) (by show 2 * 0 + _ ≤ _; exact Nat.le_of_eq rfl) (by decide)
  obtain ⟨T2, X2, e2, st2⟩ := getS2 X1 hx hZ hown (host := "") (Or.inl (hw _ (List.mem_of_getElem? (i := 78) rfl))) Via.refl e1 S_CS (g := (mkF m 4 #[.val (.ref a1), .val (.int (16 : Int32))] [])) rfl (hb hby d16_4)
  obtain ⟨T3, h3, k3, X3, e3, E3, A3, st3⟩ := newP X2 hx hZ (hw _ (List.mem_of_getElem? (i := 24) rfl)) e2 (g := (mkF m 12 #[.val (.ref a1), .val (.int (16 : Int32))] [(.int (16 : Int32)), (.ref a1)])) rfl (hb hby d16_12) rfl (by decide) (cap := 16) (by decide) (by decide) (by decide) (by decide)
  obtain ⟨b3, g3⟩ : ∃ z, z = h0.size := ⟨_, rfl⟩
  rw [← g3] at A3 st3
  have sz_b3 : h0.size ≤ b3 := Nat.le_trans (Keep.refl h0 [a1]).1 (Nat.le_of_eq g3.symm)
  have ne_a1_b3 : a1 ≠ b3 := Nat.ne_of_lt (Nat.lt_of_lt_of_le E_a1.lt (Nat.le_of_eq g3.symm))
  have f1 : Sta Z h3 "java/lang/String" "COMPACT_STRINGS" "Z" (.int cz) := S_CS.ext E3
  have f2 : Exa Z h3 a1 "java/lang/StringBuilder" := E_a1.ext E3
  have f3 : Fld Z h3 a1 "java/lang/AbstractStringBuilder" "value" "[B" .null := F_value_a1.ext E3
  have f4 : Fld Z h3 a1 "java/lang/AbstractStringBuilder" "coder" "B" (.int (0 : Int32)) := F_coder_a1.ext E3
  have f5 : Fld Z h3 a1 "java/lang/AbstractStringBuilder" "count" "I" (.int (0 : Int32)) := F_count_a1.ext E3
  have f6 : n0 ≤ a1 := g_a1
  have f7 : Keep h0 h3 [a1] := (Keep.refl h0 [a1]).ext E3
  have g_b3 : n0 ≤ b3 := Nat.le_trans Z0 (Nat.le_of_eq g3.symm)
  have Z3 : n0 ≤ h3.size := Nat.le_trans Z0 E3.1
  have V_b3 : Arv Z h3 b3 k3 .byte (16 : Int32) [(.int (0 : Int32)), (.int (0 : Int32)), (.int (0 : Int32)), (.int (0 : Int32)), (.int (0 : Int32)), (.int (0 : Int32)), (.int (0 : Int32)), (.int (0 : Int32)), (.int (0 : Int32)), (.int (0 : Int32)), (.int (0 : Int32)), (.int (0 : Int32)), (.int (0 : Int32)), (.int (0 : Int32)), (.int (0 : Int32)), (.int (0 : Int32))] (.int (0 : Int32)) := (Arv.new A3 (by decide)).pad (pad_rep [] (.int (0 : Int32)) 16)
  obtain ⟨T4, h4, X4, e4, W4, st4⟩ := putF X3 hx hZ hown (host := "") (Or.inl (hw _ (List.mem_of_getElem? (i := 79) rfl))) Via.refl e3 f3 f2 (Or.inl (hw _ (List.mem_of_getElem? (i := 80) rfl))) (hw _ (List.mem_of_getElem? (i := 66) rfl)) (ty := (.array .byte)) (by decide) rfl rfl (g := (mkF m 14 #[.val (.ref a1), .val (.int (16 : Int32))] [(.ref b3), (.ref a1)])) rfl rfl (hb hby d16_14)
  have f8 : Sta Z h4 "java/lang/String" "COMPACT_STRINGS" "Z" (.int cz) := f1.wr W4
  have f9 : Exa Z h4 a1 "java/lang/StringBuilder" := f2.wr W4
  have f10 : Fld Z h4 a1 "java/lang/AbstractStringBuilder" "value" "[B" (.ref b3) := f3.same W4
  have f11 : Fld Z h4 a1 "java/lang/AbstractStringBuilder" "coder" "B" (.int (0 : Int32)) := f4.other W4 (Or.inr (slot_ne (Or.inl (hw _ (List.mem_of_getElem? (i := 82) rfl))) (Or.inl (hw _ (List.mem_of_getElem? (i := 80) rfl))) (by decide) (t := .byte) (t' := (.array .byte)) (by decide) (by decide)))
  have f12 : Fld Z h4 a1 "java/lang/AbstractStringBuilder" "count" "I" (.int (0 : Int32)) := f5.other W4 (Or.inr (slot_ne (Or.inl (hw _ (List.mem_of_getElem? (i := 137) rfl))) (Or.inl (hw _ (List.mem_of_getElem? (i := 80) rfl))) (by decide) (t := .int) (t' := (.array .byte)) (by decide) (by decide)))
  have f13 : n0 ≤ a1 := f6
  have f14 : Keep h0 h4 [a1] := f7.wr W4 (Or.inl (by simp))
  have f15 : n0 ≤ b3 := g_b3
  have f16 : Arv Z h4 b3 k3 .byte (16 : Int32) [(.int (0 : Int32)), (.int (0 : Int32)), (.int (0 : Int32)), (.int (0 : Int32)), (.int (0 : Int32)), (.int (0 : Int32)), (.int (0 : Int32)), (.int (0 : Int32)), (.int (0 : Int32)), (.int (0 : Int32)), (.int (0 : Int32)), (.int (0 : Int32)), (.int (0 : Int32)), (.int (0 : Int32)), (.int (0 : Int32)), (.int (0 : Int32))] (.int (0 : Int32)) := V_b3.other W4 (Ne.symm ne_a1_b3)
  have N4 := Fr.snoc X4 N0 f13
  have Z4 : n0 ≤ h4.size := by rw [W4.size]; exact Z3
  obtain ⟨T5, h5, X5, e5, W5, st5⟩ := putFN X4 hx hZ hown (hw _ (List.mem_of_getElem? (i := 81) rfl)) Via.refl e4 f11 f9 (Or.inl (hw _ (List.mem_of_getElem? (i := 82) rfl))) (hw _ (List.mem_of_getElem? (i := 66) rfl)) (ty := .byte) (v' := (.int (nar .byte (0 : Int32)))) (by decide) rfl (fits_nar_byte _) (g := (mkF m 19 #[.val (.ref a1), .val (.int (16 : Int32))] [(.int (0 : Int32)), (.ref a1)])) rfl rfl (hb hby d16_19)
  have f17 : Sta Z h5 "java/lang/String" "COMPACT_STRINGS" "Z" (.int cz) := f8.wr W5
  have f18 : Exa Z h5 a1 "java/lang/StringBuilder" := f9.wr W5
  have f19 : Fld Z h5 a1 "java/lang/AbstractStringBuilder" "value" "[B" (.ref b3) := f10.other W5 (Or.inr (slot_ne (Or.inl (hw _ (List.mem_of_getElem? (i := 80) rfl))) (Or.inl (hw _ (List.mem_of_getElem? (i := 82) rfl))) (by decide) (t := (.array .byte)) (t' := .byte) (by decide) (by decide)))
  have f20 : Fld Z h5 a1 "java/lang/AbstractStringBuilder" "coder" "B" (.int (nar .byte (0 : Int32))) := f11.same W5
  have f21 : Fld Z h5 a1 "java/lang/AbstractStringBuilder" "count" "I" (.int (0 : Int32)) := f12.other W5 (Or.inr (slot_ne (Or.inl (hw _ (List.mem_of_getElem? (i := 137) rfl))) (Or.inl (hw _ (List.mem_of_getElem? (i := 82) rfl))) (by decide) (t := .int) (t' := .byte) (by decide) (by decide)))
  have f22 : n0 ≤ a1 := f13
  have f23 : Keep h0 h5 [a1] := f14.wr W5 (Or.inl (by simp))
  have f24 : n0 ≤ b3 := f15
  have f25 : Arv Z h5 b3 k3 .byte (16 : Int32) [(.int (0 : Int32)), (.int (0 : Int32)), (.int (0 : Int32)), (.int (0 : Int32)), (.int (0 : Int32)), (.int (0 : Int32)), (.int (0 : Int32)), (.int (0 : Int32)), (.int (0 : Int32)), (.int (0 : Int32)), (.int (0 : Int32)), (.int (0 : Int32)), (.int (0 : Int32)), (.int (0 : Int32)), (.int (0 : Int32)), (.int (0 : Int32))] (.int (0 : Int32)) := f16.other W5 (Ne.symm ne_a1_b3)
  have N5 := Fr.snoc X5 N4 f22
  have Z5 : n0 ≤ h5.size := by rw [W5.size]; exact Z4
  obtain ⟨fs, hr, hrun, hended, hW, hsame⟩ := X5.leave (v := none) (fun _ => rfl) (hlocks := Bd.notSynchronized)
  refine ⟨_, _, pre0 _ ?_, hrun, hended, _, _, rfl, ?_, ⟨_, rfl⟩, hW, hsame.mono (by decide) (by decide)⟩
  · show Steps p.tables e below (s₁.setTop (mkF m 0 #[.val (.ref a1), .val (.int (16 : Int32))] [])) _
    refine XS.aloadN X0.here hx rfl (hb hby d16_0) rfl rfl ?_
    show Steps p.tables e below (s₁.setTop (mkF m 1 #[.val (.ref a1), .val (.int (16 : Int32))] [(.ref a1)])) _
    refine st1 _ ?_
    show Steps p.tables e below (T1.setTop (mkF m 4 #[.val (.ref a1), .val (.int (16 : Int32))] [])) _
    refine st2 _ ?_
    show Steps p.tables e below (T2.setTop (mkF m 7 #[.val (.ref a1), .val (.int (16 : Int32))] [(.int cz)])) _
    refine XS.ifNo X2.here hx rfl (hb hby d16_7) rfl ((if0 _ _).trans (feq hcs).1) ?_
    show Steps p.tables e below (T2.setTop (mkF m 10 #[.val (.ref a1), .val (.int (16 : Int32))] [])) _
    refine XS.aloadN X2.here hx rfl (hb hby d16_10) rfl rfl ?_
    show Steps p.tables e below (T2.setTop (mkF m 11 #[.val (.ref a1), .val (.int (16 : Int32))] [(.ref a1)])) _
    refine XS.iloadN X2.here hx rfl (hb hby d16_11) rfl ?_
    show Steps p.tables e below (T2.setTop (mkF m 12 #[.val (.ref a1), .val (.int (16 : Int32))] [(.int (16 : Int32)), (.ref a1)])) _
    refine st3 _ ?_
    show Steps p.tables e below (T3.setTop (mkF m 14 #[.val (.ref a1), .val (.int (16 : Int32))] [(.ref b3), (.ref a1)])) _
    refine st4 _ ?_
    show Steps p.tables e below (T4.setTop (mkF m 17 #[.val (.ref a1), .val (.int (16 : Int32))] [])) _
    refine XS.aloadN X4.here hx rfl (hb hby d16_17) rfl rfl ?_
    show Steps p.tables e below (T4.setTop (mkF m 18 #[.val (.ref a1), .val (.int (16 : Int32))] [(.ref a1)])) _
    refine XS.iconst X4.here hx rfl (hb hby d16_18) ?_
    show Steps p.tables e below (T4.setTop (mkF m 19 #[.val (.ref a1), .val (.int (16 : Int32))] [(.int (0 : Int32)), (.ref a1)])) _
    refine st5 _ ?_
    show Steps p.tables e below (T5.setTop (mkF m 22 #[.val (.ref a1), .val (.int (16 : Int32))] [])) _
    refine XS.goto X5.here hx rfl (pc0 := 22) (pc' := 38) rfl (hb hby d16_22) (by decide) (by decide) ?_
    show Steps p.tables e below (T5.setTop (mkF m 38 #[.val (.ref a1), .val (.int (16 : Int32))] [])) _
    exact X5.returnOut hx Bd.returns (hb hby d16_38) hr
  · show Q_rm_bi Z a1 cz h0 n0 _ T5.heap _
    rw [e5]
    exact ⟨rfl, N5, f23, b3, _, f24, sz_b3, f18, f19, f20, f21, f25.pad (fun i => (pad_rep [] (.int (0 : Int32)) 16 i).symm)⟩
theorem pn_15 : plainName "java/lang/StringBuilder" = true := by first | (simp [plainName, overriddenIn]; done) | decide +kernel
theorem ef_rm_bs (m : MethodId) (x0 : Addr) : entryFrame m #[(.ref x0)] 1 = mkF m 0 #[.val (.ref x0)] [] := by first | (simp [entryFrame, mkF, argsToLocals, Value.category]; done) | rfl
def Q_rm_bs (Z : State) (a1 : Addr) (cz : Int32) (h0 : Heap) (n0 : Nat) (v : Option Value) (h : Heap) (L : List Loc) : Prop := v = none ∧ Fr n0 L ∧ Keep h0 h [a1] ∧ ∃ (b : Addr) (k : ClassId), n0 ≤ b ∧ h0.size ≤ b ∧ Exa Z h a1 "java/lang/StringBuilder" ∧ Fld Z h a1 "java/lang/AbstractStringBuilder" "value" "[B" (.ref b) ∧ Fld Z h a1 "java/lang/AbstractStringBuilder" "coder" "B" (.int (0 : Int32)) ∧ Fld Z h a1 "java/lang/AbstractStringBuilder" "count" "I" (.int (Int32.ofNat ([] : List Int32).length)) ∧ Arv Z h b k .byte (16 : Int32) (own_by ([] : List Int32)) (.int 0)
theorem d15_0 : decode jdk_67_method_1_code 0 = .ok (.aload_n 0, 1) := by decide +kernel
theorem d15_1 : decode jdk_67_method_1_code 1 = .ok (.bipush 16, 2) := by decide +kernel
theorem pd__I_V_240 : parseMethodDescriptor "(I)V" = some ⟨[.int], none⟩ := by decide +kernel
theorem d15_3 : decode jdk_67_method_1_code 3 = .ok (.invokespecial 1, 3) := by decide +kernel
theorem d15_6 : decode jdk_67_method_1_code 6 = .ok (.return_, 1) := by decide +kernel
set_option maxRecDepth 65536 in
set_option maxHeartbeats 40000000 in
theorem rm_bs (l : Launch) (Z : State) (a0 : Array Value) (hw : ∀ d ∈ tables_1, d.before a0 Z = true) (ws : List Jvm.Cond) (a1 : Addr) (cz : Int32) (h0 : Heap) (n0 : Nat) (Z0 : n0 ≤ h0.size) (E_a1 : Exa Z h0 a1 "java/lang/StringBuilder") (F_value_a1 : Fld Z h0 a1 "java/lang/AbstractStringBuilder" "value" "[B" .null) (F_coder_a1 : Fld Z h0 a1 "java/lang/AbstractStringBuilder" "coder" "B" (.int (0 : Int32))) (F_count_a1 : Fld Z h0 a1 "java/lang/AbstractStringBuilder" "count" "I" (.int (0 : Int32))) (g_a1 : n0 ≤ a1) (S_CS : Sta Z h0 "java/lang/String" "COMPACT_STRINGS" "Z" (.int cz)) (hcs : ¬ cz = (0 : Int32)) :
    MetFree l (⟨"java/lang/StringBuilder", "<init>", "()V"⟩ : MethodName) (head1 (Jvm.Cond.code (⟨"java/lang/StringBuilder", "<init>", "()V"⟩ : MethodName) jdk_67_method_1_code 1 none :: ws) ({ frames := 2, cells := 1, slots := 16, locals := 25 } : Room)) (fun a U => a = #[(.ref a1)] ∧ Z.Warmed39 U.vm ∧ U.heap = h0) (fun _ _ _ _ _ => True) (fun _ U o U' => ∃ v L, o = .returned v ∧ Q_rm_bs Z a1 cz h0 n0 v U'.heap L ∧ FrameEnd U o U' L ({ frames := 2, cells := 1, slots := 16, locals := 25 } : Room).cells ({ frames := 2, cells := 1, slots := 16, locals := 25 } : Room).slots) := by
  refine MetFree.of_bodySF (plainFor_of_name pn_15) hisR ?_
  intro p e s m args below meth c s₁ Bd hml0 hP hK
  obtain ⟨rfl, hZ, hh⟩ := hP
  have hx := Bd.exec
  have hby := Bd.bytes
  have hml : c.maxLocals = 1 := hml0
  have hown : s.vm.findClass "java/lang/StringBuilder" = some m.cls := findClass_of_methodNamed Bd.named
  have hnm := (name_of_methodNamed Bd.named Bd.method).1
  have X0 : Stand p l e ({ frames := 2, cells := 1, slots := 16, locals := 25 } : Room) s m #[(.ref a1)] below meth c s₁ [] 0 0 := Stand.of_body Bd
  have e0 : s₁.heap = h0 := by rw [← hh, Bd.state]; rfl
  have N0 := Fr.nil n0
  have pre0 : ∀ t, Steps p.tables e below (s₁.setTop (mkF m 0 #[.val (.ref a1)] [])) t → Steps p.tables e below (s₁.setTop (entryFrame m #[(.ref a1)] 1)) t := fun t kt => castTop (ef_rm_bs m a1) kt
  obtain ⟨_, _, ⟨T1, L1, k1, n1⟩, -, X1, ⟨Lc1, hQ1, l1, y1, z1⟩, st1⟩ := X0.specialBack hx (y := (⟨"java/lang/AbstractStringBuilder", "<init>", "(I)V"⟩ : MethodName)) rfl hown (mvT hZ (hw _ (List.mem_of_getElem? (i := 71) rfl))) (mvT hZ (hw _ (List.mem_of_getElem? (i := 72) rfl))) (mvT hZ (hw _ (List.mem_of_getElem? (i := 76) rfl))) (by decide) (backOf (W := 0) (rm_bi l Z a0 hw [] a1 cz h0 n0 Z0 E_a1 F_value_a1 F_coder_a1 F_count_a1 g_a1 S_CS hcs) hZ (hw _ (List.mem_of_getElem? (i := 76) rfl)) (hw _ (List.mem_of_getElem? (i := 75) rfl)) (by decide) (by decide)) (g := (mkF m 3 #[.val (.ref a1)] [(.int (16 : Int32)), (.ref a1)])) rfl (by rw [hml]; rfl) (Steps.refl _) (a := a1) (argsL := [(.int (16 : Int32))]) (rest := []) (lenOf pd__I_V_240 rfl) rfl (by show 2 * 0 + _ ≤ _; exact Nat.le_of_eq rfl) (hb hby d15_3) (fun _ _ => ⟨rfl, e0, (by decide : 0 + 1 ≤ _), (by decide : 0 + 16 ≤ _)⟩)
  dsimp only [Pt.U, Pt.locs, Pt.cells, Pt.slots] at X1 l1 y1 z1 st1 hQ1
  subst l1 y1 z1
  obtain ⟨rfl, N1q, K1, vb1, kv1, gg1_vb1, zz1_vb1, fk1_0, fk1_1, fk1_2, fk1_3, fk1_4⟩ := hQ1
  have f1 : Sta Z T1.heap "java/lang/String" "COMPACT_STRINGS" "Z" (.int cz) := own_staK S_CS K1 (nsS E_a1.nostat ns0)
  have f2 : n0 ≤ a1 := g_a1
  have f3 : Keep h0 T1.heap [a1] := (Keep.refl h0 [a1]).trans K1 (fun x hx => by cases List.mem_singleton.mp hx; exact Or.inl (by simp))
  have Z1 : n0 ≤ T1.heap.size := Nat.le_trans Z0 K1.1
  have ne_a1_vb1 : a1 ≠ vb1 := Nat.ne_of_lt (Nat.lt_of_lt_of_le F_count_a1.lt zz1_vb1)
  have sz_vb1 : h0.size ≤ vb1 := Nat.le_trans (Keep.refl h0 [a1]).1 zz1_vb1
  have N1 := Fr.app N0 N1q
  obtain ⟨fs, hr, hrun, hended, hW, hsame⟩ := X1.leave (v := none) (fun _ => rfl) (hlocks := Bd.notSynchronized)
  refine ⟨_, _, pre0 _ ?_, hrun, hended, _, _, rfl, ?_, ⟨_, rfl⟩, hW, hsame.mono (by decide) (by decide)⟩
  · show Steps p.tables e below (s₁.setTop (mkF m 0 #[.val (.ref a1)] [])) _
    refine XS.aloadN X0.here hx rfl (hb hby d15_0) rfl rfl ?_
    show Steps p.tables e below (s₁.setTop (mkF m 1 #[.val (.ref a1)] [(.ref a1)])) _
    refine XS.bipush X0.here hx rfl (hb hby d15_1) ?_
    show Steps p.tables e below (s₁.setTop (mkF m 3 #[.val (.ref a1)] [(.int (16 : Int32)), (.ref a1)])) _
    refine st1.trans ?_
    show Steps p.tables e below (T1.setTop (mkF m 6 #[.val (.ref a1)] [])) _
    exact X1.returnOut hx Bd.returns (hb hby d15_6) hr
  · show Q_rm_bs Z a1 cz h0 n0 _ T1.heap _
    exact ⟨rfl, N1, f3, vb1, kv1, gg1_vb1, sz_vb1, fk1_0, fk1_1, fk1_2, fk1_3, fk1_4⟩
theorem pn_28 : plainName "java/lang/AbstractStringBuilder" = true := by first | (simp [plainName, overriddenIn]; done) | decide +kernel
theorem ef_rm_ec (m : MethodId) (x0 : Addr) (x1 : Int32) : entryFrame m #[(.ref x0), (.int x1)] 3 = mkF m 0 #[.val (.ref x0), .val (.int x1), .unset] [] := by first | (simp [entryFrame, mkF, argsToLocals, Value.category]; done) | rfl
def Q_rm_ec (Z : State) (a1 : Addr) (p2 : Int32) (b1 : Addr) (k1 : ClassId) (ac : List Int32) (h0 : Heap) (n0 : Nat) (v : Option Value) (h : Heap) (L : List Loc) : Prop := v = none ∧ Fr n0 L ∧ h = h0
theorem d28_0 : decode jdk_68_method_9_code 0 = .ok (.aload_n 0, 1) := by decide +kernel
theorem d28_1 : decode jdk_68_method_9_code 1 = .ok (.getfield 15, 3) := by decide +kernel
theorem d28_4 : decode jdk_68_method_9_code 4 = .ok (.arraylength, 1) := by decide +kernel
theorem d28_5 : decode jdk_68_method_9_code 5 = .ok (.aload_n 0, 1) := by decide +kernel
theorem d28_6 : decode jdk_68_method_9_code 6 = .ok (.getfield 22, 3) := by decide +kernel
theorem d28_9 : decode jdk_68_method_9_code 9 = .ok (.ishr, 1) := by decide +kernel
theorem d28_10 : decode jdk_68_method_9_code 10 = .ok (.istore_n 2, 1) := by decide +kernel
theorem d28_11 : decode jdk_68_method_9_code 11 = .ok (.iload_n 1, 1) := by decide +kernel
theorem d28_12 : decode jdk_68_method_9_code 12 = .ok (.iload_n 2, 1) := by decide +kernel
theorem d28_13 : decode jdk_68_method_9_code 13 = .ok (.isub, 1) := by decide +kernel
theorem d28_14 : decode jdk_68_method_9_code 14 = .ok (.ifCond .le 24, 3) := by decide +kernel
theorem d28_38 : decode jdk_68_method_9_code 38 = .ok (.return_, 1) := by decide +kernel
set_option maxRecDepth 65536 in
set_option maxHeartbeats 40000000 in
theorem rm_ec (l : Launch) (Z : State) (a0 : Array Value) (hw : ∀ d ∈ tables_1, d.before a0 Z = true) (ws : List Jvm.Cond) (a1 : Addr) (p2 : Int32) (b1 : Addr) (k1 : ClassId) (ac : List Int32) (h0 : Heap) (n0 : Nat) (Z0 : n0 ≤ h0.size) (E_a1 : Exa Z h0 a1 "java/lang/StringBuilder") (F_value_a1 : Fld Z h0 a1 "java/lang/AbstractStringBuilder" "value" "[B" (.ref b1)) (F_coder_a1 : Fld Z h0 a1 "java/lang/AbstractStringBuilder" "coder" "B" (.int (0 : Int32))) (F_count_a1 : Fld Z h0 a1 "java/lang/AbstractStringBuilder" "count" "I" (.int (Int32.ofNat ac.length))) (V_b1 : Arv Z h0 b1 k1 .byte (16 : Int32) (own_by ac) (.int 0)) (hk : ¬ (0 : Int32) < p2 - ((16 : Int32) >>> ((0 : Int32) &&& 31))) :
    MetFree l (⟨"java/lang/AbstractStringBuilder", "ensureCapacityInternal", "(I)V"⟩ : MethodName) (head1 (Jvm.Cond.code (⟨"java/lang/AbstractStringBuilder", "ensureCapacityInternal", "(I)V"⟩ : MethodName) jdk_68_method_9_code 3 none :: ws) ({ frames := 0, cells := 0, slots := 0, locals := 0 } : Room)) (fun a U => a = #[(.ref a1), (.int p2)] ∧ Z.Warmed39 U.vm ∧ U.heap = h0) (fun _ _ _ _ _ => True) (fun _ U o U' => ∃ v L, o = .returned v ∧ Q_rm_ec Z a1 p2 b1 k1 ac h0 n0 v U'.heap L ∧ FrameEnd U o U' L ({ frames := 0, cells := 0, slots := 0, locals := 0 } : Room).cells ({ frames := 0, cells := 0, slots := 0, locals := 0 } : Room).slots) := by
  refine MetFree.of_bodySF (plainFor_of_name pn_28) hisR ?_
  intro p e s m args below meth c s₁ Bd hml0 hP hK
  obtain ⟨rfl, hZ, hh⟩ := hP
  have hx := Bd.exec
  have hby := Bd.bytes
  have hml : c.maxLocals = 3 := hml0
  have hown : s.vm.findClass "java/lang/AbstractStringBuilder" = some m.cls := findClass_of_methodNamed Bd.named
  have hnm := (name_of_methodNamed Bd.named Bd.method).1
  have X0 : Stand p l e ({ frames := 0, cells := 0, slots := 0, locals := 0 } : Room) s m #[(.ref a1), (.int p2)] below meth c s₁ [] 0 0 := Stand.of_body Bd
  have e0 : s₁.heap = h0 := by rw [← hh, Bd.state]; rfl
  have N0 := Fr.nil n0
  have pre0 : ∀ t, Steps p.tables e below (s₁.setTop (mkF m 0 #[.val (.ref a1), .val (.int p2), .unset] [])) t → Steps p.tables e below (s₁.setTop (entryFrame m #[(.ref a1), (.int p2)] 3)) t := fun t kt => castTop (ef_rm_ec m a1 p2) kt
  have ne_a1_b1 : a1 ≠ b1 := by
    obtain ⟨cA, AA, -⟩ := id V_b1
    exact ne_arr E_a1 (hw _ (List.mem_of_getElem? (i := 66) rfl)) AA
  obtain ⟨T1, X1, e1, st1⟩ := getF X0 hx hZ hown (host := "") (Or.inl (hw _ (List.mem_of_getElem? (i := 79) rfl))) Via.refl e0 F_value_a1 (g := (mkF m 1 #[.val (.ref a1), .val (.int p2), .unset] [(.ref a1)])) rfl rfl (hb hby d28_1)
  obtain ⟨cl2, Ar2, aq2, aS2, aN2, aH2, aG2⟩ := id V_b1
  obtain ⟨T3, X3, e3, st3⟩ := getF X1 hx hZ hown (host := "") (Or.inl (hw _ (List.mem_of_getElem? (i := 81) rfl))) Via.refl e1 F_coder_a1 (g := (mkF m 6 #[.val (.ref a1), .val (.int p2), .unset] [(.ref a1), (.int (16 : Int32))])) rfl rfl (hb hby d28_6)
  obtain ⟨fs, hr, hrun, hended, hW, hsame⟩ := X3.leave (v := none) (fun _ => rfl) (hlocks := Bd.notSynchronized)
  refine ⟨_, _, pre0 _ ?_, hrun, hended, _, _, rfl, ?_, ⟨_, rfl⟩, hW, hsame.mono (by decide) (by decide)⟩
  · show Steps p.tables e below (s₁.setTop (mkF m 0 #[.val (.ref a1), .val (.int p2), .unset] [])) _
    refine XS.aloadN X0.here hx rfl (hb hby d28_0) rfl rfl ?_
    show Steps p.tables e below (s₁.setTop (mkF m 1 #[.val (.ref a1), .val (.int p2), .unset] [(.ref a1)])) _
    refine st1 _ ?_
    show Steps p.tables e below (T1.setTop (mkF m 4 #[.val (.ref a1), .val (.int p2), .unset] [(.ref b1)])) _
    refine X1.arraylength hx (by rw [e1]; exact Ar2.1) (State.isArrayOf_alike hZ.alike Ar2.2.1) (g := (mkF m 4 #[.val (.ref a1), .val (.int p2), .unset] [(.ref b1)])) rfl rfl (hb hby d28_4) _ ?_
    rw [len_of aS2 aN2]
    show Steps p.tables e below (T1.setTop (mkF m 5 #[.val (.ref a1), .val (.int p2), .unset] [(.int (16 : Int32))])) _
    refine XS.aloadN X1.here hx rfl (hb hby d28_5) rfl rfl ?_
    show Steps p.tables e below (T1.setTop (mkF m 6 #[.val (.ref a1), .val (.int p2), .unset] [(.ref a1), (.int (16 : Int32))])) _
    refine st3 _ ?_
    show Steps p.tables e below (T3.setTop (mkF m 9 #[.val (.ref a1), .val (.int p2), .unset] [(.int (0 : Int32)), (.int (16 : Int32))])) _
    refine XS.ishr X3.here hx rfl (hb hby d28_9) rfl ?_
    show Steps p.tables e below (T3.setTop (mkF m 10 #[.val (.ref a1), .val (.int p2), .unset] [(.int ((16 : Int32) >>> ((0 : Int32) &&& 31)))])) _
    refine XS.istoreN X3.here hx rfl (hb hby d28_10) rfl (l' := #[.val (.ref a1), .val (.int p2), .val (.int ((16 : Int32) >>> ((0 : Int32) &&& 31)))]) rfl ?_
    show Steps p.tables e below (T3.setTop (mkF m 11 #[.val (.ref a1), .val (.int p2), .val (.int ((16 : Int32) >>> ((0 : Int32) &&& 31)))] [])) _
    refine XS.iloadN X3.here hx rfl (hb hby d28_11) rfl ?_
    show Steps p.tables e below (T3.setTop (mkF m 12 #[.val (.ref a1), .val (.int p2), .val (.int ((16 : Int32) >>> ((0 : Int32) &&& 31)))] [(.int p2)])) _
    refine XS.iloadN X3.here hx rfl (hb hby d28_12) rfl ?_
    show Steps p.tables e below (T3.setTop (mkF m 13 #[.val (.ref a1), .val (.int p2), .val (.int ((16 : Int32) >>> ((0 : Int32) &&& 31)))] [(.int ((16 : Int32) >>> ((0 : Int32) &&& 31))), (.int p2)])) _
    refine XS.isub X3.here hx rfl (hb hby d28_13) rfl ?_
    show Steps p.tables e below (T3.setTop (mkF m 14 #[.val (.ref a1), .val (.int p2), .val (.int ((16 : Int32) >>> ((0 : Int32) &&& 31)))] [(.int (p2 - ((16 : Int32) >>> ((0 : Int32) &&& 31))))])) _
    refine XS.ifYes X3.here hx rfl (pc0 := 14) (pc' := 38) rfl (hb hby d28_14) rfl ((if0 _ _).trans (flt hk).2.2.2) (by decide) (by decide) ?_
    show Steps p.tables e below (T3.setTop (mkF m 38 #[.val (.ref a1), .val (.int p2), .val (.int ((16 : Int32) >>> ((0 : Int32) &&& 31)))] [])) _
    exact X3.returnOut hx Bd.returns (hb hby d28_38) hr
  · show Q_rm_ec Z a1 p2 b1 k1 ac h0 n0 _ T3.heap _
    rw [e3]
    exact ⟨rfl, N0, rfl⟩
theorem pn_27 : plainName "jdk/internal/util/Preconditions" = true := by first | (simp [plainName, overriddenIn]; done) | decide +kernel
theorem ef_rm_ft (m : MethodId) (x0 : Int32) (x1 : Int32) (x2 : Int32) (x3 : Value) (hv3 : x3.isRef = true) : entryFrame m #[(.int x0), (.int x1), (.int x2), x3] 4 = mkF m 0 #[.val (.int x0), .val (.int x1), .val (.int x2), .val x3] [] := by
  cases x3 <;> simp [Value.isRef] at hv3
  all_goals first | (simp [entryFrame, mkF, argsToLocals, Value.category]; done) | rfl
def Q_rm_ft (Z : State) (i j n : Nat) (fi : Value) (h0 : Heap) (n0 : Nat) (v : Option Value) (h : Heap) (L : List Loc) : Prop := v = some (.int (Int32.ofNat i)) ∧ Fr n0 L ∧ h = h0
theorem d27_0 : decode jdk_41_method_12_code 0 = .ok (.iload_n 0, 1) := by decide +kernel
theorem d27_1 : decode jdk_41_method_12_code 1 = .ok (.ifCond .lt 13, 3) := by decide +kernel
theorem d27_4 : decode jdk_41_method_12_code 4 = .ok (.iload_n 0, 1) := by decide +kernel
theorem d27_5 : decode jdk_41_method_12_code 5 = .ok (.iload_n 1, 1) := by decide +kernel
theorem d27_6 : decode jdk_41_method_12_code 6 = .ok (.if_icmp .gt 8, 3) := by decide +kernel
theorem d27_9 : decode jdk_41_method_12_code 9 = .ok (.iload_n 1, 1) := by decide +kernel
theorem d27_10 : decode jdk_41_method_12_code 10 = .ok (.iload_n 2, 1) := by decide +kernel
theorem d27_11 : decode jdk_41_method_12_code 11 = .ok (.if_icmp .le 11, 3) := by decide +kernel
theorem d27_22 : decode jdk_41_method_12_code 22 = .ok (.iload_n 0, 1) := by decide +kernel
theorem d27_23 : decode jdk_41_method_12_code 23 = .ok (.ireturn, 1) := by decide +kernel
set_option maxRecDepth 65536 in
set_option maxHeartbeats 40000000 in
theorem rm_ft (l : Launch) (Z : State) (a0 : Array Value) (hw : ∀ d ∈ tables_1, d.before a0 Z = true) (ws : List Jvm.Cond) (i j n : Nat) (fi : Value) (h0 : Heap) (n0 : Nat) (Z0 : n0 ≤ h0.size) (hfi : fi.isRef = true) (hij : i ≤ j) (hjn : j ≤ n) (hn : n ≤ 4000) :
    MetFree l (⟨"jdk/internal/util/Preconditions", "checkFromToIndex", "(IIILjava/util/function/BiFunction;)I"⟩ : MethodName) (head1 (Jvm.Cond.code (⟨"jdk/internal/util/Preconditions", "checkFromToIndex", "(IIILjava/util/function/BiFunction;)I"⟩ : MethodName) jdk_41_method_12_code 4 (some .int) :: ws) ({ frames := 0, cells := 0, slots := 0, locals := 0 } : Room)) (fun a U => a = #[(.int (Int32.ofNat i)), (.int (Int32.ofNat j)), (.int (Int32.ofNat n)), fi] ∧ Z.Warmed39 U.vm ∧ U.heap = h0) (fun _ _ _ _ _ => True) (fun _ U o U' => ∃ v L, o = .returned v ∧ Q_rm_ft Z i j n fi h0 n0 v U'.heap L ∧ FrameEnd U o U' L ({ frames := 0, cells := 0, slots := 0, locals := 0 } : Room).cells ({ frames := 0, cells := 0, slots := 0, locals := 0 } : Room).slots) := by
  refine MetFree.of_bodySF (plainFor_of_name pn_27) hisR ?_
  intro p e s m args below meth c s₁ Bd hml0 hP hK
  obtain ⟨rfl, hZ, hh⟩ := hP
  have hx := Bd.exec
  have hby := Bd.bytes
  have hml : c.maxLocals = 4 := hml0
  have hown : s.vm.findClass "jdk/internal/util/Preconditions" = some m.cls := findClass_of_methodNamed Bd.named
  have hnm := (name_of_methodNamed Bd.named Bd.method).1
  have X0 : Stand p l e ({ frames := 0, cells := 0, slots := 0, locals := 0 } : Room) s m #[(.int (Int32.ofNat i)), (.int (Int32.ofNat j)), (.int (Int32.ofNat n)), fi] below meth c s₁ [] 0 0 := Stand.of_body Bd
  have e0 : s₁.heap = h0 := by rw [← hh, Bd.state]; rfl
  have N0 := Fr.nil n0
  have pre0 : ∀ t, Steps p.tables e below (s₁.setTop (mkF m 0 #[.val (.int (Int32.ofNat i)), .val (.int (Int32.ofNat j)), .val (.int (Int32.ofNat n)), .val fi] [])) t → Steps p.tables e below (s₁.setTop (entryFrame m #[(.int (Int32.ofNat i)), (.int (Int32.ofNat j)), (.int (Int32.ofNat n)), fi] 4)) t := fun t kt => castTop (ef_rm_ft m (Int32.ofNat i) (Int32.ofNat j) (Int32.ofNat n) fi hfi) kt
  obtain ⟨fs, hr, hrun, hended, hW, hsame⟩ := X0.leave (v := some (.int (Int32.ofNat i))) (fun h => by rw [Bd.returns] at h; cases h) (hlocks := Bd.notSynchronized)
  refine ⟨_, _, pre0 _ ?_, hrun, hended, _, _, rfl, ?_, ⟨_, rfl⟩, hW, hsame.mono (by decide) (by decide)⟩
  · show Steps p.tables e below (s₁.setTop (mkF m 0 #[.val (.int (Int32.ofNat i)), .val (.int (Int32.ofNat j)), .val (.int (Int32.ofNat n)), .val fi] [])) _
    refine XS.iloadN X0.here hx rfl (hb hby d27_0) rfl ?_
    show Steps p.tables e below (s₁.setTop (mkF m 1 #[.val (.int (Int32.ofNat i)), .val (.int (Int32.ofNat j)), .val (.int (Int32.ofNat n)), .val fi] [(.int (Int32.ofNat i))])) _
    refine XS.ifNo X0.here hx rfl (hb hby d27_1) rfl ((if0 _ _).trans (flt (own_nn (by omega))).1) ?_
    show Steps p.tables e below (s₁.setTop (mkF m 4 #[.val (.int (Int32.ofNat i)), .val (.int (Int32.ofNat j)), .val (.int (Int32.ofNat n)), .val fi] [])) _
    refine XS.iloadN X0.here hx rfl (hb hby d27_4) rfl ?_
    show Steps p.tables e below (s₁.setTop (mkF m 5 #[.val (.int (Int32.ofNat i)), .val (.int (Int32.ofNat j)), .val (.int (Int32.ofNat n)), .val fi] [(.int (Int32.ofNat i))])) _
    refine XS.iloadN X0.here hx rfl (hb hby d27_5) rfl ?_
    show Steps p.tables e below (s₁.setTop (mkF m 6 #[.val (.int (Int32.ofNat i)), .val (.int (Int32.ofNat j)), .val (.int (Int32.ofNat n)), .val fi] [(.int (Int32.ofNat j)), (.int (Int32.ofNat i))])) _
    refine XS.icmpNo X0.here hx rfl (hb hby d27_6) rfl (flt (own_nlt hij (by omega))).2.2.1 ?_
    show Steps p.tables e below (s₁.setTop (mkF m 9 #[.val (.int (Int32.ofNat i)), .val (.int (Int32.ofNat j)), .val (.int (Int32.ofNat n)), .val fi] [])) _
    refine XS.iloadN X0.here hx rfl (hb hby d27_9) rfl ?_
    show Steps p.tables e below (s₁.setTop (mkF m 10 #[.val (.int (Int32.ofNat i)), .val (.int (Int32.ofNat j)), .val (.int (Int32.ofNat n)), .val fi] [(.int (Int32.ofNat j))])) _
    refine XS.iloadN X0.here hx rfl (hb hby d27_10) rfl ?_
    show Steps p.tables e below (s₁.setTop (mkF m 11 #[.val (.int (Int32.ofNat i)), .val (.int (Int32.ofNat j)), .val (.int (Int32.ofNat n)), .val fi] [(.int (Int32.ofNat n)), (.int (Int32.ofNat j))])) _
    refine XS.icmpYes X0.here hx rfl (pc0 := 11) (pc' := 22) rfl (hb hby d27_11) rfl (flt (own_nlt hjn (by omega))).2.2.2 (by decide) (by decide) ?_
    show Steps p.tables e below (s₁.setTop (mkF m 22 #[.val (.int (Int32.ofNat i)), .val (.int (Int32.ofNat j)), .val (.int (Int32.ofNat n)), .val fi] [])) _
    refine XS.iloadN X0.here hx rfl (hb hby d27_22) rfl ?_
    show Steps p.tables e below (s₁.setTop (mkF m 23 #[.val (.int (Int32.ofNat i)), .val (.int (Int32.ofNat j)), .val (.int (Int32.ofNat n)), .val fi] [(.int (Int32.ofNat i))])) _
    exact retI X0 hx Bd.returns (hb hby d27_23) hr
  · show Q_rm_ft Z i j n fi h0 n0 _ s₁.heap _
    rw [e0]
    exact ⟨rfl, N0, rfl⟩
theorem pn_31 : plainName "java/lang/String" = true := by first | (simp [plainName, overriddenIn]; done) | decide +kernel
theorem ef_rm_sv (m : MethodId) (x0 : Addr) : entryFrame m #[(.ref x0)] 1 = mkF m 0 #[.val (.ref x0)] [] := by first | (simp [entryFrame, mkF, argsToLocals, Value.category]; done) | rfl
def Q_rm_sv (Z : State) (a1 : Addr) (t1 : Addr) (h0 : Heap) (n0 : Nat) (v : Option Value) (h : Heap) (L : List Loc) : Prop := v = some (.ref t1) ∧ Fr n0 L ∧ h = h0
theorem d31_0 : decode jdk_42_method_153_code 0 = .ok (.aload_n 0, 1) := by decide +kernel
theorem d31_1 : decode jdk_42_method_153_code 1 = .ok (.getfield 9, 3) := by decide +kernel
theorem d31_4 : decode jdk_42_method_153_code 4 = .ok (.areturn, 1) := by decide +kernel
set_option maxRecDepth 65536 in
set_option maxHeartbeats 40000000 in
theorem rm_sv (l : Launch) (Z : State) (a0 : Array Value) (hw : ∀ d ∈ tables_1, d.before a0 Z = true) (ws : List Jvm.Cond) (a1 : Addr) (t1 : Addr) (h0 : Heap) (n0 : Nat) (Z0 : n0 ≤ h0.size) (F_value_a1 : Fld Z h0 a1 "java/lang/String" "value" "[B" (.ref t1)) :
    MetFree l (⟨"java/lang/String", "value", "()[B"⟩ : MethodName) (head1 (Jvm.Cond.code (⟨"java/lang/String", "value", "()[B"⟩ : MethodName) jdk_42_method_153_code 1 (some (.array .byte)) :: ws) ({ frames := 0, cells := 0, slots := 0, locals := 0 } : Room)) (fun a U => a = #[(.ref a1)] ∧ Z.Warmed39 U.vm ∧ U.heap = h0) (fun _ _ _ _ _ => True) (fun _ U o U' => ∃ v L, o = .returned v ∧ Q_rm_sv Z a1 t1 h0 n0 v U'.heap L ∧ FrameEnd U o U' L ({ frames := 0, cells := 0, slots := 0, locals := 0 } : Room).cells ({ frames := 0, cells := 0, slots := 0, locals := 0 } : Room).slots) := by
  refine MetFree.of_bodySF (plainFor_of_name pn_31) hisR ?_
  intro p e s m args below meth c s₁ Bd hml0 hP hK
  obtain ⟨rfl, hZ, hh⟩ := hP
  have hx := Bd.exec
  have hby := Bd.bytes
  have hml : c.maxLocals = 1 := hml0
  have hown : s.vm.findClass "java/lang/String" = some m.cls := findClass_of_methodNamed Bd.named
  have hnm := (name_of_methodNamed Bd.named Bd.method).1
  have X0 : Stand p l e ({ frames := 0, cells := 0, slots := 0, locals := 0 } : Room) s m #[(.ref a1)] below meth c s₁ [] 0 0 := Stand.of_body Bd
  have e0 : s₁.heap = h0 := by rw [← hh, Bd.state]; rfl
  have N0 := Fr.nil n0
  have pre0 : ∀ t, Steps p.tables e below (s₁.setTop (mkF m 0 #[.val (.ref a1)] [])) t → Steps p.tables e below (s₁.setTop (entryFrame m #[(.ref a1)] 1)) t := fun t kt => castTop (ef_rm_sv m a1) kt
  obtain ⟨T1, X1, e1, st1⟩ := getF X0 hx hZ hown (host := "") (Or.inl (hw _ (List.mem_of_getElem? (i := 33) rfl))) Via.refl e0 F_value_a1 (g := (mkF m 1 #[.val (.ref a1)] [(.ref a1)])) rfl rfl (hb hby d31_1)
  obtain ⟨fs, hr, hrun, hended, hW, hsame⟩ := X1.leave (v := some (.ref t1)) (fun h => by rw [Bd.returns] at h; cases h) (hlocks := Bd.notSynchronized)
  refine ⟨_, _, pre0 _ ?_, hrun, hended, _, _, rfl, ?_, ⟨_, rfl⟩, hW, hsame.mono (by decide) (by decide)⟩
  · show Steps p.tables e below (s₁.setTop (mkF m 0 #[.val (.ref a1)] [])) _
    refine XS.aloadN X0.here hx rfl (hb hby d31_0) rfl rfl ?_
    show Steps p.tables e below (s₁.setTop (mkF m 1 #[.val (.ref a1)] [(.ref a1)])) _
    refine st1 _ ?_
    show Steps p.tables e below (T1.setTop (mkF m 4 #[.val (.ref a1)] [(.ref t1)])) _
    exact X1.areturnOut hx rfl Bd.returns rfl (hb hby d31_4) hr
  · show Q_rm_sv Z a1 t1 h0 n0 _ T1.heap _
    rw [e1]
    exact ⟨rfl, N0, rfl⟩
theorem pn_29 : plainName "java/lang/AbstractStringBuilder" = true := by first | (simp [plainName, overriddenIn]; done) | decide +kernel
theorem ef_rm_ac (m : MethodId) (x0 : Addr) (x1 : Addr) (x2 : Int32) (x3 : Int32) : entryFrame m #[(.ref x0), (.ref x1), (.int x2), (.int x3)] 8 = mkF m 0 #[.val (.ref x0), .val (.ref x1), .val (.int x2), .val (.int x3), .unset, .unset, .unset, .unset] [] := by first | (simp [entryFrame, mkF, argsToLocals, Value.category]; done) | rfl
def Q_rm_ac (Z : State) (a1 : Addr) (a2 : Addr) (b1 : Addr) (k1 : ClassId) (ac : List Int32) (t2 : Addr) (kb2 : ClassId) (cl : List Int32) (i j : Nat) (cz : Int32) (h0 : Heap) (n0 : Nat) (v : Option Value) (h : Heap) (L : List Loc) : Prop := v = none ∧ Fr n0 L ∧ Keep h0 h [a1, b1] ∧ Exa Z h a1 "java/lang/StringBuilder" ∧ Fld Z h a1 "java/lang/AbstractStringBuilder" "value" "[B" (.ref b1) ∧ Fld Z h a1 "java/lang/AbstractStringBuilder" "coder" "B" (.int (0 : Int32)) ∧ Fld Z h a1 "java/lang/AbstractStringBuilder" "count" "I" (.int (Int32.ofNat (ac ++ own_sl cl i j).length)) ∧ Arv Z h b1 k1 .byte (16 : Int32) (own_by (ac ++ own_sl cl i j)) (.int 0)
theorem d29_0 : decode jdk_68_method_75_code 0 = .ok (.aload_n 0, 1) := by decide +kernel
theorem d29_1 : decode jdk_68_method_75_code 1 = .ok (.invokevirtual 83, 3) := by decide +kernel
theorem d29_4 : decode jdk_68_method_75_code 4 = .ok (.ifCond .eq 141, 3) := by decide +kernel
theorem d29_7 : decode jdk_68_method_75_code 7 = .ok (.aload_n 1, 1) := by decide +kernel
theorem d29_8 : decode jdk_68_method_75_code 8 = .ok (.invokevirtual 400, 3) := by decide +kernel
theorem d29_11 : decode jdk_68_method_75_code 11 = .ok (.ifCond .eq 25, 3) := by decide +kernel
theorem d29_14 : decode jdk_68_method_75_code 14 = .ok (.aload_n 1, 1) := by decide +kernel
theorem pd____B_238 : parseMethodDescriptor "()[B" = some ⟨[], some (.array .byte)⟩ := by decide +kernel
theorem d29_15 : decode jdk_68_method_75_code 15 = .ok (.invokevirtual 401, 3) := by decide +kernel
theorem d29_18 : decode jdk_68_method_75_code 18 = .ok (.iload_n 2, 1) := by decide +kernel
theorem d29_19 : decode jdk_68_method_75_code 19 = .ok (.aload_n 0, 1) := by decide +kernel
theorem d29_20 : decode jdk_68_method_75_code 20 = .ok (.getfield 15, 3) := by decide +kernel
theorem d29_23 : decode jdk_68_method_75_code 23 = .ok (.aload_n 0, 1) := by decide +kernel
theorem d29_24 : decode jdk_68_method_75_code 24 = .ok (.getfield 79, 3) := by decide +kernel
theorem d29_27 : decode jdk_68_method_75_code 27 = .ok (.iload_n 3, 1) := by decide +kernel
theorem d29_28 : decode jdk_68_method_75_code 28 = .ok (.iload_n 2, 1) := by decide +kernel
theorem d29_29 : decode jdk_68_method_75_code 29 = .ok (.isub, 1) := by decide +kernel
theorem d29_30 : decode jdk_68_method_75_code 30 = .ok (.invokestatic 309, 3) := by decide +kernel
theorem d29_33 : decode jdk_68_method_75_code 33 = .ok (.goto 161, 3) := by decide +kernel
theorem d29_194 : decode jdk_68_method_75_code 194 = .ok (.aload_n 0, 1) := by decide +kernel
theorem d29_195 : decode jdk_68_method_75_code 195 = .ok (.dup, 1) := by decide +kernel
theorem d29_196 : decode jdk_68_method_75_code 196 = .ok (.getfield 79, 3) := by decide +kernel
theorem d29_199 : decode jdk_68_method_75_code 199 = .ok (.iload_n 3, 1) := by decide +kernel
theorem d29_200 : decode jdk_68_method_75_code 200 = .ok (.iload_n 2, 1) := by decide +kernel
theorem d29_201 : decode jdk_68_method_75_code 201 = .ok (.isub, 1) := by decide +kernel
theorem d29_202 : decode jdk_68_method_75_code 202 = .ok (.iadd, 1) := by decide +kernel
theorem d29_203 : decode jdk_68_method_75_code 203 = .ok (.putfield 79, 3) := by decide +kernel
theorem d29_206 : decode jdk_68_method_75_code 206 = .ok (.return_, 1) := by decide +kernel
set_option maxRecDepth 65536 in
set_option maxHeartbeats 40000000 in
theorem rm_ac (l : Launch) (Z : State) (a0 : Array Value) (hw : ∀ d ∈ tables_1, d.before a0 Z = true) (ws : List Jvm.Cond) (a1 : Addr) (a2 : Addr) (b1 : Addr) (k1 : ClassId) (ac : List Int32) (t2 : Addr) (kb2 : ClassId) (cl : List Int32) (i j : Nat) (cz : Int32) (h0 : Heap) (n0 : Nat) (Z0 : n0 ≤ h0.size) (E_a1 : Exa Z h0 a1 "java/lang/StringBuilder") (F_value_a1 : Fld Z h0 a1 "java/lang/AbstractStringBuilder" "value" "[B" (.ref b1)) (F_coder_a1 : Fld Z h0 a1 "java/lang/AbstractStringBuilder" "coder" "B" (.int (0 : Int32))) (F_count_a1 : Fld Z h0 a1 "java/lang/AbstractStringBuilder" "count" "I" (.int (Int32.ofNat ac.length))) (V_b1 : Arv Z h0 b1 k1 .byte (16 : Int32) (own_by ac) (.int 0)) (g_a1 : n0 ≤ a1) (g_b1 : n0 ≤ b1) (E_a2 : Exa Z h0 a2 "java/lang/String") (F_coder_a2 : Fld Z h0 a2 "java/lang/String" "coder" "B" (.int (0 : Int32))) (F_value_a2 : Fld Z h0 a2 "java/lang/String" "value" "[B" (.ref t2)) (V_t2 : Arv Z h0 t2 kb2 .byte (Int32.ofNat cl.length) (own_by cl) (.int 0)) (ne_t2_b1 : t2 ≠ b1) (hp : ∀ c ∈ cl, ¬ c < 0 ∧ ¬ (255 : Int32) < c) (hl : cl.length ≤ 4000) (hij : i ≤ j) (hj : j ≤ cl.length) (hcap : ac.length + (j - i) ≤ 16) (S_CS : Sta Z h0 "java/lang/String" "COMPACT_STRINGS" "Z" (.int cz)) (hcs : ¬ cz = (0 : Int32)) :
    MetFree l (⟨"java/lang/AbstractStringBuilder", "appendChars", "(Ljava/lang/String;II)V"⟩ : MethodName) (head1 (Jvm.Cond.code (⟨"java/lang/AbstractStringBuilder", "appendChars", "(Ljava/lang/String;II)V"⟩ : MethodName) jdk_68_method_75_code 8 none :: ws) ({ frames := 1, cells := 0, slots := 0, locals := 18 } : Room)) (fun a U => a = #[(.ref a1), (.ref a2), (.int (Int32.ofNat i)), (.int (Int32.ofNat j))] ∧ Z.Warmed39 U.vm ∧ U.heap = h0) (fun _ _ _ _ _ => True) (fun _ U o U' => ∃ v L, o = .returned v ∧ Q_rm_ac Z a1 a2 b1 k1 ac t2 kb2 cl i j cz h0 n0 v U'.heap L ∧ FrameEnd U o U' L ({ frames := 1, cells := 0, slots := 0, locals := 18 } : Room).cells ({ frames := 1, cells := 0, slots := 0, locals := 18 } : Room).slots) := by
  refine MetFree.of_bodySF (plainFor_of_name pn_29) hisR ?_
  intro p e s m args below meth c s₁ Bd hml0 hP hK
  obtain ⟨rfl, hZ, hh⟩ := hP
  have hx := Bd.exec
  have hby := Bd.bytes
  have hml : c.maxLocals = 8 := hml0
  have hown : s.vm.findClass "java/lang/AbstractStringBuilder" = some m.cls := findClass_of_methodNamed Bd.named
  have hnm := (name_of_methodNamed Bd.named Bd.method).1
  have X0 : Stand p l e ({ frames := 1, cells := 0, slots := 0, locals := 18 } : Room) s m #[(.ref a1), (.ref a2), (.int (Int32.ofNat i)), (.int (Int32.ofNat j))] below meth c s₁ [] 0 0 := Stand.of_body Bd
  have e0 : s₁.heap = h0 := by rw [← hh, Bd.state]; rfl
  have N0 := Fr.nil n0
  have pre0 : ∀ t, Steps p.tables e below (s₁.setTop (mkF m 0 #[.val (.ref a1), .val (.ref a2), .val (.int (Int32.ofNat i)), .val (.int (Int32.ofNat j)), .unset, .unset, .unset, .unset] [])) t → Steps p.tables e below (s₁.setTop (entryFrame m #[(.ref a1), (.ref a2), (.int (Int32.ofNat i)), (.int (Int32.ofNat j))] 8)) t := fun t kt => castTop (ef_rm_ac m a1 a2 (Int32.ofNat i) (Int32.ofNat j)) kt
  have ne_a1_b1 : a1 ≠ b1 := by
    obtain ⟨cA, AA, -⟩ := id V_b1
    exact ne_arr E_a1 (hw _ (List.mem_of_getElem? (i := 66) rfl)) AA
  have ne_a2_a1 : a2 ≠ a1 := ne_exa E_a2 E_a1 (by decide)
  have ne_a2_b1 : a2 ≠ b1 := by
    obtain ⟨cA, AA, -⟩ := id V_b1
    exact ne_arr E_a2 (hw _ (List.mem_of_getElem? (i := 7) rfl)) AA
  have ne_a1_t2 : a1 ≠ t2 := by
    obtain ⟨cA, AA, -⟩ := id V_t2
    exact ne_arr E_a1 (hw _ (List.mem_of_getElem? (i := 66) rfl)) AA
  obtain ⟨cq1, kq1, q1a, q1b, q1c⟩ := isOf hZ e0 E_a1
  obtain ⟨_, _, ⟨T1, L1, k1, n1⟩, -, X1, ⟨Lc1, hQ1, l1, y1, z1⟩, st1⟩ := X0.virtualBack hx (y := (⟨"java/lang/AbstractStringBuilder", "isLatin1", "()Z"⟩ : MethodName)) (z := (⟨"java/lang/AbstractStringBuilder", "isLatin1", "()Z"⟩ : MethodName)) hown (mvT hZ (hw _ (List.mem_of_getElem? (i := 149) rfl))) (mvT hZ (hw _ (List.mem_of_getElem? (i := 150) rfl))) (notFace_of_selects (args := #[]) (mvT hZ (hw _ (List.mem_of_getElem? (i := 152) rfl)))) (mvT hZ (hw _ (List.mem_of_getElem? (i := 152) rfl))) (mvT hZ (hw _ (List.mem_of_getElem? (i := 151) rfl))) (by decide) (backOf (W := 0) (rm_bl l Z a0 hw [] a1 cz h0 n0 Z0 S_CS hcs F_coder_a1) hZ (hw _ (List.mem_of_getElem? (i := 153) rfl)) (hw _ (List.mem_of_getElem? (i := 75) rfl)) (by decide) (by decide)) q1a q1c (g := (mkF m 1 #[.val (.ref a1), .val (.ref a2), .val (.int (Int32.ofNat i)), .val (.int (Int32.ofNat j)), .unset, .unset, .unset, .unset] [(.ref a1)])) rfl (by rw [hml]; rfl) (Steps.refl _) (argsL := []) (rest := []) (lenOf pd___Z_171 rfl) rfl (by show 2 * 0 + _ ≤ _; exact Nat.le_of_eq rfl) (hb hby d29_1) (fun _ _ => ⟨rfl, e0, (by decide : 0 + 0 ≤ _), (by decide : 0 + 0 ≤ _)⟩)
  dsimp only [Pt.U, Pt.locs, Pt.cells, Pt.slots] at X1 l1 y1 z1 st1 hQ1
  subst l1 y1 z1
  obtain ⟨rfl, N1q, e1⟩ := hQ1
  have N1 := Fr.app N0 N1q
  obtain ⟨cq2, kq2, q2a, q2b, q2c⟩ := isOf hZ e1 E_a2
  obtain ⟨_, _, ⟨T2, L2, k2, n2⟩, -, X2, ⟨Lc2, hQ2, l2, y2, z2⟩, st2⟩ := X1.virtualBack hx (y := (⟨"java/lang/String", "isLatin1", "()Z"⟩ : MethodName)) (z := (⟨"java/lang/String", "isLatin1", "()Z"⟩ : MethodName)) hown (mvT hZ (hw _ (List.mem_of_getElem? (i := 154) rfl))) (mvT hZ (hw _ (List.mem_of_getElem? (i := 49) rfl))) (notFace_of_selects (args := #[]) (mvT hZ (hw _ (List.mem_of_getElem? (i := 51) rfl)))) (mvT hZ (hw _ (List.mem_of_getElem? (i := 51) rfl))) (mvT hZ (hw _ (List.mem_of_getElem? (i := 50) rfl))) (by decide) (backOf (W := 0) (rm_sl l Z a0 hw [] a2 cz h0 n0 Z0 S_CS hcs F_coder_a2) hZ (hw _ (List.mem_of_getElem? (i := 52) rfl)) (hw _ (List.mem_of_getElem? (i := 8) rfl)) (by decide) (by decide)) q2a q2c (g := (mkF m 8 #[.val (.ref a1), .val (.ref a2), .val (.int (Int32.ofNat i)), .val (.int (Int32.ofNat j)), .unset, .unset, .unset, .unset] [(.ref a2)])) rfl (by rw [hml]; rfl) (Steps.refl _) (argsL := []) (rest := []) (lenOf pd___Z_171 rfl) rfl (by show 2 * 0 + _ ≤ _; exact Nat.le_of_eq rfl) (hb hby d29_8) (fun _ _ => ⟨rfl, e1, (by decide : 0 + 0 ≤ _), (by decide : 0 + 0 ≤ _)⟩)
  dsimp only [Pt.U, Pt.locs, Pt.cells, Pt.slots] at X2 l2 y2 z2 st2 hQ2
  subst l2 y2 z2
  obtain ⟨rfl, N2q, e2⟩ := hQ2
  have N2 := Fr.app N1 N2q
  obtain ⟨cq3, kq3, q3a, q3b, q3c⟩ := isOf hZ e2 E_a2
  obtain ⟨_, _, ⟨T3, L3, k3, n3⟩, -, X3, ⟨Lc3, hQ3, l3, y3, z3⟩, st3⟩ := X2.virtualBack hx (y := (⟨"java/lang/String", "value", "()[B"⟩ : MethodName)) (z := (⟨"java/lang/String", "value", "()[B"⟩ : MethodName)) hown (mvT hZ (hw _ (List.mem_of_getElem? (i := 155) rfl))) (mvT hZ (hw _ (List.mem_of_getElem? (i := 156) rfl))) (notFace_of_selects (args := #[]) (mvT hZ (hw _ (List.mem_of_getElem? (i := 158) rfl)))) (mvT hZ (hw _ (List.mem_of_getElem? (i := 158) rfl))) (mvT hZ (hw _ (List.mem_of_getElem? (i := 157) rfl))) (by decide) (backOf (W := 0) (rm_sv l Z a0 hw [] a2 t2 h0 n0 Z0 F_value_a2) hZ (hw _ (List.mem_of_getElem? (i := 159) rfl)) (hw _ (List.mem_of_getElem? (i := 8) rfl)) (by decide) (by decide)) q3a q3c (g := (mkF m 15 #[.val (.ref a1), .val (.ref a2), .val (.int (Int32.ofNat i)), .val (.int (Int32.ofNat j)), .unset, .unset, .unset, .unset] [(.ref a2)])) rfl (by rw [hml]; rfl) (Steps.refl _) (argsL := []) (rest := []) (lenOf pd____B_238 rfl) rfl (by show 2 * 0 + _ ≤ _; exact Nat.le_of_eq rfl) (hb hby d29_15) (fun _ _ => ⟨rfl, e2, (by decide : 0 + 0 ≤ _), (by decide : 0 + 0 ≤ _)⟩)
  dsimp only [Pt.U, Pt.locs, Pt.cells, Pt.slots] at X3 l3 y3 z3 st3 hQ3
  subst l3 y3 z3
  obtain ⟨rfl, N3q, e3⟩ := hQ3
  have N3 := Fr.app N2 N3q
  obtain ⟨T4, X4, e4, st4⟩ := getF X3 hx hZ hown (host := "") (Or.inl (hw _ (List.mem_of_getElem? (i := 79) rfl))) Via.refl e3 F_value_a1 (g := (mkF m 20 #[.val (.ref a1), .val (.ref a2), .val (.int (Int32.ofNat i)), .val (.int (Int32.ofNat j)), .unset, .unset, .unset, .unset] [(.ref a1), (.int (Int32.ofNat i)), (.ref t2)])) rfl rfl (hb hby d29_20)
  obtain ⟨T5, X5, e5, st5⟩ := getF X4 hx hZ hown (host := "") (Or.inl (hw _ (List.mem_of_getElem? (i := 136) rfl))) Via.refl e4 F_count_a1 (g := (mkF m 24 #[.val (.ref a1), .val (.ref a2), .val (.int (Int32.ofNat i)), .val (.int (Int32.ofNat j)), .unset, .unset, .unset, .unset] [(.ref a1), (.ref b1), (.int (Int32.ofNat i)), (.ref t2)])) rfl rfl (hb hby d29_24)
  have V_b1_6 : Arv Z h0 b1 k1 .byte (16 : Int32) (own_by ac ++ List.replicate (j - i) (Value.int 0)) (.int 0) := V_b1.pad (pad_rep _ _ _)
  obtain ⟨T7, h7, Lk7, X7, e7, N7, K7, Vc7, st7⟩ := cpA X5 hx hZ hown (hw _ (List.mem_of_getElem? (i := 160) rfl)) (hw _ (List.mem_of_getElem? (i := 163) rfl)) (hw _ (List.mem_of_getElem? (i := 161) rfl)) (hw _ (List.mem_of_getElem? (i := 162) rfl)) e5 V_t2 V_b1_6 (us := (own_by (own_sl cl i j))) (Or.inl ⟨rfl, rfl⟩) (own_nn (by omega)) (own_nn (by omega)) (by rw [own_sub hij (show j < 2147483648 by omega)]; exact own_nn (by omega)) (by rw [own_sub hij (show j < 2147483648 by omega), own_tn (show i < 2147483648 by omega), own_tn (show j - i < 2147483648 by omega), own_tn (show cl.length < 2147483648 by omega)]; omega) (by rw [own_sub hij (show j < 2147483648 by omega), own_tn (show ac.length < 2147483648 by omega), own_tn (show j - i < 2147483648 by omega)]; exact hcap) (own_slEq hij hj hl) (by rw [own_sub hij (show j < 2147483648 by omega), own_tn (show ac.length < 2147483648 by omega), own_tn (show j - i < 2147483648 by omega), List.length_append, own_byL, List.length_replicate]; exact Nat.le_refl _) N3 g_b1 (g := (mkF m 30 #[.val (.ref a1), .val (.ref a2), .val (.int (Int32.ofNat i)), .val (.int (Int32.ofNat j)), .unset, .unset, .unset, .unset] [(.int ((Int32.ofNat j) - (Int32.ofNat i))), (.int (Int32.ofNat ac.length)), (.ref b1), (.int (Int32.ofNat i)), (.ref t2)])) rfl (by rw [hml]; rfl) (rest := []) rfl (hb hby d29_30) (by decide) (W := 0) (by show 2 * 0 + _ ≤ _; exact Nat.le_of_eq rfl) (by decide)
  have f1 : Sta Z h7 "java/lang/String" "COMPACT_STRINGS" "Z" (.int cz) := own_staK S_CS K7 (nsS V_b1_6.nostat ns0)
  have f2 : Exa Z h7 a1 "java/lang/StringBuilder" := E_a1.keep K7
  have f3 : Fld Z h7 a1 "java/lang/AbstractStringBuilder" "value" "[B" (.ref b1) := F_value_a1.keep K7 (by simp [ne_a1_b1])
  have f4 : Fld Z h7 a1 "java/lang/AbstractStringBuilder" "coder" "B" (.int (0 : Int32)) := F_coder_a1.keep K7 (by simp [ne_a1_b1])
  have f5 : Fld Z h7 a1 "java/lang/AbstractStringBuilder" "count" "I" (.int (Int32.ofNat ac.length)) := F_count_a1.keep K7 (by simp [ne_a1_b1])
  have f6 : n0 ≤ a1 := g_a1
  have f7 : n0 ≤ b1 := g_b1
  have f8 : Exa Z h7 a2 "java/lang/String" := E_a2.keep K7
  have f9 : Fld Z h7 a2 "java/lang/String" "coder" "B" (.int (0 : Int32)) := F_coder_a2.keep K7 (by simp [ne_a2_b1])
  have f10 : Fld Z h7 a2 "java/lang/String" "value" "[B" (.ref t2) := F_value_a2.keep K7 (by simp [ne_a2_b1])
  have f11 : Arv Z h7 t2 kb2 .byte (Int32.ofNat cl.length) (own_by cl) (.int 0) := V_t2.keep K7 (by simp [ne_t2_b1])
  have f12 : Keep h0 h7 [a1, b1] := (Keep.refl h0 [a1, b1]).trans K7 (fun x hx => by cases List.mem_singleton.mp hx; exact Or.inl (by simp))
  have Z7 : n0 ≤ h7.size := Nat.le_trans Z0 K7.1
  have V_b1_8 : Arv Z h7 b1 k1 .byte (16 : Int32) (own_by (ac ++ own_sl cl i j)) (.int 0) := by rw [← own_cat hij hj hl (by omega)]; exact Vc7
  obtain ⟨T9, X9, e9, st9⟩ := getF X7 hx hZ hown (host := "") (Or.inl (hw _ (List.mem_of_getElem? (i := 136) rfl))) Via.refl e7 f5 (g := (mkF m 196 #[.val (.ref a1), .val (.ref a2), .val (.int (Int32.ofNat i)), .val (.int (Int32.ofNat j)), .unset, .unset, .unset, .unset] [(.ref a1), (.ref a1)])) rfl rfl (hb hby d29_196)
  obtain ⟨T10, h10, X10, e10, W10, st10⟩ := putF X9 hx hZ hown (host := "") (Or.inl (hw _ (List.mem_of_getElem? (i := 136) rfl))) Via.refl e9 f5 f2 (Or.inl (hw _ (List.mem_of_getElem? (i := 137) rfl))) (hw _ (List.mem_of_getElem? (i := 66) rfl)) (ty := .int) (by decide) rfl rfl (g := (mkF m 203 #[.val (.ref a1), .val (.ref a2), .val (.int (Int32.ofNat i)), .val (.int (Int32.ofNat j)), .unset, .unset, .unset, .unset] [(.int ((Int32.ofNat ac.length) + ((Int32.ofNat j) - (Int32.ofNat i)))), (.ref a1)])) rfl rfl (hb hby d29_203)
  have f13 : Sta Z h10 "java/lang/String" "COMPACT_STRINGS" "Z" (.int cz) := f1.wr W10
  have f14 : Exa Z h10 a1 "java/lang/StringBuilder" := f2.wr W10
  have f15 : Fld Z h10 a1 "java/lang/AbstractStringBuilder" "value" "[B" (.ref b1) := f3.other W10 (Or.inr (slot_ne (Or.inl (hw _ (List.mem_of_getElem? (i := 80) rfl))) (Or.inl (hw _ (List.mem_of_getElem? (i := 137) rfl))) (by decide) (t := (.array .byte)) (t' := .int) (by decide) (by decide)))
  have f16 : Fld Z h10 a1 "java/lang/AbstractStringBuilder" "coder" "B" (.int (0 : Int32)) := f4.other W10 (Or.inr (slot_ne (Or.inl (hw _ (List.mem_of_getElem? (i := 82) rfl))) (Or.inl (hw _ (List.mem_of_getElem? (i := 137) rfl))) (by decide) (t := .byte) (t' := .int) (by decide) (by decide)))
  have f17 : Fld Z h10 a1 "java/lang/AbstractStringBuilder" "count" "I" (.int ((Int32.ofNat ac.length) + ((Int32.ofNat j) - (Int32.ofNat i)))) := f5.same W10
  have f18 : n0 ≤ a1 := f6
  have f19 : n0 ≤ b1 := f7
  have f20 : Exa Z h10 a2 "java/lang/String" := f8.wr W10
  have f21 : Fld Z h10 a2 "java/lang/String" "coder" "B" (.int (0 : Int32)) := f9.other W10 (Or.inl ne_a2_a1)
  have f22 : Fld Z h10 a2 "java/lang/String" "value" "[B" (.ref t2) := f10.other W10 (Or.inl ne_a2_a1)
  have f23 : Arv Z h10 t2 kb2 .byte (Int32.ofNat cl.length) (own_by cl) (.int 0) := f11.other W10 (Ne.symm ne_a1_t2)
  have f24 : Keep h0 h10 [a1, b1] := f12.wr W10 (Or.inl (by simp))
  have f25 : Arv Z h10 b1 k1 .byte (16 : Int32) (own_by (ac ++ own_sl cl i j)) (.int 0) := V_b1_8.other W10 (Ne.symm ne_a1_b1)
  have N10 := Fr.snoc X10 N7 f18
  have Z10 : n0 ≤ h10.size := by rw [W10.size]; exact Z7
  obtain ⟨fs, hr, hrun, hended, hW, hsame⟩ := X10.leave (v := none) (fun _ => rfl) (hlocks := Bd.notSynchronized)
  refine ⟨_, _, pre0 _ ?_, hrun, hended, _, _, rfl, ?_, ⟨_, rfl⟩, hW, hsame.mono (by decide) (by decide)⟩
  · show Steps p.tables e below (s₁.setTop (mkF m 0 #[.val (.ref a1), .val (.ref a2), .val (.int (Int32.ofNat i)), .val (.int (Int32.ofNat j)), .unset, .unset, .unset, .unset] [])) _
    refine XS.aloadN X0.here hx rfl (hb hby d29_0) rfl rfl ?_
    show Steps p.tables e below (s₁.setTop (mkF m 1 #[.val (.ref a1), .val (.ref a2), .val (.int (Int32.ofNat i)), .val (.int (Int32.ofNat j)), .unset, .unset, .unset, .unset] [(.ref a1)])) _
    refine st1.trans ?_
    show Steps p.tables e below (T1.setTop (mkF m 4 #[.val (.ref a1), .val (.ref a2), .val (.int (Int32.ofNat i)), .val (.int (Int32.ofNat j)), .unset, .unset, .unset, .unset] [(.int (1 : Int32))])) _
    refine XS.ifNo X1.here hx rfl (hb hby d29_4) rfl ((if0 _ _).trans (feq (by decide : ¬ ((1 : Int32) = (0 : Int32)))).1) ?_
    show Steps p.tables e below (T1.setTop (mkF m 7 #[.val (.ref a1), .val (.ref a2), .val (.int (Int32.ofNat i)), .val (.int (Int32.ofNat j)), .unset, .unset, .unset, .unset] [])) _
    refine XS.aloadN X1.here hx rfl (hb hby d29_7) rfl rfl ?_
    show Steps p.tables e below (T1.setTop (mkF m 8 #[.val (.ref a1), .val (.ref a2), .val (.int (Int32.ofNat i)), .val (.int (Int32.ofNat j)), .unset, .unset, .unset, .unset] [(.ref a2)])) _
    refine st2.trans ?_
    show Steps p.tables e below (T2.setTop (mkF m 11 #[.val (.ref a1), .val (.ref a2), .val (.int (Int32.ofNat i)), .val (.int (Int32.ofNat j)), .unset, .unset, .unset, .unset] [(.int (1 : Int32))])) _
    refine XS.ifNo X2.here hx rfl (hb hby d29_11) rfl ((if0 _ _).trans (feq (by decide : ¬ ((1 : Int32) = (0 : Int32)))).1) ?_
    show Steps p.tables e below (T2.setTop (mkF m 14 #[.val (.ref a1), .val (.ref a2), .val (.int (Int32.ofNat i)), .val (.int (Int32.ofNat j)), .unset, .unset, .unset, .unset] [])) _
    refine XS.aloadN X2.here hx rfl (hb hby d29_14) rfl rfl ?_
    show Steps p.tables e below (T2.setTop (mkF m 15 #[.val (.ref a1), .val (.ref a2), .val (.int (Int32.ofNat i)), .val (.int (Int32.ofNat j)), .unset, .unset, .unset, .unset] [(.ref a2)])) _
    refine st3.trans ?_
    show Steps p.tables e below (T3.setTop (mkF m 18 #[.val (.ref a1), .val (.ref a2), .val (.int (Int32.ofNat i)), .val (.int (Int32.ofNat j)), .unset, .unset, .unset, .unset] [(.ref t2)])) _
    refine XS.iloadN X3.here hx rfl (hb hby d29_18) rfl ?_
    show Steps p.tables e below (T3.setTop (mkF m 19 #[.val (.ref a1), .val (.ref a2), .val (.int (Int32.ofNat i)), .val (.int (Int32.ofNat j)), .unset, .unset, .unset, .unset] [(.int (Int32.ofNat i)), (.ref t2)])) _
    refine XS.aloadN X3.here hx rfl (hb hby d29_19) rfl rfl ?_
    show Steps p.tables e below (T3.setTop (mkF m 20 #[.val (.ref a1), .val (.ref a2), .val (.int (Int32.ofNat i)), .val (.int (Int32.ofNat j)), .unset, .unset, .unset, .unset] [(.ref a1), (.int (Int32.ofNat i)), (.ref t2)])) _
    refine st4 _ ?_
    show Steps p.tables e below (T4.setTop (mkF m 23 #[.val (.ref a1), .val (.ref a2), .val (.int (Int32.ofNat i)), .val (.int (Int32.ofNat j)), .unset, .unset, .unset, .unset] [(.ref b1), (.int (Int32.ofNat i)), (.ref t2)])) _
    refine XS.aloadN X4.here hx rfl (hb hby d29_23) rfl rfl ?_
    show Steps p.tables e below (T4.setTop (mkF m 24 #[.val (.ref a1), .val (.ref a2), .val (.int (Int32.ofNat i)), .val (.int (Int32.ofNat j)), .unset, .unset, .unset, .unset] [(.ref a1), (.ref b1), (.int (Int32.ofNat i)), (.ref t2)])) _
    refine st5 _ ?_
    show Steps p.tables e below (T5.setTop (mkF m 27 #[.val (.ref a1), .val (.ref a2), .val (.int (Int32.ofNat i)), .val (.int (Int32.ofNat j)), .unset, .unset, .unset, .unset] [(.int (Int32.ofNat ac.length)), (.ref b1), (.int (Int32.ofNat i)), (.ref t2)])) _
    refine XS.iloadN X5.here hx rfl (hb hby d29_27) rfl ?_
    show Steps p.tables e below (T5.setTop (mkF m 28 #[.val (.ref a1), .val (.ref a2), .val (.int (Int32.ofNat i)), .val (.int (Int32.ofNat j)), .unset, .unset, .unset, .unset] [(.int (Int32.ofNat j)), (.int (Int32.ofNat ac.length)), (.ref b1), (.int (Int32.ofNat i)), (.ref t2)])) _
    refine XS.iloadN X5.here hx rfl (hb hby d29_28) rfl ?_
    show Steps p.tables e below (T5.setTop (mkF m 29 #[.val (.ref a1), .val (.ref a2), .val (.int (Int32.ofNat i)), .val (.int (Int32.ofNat j)), .unset, .unset, .unset, .unset] [(.int (Int32.ofNat i)), (.int (Int32.ofNat j)), (.int (Int32.ofNat ac.length)), (.ref b1), (.int (Int32.ofNat i)), (.ref t2)])) _
    refine XS.isub X5.here hx rfl (hb hby d29_29) rfl ?_
    show Steps p.tables e below (T5.setTop (mkF m 30 #[.val (.ref a1), .val (.ref a2), .val (.int (Int32.ofNat i)), .val (.int (Int32.ofNat j)), .unset, .unset, .unset, .unset] [(.int ((Int32.ofNat j) - (Int32.ofNat i))), (.int (Int32.ofNat ac.length)), (.ref b1), (.int (Int32.ofNat i)), (.ref t2)])) _
    refine st7 _ ?_
    show Steps p.tables e below (T7.setTop (mkF m 33 #[.val (.ref a1), .val (.ref a2), .val (.int (Int32.ofNat i)), .val (.int (Int32.ofNat j)), .unset, .unset, .unset, .unset] [])) _
    refine XS.goto X7.here hx rfl (pc0 := 33) (pc' := 194) rfl (hb hby d29_33) (by decide) (by decide) ?_
    show Steps p.tables e below (T7.setTop (mkF m 194 #[.val (.ref a1), .val (.ref a2), .val (.int (Int32.ofNat i)), .val (.int (Int32.ofNat j)), .unset, .unset, .unset, .unset] [])) _
    refine XS.aloadN X7.here hx rfl (hb hby d29_194) rfl rfl ?_
    show Steps p.tables e below (T7.setTop (mkF m 195 #[.val (.ref a1), .val (.ref a2), .val (.int (Int32.ofNat i)), .val (.int (Int32.ofNat j)), .unset, .unset, .unset, .unset] [(.ref a1)])) _
    refine XS.dup X7.here hx rfl (hb hby d29_195) rfl rfl ?_
    show Steps p.tables e below (T7.setTop (mkF m 196 #[.val (.ref a1), .val (.ref a2), .val (.int (Int32.ofNat i)), .val (.int (Int32.ofNat j)), .unset, .unset, .unset, .unset] [(.ref a1), (.ref a1)])) _
    refine st9 _ ?_
    show Steps p.tables e below (T9.setTop (mkF m 199 #[.val (.ref a1), .val (.ref a2), .val (.int (Int32.ofNat i)), .val (.int (Int32.ofNat j)), .unset, .unset, .unset, .unset] [(.int (Int32.ofNat ac.length)), (.ref a1)])) _
    refine XS.iloadN X9.here hx rfl (hb hby d29_199) rfl ?_
    show Steps p.tables e below (T9.setTop (mkF m 200 #[.val (.ref a1), .val (.ref a2), .val (.int (Int32.ofNat i)), .val (.int (Int32.ofNat j)), .unset, .unset, .unset, .unset] [(.int (Int32.ofNat j)), (.int (Int32.ofNat ac.length)), (.ref a1)])) _
    refine XS.iloadN X9.here hx rfl (hb hby d29_200) rfl ?_
    show Steps p.tables e below (T9.setTop (mkF m 201 #[.val (.ref a1), .val (.ref a2), .val (.int (Int32.ofNat i)), .val (.int (Int32.ofNat j)), .unset, .unset, .unset, .unset] [(.int (Int32.ofNat i)), (.int (Int32.ofNat j)), (.int (Int32.ofNat ac.length)), (.ref a1)])) _
    refine XS.isub X9.here hx rfl (hb hby d29_201) rfl ?_
    show Steps p.tables e below (T9.setTop (mkF m 202 #[.val (.ref a1), .val (.ref a2), .val (.int (Int32.ofNat i)), .val (.int (Int32.ofNat j)), .unset, .unset, .unset, .unset] [(.int ((Int32.ofNat j) - (Int32.ofNat i))), (.int (Int32.ofNat ac.length)), (.ref a1)])) _
    refine XS.iadd X9.here hx rfl (hb hby d29_202) rfl ?_
    show Steps p.tables e below (T9.setTop (mkF m 203 #[.val (.ref a1), .val (.ref a2), .val (.int (Int32.ofNat i)), .val (.int (Int32.ofNat j)), .unset, .unset, .unset, .unset] [(.int ((Int32.ofNat ac.length) + ((Int32.ofNat j) - (Int32.ofNat i)))), (.ref a1)])) _
    refine st10 _ ?_
    show Steps p.tables e below (T10.setTop (mkF m 206 #[.val (.ref a1), .val (.ref a2), .val (.int (Int32.ofNat i)), .val (.int (Int32.ofNat j)), .unset, .unset, .unset, .unset] [])) _
    exact X10.returnOut hx Bd.returns (hb hby d29_206) hr
  · show Q_rm_ac Z a1 a2 b1 k1 ac t2 kb2 cl i j cz h0 n0 _ T10.heap _
    rw [e10]
    exact ⟨rfl, N10, f24, f14, f15, f16, by rw [← own_cnt hij hj hl (by omega)]; exact f17, f25⟩
theorem pn_26 : plainName "java/lang/AbstractStringBuilder" = true := by first | (simp [plainName, overriddenIn]; done) | decide +kernel
theorem ef_rm_aa (m : MethodId) (x0 : Addr) (x1 : Addr) (x2 : Int32) (x3 : Int32) : entryFrame m #[(.ref x0), (.ref x1), (.int x2), (.int x3)] 5 = mkF m 0 #[.val (.ref x0), .val (.ref x1), .val (.int x2), .val (.int x3), .unset] [] := by first | (simp [entryFrame, mkF, argsToLocals, Value.category]; done) | rfl
def Q_rm_aa (Z : State) (a1 : Addr) (a2 : Addr) (b1 : Addr) (k1 : ClassId) (ac : List Int32) (t2 : Addr) (kb2 : ClassId) (cl : List Int32) (i j : Nat) (cz : Int32) (fi : Value) (h0 : Heap) (n0 : Nat) (v : Option Value) (h : Heap) (L : List Loc) : Prop := v = some (.ref a1) ∧ Fr n0 L ∧ Keep h0 h [a1, b1] ∧ Exa Z h a1 "java/lang/StringBuilder" ∧ Fld Z h a1 "java/lang/AbstractStringBuilder" "value" "[B" (.ref b1) ∧ Fld Z h a1 "java/lang/AbstractStringBuilder" "coder" "B" (.int (0 : Int32)) ∧ Fld Z h a1 "java/lang/AbstractStringBuilder" "count" "I" (.int (Int32.ofNat (ac ++ own_sl cl i j).length)) ∧ Arv Z h b1 k1 .byte (16 : Int32) (own_by (ac ++ own_sl cl i j)) (.int 0)
theorem d26_0 : decode jdk_68_method_27_code 0 = .ok (.aload_n 1, 1) := by decide +kernel
theorem d26_1 : decode jdk_68_method_27_code 1 = .ok (.ifnonnull 6, 3) := by decide +kernel
theorem d26_7 : decode jdk_68_method_27_code 7 = .ok (.iload_n 2, 1) := by decide +kernel
theorem d26_8 : decode jdk_68_method_27_code 8 = .ok (.iload_n 3, 1) := by decide +kernel
theorem d26_9 : decode jdk_68_method_27_code 9 = .ok (.aload_n 1, 1) := by decide +kernel
theorem d26_10 : decode jdk_68_method_27_code 10 = .ok (.invokeinterface 47 1, 5) := by decide +kernel
theorem d26_15 : decode jdk_68_method_27_code 15 = .ok (.getstatic 183, 3) := by decide +kernel
theorem pd__IIILjava_util_function_BiFunction__I_3392 : parseMethodDescriptor "(IIILjava/util/function/BiFunction;)I" = some ⟨[.int, .int, .int, (.object "java/util/function/BiFunction")], some .int⟩ := by decide +kernel
theorem d26_18 : decode jdk_68_method_27_code 18 = .ok (.invokestatic 161, 3) := by decide +kernel
theorem d26_21 : decode jdk_68_method_27_code 21 = .ok (.pop, 1) := by decide +kernel
theorem d26_22 : decode jdk_68_method_27_code 22 = .ok (.iload_n 3, 1) := by decide +kernel
theorem d26_23 : decode jdk_68_method_27_code 23 = .ok (.iload_n 2, 1) := by decide +kernel
theorem d26_24 : decode jdk_68_method_27_code 24 = .ok (.isub, 1) := by decide +kernel
theorem d26_25 : decode jdk_68_method_27_code 25 = .ok (.istore 4, 2) := by decide +kernel
theorem d26_27 : decode jdk_68_method_27_code 27 = .ok (.aload_n 0, 1) := by decide +kernel
theorem d26_28 : decode jdk_68_method_27_code 28 = .ok (.aload_n 0, 1) := by decide +kernel
theorem d26_29 : decode jdk_68_method_27_code 29 = .ok (.getfield 79, 3) := by decide +kernel
theorem d26_32 : decode jdk_68_method_27_code 32 = .ok (.iload 4, 2) := by decide +kernel
theorem d26_34 : decode jdk_68_method_27_code 34 = .ok (.iadd, 1) := by decide +kernel
theorem d26_35 : decode jdk_68_method_27_code 35 = .ok (.invokevirtual 100, 3) := by decide +kernel
theorem d26_38 : decode jdk_68_method_27_code 38 = .ok (.aload_n 1, 1) := by decide +kernel
theorem d26_39 : decode jdk_68_method_27_code 39 = .ok (.instanceof 1, 3) := by decide +kernel
theorem d26_42 : decode jdk_68_method_27_code 42 = .ok (.ifCond .eq 16, 3) := by decide +kernel
theorem d26_45 : decode jdk_68_method_27_code 45 = .ok (.aload_n 0, 1) := by decide +kernel
theorem d26_46 : decode jdk_68_method_27_code 46 = .ok (.aload_n 1, 1) := by decide +kernel
theorem d26_47 : decode jdk_68_method_27_code 47 = .ok (.checkcast 1, 3) := by decide +kernel
theorem d26_50 : decode jdk_68_method_27_code 50 = .ok (.iload_n 2, 1) := by decide +kernel
theorem d26_51 : decode jdk_68_method_27_code 51 = .ok (.iload_n 3, 1) := by decide +kernel
theorem pd__Ljava_lang_String_II_V_2009 : parseMethodDescriptor "(Ljava/lang/String;II)V" = some ⟨[(.object "java/lang/String"), .int, .int], none⟩ := by decide +kernel
theorem d26_52 : decode jdk_68_method_27_code 52 = .ok (.invokevirtual 232, 3) := by decide +kernel
theorem d26_55 : decode jdk_68_method_27_code 55 = .ok (.goto 10, 3) := by decide +kernel
theorem d26_65 : decode jdk_68_method_27_code 65 = .ok (.aload_n 0, 1) := by decide +kernel
theorem d26_66 : decode jdk_68_method_27_code 66 = .ok (.areturn, 1) := by decide +kernel
set_option maxRecDepth 65536 in
set_option maxHeartbeats 40000000 in
theorem rm_aa (l : Launch) (Z : State) (a0 : Array Value) (hw : ∀ d ∈ tables_1, d.before a0 Z = true) (ws : List Jvm.Cond) (a1 : Addr) (a2 : Addr) (b1 : Addr) (k1 : ClassId) (ac : List Int32) (t2 : Addr) (kb2 : ClassId) (cl : List Int32) (i j : Nat) (cz : Int32) (fi : Value) (h0 : Heap) (n0 : Nat) (Z0 : n0 ≤ h0.size) (E_a1 : Exa Z h0 a1 "java/lang/StringBuilder") (F_value_a1 : Fld Z h0 a1 "java/lang/AbstractStringBuilder" "value" "[B" (.ref b1)) (F_coder_a1 : Fld Z h0 a1 "java/lang/AbstractStringBuilder" "coder" "B" (.int (0 : Int32))) (F_count_a1 : Fld Z h0 a1 "java/lang/AbstractStringBuilder" "count" "I" (.int (Int32.ofNat ac.length))) (V_b1 : Arv Z h0 b1 k1 .byte (16 : Int32) (own_by ac) (.int 0)) (g_a1 : n0 ≤ a1) (g_b1 : n0 ≤ b1) (E_a2 : Exa Z h0 a2 "java/lang/String") (F_coder_a2 : Fld Z h0 a2 "java/lang/String" "coder" "B" (.int (0 : Int32))) (F_value_a2 : Fld Z h0 a2 "java/lang/String" "value" "[B" (.ref t2)) (V_t2 : Arv Z h0 t2 kb2 .byte (Int32.ofNat cl.length) (own_by cl) (.int 0)) (ne_t2_b1 : t2 ≠ b1) (hp : ∀ c ∈ cl, ¬ c < 0 ∧ ¬ (255 : Int32) < c) (hl : cl.length ≤ 4000) (hij : i ≤ j) (hj : j ≤ cl.length) (hcap : ac.length + (j - i) ≤ 16) (S_CS : Sta Z h0 "java/lang/String" "COMPACT_STRINGS" "Z" (.int cz)) (hcs : ¬ cz = (0 : Int32)) (S_IO : Sta Z h0 "jdk/internal/util/Preconditions" "IOOBE_FORMATTER" "Ljava/util/function/BiFunction;" fi) (hfi : fi.isRef = true) :
    MetFree l (⟨"java/lang/AbstractStringBuilder", "append", "(Ljava/lang/CharSequence;II)Ljava/lang/AbstractStringBuilder;"⟩ : MethodName) (head1 (Jvm.Cond.code (⟨"java/lang/AbstractStringBuilder", "append", "(Ljava/lang/CharSequence;II)Ljava/lang/AbstractStringBuilder;"⟩ : MethodName) jdk_68_method_27_code 5 (some (.object "java/lang/AbstractStringBuilder")) :: ws) ({ frames := 2, cells := 0, slots := 0, locals := 37 } : Room)) (fun a U => a = #[(.ref a1), (.ref a2), (.int (Int32.ofNat i)), (.int (Int32.ofNat j))] ∧ Z.Warmed39 U.vm ∧ U.heap = h0) (fun _ _ _ _ _ => True) (fun _ U o U' => ∃ v L, o = .returned v ∧ Q_rm_aa Z a1 a2 b1 k1 ac t2 kb2 cl i j cz fi h0 n0 v U'.heap L ∧ FrameEnd U o U' L ({ frames := 2, cells := 0, slots := 0, locals := 37 } : Room).cells ({ frames := 2, cells := 0, slots := 0, locals := 37 } : Room).slots) := by
  refine MetFree.of_bodySF (plainFor_of_name pn_26) hisR ?_
  intro p e s m args below meth c s₁ Bd hml0 hP hK
  obtain ⟨rfl, hZ, hh⟩ := hP
  have hx := Bd.exec
  have hby := Bd.bytes
  have hml : c.maxLocals = 5 := hml0
  have hown : s.vm.findClass "java/lang/AbstractStringBuilder" = some m.cls := findClass_of_methodNamed Bd.named
  have hnm := (name_of_methodNamed Bd.named Bd.method).1
  have X0 : Stand p l e ({ frames := 2, cells := 0, slots := 0, locals := 37 } : Room) s m #[(.ref a1), (.ref a2), (.int (Int32.ofNat i)), (.int (Int32.ofNat j))] below meth c s₁ [] 0 0 := Stand.of_body Bd
  have e0 : s₁.heap = h0 := by rw [← hh, Bd.state]; rfl
  have N0 := Fr.nil n0
  have pre0 : ∀ t, Steps p.tables e below (s₁.setTop (mkF m 0 #[.val (.ref a1), .val (.ref a2), .val (.int (Int32.ofNat i)), .val (.int (Int32.ofNat j)), .unset] [])) t → Steps p.tables e below (s₁.setTop (entryFrame m #[(.ref a1), (.ref a2), (.int (Int32.ofNat i)), (.int (Int32.ofNat j))] 5)) t := fun t kt => castTop (ef_rm_aa m a1 a2 (Int32.ofNat i) (Int32.ofNat j)) kt
  have ne_a1_b1 : a1 ≠ b1 := by
    obtain ⟨cA, AA, -⟩ := id V_b1
    exact ne_arr E_a1 (hw _ (List.mem_of_getElem? (i := 66) rfl)) AA
  have ne_a2_a1 : a2 ≠ a1 := ne_exa E_a2 E_a1 (by decide)
  have ne_a2_b1 : a2 ≠ b1 := by
    obtain ⟨cA, AA, -⟩ := id V_b1
    exact ne_arr E_a2 (hw _ (List.mem_of_getElem? (i := 7) rfl)) AA
  have ne_a1_t2 : a1 ≠ t2 := by
    obtain ⟨cA, AA, -⟩ := id V_t2
    exact ne_arr E_a1 (hw _ (List.mem_of_getElem? (i := 66) rfl)) AA
  obtain ⟨cq1, kq1, q1a, q1b, q1c⟩ := isOf hZ e0 E_a2
  obtain ⟨_, _, ⟨T1, L1, k1, n1⟩, -, X1, ⟨Lc1, hQ1, l1, y1, z1⟩, st1⟩ := X0.interfaceBack hx (xi := (⟨"java/lang/CharSequence", "length", "()I"⟩ : MethodName)) (y := (⟨"java/lang/String", "length", "()I"⟩ : MethodName)) hown (mvT hZ (hw _ (List.mem_of_getElem? (i := 124) rfl))) (mvT hZ (hw _ (List.mem_of_getElem? (i := 125) rfl))) (mvT hZ (hw _ (List.mem_of_getElem? (i := 126) rfl))) (mvT hZ (hw _ (List.mem_of_getElem? (i := 127) rfl))) (mvT hZ (hw _ (List.mem_of_getElem? (i := 90) rfl))) (mvT hZ (hw _ (List.mem_of_getElem? (i := 128) rfl))) (mvT hZ (hw _ (List.mem_of_getElem? (i := 129) rfl))) (mvT hZ (hw _ (List.mem_of_getElem? (i := 130) rfl))) (by decide) (StrChars.Road.lenW (W := 2) hZ (fun d hd => hw d (own_wLen d hd)) (kI := 4) (hw _ (List.mem_of_getElem? (i := 7) rfl)) (cs := cl) E_a2 F_value_a2 F_coder_a2 V_t2 (own_cod cl hp) (own_up _ hp) S_CS hcs hl (by decide) (by decide)) q1a q1b q1c (g := (mkF m 10 #[.val (.ref a1), .val (.ref a2), .val (.int (Int32.ofNat i)), .val (.int (Int32.ofNat j)), .unset] [(.ref a2), (.int (Int32.ofNat j)), (.int (Int32.ofNat i))])) rfl (by rw [hml]; rfl) (Steps.refl _) (argsL := []) (rest := [(.int (Int32.ofNat j)), (.int (Int32.ofNat i))]) (lenOf pd___I_154 rfl) rfl (by show 2 * 0 + _ ≤ _; exact Nat.le_of_eq rfl) (hb hby d26_10) (fun _ _ => ⟨rfl, e0, (by decide : 0 + 0 ≤ _), (by decide : 0 + 0 ≤ _)⟩)
  dsimp only [Pt.U, Pt.locs, Pt.cells, Pt.slots] at X1 l1 y1 z1 st1 hQ1
  subst l1 y1 z1
  obtain ⟨rfl, rfl, e1⟩ := hQ1
  have N1q := Fr.nil n0
  have N1 := Fr.app N0 N1q
  obtain ⟨T2, X2, e2, st2⟩ := getS2 X1 hx hZ hown (host := "") (Or.inl (hw _ (List.mem_of_getElem? (i := 131) rfl))) Via.refl e1 S_IO (g := (mkF m 15 #[.val (.ref a1), .val (.ref a2), .val (.int (Int32.ofNat i)), .val (.int (Int32.ofNat j)), .unset] [(.int (Int32.ofNat cl.length)), (.int (Int32.ofNat j)), (.int (Int32.ofNat i))])) rfl (hb hby d26_15)
  obtain ⟨_, _, ⟨T3, L3, k3, n3⟩, -, X3, ⟨Lc3, hQ3, l3, y3, z3⟩, st3⟩ := Jvm.LawKit.callS X2 hx (y := (⟨"jdk/internal/util/Preconditions", "checkFromToIndex", "(IIILjava/util/function/BiFunction;)I"⟩ : MethodName)) hown (mvT hZ (hw _ (List.mem_of_getElem? (i := 133) rfl))) (mvT hZ (hw _ (List.mem_of_getElem? (i := 134) rfl))) (mvT hZ (hw _ (List.mem_of_getElem? (i := 61) rfl))) (mvT hZ (hw _ (List.mem_of_getElem? (i := 135) rfl))) (by decide) (backOf (W := 0) (rm_ft l Z a0 hw [] i j cl.length fi h0 n0 Z0 hfi hij hj hl) hZ (hw _ (List.mem_of_getElem? (i := 135) rfl)) (hw _ (List.mem_of_getElem? (i := 61) rfl)) (by decide) (by decide)) (g := (mkF m 18 #[.val (.ref a1), .val (.ref a2), .val (.int (Int32.ofNat i)), .val (.int (Int32.ofNat j)), .unset] [fi, (.int (Int32.ofNat cl.length)), (.int (Int32.ofNat j)), (.int (Int32.ofNat i))])) rfl (by rw [hml]; rfl) (argsL := [(.int (Int32.ofNat i)), (.int (Int32.ofNat j)), (.int (Int32.ofNat cl.length)), fi]) (rest := []) (lenOf pd__IIILjava_util_function_BiFunction__I_3392 rfl) rfl (by show 2 * 0 + _ ≤ _; exact Nat.le_of_eq rfl) (hb hby d26_18) (fun _ _ => ⟨rfl, e2, (by decide : 0 + 0 ≤ _), (by decide : 0 + 0 ≤ _)⟩)
  dsimp only [Pt.U, Pt.locs, Pt.cells, Pt.slots] at X3 l3 y3 z3 st3 hQ3
  subst l3 y3 z3
  obtain ⟨rfl, N3q, e3⟩ := hQ3
  have N3 := Fr.app N1 N3q
  obtain ⟨T4, X4, e4, st4⟩ := getF X3 hx hZ hown (host := "") (Or.inl (hw _ (List.mem_of_getElem? (i := 136) rfl))) Via.refl e3 F_count_a1 (g := (mkF m 29 #[.val (.ref a1), .val (.ref a2), .val (.int (Int32.ofNat i)), .val (.int (Int32.ofNat j)), .val (.int ((Int32.ofNat j) - (Int32.ofNat i)))] [(.ref a1), (.ref a1)])) rfl rfl (hb hby d26_29)
  obtain ⟨cq5, kq5, q5a, q5b, q5c⟩ := isOf hZ e4 E_a1
  obtain ⟨_, _, ⟨T5, L5, k5, n5⟩, -, X5, ⟨Lc5, hQ5, l5, y5, z5⟩, st5⟩ := X4.virtualBack hx (y := (⟨"java/lang/AbstractStringBuilder", "ensureCapacityInternal", "(I)V"⟩ : MethodName)) (z := (⟨"java/lang/AbstractStringBuilder", "ensureCapacityInternal", "(I)V"⟩ : MethodName)) hown (mvT hZ (hw _ (List.mem_of_getElem? (i := 138) rfl))) (mvT hZ (own_decl (hw _ (List.mem_of_getElem? (i := 139) rfl)) (hw _ (List.mem_of_getElem? (i := 142) rfl)))) (notFace_of_selects (args := #[]) (mvT hZ (hw _ (List.mem_of_getElem? (i := 141) rfl)))) (mvT hZ (hw _ (List.mem_of_getElem? (i := 141) rfl))) (mvT hZ (hw _ (List.mem_of_getElem? (i := 139) rfl))) (by decide) (backOf (W := 0) (rm_ec l Z a0 hw [] a1 ((Int32.ofNat ac.length) + ((Int32.ofNat j) - (Int32.ofNat i))) b1 k1 ac h0 n0 Z0 E_a1 F_value_a1 F_coder_a1 F_count_a1 V_b1 (own_ec2 hij (by omega) hcap)) hZ (hw _ (List.mem_of_getElem? (i := 142) rfl)) (hw _ (List.mem_of_getElem? (i := 75) rfl)) (by decide) (by decide)) q5a q5c (g := (mkF m 35 #[.val (.ref a1), .val (.ref a2), .val (.int (Int32.ofNat i)), .val (.int (Int32.ofNat j)), .val (.int ((Int32.ofNat j) - (Int32.ofNat i)))] [(.int ((Int32.ofNat ac.length) + ((Int32.ofNat j) - (Int32.ofNat i)))), (.ref a1)])) rfl (by rw [hml]; rfl) (Steps.refl _) (argsL := [(.int ((Int32.ofNat ac.length) + ((Int32.ofNat j) - (Int32.ofNat i))))]) (rest := []) (lenOf pd__I_V_240 rfl) rfl (by show 2 * 0 + _ ≤ _; exact Nat.le_of_eq rfl) (hb hby d26_35) (fun _ _ => ⟨rfl, e4, (by decide : 0 + 0 ≤ _), (by decide : 0 + 0 ≤ _)⟩)
  dsimp only [Pt.U, Pt.locs, Pt.cells, Pt.slots] at X5 l5 y5 z5 st5 hQ5
  subst l5 y5 z5
  obtain ⟨rfl, N5q, e5⟩ := hQ5
  have N5 := Fr.app N3 N5q
  obtain ⟨T6, X6, e6, st6⟩ := instY X5 hx hZ hown (hw _ (List.mem_of_getElem? (i := 143) rfl)) e5 (Ins.self E_a2) (g := (mkF m 39 #[.val (.ref a1), .val (.ref a2), .val (.int (Int32.ofNat i)), .val (.int (Int32.ofNat j)), .val (.int ((Int32.ofNat j) - (Int32.ofNat i)))] [(.ref a2)])) rfl rfl (hb hby d26_39)
  obtain ⟨T7, X7, e7, st7⟩ := castY X6 hx hZ hown (hw _ (List.mem_of_getElem? (i := 143) rfl)) e6 (Ins.self E_a2) (g := (mkF m 47 #[.val (.ref a1), .val (.ref a2), .val (.int (Int32.ofNat i)), .val (.int (Int32.ofNat j)), .val (.int ((Int32.ofNat j) - (Int32.ofNat i)))] [(.ref a2), (.ref a1)])) rfl rfl (hb hby d26_47)
  obtain ⟨cq8, kq8, q8a, q8b, q8c⟩ := isOf hZ e7 E_a1
  obtain ⟨_, _, ⟨T8, L8, k8, n8⟩, -, X8, ⟨Lc8, hQ8, l8, y8, z8⟩, st8⟩ := X7.virtualBack hx (y := (⟨"java/lang/AbstractStringBuilder", "appendChars", "(Ljava/lang/String;II)V"⟩ : MethodName)) (z := (⟨"java/lang/AbstractStringBuilder", "appendChars", "(Ljava/lang/String;II)V"⟩ : MethodName)) hown (mvT hZ (hw _ (List.mem_of_getElem? (i := 144) rfl))) (mvT hZ (own_decl (hw _ (List.mem_of_getElem? (i := 145) rfl)) (hw _ (List.mem_of_getElem? (i := 148) rfl)))) (notFace_of_selects (args := #[]) (mvT hZ (hw _ (List.mem_of_getElem? (i := 147) rfl)))) (mvT hZ (hw _ (List.mem_of_getElem? (i := 147) rfl))) (mvT hZ (hw _ (List.mem_of_getElem? (i := 145) rfl))) (by decide) (backOf (W := 0) (rm_ac l Z a0 hw [] a1 a2 b1 k1 ac t2 kb2 cl i j cz h0 n0 Z0 E_a1 F_value_a1 F_coder_a1 F_count_a1 V_b1 g_a1 g_b1 E_a2 F_coder_a2 F_value_a2 V_t2 ne_t2_b1 hp hl hij hj hcap S_CS hcs) hZ (hw _ (List.mem_of_getElem? (i := 148) rfl)) (hw _ (List.mem_of_getElem? (i := 75) rfl)) (by decide) (by decide)) q8a q8c (g := (mkF m 52 #[.val (.ref a1), .val (.ref a2), .val (.int (Int32.ofNat i)), .val (.int (Int32.ofNat j)), .val (.int ((Int32.ofNat j) - (Int32.ofNat i)))] [(.int (Int32.ofNat j)), (.int (Int32.ofNat i)), (.ref a2), (.ref a1)])) rfl (by rw [hml]; rfl) (Steps.refl _) (argsL := [(.ref a2), (.int (Int32.ofNat i)), (.int (Int32.ofNat j))]) (rest := []) (lenOf pd__Ljava_lang_String_II_V_2009 rfl) rfl (by show 2 * 0 + _ ≤ _; exact Nat.le_of_eq rfl) (hb hby d26_52) (fun _ _ => ⟨rfl, e7, (by decide : 0 + 0 ≤ _), (by decide : 0 + 0 ≤ _)⟩)
  dsimp only [Pt.U, Pt.locs, Pt.cells, Pt.slots] at X8 l8 y8 z8 st8 hQ8
  subst l8 y8 z8
  obtain ⟨rfl, N8q, K8, fk8_0, fk8_1, fk8_2, fk8_3, fk8_4⟩ := hQ8
  have f1 : Sta Z T8.heap "java/lang/String" "COMPACT_STRINGS" "Z" (.int cz) := own_staK S_CS K8 (nsS E_a1.nostat (nsS V_b1.nostat ns0))
  have f2 : Sta Z T8.heap "jdk/internal/util/Preconditions" "IOOBE_FORMATTER" "Ljava/util/function/BiFunction;" fi := own_staK S_IO K8 (nsS E_a1.nostat (nsS V_b1.nostat ns0))
  have f3 : n0 ≤ a1 := g_a1
  have f4 : n0 ≤ b1 := g_b1
  have f5 : Exa Z T8.heap a2 "java/lang/String" := E_a2.keep K8
  have f6 : Fld Z T8.heap a2 "java/lang/String" "coder" "B" (.int (0 : Int32)) := F_coder_a2.keep K8 (by simp [ne_a2_a1, ne_a2_b1])
  have f7 : Fld Z T8.heap a2 "java/lang/String" "value" "[B" (.ref t2) := F_value_a2.keep K8 (by simp [ne_a2_a1, ne_a2_b1])
  have f8 : Arv Z T8.heap t2 kb2 .byte (Int32.ofNat cl.length) (own_by cl) (.int 0) := V_t2.keep K8 (by simp [(Ne.symm ne_a1_t2), ne_t2_b1])
  have f9 : Keep h0 T8.heap [a1, b1] := (Keep.refl h0 [a1, b1]).trans K8 (fun x hx => (List.mem_cons.mp hx).elim (fun q => by subst q; exact Or.inl (by simp)) (fun hx' => (by cases List.mem_singleton.mp hx'; exact Or.inl (by simp))))
  have Z8 : n0 ≤ T8.heap.size := Nat.le_trans Z0 K8.1
  have N8 := Fr.app N5 N8q
  obtain ⟨fs, hr, hrun, hended, hW, hsame⟩ := X8.leave (v := some (.ref a1)) (fun h => by rw [Bd.returns] at h; cases h) (hlocks := Bd.notSynchronized)
  refine ⟨_, _, pre0 _ ?_, hrun, hended, _, _, rfl, ?_, ⟨_, rfl⟩, hW, hsame.mono (by decide) (by decide)⟩
  · show Steps p.tables e below (s₁.setTop (mkF m 0 #[.val (.ref a1), .val (.ref a2), .val (.int (Int32.ofNat i)), .val (.int (Int32.ofNat j)), .unset] [])) _
    refine XS.aloadN X0.here hx rfl (hb hby d26_0) rfl rfl ?_
    show Steps p.tables e below (s₁.setTop (mkF m 1 #[.val (.ref a1), .val (.ref a2), .val (.int (Int32.ofNat i)), .val (.int (Int32.ofNat j)), .unset] [(.ref a2)])) _
    refine XS.ifnonnullYes X0.here hx rfl (pc0 := 1) (pc' := 7) rfl (hb hby d26_1) rfl (by decide) (by decide) ?_
    show Steps p.tables e below (s₁.setTop (mkF m 7 #[.val (.ref a1), .val (.ref a2), .val (.int (Int32.ofNat i)), .val (.int (Int32.ofNat j)), .unset] [])) _
    refine XS.iloadN X0.here hx rfl (hb hby d26_7) rfl ?_
    show Steps p.tables e below (s₁.setTop (mkF m 8 #[.val (.ref a1), .val (.ref a2), .val (.int (Int32.ofNat i)), .val (.int (Int32.ofNat j)), .unset] [(.int (Int32.ofNat i))])) _
    refine XS.iloadN X0.here hx rfl (hb hby d26_8) rfl ?_
    show Steps p.tables e below (s₁.setTop (mkF m 9 #[.val (.ref a1), .val (.ref a2), .val (.int (Int32.ofNat i)), .val (.int (Int32.ofNat j)), .unset] [(.int (Int32.ofNat j)), (.int (Int32.ofNat i))])) _
    refine XS.aloadN X0.here hx rfl (hb hby d26_9) rfl rfl ?_
    show Steps p.tables e below (s₁.setTop (mkF m 10 #[.val (.ref a1), .val (.ref a2), .val (.int (Int32.ofNat i)), .val (.int (Int32.ofNat j)), .unset] [(.ref a2), (.int (Int32.ofNat j)), (.int (Int32.ofNat i))])) _
    refine st1.trans ?_
    show Steps p.tables e below (T1.setTop (mkF m 15 #[.val (.ref a1), .val (.ref a2), .val (.int (Int32.ofNat i)), .val (.int (Int32.ofNat j)), .unset] [(.int (Int32.ofNat cl.length)), (.int (Int32.ofNat j)), (.int (Int32.ofNat i))])) _
    refine st2 _ ?_
    show Steps p.tables e below (T2.setTop (mkF m 18 #[.val (.ref a1), .val (.ref a2), .val (.int (Int32.ofNat i)), .val (.int (Int32.ofNat j)), .unset] [fi, (.int (Int32.ofNat cl.length)), (.int (Int32.ofNat j)), (.int (Int32.ofNat i))])) _
    refine st3 _ ?_
    show Steps p.tables e below (T3.setTop (mkF m 21 #[.val (.ref a1), .val (.ref a2), .val (.int (Int32.ofNat i)), .val (.int (Int32.ofNat j)), .unset] [(.int (Int32.ofNat i))])) _
    refine XS.pop X3.here hx rfl (hb hby d26_21) rfl rfl ?_
    show Steps p.tables e below (T3.setTop (mkF m 22 #[.val (.ref a1), .val (.ref a2), .val (.int (Int32.ofNat i)), .val (.int (Int32.ofNat j)), .unset] [])) _
    refine XS.iloadN X3.here hx rfl (hb hby d26_22) rfl ?_
    show Steps p.tables e below (T3.setTop (mkF m 23 #[.val (.ref a1), .val (.ref a2), .val (.int (Int32.ofNat i)), .val (.int (Int32.ofNat j)), .unset] [(.int (Int32.ofNat j))])) _
    refine XS.iloadN X3.here hx rfl (hb hby d26_23) rfl ?_
    show Steps p.tables e below (T3.setTop (mkF m 24 #[.val (.ref a1), .val (.ref a2), .val (.int (Int32.ofNat i)), .val (.int (Int32.ofNat j)), .unset] [(.int (Int32.ofNat i)), (.int (Int32.ofNat j))])) _
    refine XS.isub X3.here hx rfl (hb hby d26_24) rfl ?_
    show Steps p.tables e below (T3.setTop (mkF m 25 #[.val (.ref a1), .val (.ref a2), .val (.int (Int32.ofNat i)), .val (.int (Int32.ofNat j)), .unset] [(.int ((Int32.ofNat j) - (Int32.ofNat i)))])) _
    refine XS.istore X3.here hx rfl (hb hby d26_25) rfl (l' := #[.val (.ref a1), .val (.ref a2), .val (.int (Int32.ofNat i)), .val (.int (Int32.ofNat j)), .val (.int ((Int32.ofNat j) - (Int32.ofNat i)))]) rfl ?_
    show Steps p.tables e below (T3.setTop (mkF m 27 #[.val (.ref a1), .val (.ref a2), .val (.int (Int32.ofNat i)), .val (.int (Int32.ofNat j)), .val (.int ((Int32.ofNat j) - (Int32.ofNat i)))] [])) _
    refine XS.aloadN X3.here hx rfl (hb hby d26_27) rfl rfl ?_
    show Steps p.tables e below (T3.setTop (mkF m 28 #[.val (.ref a1), .val (.ref a2), .val (.int (Int32.ofNat i)), .val (.int (Int32.ofNat j)), .val (.int ((Int32.ofNat j) - (Int32.ofNat i)))] [(.ref a1)])) _
    refine XS.aloadN X3.here hx rfl (hb hby d26_28) rfl rfl ?_
    show Steps p.tables e below (T3.setTop (mkF m 29 #[.val (.ref a1), .val (.ref a2), .val (.int (Int32.ofNat i)), .val (.int (Int32.ofNat j)), .val (.int ((Int32.ofNat j) - (Int32.ofNat i)))] [(.ref a1), (.ref a1)])) _
    refine st4 _ ?_
    show Steps p.tables e below (T4.setTop (mkF m 32 #[.val (.ref a1), .val (.ref a2), .val (.int (Int32.ofNat i)), .val (.int (Int32.ofNat j)), .val (.int ((Int32.ofNat j) - (Int32.ofNat i)))] [(.int (Int32.ofNat ac.length)), (.ref a1)])) _
    refine XS.iload X4.here hx rfl (hb hby d26_32) rfl ?_
    show Steps p.tables e below (T4.setTop (mkF m 34 #[.val (.ref a1), .val (.ref a2), .val (.int (Int32.ofNat i)), .val (.int (Int32.ofNat j)), .val (.int ((Int32.ofNat j) - (Int32.ofNat i)))] [(.int ((Int32.ofNat j) - (Int32.ofNat i))), (.int (Int32.ofNat ac.length)), (.ref a1)])) _
    refine XS.iadd X4.here hx rfl (hb hby d26_34) rfl ?_
    show Steps p.tables e below (T4.setTop (mkF m 35 #[.val (.ref a1), .val (.ref a2), .val (.int (Int32.ofNat i)), .val (.int (Int32.ofNat j)), .val (.int ((Int32.ofNat j) - (Int32.ofNat i)))] [(.int ((Int32.ofNat ac.length) + ((Int32.ofNat j) - (Int32.ofNat i)))), (.ref a1)])) _
    refine st5.trans ?_
    show Steps p.tables e below (T5.setTop (mkF m 38 #[.val (.ref a1), .val (.ref a2), .val (.int (Int32.ofNat i)), .val (.int (Int32.ofNat j)), .val (.int ((Int32.ofNat j) - (Int32.ofNat i)))] [])) _
    refine XS.aloadN X5.here hx rfl (hb hby d26_38) rfl rfl ?_
    show Steps p.tables e below (T5.setTop (mkF m 39 #[.val (.ref a1), .val (.ref a2), .val (.int (Int32.ofNat i)), .val (.int (Int32.ofNat j)), .val (.int ((Int32.ofNat j) - (Int32.ofNat i)))] [(.ref a2)])) _
    refine st6 _ ?_
    show Steps p.tables e below (T6.setTop (mkF m 42 #[.val (.ref a1), .val (.ref a2), .val (.int (Int32.ofNat i)), .val (.int (Int32.ofNat j)), .val (.int ((Int32.ofNat j) - (Int32.ofNat i)))] [(.int (1 : Int32))])) _
    refine XS.ifNo X6.here hx rfl (hb hby d26_42) rfl ((if0 _ _).trans (feq (by decide : ¬ ((1 : Int32) = (0 : Int32)))).1) ?_
    show Steps p.tables e below (T6.setTop (mkF m 45 #[.val (.ref a1), .val (.ref a2), .val (.int (Int32.ofNat i)), .val (.int (Int32.ofNat j)), .val (.int ((Int32.ofNat j) - (Int32.ofNat i)))] [])) _
    refine XS.aloadN X6.here hx rfl (hb hby d26_45) rfl rfl ?_
    show Steps p.tables e below (T6.setTop (mkF m 46 #[.val (.ref a1), .val (.ref a2), .val (.int (Int32.ofNat i)), .val (.int (Int32.ofNat j)), .val (.int ((Int32.ofNat j) - (Int32.ofNat i)))] [(.ref a1)])) _
    refine XS.aloadN X6.here hx rfl (hb hby d26_46) rfl rfl ?_
    show Steps p.tables e below (T6.setTop (mkF m 47 #[.val (.ref a1), .val (.ref a2), .val (.int (Int32.ofNat i)), .val (.int (Int32.ofNat j)), .val (.int ((Int32.ofNat j) - (Int32.ofNat i)))] [(.ref a2), (.ref a1)])) _
    refine st7 _ ?_
    show Steps p.tables e below (T7.setTop (mkF m 50 #[.val (.ref a1), .val (.ref a2), .val (.int (Int32.ofNat i)), .val (.int (Int32.ofNat j)), .val (.int ((Int32.ofNat j) - (Int32.ofNat i)))] [(.ref a2), (.ref a1)])) _
    refine XS.iloadN X7.here hx rfl (hb hby d26_50) rfl ?_
    show Steps p.tables e below (T7.setTop (mkF m 51 #[.val (.ref a1), .val (.ref a2), .val (.int (Int32.ofNat i)), .val (.int (Int32.ofNat j)), .val (.int ((Int32.ofNat j) - (Int32.ofNat i)))] [(.int (Int32.ofNat i)), (.ref a2), (.ref a1)])) _
    refine XS.iloadN X7.here hx rfl (hb hby d26_51) rfl ?_
    show Steps p.tables e below (T7.setTop (mkF m 52 #[.val (.ref a1), .val (.ref a2), .val (.int (Int32.ofNat i)), .val (.int (Int32.ofNat j)), .val (.int ((Int32.ofNat j) - (Int32.ofNat i)))] [(.int (Int32.ofNat j)), (.int (Int32.ofNat i)), (.ref a2), (.ref a1)])) _
    refine st8.trans ?_
    show Steps p.tables e below (T8.setTop (mkF m 55 #[.val (.ref a1), .val (.ref a2), .val (.int (Int32.ofNat i)), .val (.int (Int32.ofNat j)), .val (.int ((Int32.ofNat j) - (Int32.ofNat i)))] [])) _
    refine XS.goto X8.here hx rfl (pc0 := 55) (pc' := 65) rfl (hb hby d26_55) (by decide) (by decide) ?_
    show Steps p.tables e below (T8.setTop (mkF m 65 #[.val (.ref a1), .val (.ref a2), .val (.int (Int32.ofNat i)), .val (.int (Int32.ofNat j)), .val (.int ((Int32.ofNat j) - (Int32.ofNat i)))] [])) _
    refine XS.aloadN X8.here hx rfl (hb hby d26_65) rfl rfl ?_
    show Steps p.tables e below (T8.setTop (mkF m 66 #[.val (.ref a1), .val (.ref a2), .val (.int (Int32.ofNat i)), .val (.int (Int32.ofNat j)), .val (.int ((Int32.ofNat j) - (Int32.ofNat i)))] [(.ref a1)])) _
    exact X8.areturnOut hx rfl Bd.returns rfl (hb hby d26_66) hr
  · show Q_rm_aa Z a1 a2 b1 k1 ac t2 kb2 cl i j cz fi h0 n0 _ T8.heap _
    exact ⟨rfl, N8, f9, fk8_0, fk8_1, fk8_2, fk8_3, fk8_4⟩
theorem pn_25 : plainName "java/lang/StringBuilder" = true := by first | (simp [plainName, overriddenIn]; done) | decide +kernel
theorem ef_rm_sa (m : MethodId) (x0 : Addr) (x1 : Addr) (x2 : Int32) (x3 : Int32) : entryFrame m #[(.ref x0), (.ref x1), (.int x2), (.int x3)] 4 = mkF m 0 #[.val (.ref x0), .val (.ref x1), .val (.int x2), .val (.int x3)] [] := by first | (simp [entryFrame, mkF, argsToLocals, Value.category]; done) | rfl
def Q_rm_sa (Z : State) (a1 : Addr) (a2 : Addr) (b1 : Addr) (k1 : ClassId) (ac : List Int32) (t2 : Addr) (kb2 : ClassId) (cl : List Int32) (i j : Nat) (cz : Int32) (fi : Value) (h0 : Heap) (n0 : Nat) (v : Option Value) (h : Heap) (L : List Loc) : Prop := v = some (.ref a1) ∧ Fr n0 L ∧ Keep h0 h [a1, b1] ∧ Exa Z h a1 "java/lang/StringBuilder" ∧ Fld Z h a1 "java/lang/AbstractStringBuilder" "value" "[B" (.ref b1) ∧ Fld Z h a1 "java/lang/AbstractStringBuilder" "coder" "B" (.int (0 : Int32)) ∧ Fld Z h a1 "java/lang/AbstractStringBuilder" "count" "I" (.int (Int32.ofNat (ac ++ own_sl cl i j).length)) ∧ Arv Z h b1 k1 .byte (16 : Int32) (own_by (ac ++ own_sl cl i j)) (.int 0)
theorem d25_0 : decode jdk_67_method_10_code 0 = .ok (.aload_n 0, 1) := by decide +kernel
theorem d25_1 : decode jdk_67_method_10_code 1 = .ok (.aload_n 1, 1) := by decide +kernel
theorem d25_2 : decode jdk_67_method_10_code 2 = .ok (.iload_n 2, 1) := by decide +kernel
theorem d25_3 : decode jdk_67_method_10_code 3 = .ok (.iload_n 3, 1) := by decide +kernel
theorem pd__Ljava_lang_CharSequence_II_Ljava_lang_AbstractStringBuilder_5726 : parseMethodDescriptor "(Ljava/lang/CharSequence;II)Ljava/lang/AbstractStringBuilder;" = some ⟨[(.object "java/lang/CharSequence"), .int, .int], some (.object "java/lang/AbstractStringBuilder")⟩ := by decide +kernel
theorem d25_4 : decode jdk_67_method_10_code 4 = .ok (.invokespecial 38, 3) := by decide +kernel
theorem d25_7 : decode jdk_67_method_10_code 7 = .ok (.pop, 1) := by decide +kernel
theorem d25_8 : decode jdk_67_method_10_code 8 = .ok (.aload_n 0, 1) := by decide +kernel
theorem d25_9 : decode jdk_67_method_10_code 9 = .ok (.areturn, 1) := by decide +kernel
set_option maxRecDepth 65536 in
set_option maxHeartbeats 40000000 in
theorem rm_sa (l : Launch) (Z : State) (a0 : Array Value) (hw : ∀ d ∈ tables_1, d.before a0 Z = true) (ws : List Jvm.Cond) (a1 : Addr) (a2 : Addr) (b1 : Addr) (k1 : ClassId) (ac : List Int32) (t2 : Addr) (kb2 : ClassId) (cl : List Int32) (i j : Nat) (cz : Int32) (fi : Value) (h0 : Heap) (n0 : Nat) (Z0 : n0 ≤ h0.size) (E_a1 : Exa Z h0 a1 "java/lang/StringBuilder") (F_value_a1 : Fld Z h0 a1 "java/lang/AbstractStringBuilder" "value" "[B" (.ref b1)) (F_coder_a1 : Fld Z h0 a1 "java/lang/AbstractStringBuilder" "coder" "B" (.int (0 : Int32))) (F_count_a1 : Fld Z h0 a1 "java/lang/AbstractStringBuilder" "count" "I" (.int (Int32.ofNat ac.length))) (V_b1 : Arv Z h0 b1 k1 .byte (16 : Int32) (own_by ac) (.int 0)) (g_a1 : n0 ≤ a1) (g_b1 : n0 ≤ b1) (E_a2 : Exa Z h0 a2 "java/lang/String") (F_coder_a2 : Fld Z h0 a2 "java/lang/String" "coder" "B" (.int (0 : Int32))) (F_value_a2 : Fld Z h0 a2 "java/lang/String" "value" "[B" (.ref t2)) (V_t2 : Arv Z h0 t2 kb2 .byte (Int32.ofNat cl.length) (own_by cl) (.int 0)) (ne_t2_b1 : t2 ≠ b1) (hp : ∀ c ∈ cl, ¬ c < 0 ∧ ¬ (255 : Int32) < c) (hl : cl.length ≤ 4000) (hij : i ≤ j) (hj : j ≤ cl.length) (hcap : ac.length + (j - i) ≤ 16) (S_CS : Sta Z h0 "java/lang/String" "COMPACT_STRINGS" "Z" (.int cz)) (hcs : ¬ cz = (0 : Int32)) (S_IO : Sta Z h0 "jdk/internal/util/Preconditions" "IOOBE_FORMATTER" "Ljava/util/function/BiFunction;" fi) (hfi : fi.isRef = true) :
    MetFree l (⟨"java/lang/StringBuilder", "append", "(Ljava/lang/CharSequence;II)Ljava/lang/StringBuilder;"⟩ : MethodName) (head1 (Jvm.Cond.code (⟨"java/lang/StringBuilder", "append", "(Ljava/lang/CharSequence;II)Ljava/lang/StringBuilder;"⟩ : MethodName) jdk_67_method_10_code 4 (some (.object "java/lang/StringBuilder")) :: ws) ({ frames := 3, cells := 0, slots := 0, locals := 53 } : Room)) (fun a U => a = #[(.ref a1), (.ref a2), (.int (Int32.ofNat i)), (.int (Int32.ofNat j))] ∧ Z.Warmed39 U.vm ∧ U.heap = h0) (fun _ _ _ _ _ => True) (fun _ U o U' => ∃ v L, o = .returned v ∧ Q_rm_sa Z a1 a2 b1 k1 ac t2 kb2 cl i j cz fi h0 n0 v U'.heap L ∧ FrameEnd U o U' L ({ frames := 3, cells := 0, slots := 0, locals := 53 } : Room).cells ({ frames := 3, cells := 0, slots := 0, locals := 53 } : Room).slots) := by
  refine MetFree.of_bodySF (plainFor_of_name pn_25) hisR ?_
  intro p e s m args below meth c s₁ Bd hml0 hP hK
  obtain ⟨rfl, hZ, hh⟩ := hP
  have hx := Bd.exec
  have hby := Bd.bytes
  have hml : c.maxLocals = 4 := hml0
  have hown : s.vm.findClass "java/lang/StringBuilder" = some m.cls := findClass_of_methodNamed Bd.named
  have hnm := (name_of_methodNamed Bd.named Bd.method).1
  have X0 : Stand p l e ({ frames := 3, cells := 0, slots := 0, locals := 53 } : Room) s m #[(.ref a1), (.ref a2), (.int (Int32.ofNat i)), (.int (Int32.ofNat j))] below meth c s₁ [] 0 0 := Stand.of_body Bd
  have e0 : s₁.heap = h0 := by rw [← hh, Bd.state]; rfl
  have N0 := Fr.nil n0
  have pre0 : ∀ t, Steps p.tables e below (s₁.setTop (mkF m 0 #[.val (.ref a1), .val (.ref a2), .val (.int (Int32.ofNat i)), .val (.int (Int32.ofNat j))] [])) t → Steps p.tables e below (s₁.setTop (entryFrame m #[(.ref a1), (.ref a2), (.int (Int32.ofNat i)), (.int (Int32.ofNat j))] 4)) t := fun t kt => castTop (ef_rm_sa m a1 a2 (Int32.ofNat i) (Int32.ofNat j)) kt
  have ne_a1_b1 : a1 ≠ b1 := by
    obtain ⟨cA, AA, -⟩ := id V_b1
    exact ne_arr E_a1 (hw _ (List.mem_of_getElem? (i := 66) rfl)) AA
  have ne_a2_a1 : a2 ≠ a1 := ne_exa E_a2 E_a1 (by decide)
  have ne_a2_b1 : a2 ≠ b1 := by
    obtain ⟨cA, AA, -⟩ := id V_b1
    exact ne_arr E_a2 (hw _ (List.mem_of_getElem? (i := 7) rfl)) AA
  have ne_a1_t2 : a1 ≠ t2 := by
    obtain ⟨cA, AA, -⟩ := id V_t2
    exact ne_arr E_a1 (hw _ (List.mem_of_getElem? (i := 66) rfl)) AA
  obtain ⟨_, _, ⟨T1, L1, k1, n1⟩, -, X1, ⟨Lc1, hQ1, l1, y1, z1⟩, st1⟩ := superBack X0 hx hZ (y := (⟨"java/lang/AbstractStringBuilder", "append", "(Ljava/lang/CharSequence;II)Ljava/lang/AbstractStringBuilder;"⟩ : MethodName)) hown (hw _ (List.mem_of_getElem? (i := 119) rfl)) (own_sm (z := (⟨"java/lang/AbstractStringBuilder", "isLatin1", "()Z"⟩ : MethodName)) rfl (by decide) (hw _ (List.mem_of_getElem? (i := 120) rfl)) (hw _ (List.mem_of_getElem? (i := 152) rfl))) (hw _ (List.mem_of_getElem? (i := 120) rfl)) (hw _ (List.mem_of_getElem? (i := 121) rfl)) (by decide) (backOf (W := 0) (rm_aa l Z a0 hw [] a1 a2 b1 k1 ac t2 kb2 cl i j cz fi h0 n0 Z0 E_a1 F_value_a1 F_coder_a1 F_count_a1 V_b1 g_a1 g_b1 E_a2 F_coder_a2 F_value_a2 V_t2 ne_t2_b1 hp hl hij hj hcap S_CS hcs S_IO hfi) hZ (hw _ (List.mem_of_getElem? (i := 123) rfl)) (hw _ (List.mem_of_getElem? (i := 75) rfl)) (by decide) (by decide)) e0 (Ins.self E_a1) (g := (mkF m 4 #[.val (.ref a1), .val (.ref a2), .val (.int (Int32.ofNat i)), .val (.int (Int32.ofNat j))] [(.int (Int32.ofNat j)), (.int (Int32.ofNat i)), (.ref a2), (.ref a1)])) rfl (by rw [hml]; rfl) (hw _ (List.mem_of_getElem? (i := 123) rfl)) (argsL := [(.ref a2), (.int (Int32.ofNat i)), (.int (Int32.ofNat j))]) (rest := []) (lenOf pd__Ljava_lang_CharSequence_II_Ljava_lang_AbstractStringBuilder_5726 rfl) rfl (by show 2 * 0 + _ ≤ _; exact Nat.le_of_eq rfl) (hb hby d25_4) (fun _ _ => ⟨rfl, e0, (by decide : 0 + 0 ≤ _), (by decide : 0 + 0 ≤ _)⟩)
  dsimp only [Pt.U, Pt.locs, Pt.cells, Pt.slots] at X1 l1 y1 z1 st1 hQ1
  subst l1 y1 z1
  obtain ⟨rfl, N1q, K1, fk1_0, fk1_1, fk1_2, fk1_3, fk1_4⟩ := hQ1
  have f1 : Sta Z T1.heap "java/lang/String" "COMPACT_STRINGS" "Z" (.int cz) := own_staK S_CS K1 (nsS E_a1.nostat (nsS V_b1.nostat ns0))
  have f2 : Sta Z T1.heap "jdk/internal/util/Preconditions" "IOOBE_FORMATTER" "Ljava/util/function/BiFunction;" fi := own_staK S_IO K1 (nsS E_a1.nostat (nsS V_b1.nostat ns0))
  have f3 : n0 ≤ a1 := g_a1
  have f4 : n0 ≤ b1 := g_b1
  have f5 : Exa Z T1.heap a2 "java/lang/String" := E_a2.keep K1
  have f6 : Fld Z T1.heap a2 "java/lang/String" "coder" "B" (.int (0 : Int32)) := F_coder_a2.keep K1 (by simp [ne_a2_a1, ne_a2_b1])
  have f7 : Fld Z T1.heap a2 "java/lang/String" "value" "[B" (.ref t2) := F_value_a2.keep K1 (by simp [ne_a2_a1, ne_a2_b1])
  have f8 : Arv Z T1.heap t2 kb2 .byte (Int32.ofNat cl.length) (own_by cl) (.int 0) := V_t2.keep K1 (by simp [(Ne.symm ne_a1_t2), ne_t2_b1])
  have f9 : Keep h0 T1.heap [a1, b1] := (Keep.refl h0 [a1, b1]).trans K1 (fun x hx => (List.mem_cons.mp hx).elim (fun q => by subst q; exact Or.inl (by simp)) (fun hx' => (by cases List.mem_singleton.mp hx'; exact Or.inl (by simp))))
  have Z1 : n0 ≤ T1.heap.size := Nat.le_trans Z0 K1.1
  have N1 := Fr.app N0 N1q
  obtain ⟨fs, hr, hrun, hended, hW, hsame⟩ := X1.leave (v := some (.ref a1)) (fun h => by rw [Bd.returns] at h; cases h) (hlocks := Bd.notSynchronized)
  refine ⟨_, _, pre0 _ ?_, hrun, hended, _, _, rfl, ?_, ⟨_, rfl⟩, hW, hsame.mono (by decide) (by decide)⟩
  · show Steps p.tables e below (s₁.setTop (mkF m 0 #[.val (.ref a1), .val (.ref a2), .val (.int (Int32.ofNat i)), .val (.int (Int32.ofNat j))] [])) _
    refine XS.aloadN X0.here hx rfl (hb hby d25_0) rfl rfl ?_
    show Steps p.tables e below (s₁.setTop (mkF m 1 #[.val (.ref a1), .val (.ref a2), .val (.int (Int32.ofNat i)), .val (.int (Int32.ofNat j))] [(.ref a1)])) _
    refine XS.aloadN X0.here hx rfl (hb hby d25_1) rfl rfl ?_
    show Steps p.tables e below (s₁.setTop (mkF m 2 #[.val (.ref a1), .val (.ref a2), .val (.int (Int32.ofNat i)), .val (.int (Int32.ofNat j))] [(.ref a2), (.ref a1)])) _
    refine XS.iloadN X0.here hx rfl (hb hby d25_2) rfl ?_
    show Steps p.tables e below (s₁.setTop (mkF m 3 #[.val (.ref a1), .val (.ref a2), .val (.int (Int32.ofNat i)), .val (.int (Int32.ofNat j))] [(.int (Int32.ofNat i)), (.ref a2), (.ref a1)])) _
    refine XS.iloadN X0.here hx rfl (hb hby d25_3) rfl ?_
    show Steps p.tables e below (s₁.setTop (mkF m 4 #[.val (.ref a1), .val (.ref a2), .val (.int (Int32.ofNat i)), .val (.int (Int32.ofNat j))] [(.int (Int32.ofNat j)), (.int (Int32.ofNat i)), (.ref a2), (.ref a1)])) _
    refine st1.trans ?_
    show Steps p.tables e below (T1.setTop (mkF m 7 #[.val (.ref a1), .val (.ref a2), .val (.int (Int32.ofNat i)), .val (.int (Int32.ofNat j))] [(.ref a1)])) _
    refine XS.pop X1.here hx rfl (hb hby d25_7) rfl rfl ?_
    show Steps p.tables e below (T1.setTop (mkF m 8 #[.val (.ref a1), .val (.ref a2), .val (.int (Int32.ofNat i)), .val (.int (Int32.ofNat j))] [])) _
    refine XS.aloadN X1.here hx rfl (hb hby d25_8) rfl rfl ?_
    show Steps p.tables e below (T1.setTop (mkF m 9 #[.val (.ref a1), .val (.ref a2), .val (.int (Int32.ofNat i)), .val (.int (Int32.ofNat j))] [(.ref a1)])) _
    exact X1.areturnOut hx rfl Bd.returns rfl (hb hby d25_9) hr
  · show Q_rm_sa Z a1 a2 b1 k1 ac t2 kb2 cl i j cz fi h0 n0 _ T1.heap _
    exact ⟨rfl, N1, f9, fk1_0, fk1_1, fk1_2, fk1_3, fk1_4⟩
theorem pn_34 : plainName "java/lang/StringLatin1" = true := by first | (simp [plainName, overriddenIn]; done) | decide +kernel
theorem ef_rm_ce (m : MethodId) (x0 : Int32) : entryFrame m #[(.int x0)] 1 = mkF m 0 #[.val (.int x0)] [] := by first | (simp [entryFrame, mkF, argsToLocals, Value.category]; done) | rfl
def Q_rm_ce (Z : State) (p1 : Int32) (h0 : Heap) (n0 : Nat) (v : Option Value) (h : Heap) (L : List Loc) : Prop := v = some (.int (1 : Int32)) ∧ Fr n0 L ∧ h = h0
theorem d34_0 : decode jdk_43_method_3_code 0 = .ok (.iload_n 0, 1) := by decide +kernel
theorem d34_1 : decode jdk_43_method_3_code 1 = .ok (.sipush 255, 3) := by decide +kernel
theorem d34_4 : decode jdk_43_method_3_code 4 = .ok (.if_icmp .gt 7, 3) := by decide +kernel
theorem d34_7 : decode jdk_43_method_3_code 7 = .ok (.iconst 1, 1) := by decide +kernel
theorem d34_8 : decode jdk_43_method_3_code 8 = .ok (.goto 4, 3) := by decide +kernel
theorem d34_12 : decode jdk_43_method_3_code 12 = .ok (.ireturn, 1) := by decide +kernel
set_option maxRecDepth 65536 in
set_option maxHeartbeats 40000000 in
theorem rm_ce (l : Launch) (Z : State) (a0 : Array Value) (hw : ∀ d ∈ tables_1, d.before a0 Z = true) (ws : List Jvm.Cond) (p1 : Int32) (h0 : Heap) (n0 : Nat) (Z0 : n0 ≤ h0.size) (hq : ¬ p1 < 0 ∧ ¬ (255 : Int32) < p1) :
    MetFree l (⟨"java/lang/StringLatin1", "canEncode", "(C)Z"⟩ : MethodName) (head1 (Jvm.Cond.code (⟨"java/lang/StringLatin1", "canEncode", "(C)Z"⟩ : MethodName) jdk_43_method_3_code 1 (some .boolean) :: ws) ({ frames := 0, cells := 0, slots := 0, locals := 0 } : Room)) (fun a U => a = #[(.int p1)] ∧ Z.Warmed39 U.vm ∧ U.heap = h0) (fun _ _ _ _ _ => True) (fun _ U o U' => ∃ v L, o = .returned v ∧ Q_rm_ce Z p1 h0 n0 v U'.heap L ∧ FrameEnd U o U' L ({ frames := 0, cells := 0, slots := 0, locals := 0 } : Room).cells ({ frames := 0, cells := 0, slots := 0, locals := 0 } : Room).slots) := by
  refine MetFree.of_bodySF (plainFor_of_name pn_34) hisR ?_
  intro p e s m args below meth c s₁ Bd hml0 hP hK
  obtain ⟨rfl, hZ, hh⟩ := hP
  have hx := Bd.exec
  have hby := Bd.bytes
  have hml : c.maxLocals = 1 := hml0
  have hown : s.vm.findClass "java/lang/StringLatin1" = some m.cls := findClass_of_methodNamed Bd.named
  have hnm := (name_of_methodNamed Bd.named Bd.method).1
  have X0 : Stand p l e ({ frames := 0, cells := 0, slots := 0, locals := 0 } : Room) s m #[(.int p1)] below meth c s₁ [] 0 0 := Stand.of_body Bd
  have e0 : s₁.heap = h0 := by rw [← hh, Bd.state]; rfl
  have N0 := Fr.nil n0
  have pre0 : ∀ t, Steps p.tables e below (s₁.setTop (mkF m 0 #[.val (.int p1)] [])) t → Steps p.tables e below (s₁.setTop (entryFrame m #[(.int p1)] 1)) t := fun t kt => castTop (ef_rm_ce m p1) kt
  obtain ⟨fs, hr, hrun, hended, hW, hsame⟩ := X0.leave (v := some (.int (1 : Int32))) (fun h => by rw [Bd.returns] at h; cases h) (hlocks := Bd.notSynchronized)
  refine ⟨_, _, pre0 _ ?_, hrun, hended, _, _, rfl, ?_, ⟨_, rfl⟩, hW, hsame.mono (by decide) (by decide)⟩
  · show Steps p.tables e below (s₁.setTop (mkF m 0 #[.val (.int p1)] [])) _
    refine XS.iloadN X0.here hx rfl (hb hby d34_0) rfl ?_
    show Steps p.tables e below (s₁.setTop (mkF m 1 #[.val (.int p1)] [(.int p1)])) _
    refine XS.sipush X0.here hx rfl (hb hby d34_1) ?_
    show Steps p.tables e below (s₁.setTop (mkF m 4 #[.val (.int p1)] [(.int (255 : Int32)), (.int p1)])) _
    refine XS.icmpNo X0.here hx rfl (hb hby d34_4) rfl (flt hq.2).2.2.1 ?_
    show Steps p.tables e below (s₁.setTop (mkF m 7 #[.val (.int p1)] [])) _
    refine XS.iconst X0.here hx rfl (hb hby d34_7) ?_
    show Steps p.tables e below (s₁.setTop (mkF m 8 #[.val (.int p1)] [(.int (1 : Int32))])) _
    refine XS.goto X0.here hx rfl (pc0 := 8) (pc' := 12) rfl (hb hby d34_8) (by decide) (by decide) ?_
    show Steps p.tables e below (s₁.setTop (mkF m 12 #[.val (.int p1)] [(.int (1 : Int32))])) _
    exact retN X0 hx (t := .boolean) Bd.returns (by simp) (hb hby d34_12) hr
  · show Q_rm_ce Z p1 h0 n0 _ s₁.heap _
    rw [e0]
    exact ⟨rfl, N0, rfl⟩
theorem pn_33 : plainName "java/lang/AbstractStringBuilder" = true := by first | (simp [plainName, overriddenIn]; done) | decide +kernel
theorem ef_rm_ap (m : MethodId) (x0 : Addr) (x1 : Int32) : entryFrame m #[(.ref x0), (.int x1)] 2 = mkF m 0 #[.val (.ref x0), .val (.int x1)] [] := by first | (simp [entryFrame, mkF, argsToLocals, Value.category]; done) | rfl
def Q_rm_ap (Z : State) (a1 : Addr) (p2 : Int32) (b1 : Addr) (k1 : ClassId) (ac : List Int32) (cz : Int32) (h0 : Heap) (n0 : Nat) (v : Option Value) (h : Heap) (L : List Loc) : Prop := v = some (.ref a1) ∧ Fr n0 L ∧ Keep h0 h [a1, b1] ∧ Exa Z h a1 "java/lang/StringBuilder" ∧ Fld Z h a1 "java/lang/AbstractStringBuilder" "value" "[B" (.ref b1) ∧ Fld Z h a1 "java/lang/AbstractStringBuilder" "coder" "B" (.int (0 : Int32)) ∧ Fld Z h a1 "java/lang/AbstractStringBuilder" "count" "I" (.int (Int32.ofNat (ac ++ [p2]).length)) ∧ Arv Z h b1 k1 .byte (16 : Int32) (own_by (ac ++ [p2])) (.int 0)
theorem d33_0 : decode jdk_68_method_31_code 0 = .ok (.aload_n 0, 1) := by decide +kernel
theorem d33_1 : decode jdk_68_method_31_code 1 = .ok (.aload_n 0, 1) := by decide +kernel
theorem d33_2 : decode jdk_68_method_31_code 2 = .ok (.getfield 79, 3) := by decide +kernel
theorem d33_5 : decode jdk_68_method_31_code 5 = .ok (.iconst 1, 1) := by decide +kernel
theorem d33_6 : decode jdk_68_method_31_code 6 = .ok (.iadd, 1) := by decide +kernel
theorem d33_7 : decode jdk_68_method_31_code 7 = .ok (.invokevirtual 100, 3) := by decide +kernel
theorem d33_10 : decode jdk_68_method_31_code 10 = .ok (.aload_n 0, 1) := by decide +kernel
theorem d33_11 : decode jdk_68_method_31_code 11 = .ok (.invokevirtual 83, 3) := by decide +kernel
theorem d33_14 : decode jdk_68_method_31_code 14 = .ok (.ifCond .eq 31, 3) := by decide +kernel
theorem d33_17 : decode jdk_68_method_31_code 17 = .ok (.iload_n 1, 1) := by decide +kernel
theorem pd__C_Z_238 : parseMethodDescriptor "(C)Z" = some ⟨[.char], some .boolean⟩ := by decide +kernel
theorem d33_18 : decode jdk_68_method_31_code 18 = .ok (.invokestatic 191, 3) := by decide +kernel
theorem d33_21 : decode jdk_68_method_31_code 21 = .ok (.ifCond .eq 24, 3) := by decide +kernel
theorem d33_24 : decode jdk_68_method_31_code 24 = .ok (.aload_n 0, 1) := by decide +kernel
theorem d33_25 : decode jdk_68_method_31_code 25 = .ok (.getfield 15, 3) := by decide +kernel
theorem d33_28 : decode jdk_68_method_31_code 28 = .ok (.aload_n 0, 1) := by decide +kernel
theorem d33_29 : decode jdk_68_method_31_code 29 = .ok (.dup, 1) := by decide +kernel
theorem d33_30 : decode jdk_68_method_31_code 30 = .ok (.getfield 79, 3) := by decide +kernel
theorem d33_33 : decode jdk_68_method_31_code 33 = .ok (.dup_x1, 1) := by decide +kernel
theorem d33_34 : decode jdk_68_method_31_code 34 = .ok (.iconst 1, 1) := by decide +kernel
theorem d33_35 : decode jdk_68_method_31_code 35 = .ok (.iadd, 1) := by decide +kernel
theorem d33_36 : decode jdk_68_method_31_code 36 = .ok (.putfield 79, 3) := by decide +kernel
theorem d33_39 : decode jdk_68_method_31_code 39 = .ok (.iload_n 1, 1) := by decide +kernel
theorem d33_40 : decode jdk_68_method_31_code 40 = .ok (.i2b, 1) := by decide +kernel
theorem d33_41 : decode jdk_68_method_31_code 41 = .ok (.bastore, 1) := by decide +kernel
theorem d33_42 : decode jdk_68_method_31_code 42 = .ok (.goto 33, 3) := by decide +kernel
theorem d33_75 : decode jdk_68_method_31_code 75 = .ok (.aload_n 0, 1) := by decide +kernel
theorem d33_76 : decode jdk_68_method_31_code 76 = .ok (.areturn, 1) := by decide +kernel
set_option maxRecDepth 65536 in
set_option maxHeartbeats 40000000 in
theorem rm_ap (l : Launch) (Z : State) (a0 : Array Value) (hw : ∀ d ∈ tables_1, d.before a0 Z = true) (ws : List Jvm.Cond) (a1 : Addr) (p2 : Int32) (b1 : Addr) (k1 : ClassId) (ac : List Int32) (cz : Int32) (h0 : Heap) (n0 : Nat) (Z0 : n0 ≤ h0.size) (E_a1 : Exa Z h0 a1 "java/lang/StringBuilder") (F_value_a1 : Fld Z h0 a1 "java/lang/AbstractStringBuilder" "value" "[B" (.ref b1)) (F_coder_a1 : Fld Z h0 a1 "java/lang/AbstractStringBuilder" "coder" "B" (.int (0 : Int32))) (F_count_a1 : Fld Z h0 a1 "java/lang/AbstractStringBuilder" "count" "I" (.int (Int32.ofNat ac.length))) (V_b1 : Arv Z h0 b1 k1 .byte (16 : Int32) (own_by ac) (.int 0)) (g_a1 : n0 ≤ a1) (g_b1 : n0 ≤ b1) (hq : ¬ p2 < 0 ∧ ¬ (255 : Int32) < p2) (hcap : ac.length + 1 ≤ 16) (S_CS : Sta Z h0 "java/lang/String" "COMPACT_STRINGS" "Z" (.int cz)) (hcs : ¬ cz = (0 : Int32)) :
    MetFree l (⟨"java/lang/AbstractStringBuilder", "append", "(C)Ljava/lang/AbstractStringBuilder;"⟩ : MethodName) (head1 (Jvm.Cond.code (⟨"java/lang/AbstractStringBuilder", "append", "(C)Ljava/lang/AbstractStringBuilder;"⟩ : MethodName) jdk_68_method_31_code 2 (some (.object "java/lang/AbstractStringBuilder")) :: ws) ({ frames := 1, cells := 0, slots := 0, locals := 14 } : Room)) (fun a U => a = #[(.ref a1), (.int p2)] ∧ Z.Warmed39 U.vm ∧ U.heap = h0) (fun _ _ _ _ _ => True) (fun _ U o U' => ∃ v L, o = .returned v ∧ Q_rm_ap Z a1 p2 b1 k1 ac cz h0 n0 v U'.heap L ∧ FrameEnd U o U' L ({ frames := 1, cells := 0, slots := 0, locals := 14 } : Room).cells ({ frames := 1, cells := 0, slots := 0, locals := 14 } : Room).slots) := by
  refine MetFree.of_bodySF (plainFor_of_name pn_33) hisR ?_
  intro p e s m args below meth c s₁ Bd hml0 hP hK
  obtain ⟨rfl, hZ, hh⟩ := hP
  have hx := Bd.exec
  have hby := Bd.bytes
  have hml : c.maxLocals = 2 := hml0
  have hown : s.vm.findClass "java/lang/AbstractStringBuilder" = some m.cls := findClass_of_methodNamed Bd.named
  have hnm := (name_of_methodNamed Bd.named Bd.method).1
  have X0 : Stand p l e ({ frames := 1, cells := 0, slots := 0, locals := 14 } : Room) s m #[(.ref a1), (.int p2)] below meth c s₁ [] 0 0 := Stand.of_body Bd
  have e0 : s₁.heap = h0 := by rw [← hh, Bd.state]; rfl
  have N0 := Fr.nil n0
  have pre0 : ∀ t, Steps p.tables e below (s₁.setTop (mkF m 0 #[.val (.ref a1), .val (.int p2)] [])) t → Steps p.tables e below (s₁.setTop (entryFrame m #[(.ref a1), (.int p2)] 2)) t := fun t kt => castTop (ef_rm_ap m a1 p2) kt
  have ne_a1_b1 : a1 ≠ b1 := by
    obtain ⟨cA, AA, -⟩ := id V_b1
    exact ne_arr E_a1 (hw _ (List.mem_of_getElem? (i := 66) rfl)) AA
  obtain ⟨T1, X1, e1, st1⟩ := getF X0 hx hZ hown (host := "") (Or.inl (hw _ (List.mem_of_getElem? (i := 136) rfl))) Via.refl e0 F_count_a1 (g := (mkF m 2 #[.val (.ref a1), .val (.int p2)] [(.ref a1), (.ref a1)])) rfl rfl (hb hby d33_2)
  obtain ⟨cq2, kq2, q2a, q2b, q2c⟩ := isOf hZ e1 E_a1
  obtain ⟨_, _, ⟨T2, L2, k2, n2⟩, -, X2, ⟨Lc2, hQ2, l2, y2, z2⟩, st2⟩ := X1.virtualBack hx (y := (⟨"java/lang/AbstractStringBuilder", "ensureCapacityInternal", "(I)V"⟩ : MethodName)) (z := (⟨"java/lang/AbstractStringBuilder", "ensureCapacityInternal", "(I)V"⟩ : MethodName)) hown (mvT hZ (hw _ (List.mem_of_getElem? (i := 138) rfl))) (mvT hZ (own_decl (hw _ (List.mem_of_getElem? (i := 139) rfl)) (hw _ (List.mem_of_getElem? (i := 142) rfl)))) (notFace_of_selects (args := #[]) (mvT hZ (hw _ (List.mem_of_getElem? (i := 141) rfl)))) (mvT hZ (hw _ (List.mem_of_getElem? (i := 141) rfl))) (mvT hZ (hw _ (List.mem_of_getElem? (i := 139) rfl))) (by decide) (backOf (W := 0) (rm_ec l Z a0 hw [] a1 ((Int32.ofNat ac.length) + (1 : Int32)) b1 k1 ac h0 n0 Z0 E_a1 F_value_a1 F_coder_a1 F_count_a1 V_b1 (own_ec1 hcap)) hZ (hw _ (List.mem_of_getElem? (i := 142) rfl)) (hw _ (List.mem_of_getElem? (i := 75) rfl)) (by decide) (by decide)) q2a q2c (g := (mkF m 7 #[.val (.ref a1), .val (.int p2)] [(.int ((Int32.ofNat ac.length) + (1 : Int32))), (.ref a1)])) rfl (by rw [hml]; rfl) (Steps.refl _) (argsL := [(.int ((Int32.ofNat ac.length) + (1 : Int32)))]) (rest := []) (lenOf pd__I_V_240 rfl) rfl (by show 2 * 0 + _ ≤ _; exact Nat.le_of_eq rfl) (hb hby d33_7) (fun _ _ => ⟨rfl, e1, (by decide : 0 + 0 ≤ _), (by decide : 0 + 0 ≤ _)⟩)
  dsimp only [Pt.U, Pt.locs, Pt.cells, Pt.slots] at X2 l2 y2 z2 st2 hQ2
  subst l2 y2 z2
  obtain ⟨rfl, N2q, e2⟩ := hQ2
  have N2 := Fr.app N0 N2q
  obtain ⟨cq3, kq3, q3a, q3b, q3c⟩ := isOf hZ e2 E_a1
  obtain ⟨_, _, ⟨T3, L3, k3, n3⟩, -, X3, ⟨Lc3, hQ3, l3, y3, z3⟩, st3⟩ := X2.virtualBack hx (y := (⟨"java/lang/AbstractStringBuilder", "isLatin1", "()Z"⟩ : MethodName)) (z := (⟨"java/lang/AbstractStringBuilder", "isLatin1", "()Z"⟩ : MethodName)) hown (mvT hZ (hw _ (List.mem_of_getElem? (i := 149) rfl))) (mvT hZ (hw _ (List.mem_of_getElem? (i := 150) rfl))) (notFace_of_selects (args := #[]) (mvT hZ (hw _ (List.mem_of_getElem? (i := 152) rfl)))) (mvT hZ (hw _ (List.mem_of_getElem? (i := 152) rfl))) (mvT hZ (hw _ (List.mem_of_getElem? (i := 151) rfl))) (by decide) (backOf (W := 0) (rm_bl l Z a0 hw [] a1 cz h0 n0 Z0 S_CS hcs F_coder_a1) hZ (hw _ (List.mem_of_getElem? (i := 153) rfl)) (hw _ (List.mem_of_getElem? (i := 75) rfl)) (by decide) (by decide)) q3a q3c (g := (mkF m 11 #[.val (.ref a1), .val (.int p2)] [(.ref a1)])) rfl (by rw [hml]; rfl) (Steps.refl _) (argsL := []) (rest := []) (lenOf pd___Z_171 rfl) rfl (by show 2 * 0 + _ ≤ _; exact Nat.le_of_eq rfl) (hb hby d33_11) (fun _ _ => ⟨rfl, e2, (by decide : 0 + 0 ≤ _), (by decide : 0 + 0 ≤ _)⟩)
  dsimp only [Pt.U, Pt.locs, Pt.cells, Pt.slots] at X3 l3 y3 z3 st3 hQ3
  subst l3 y3 z3
  obtain ⟨rfl, N3q, e3⟩ := hQ3
  have N3 := Fr.app N2 N3q
  obtain ⟨_, _, ⟨T4, L4, k4, n4⟩, -, X4, ⟨Lc4, hQ4, l4, y4, z4⟩, st4⟩ := Jvm.LawKit.callS X3 hx (y := (⟨"java/lang/StringLatin1", "canEncode", "(C)Z"⟩ : MethodName)) hown (mvT hZ (hw _ (List.mem_of_getElem? (i := 174) rfl))) (mvT hZ (hw _ (List.mem_of_getElem? (i := 175) rfl))) (mvT hZ (hw _ (List.mem_of_getElem? (i := 55) rfl))) (mvT hZ (hw _ (List.mem_of_getElem? (i := 176) rfl))) (by decide) (backOf (W := 0) (rm_ce l Z a0 hw [] p2 h0 n0 Z0 hq) hZ (hw _ (List.mem_of_getElem? (i := 176) rfl)) (hw _ (List.mem_of_getElem? (i := 55) rfl)) (by decide) (by decide)) (g := (mkF m 18 #[.val (.ref a1), .val (.int p2)] [(.int p2)])) rfl (by rw [hml]; rfl) (argsL := [(.int p2)]) (rest := []) (lenOf pd__C_Z_238 rfl) rfl (by show 2 * 0 + _ ≤ _; exact Nat.le_of_eq rfl) (hb hby d33_18) (fun _ _ => ⟨rfl, e3, (by decide : 0 + 0 ≤ _), (by decide : 0 + 0 ≤ _)⟩)
  dsimp only [Pt.U, Pt.locs, Pt.cells, Pt.slots] at X4 l4 y4 z4 st4 hQ4
  subst l4 y4 z4
  obtain ⟨rfl, N4q, e4⟩ := hQ4
  have N4 := Fr.app N3 N4q
  obtain ⟨T5, X5, e5, st5⟩ := getF X4 hx hZ hown (host := "") (Or.inl (hw _ (List.mem_of_getElem? (i := 79) rfl))) Via.refl e4 F_value_a1 (g := (mkF m 25 #[.val (.ref a1), .val (.int p2)] [(.ref a1)])) rfl rfl (hb hby d33_25)
  obtain ⟨T6, X6, e6, st6⟩ := getF X5 hx hZ hown (host := "") (Or.inl (hw _ (List.mem_of_getElem? (i := 136) rfl))) Via.refl e5 F_count_a1 (g := (mkF m 30 #[.val (.ref a1), .val (.int p2)] [(.ref a1), (.ref a1), (.ref b1)])) rfl rfl (hb hby d33_30)
  obtain ⟨T7, h7, X7, e7, W7, st7⟩ := putF X6 hx hZ hown (host := "") (Or.inl (hw _ (List.mem_of_getElem? (i := 136) rfl))) Via.refl e6 F_count_a1 E_a1 (Or.inl (hw _ (List.mem_of_getElem? (i := 137) rfl))) (hw _ (List.mem_of_getElem? (i := 66) rfl)) (ty := .int) (by decide) rfl rfl (g := (mkF m 36 #[.val (.ref a1), .val (.int p2)] [(.int ((Int32.ofNat ac.length) + (1 : Int32))), (.ref a1), (.int (Int32.ofNat ac.length)), (.ref b1)])) rfl rfl (hb hby d33_36)
  have f1 : Sta Z h7 "java/lang/String" "COMPACT_STRINGS" "Z" (.int cz) := S_CS.wr W7
  have f2 : Exa Z h7 a1 "java/lang/StringBuilder" := E_a1.wr W7
  have f3 : Fld Z h7 a1 "java/lang/AbstractStringBuilder" "value" "[B" (.ref b1) := F_value_a1.other W7 (Or.inr (slot_ne (Or.inl (hw _ (List.mem_of_getElem? (i := 80) rfl))) (Or.inl (hw _ (List.mem_of_getElem? (i := 137) rfl))) (by decide) (t := (.array .byte)) (t' := .int) (by decide) (by decide)))
  have f4 : Fld Z h7 a1 "java/lang/AbstractStringBuilder" "coder" "B" (.int (0 : Int32)) := F_coder_a1.other W7 (Or.inr (slot_ne (Or.inl (hw _ (List.mem_of_getElem? (i := 82) rfl))) (Or.inl (hw _ (List.mem_of_getElem? (i := 137) rfl))) (by decide) (t := .byte) (t' := .int) (by decide) (by decide)))
  have f5 : Fld Z h7 a1 "java/lang/AbstractStringBuilder" "count" "I" (.int ((Int32.ofNat ac.length) + (1 : Int32))) := F_count_a1.same W7
  have f6 : n0 ≤ a1 := g_a1
  have f7 : Arv Z h7 b1 k1 .byte (16 : Int32) (own_by ac) (.int 0) := V_b1.other W7 (Ne.symm ne_a1_b1)
  have f8 : n0 ≤ b1 := g_b1
  have f9 : Keep h0 h7 [a1, b1] := (Keep.refl h0 [a1, b1]).wr W7 (Or.inl (by simp))
  have N7 := Fr.snoc X7 N4 f6
  have Z7 : n0 ≤ h7.size := by rw [W7.size]; exact Z0
  have V_b1_8 : Arv Z h7 b1 k1 .byte (16 : Int32) (own_by ac ++ List.replicate 1 (Value.int 0)) (.int 0) := f7.pad (pad_rep _ _ _)
  obtain ⟨cl9, Ar9, aq9, aS9, aN9, aH9, aG9⟩ := id V_b1_8
  have hin9 : ¬ ((Int32.ofNat ac.length) < 0 ∨ cl9.slots.size ≤ ((Int32.ofNat ac.length)).toNatClampNeg) := inb_of aS9 ⟨own_nn (by omega), (own_lt (show ac.length < 2147483648 by omega) (show 16 < 2147483648 by omega)).mpr (by omega)⟩
  obtain ⟨T10, h10, X10, e10, W10, st10⟩ := stB X7 hx hZ e7 Ar9 (j := (Int32.ofNat ac.length)) hin9 (g := (mkF m 41 #[.val (.ref a1), .val (.int p2)] [(.int (p2.toInt8.toInt32)), (.int (Int32.ofNat ac.length)), (.ref b1)])) rfl rfl (hb hby d33_41)
  have V_b1_10 : Arv Z h10 b1 k1 .byte (16 : Int32) ((own_by ac ++ List.replicate 1 (Value.int 0)).set ac.length (.int (nar .byte (p2.toInt8.toInt32)))) (.int 0) := Arv.set Ar9 aq9 aS9 aN9 aH9 aG9 (fits_nar_byte _) W10 ac.length (own_tn (by omega)) (by rw [List.length_append, own_byL]; simp)
  have f10 : Sta Z h10 "java/lang/String" "COMPACT_STRINGS" "Z" (.int cz) := f1.wr W10
  have f11 : Exa Z h10 a1 "java/lang/StringBuilder" := f2.wr W10
  have f12 : Fld Z h10 a1 "java/lang/AbstractStringBuilder" "value" "[B" (.ref b1) := f3.other W10 (Or.inl ne_a1_b1)
  have f13 : Fld Z h10 a1 "java/lang/AbstractStringBuilder" "coder" "B" (.int (0 : Int32)) := f4.other W10 (Or.inl ne_a1_b1)
  have f14 : Fld Z h10 a1 "java/lang/AbstractStringBuilder" "count" "I" (.int ((Int32.ofNat ac.length) + (1 : Int32))) := f5.other W10 (Or.inl ne_a1_b1)
  have f15 : n0 ≤ a1 := f6
  have f16 : n0 ≤ b1 := f8
  have f17 : Keep h0 h10 [a1, b1] := f9.wr W10 (Or.inl (by simp))
  have N10 := Fr.snoc X10 N7 f16
  have Z10 : n0 ≤ h10.size := by rw [W10.size]; exact Z7
  have V_b1_11 : Arv Z h10 b1 k1 .byte (16 : Int32) (own_by (ac ++ [p2])) (.int 0) := by rw [← own_set]; exact V_b1_10
  obtain ⟨fs, hr, hrun, hended, hW, hsame⟩ := X10.leave (v := some (.ref a1)) (fun h => by rw [Bd.returns] at h; cases h) (hlocks := Bd.notSynchronized)
  refine ⟨_, _, pre0 _ ?_, hrun, hended, _, _, rfl, ?_, ⟨_, rfl⟩, hW, hsame.mono (by decide) (by decide)⟩
  · show Steps p.tables e below (s₁.setTop (mkF m 0 #[.val (.ref a1), .val (.int p2)] [])) _
    refine XS.aloadN X0.here hx rfl (hb hby d33_0) rfl rfl ?_
    show Steps p.tables e below (s₁.setTop (mkF m 1 #[.val (.ref a1), .val (.int p2)] [(.ref a1)])) _
    refine XS.aloadN X0.here hx rfl (hb hby d33_1) rfl rfl ?_
    show Steps p.tables e below (s₁.setTop (mkF m 2 #[.val (.ref a1), .val (.int p2)] [(.ref a1), (.ref a1)])) _
    refine st1 _ ?_
    show Steps p.tables e below (T1.setTop (mkF m 5 #[.val (.ref a1), .val (.int p2)] [(.int (Int32.ofNat ac.length)), (.ref a1)])) _
    refine XS.iconst X1.here hx rfl (hb hby d33_5) ?_
    show Steps p.tables e below (T1.setTop (mkF m 6 #[.val (.ref a1), .val (.int p2)] [(.int (1 : Int32)), (.int (Int32.ofNat ac.length)), (.ref a1)])) _
    refine XS.iadd X1.here hx rfl (hb hby d33_6) rfl ?_
    show Steps p.tables e below (T1.setTop (mkF m 7 #[.val (.ref a1), .val (.int p2)] [(.int ((Int32.ofNat ac.length) + (1 : Int32))), (.ref a1)])) _
    refine st2.trans ?_
    show Steps p.tables e below (T2.setTop (mkF m 10 #[.val (.ref a1), .val (.int p2)] [])) _
    refine XS.aloadN X2.here hx rfl (hb hby d33_10) rfl rfl ?_
    show Steps p.tables e below (T2.setTop (mkF m 11 #[.val (.ref a1), .val (.int p2)] [(.ref a1)])) _
    refine st3.trans ?_
    show Steps p.tables e below (T3.setTop (mkF m 14 #[.val (.ref a1), .val (.int p2)] [(.int (1 : Int32))])) _
    refine XS.ifNo X3.here hx rfl (hb hby d33_14) rfl ((if0 _ _).trans (feq (by decide : ¬ ((1 : Int32) = (0 : Int32)))).1) ?_
    show Steps p.tables e below (T3.setTop (mkF m 17 #[.val (.ref a1), .val (.int p2)] [])) _
    refine XS.iloadN X3.here hx rfl (hb hby d33_17) rfl ?_
    show Steps p.tables e below (T3.setTop (mkF m 18 #[.val (.ref a1), .val (.int p2)] [(.int p2)])) _
    refine st4 _ ?_
    show Steps p.tables e below (T4.setTop (mkF m 21 #[.val (.ref a1), .val (.int p2)] [(.int (1 : Int32))])) _
    refine XS.ifNo X4.here hx rfl (hb hby d33_21) rfl ((if0 _ _).trans (feq (by decide : ¬ ((1 : Int32) = (0 : Int32)))).1) ?_
    show Steps p.tables e below (T4.setTop (mkF m 24 #[.val (.ref a1), .val (.int p2)] [])) _
    refine XS.aloadN X4.here hx rfl (hb hby d33_24) rfl rfl ?_
    show Steps p.tables e below (T4.setTop (mkF m 25 #[.val (.ref a1), .val (.int p2)] [(.ref a1)])) _
    refine st5 _ ?_
    show Steps p.tables e below (T5.setTop (mkF m 28 #[.val (.ref a1), .val (.int p2)] [(.ref b1)])) _
    refine XS.aloadN X5.here hx rfl (hb hby d33_28) rfl rfl ?_
    show Steps p.tables e below (T5.setTop (mkF m 29 #[.val (.ref a1), .val (.int p2)] [(.ref a1), (.ref b1)])) _
    refine XS.dup X5.here hx rfl (hb hby d33_29) rfl rfl ?_
    show Steps p.tables e below (T5.setTop (mkF m 30 #[.val (.ref a1), .val (.int p2)] [(.ref a1), (.ref a1), (.ref b1)])) _
    refine st6 _ ?_
    show Steps p.tables e below (T6.setTop (mkF m 33 #[.val (.ref a1), .val (.int p2)] [(.int (Int32.ofNat ac.length)), (.ref a1), (.ref b1)])) _
    refine XS.dupX1 X6.here hx rfl (hb hby d33_33) rfl rfl rfl ?_
    show Steps p.tables e below (T6.setTop (mkF m 34 #[.val (.ref a1), .val (.int p2)] [(.int (Int32.ofNat ac.length)), (.ref a1), (.int (Int32.ofNat ac.length)), (.ref b1)])) _
    refine XS.iconst X6.here hx rfl (hb hby d33_34) ?_
    show Steps p.tables e below (T6.setTop (mkF m 35 #[.val (.ref a1), .val (.int p2)] [(.int (1 : Int32)), (.int (Int32.ofNat ac.length)), (.ref a1), (.int (Int32.ofNat ac.length)), (.ref b1)])) _
    refine XS.iadd X6.here hx rfl (hb hby d33_35) rfl ?_
    show Steps p.tables e below (T6.setTop (mkF m 36 #[.val (.ref a1), .val (.int p2)] [(.int ((Int32.ofNat ac.length) + (1 : Int32))), (.ref a1), (.int (Int32.ofNat ac.length)), (.ref b1)])) _
    refine st7 _ ?_
    show Steps p.tables e below (T7.setTop (mkF m 39 #[.val (.ref a1), .val (.int p2)] [(.int (Int32.ofNat ac.length)), (.ref b1)])) _
    refine XS.iloadN X7.here hx rfl (hb hby d33_39) rfl ?_
    show Steps p.tables e below (T7.setTop (mkF m 40 #[.val (.ref a1), .val (.int p2)] [(.int p2), (.int (Int32.ofNat ac.length)), (.ref b1)])) _
    refine XS.i2b X7.here hx rfl (hb hby d33_40) rfl ?_
    show Steps p.tables e below (T7.setTop (mkF m 41 #[.val (.ref a1), .val (.int p2)] [(.int (p2.toInt8.toInt32)), (.int (Int32.ofNat ac.length)), (.ref b1)])) _
    refine st10 _ ?_
    show Steps p.tables e below (T10.setTop (mkF m 42 #[.val (.ref a1), .val (.int p2)] [])) _
    refine XS.goto X10.here hx rfl (pc0 := 42) (pc' := 75) rfl (hb hby d33_42) (by decide) (by decide) ?_
    show Steps p.tables e below (T10.setTop (mkF m 75 #[.val (.ref a1), .val (.int p2)] [])) _
    refine XS.aloadN X10.here hx rfl (hb hby d33_75) rfl rfl ?_
    show Steps p.tables e below (T10.setTop (mkF m 76 #[.val (.ref a1), .val (.int p2)] [(.ref a1)])) _
    exact X10.areturnOut hx rfl Bd.returns rfl (hb hby d33_76) hr
  · show Q_rm_ap Z a1 p2 b1 k1 ac cz h0 n0 _ T10.heap _
    rw [e10]
    exact ⟨rfl, N10, f17, f11, f12, f13, by rw [← own_cnt1 (show ac.length ≤ 4000 by omega)]; exact f14, V_b1_11⟩
theorem pn_32 : plainName "java/lang/StringBuilder" = true := by first | (simp [plainName, overriddenIn]; done) | decide +kernel
theorem ef_rm_sp (m : MethodId) (x0 : Addr) (x1 : Int32) : entryFrame m #[(.ref x0), (.int x1)] 2 = mkF m 0 #[.val (.ref x0), .val (.int x1)] [] := by first | (simp [entryFrame, mkF, argsToLocals, Value.category]; done) | rfl
def Q_rm_sp (Z : State) (a1 : Addr) (p2 : Int32) (b1 : Addr) (k1 : ClassId) (ac : List Int32) (cz : Int32) (h0 : Heap) (n0 : Nat) (v : Option Value) (h : Heap) (L : List Loc) : Prop := v = some (.ref a1) ∧ Fr n0 L ∧ Keep h0 h [a1, b1] ∧ Exa Z h a1 "java/lang/StringBuilder" ∧ Fld Z h a1 "java/lang/AbstractStringBuilder" "value" "[B" (.ref b1) ∧ Fld Z h a1 "java/lang/AbstractStringBuilder" "coder" "B" (.int (0 : Int32)) ∧ Fld Z h a1 "java/lang/AbstractStringBuilder" "count" "I" (.int (Int32.ofNat (ac ++ [p2]).length)) ∧ Arv Z h b1 k1 .byte (16 : Int32) (own_by (ac ++ [p2])) (.int 0)
theorem d32_0 : decode jdk_67_method_14_code 0 = .ok (.aload_n 0, 1) := by decide +kernel
theorem d32_1 : decode jdk_67_method_14_code 1 = .ok (.iload_n 1, 1) := by decide +kernel
theorem pd__C_Ljava_lang_AbstractStringBuilder__3375 : parseMethodDescriptor "(C)Ljava/lang/AbstractStringBuilder;" = some ⟨[.char], some (.object "java/lang/AbstractStringBuilder")⟩ := by decide +kernel
theorem d32_2 : decode jdk_67_method_14_code 2 = .ok (.invokespecial 50, 3) := by decide +kernel
theorem d32_5 : decode jdk_67_method_14_code 5 = .ok (.pop, 1) := by decide +kernel
theorem d32_6 : decode jdk_67_method_14_code 6 = .ok (.aload_n 0, 1) := by decide +kernel
theorem d32_7 : decode jdk_67_method_14_code 7 = .ok (.areturn, 1) := by decide +kernel
set_option maxRecDepth 65536 in
set_option maxHeartbeats 40000000 in
theorem rm_sp (l : Launch) (Z : State) (a0 : Array Value) (hw : ∀ d ∈ tables_1, d.before a0 Z = true) (ws : List Jvm.Cond) (a1 : Addr) (p2 : Int32) (b1 : Addr) (k1 : ClassId) (ac : List Int32) (cz : Int32) (h0 : Heap) (n0 : Nat) (Z0 : n0 ≤ h0.size) (E_a1 : Exa Z h0 a1 "java/lang/StringBuilder") (F_value_a1 : Fld Z h0 a1 "java/lang/AbstractStringBuilder" "value" "[B" (.ref b1)) (F_coder_a1 : Fld Z h0 a1 "java/lang/AbstractStringBuilder" "coder" "B" (.int (0 : Int32))) (F_count_a1 : Fld Z h0 a1 "java/lang/AbstractStringBuilder" "count" "I" (.int (Int32.ofNat ac.length))) (V_b1 : Arv Z h0 b1 k1 .byte (16 : Int32) (own_by ac) (.int 0)) (g_a1 : n0 ≤ a1) (g_b1 : n0 ≤ b1) (hq : ¬ p2 < 0 ∧ ¬ (255 : Int32) < p2) (hcap : ac.length + 1 ≤ 16) (S_CS : Sta Z h0 "java/lang/String" "COMPACT_STRINGS" "Z" (.int cz)) (hcs : ¬ cz = (0 : Int32)) :
    MetFree l (⟨"java/lang/StringBuilder", "append", "(C)Ljava/lang/StringBuilder;"⟩ : MethodName) (head1 (Jvm.Cond.code (⟨"java/lang/StringBuilder", "append", "(C)Ljava/lang/StringBuilder;"⟩ : MethodName) jdk_67_method_14_code 2 (some (.object "java/lang/StringBuilder")) :: ws) ({ frames := 2, cells := 0, slots := 0, locals := 27 } : Room)) (fun a U => a = #[(.ref a1), (.int p2)] ∧ Z.Warmed39 U.vm ∧ U.heap = h0) (fun _ _ _ _ _ => True) (fun _ U o U' => ∃ v L, o = .returned v ∧ Q_rm_sp Z a1 p2 b1 k1 ac cz h0 n0 v U'.heap L ∧ FrameEnd U o U' L ({ frames := 2, cells := 0, slots := 0, locals := 27 } : Room).cells ({ frames := 2, cells := 0, slots := 0, locals := 27 } : Room).slots) := by
  refine MetFree.of_bodySF (plainFor_of_name pn_32) hisR ?_
  intro p e s m args below meth c s₁ Bd hml0 hP hK
  obtain ⟨rfl, hZ, hh⟩ := hP
  have hx := Bd.exec
  have hby := Bd.bytes
  have hml : c.maxLocals = 2 := hml0
  have hown : s.vm.findClass "java/lang/StringBuilder" = some m.cls := findClass_of_methodNamed Bd.named
  have hnm := (name_of_methodNamed Bd.named Bd.method).1
  have X0 : Stand p l e ({ frames := 2, cells := 0, slots := 0, locals := 27 } : Room) s m #[(.ref a1), (.int p2)] below meth c s₁ [] 0 0 := Stand.of_body Bd
  have e0 : s₁.heap = h0 := by rw [← hh, Bd.state]; rfl
  have N0 := Fr.nil n0
  have pre0 : ∀ t, Steps p.tables e below (s₁.setTop (mkF m 0 #[.val (.ref a1), .val (.int p2)] [])) t → Steps p.tables e below (s₁.setTop (entryFrame m #[(.ref a1), (.int p2)] 2)) t := fun t kt => castTop (ef_rm_sp m a1 p2) kt
  have ne_a1_b1 : a1 ≠ b1 := by
    obtain ⟨cA, AA, -⟩ := id V_b1
    exact ne_arr E_a1 (hw _ (List.mem_of_getElem? (i := 66) rfl)) AA
  obtain ⟨_, _, ⟨T1, L1, k1, n1⟩, -, X1, ⟨Lc1, hQ1, l1, y1, z1⟩, st1⟩ := superBack X0 hx hZ (y := (⟨"java/lang/AbstractStringBuilder", "append", "(C)Ljava/lang/AbstractStringBuilder;"⟩ : MethodName)) hown (hw _ (List.mem_of_getElem? (i := 170) rfl)) (own_sm (z := (⟨"java/lang/AbstractStringBuilder", "isLatin1", "()Z"⟩ : MethodName)) rfl (by decide) (hw _ (List.mem_of_getElem? (i := 171) rfl)) (hw _ (List.mem_of_getElem? (i := 152) rfl))) (hw _ (List.mem_of_getElem? (i := 171) rfl)) (hw _ (List.mem_of_getElem? (i := 121) rfl)) (by decide) (backOf (W := 0) (rm_ap l Z a0 hw [] a1 p2 b1 k1 ac cz h0 n0 Z0 E_a1 F_value_a1 F_coder_a1 F_count_a1 V_b1 g_a1 g_b1 hq hcap S_CS hcs) hZ (hw _ (List.mem_of_getElem? (i := 173) rfl)) (hw _ (List.mem_of_getElem? (i := 75) rfl)) (by decide) (by decide)) e0 (Ins.self E_a1) (g := (mkF m 2 #[.val (.ref a1), .val (.int p2)] [(.int p2), (.ref a1)])) rfl (by rw [hml]; rfl) (hw _ (List.mem_of_getElem? (i := 173) rfl)) (argsL := [(.int p2)]) (rest := []) (lenOf pd__C_Ljava_lang_AbstractStringBuilder__3375 rfl) rfl (by show 2 * 0 + _ ≤ _; exact Nat.le_of_eq rfl) (hb hby d32_2) (fun _ _ => ⟨rfl, e0, (by decide : 0 + 0 ≤ _), (by decide : 0 + 0 ≤ _)⟩)
  dsimp only [Pt.U, Pt.locs, Pt.cells, Pt.slots] at X1 l1 y1 z1 st1 hQ1
  subst l1 y1 z1
  obtain ⟨rfl, N1q, K1, fk1_0, fk1_1, fk1_2, fk1_3, fk1_4⟩ := hQ1
  have f1 : Sta Z T1.heap "java/lang/String" "COMPACT_STRINGS" "Z" (.int cz) := own_staK S_CS K1 (nsS E_a1.nostat (nsS V_b1.nostat ns0))
  have f2 : n0 ≤ a1 := g_a1
  have f3 : n0 ≤ b1 := g_b1
  have f4 : Keep h0 T1.heap [a1, b1] := (Keep.refl h0 [a1, b1]).trans K1 (fun x hx => (List.mem_cons.mp hx).elim (fun q => by subst q; exact Or.inl (by simp)) (fun hx' => (by cases List.mem_singleton.mp hx'; exact Or.inl (by simp))))
  have Z1 : n0 ≤ T1.heap.size := Nat.le_trans Z0 K1.1
  have N1 := Fr.app N0 N1q
  obtain ⟨fs, hr, hrun, hended, hW, hsame⟩ := X1.leave (v := some (.ref a1)) (fun h => by rw [Bd.returns] at h; cases h) (hlocks := Bd.notSynchronized)
  refine ⟨_, _, pre0 _ ?_, hrun, hended, _, _, rfl, ?_, ⟨_, rfl⟩, hW, hsame.mono (by decide) (by decide)⟩
  · show Steps p.tables e below (s₁.setTop (mkF m 0 #[.val (.ref a1), .val (.int p2)] [])) _
    refine XS.aloadN X0.here hx rfl (hb hby d32_0) rfl rfl ?_
    show Steps p.tables e below (s₁.setTop (mkF m 1 #[.val (.ref a1), .val (.int p2)] [(.ref a1)])) _
    refine XS.iloadN X0.here hx rfl (hb hby d32_1) rfl ?_
    show Steps p.tables e below (s₁.setTop (mkF m 2 #[.val (.ref a1), .val (.int p2)] [(.int p2), (.ref a1)])) _
    refine st1.trans ?_
    show Steps p.tables e below (T1.setTop (mkF m 5 #[.val (.ref a1), .val (.int p2)] [(.ref a1)])) _
    refine XS.pop X1.here hx rfl (hb hby d32_5) rfl rfl ?_
    show Steps p.tables e below (T1.setTop (mkF m 6 #[.val (.ref a1), .val (.int p2)] [])) _
    refine XS.aloadN X1.here hx rfl (hb hby d32_6) rfl rfl ?_
    show Steps p.tables e below (T1.setTop (mkF m 7 #[.val (.ref a1), .val (.int p2)] [(.ref a1)])) _
    exact X1.areturnOut hx rfl Bd.returns rfl (hb hby d32_7) hr
  · show Q_rm_sp Z a1 p2 b1 k1 ac cz h0 n0 _ T1.heap _
    exact ⟨rfl, N1, f4, fk1_0, fk1_1, fk1_2, fk1_3, fk1_4⟩
theorem pn_38 : plainName "java/lang/AbstractStringBuilder" = true := by first | (simp [plainName, overriddenIn]; done) | decide +kernel
theorem ef_rm_gv (m : MethodId) (x0 : Addr) : entryFrame m #[(.ref x0)] 1 = mkF m 0 #[.val (.ref x0)] [] := by first | (simp [entryFrame, mkF, argsToLocals, Value.category]; done) | rfl
def Q_rm_gv (Z : State) (a1 : Addr) (b1 : Addr) (k1 : ClassId) (ac : List Int32) (h0 : Heap) (n0 : Nat) (v : Option Value) (h : Heap) (L : List Loc) : Prop := v = some (.ref b1) ∧ Fr n0 L ∧ h = h0
theorem d38_0 : decode jdk_68_method_64_code 0 = .ok (.aload_n 0, 1) := by decide +kernel
theorem d38_1 : decode jdk_68_method_64_code 1 = .ok (.getfield 15, 3) := by decide +kernel
theorem d38_4 : decode jdk_68_method_64_code 4 = .ok (.areturn, 1) := by decide +kernel
set_option maxRecDepth 65536 in
set_option maxHeartbeats 40000000 in
theorem rm_gv (l : Launch) (Z : State) (a0 : Array Value) (hw : ∀ d ∈ tables_1, d.before a0 Z = true) (ws : List Jvm.Cond) (a1 : Addr) (b1 : Addr) (k1 : ClassId) (ac : List Int32) (h0 : Heap) (n0 : Nat) (Z0 : n0 ≤ h0.size) (E_a1 : Exa Z h0 a1 "java/lang/StringBuilder") (F_value_a1 : Fld Z h0 a1 "java/lang/AbstractStringBuilder" "value" "[B" (.ref b1)) (F_coder_a1 : Fld Z h0 a1 "java/lang/AbstractStringBuilder" "coder" "B" (.int (0 : Int32))) (F_count_a1 : Fld Z h0 a1 "java/lang/AbstractStringBuilder" "count" "I" (.int (Int32.ofNat ac.length))) (V_b1 : Arv Z h0 b1 k1 .byte (16 : Int32) (own_by ac) (.int 0)) :
    MetFree l (⟨"java/lang/AbstractStringBuilder", "getValue", "()[B"⟩ : MethodName) (head1 (Jvm.Cond.code (⟨"java/lang/AbstractStringBuilder", "getValue", "()[B"⟩ : MethodName) jdk_68_method_64_code 1 (some (.array .byte)) :: ws) ({ frames := 0, cells := 0, slots := 0, locals := 0 } : Room)) (fun a U => a = #[(.ref a1)] ∧ Z.Warmed39 U.vm ∧ U.heap = h0) (fun _ _ _ _ _ => True) (fun _ U o U' => ∃ v L, o = .returned v ∧ Q_rm_gv Z a1 b1 k1 ac h0 n0 v U'.heap L ∧ FrameEnd U o U' L ({ frames := 0, cells := 0, slots := 0, locals := 0 } : Room).cells ({ frames := 0, cells := 0, slots := 0, locals := 0 } : Room).slots) := by
  refine MetFree.of_bodySF (plainFor_of_name pn_38) hisR ?_
  intro p e s m args below meth c s₁ Bd hml0 hP hK
  obtain ⟨rfl, hZ, hh⟩ := hP
  have hx := Bd.exec
  have hby := Bd.bytes
  have hml : c.maxLocals = 1 := hml0
  have hown : s.vm.findClass "java/lang/AbstractStringBuilder" = some m.cls := findClass_of_methodNamed Bd.named
  have hnm := (name_of_methodNamed Bd.named Bd.method).1
  have X0 : Stand p l e ({ frames := 0, cells := 0, slots := 0, locals := 0 } : Room) s m #[(.ref a1)] below meth c s₁ [] 0 0 := Stand.of_body Bd
  have e0 : s₁.heap = h0 := by rw [← hh, Bd.state]; rfl
  have N0 := Fr.nil n0
  have pre0 : ∀ t, Steps p.tables e below (s₁.setTop (mkF m 0 #[.val (.ref a1)] [])) t → Steps p.tables e below (s₁.setTop (entryFrame m #[(.ref a1)] 1)) t := fun t kt => castTop (ef_rm_gv m a1) kt
  have ne_a1_b1 : a1 ≠ b1 := by
    obtain ⟨cA, AA, -⟩ := id V_b1
    exact ne_arr E_a1 (hw _ (List.mem_of_getElem? (i := 66) rfl)) AA
  obtain ⟨T1, X1, e1, st1⟩ := getF X0 hx hZ hown (host := "") (Or.inl (hw _ (List.mem_of_getElem? (i := 79) rfl))) Via.refl e0 F_value_a1 (g := (mkF m 1 #[.val (.ref a1)] [(.ref a1)])) rfl rfl (hb hby d38_1)
  obtain ⟨fs, hr, hrun, hended, hW, hsame⟩ := X1.leave (v := some (.ref b1)) (fun h => by rw [Bd.returns] at h; cases h) (hlocks := Bd.notSynchronized)
  refine ⟨_, _, pre0 _ ?_, hrun, hended, _, _, rfl, ?_, ⟨_, rfl⟩, hW, hsame.mono (by decide) (by decide)⟩
  · show Steps p.tables e below (s₁.setTop (mkF m 0 #[.val (.ref a1)] [])) _
    refine XS.aloadN X0.here hx rfl (hb hby d38_0) rfl rfl ?_
    show Steps p.tables e below (s₁.setTop (mkF m 1 #[.val (.ref a1)] [(.ref a1)])) _
    refine st1 _ ?_
    show Steps p.tables e below (T1.setTop (mkF m 4 #[.val (.ref a1)] [(.ref b1)])) _
    exact X1.areturnOut hx rfl Bd.returns rfl (hb hby d38_4) hr
  · show Q_rm_gv Z a1 b1 k1 ac h0 n0 _ T1.heap _
    rw [e1]
    exact ⟨rfl, N0, rfl⟩
theorem pn_40 : plainName "java/lang/AbstractStringBuilder" = true := by first | (simp [plainName, overriddenIn]; done) | decide +kernel
theorem ef_rm_al (m : MethodId) (x0 : Addr) : entryFrame m #[(.ref x0)] 1 = mkF m 0 #[.val (.ref x0)] [] := by first | (simp [entryFrame, mkF, argsToLocals, Value.category]; done) | rfl
def Q_rm_al (Z : State) (a1 : Addr) (b1 : Addr) (k1 : ClassId) (ac : List Int32) (h0 : Heap) (n0 : Nat) (v : Option Value) (h : Heap) (L : List Loc) : Prop := v = some (.int (Int32.ofNat ac.length)) ∧ Fr n0 L ∧ h = h0
theorem d40_0 : decode jdk_68_method_6_code 0 = .ok (.aload_n 0, 1) := by decide +kernel
theorem d40_1 : decode jdk_68_method_6_code 1 = .ok (.getfield 79, 3) := by decide +kernel
theorem d40_4 : decode jdk_68_method_6_code 4 = .ok (.ireturn, 1) := by decide +kernel
set_option maxRecDepth 65536 in
set_option maxHeartbeats 40000000 in
theorem rm_al (l : Launch) (Z : State) (a0 : Array Value) (hw : ∀ d ∈ tables_1, d.before a0 Z = true) (ws : List Jvm.Cond) (a1 : Addr) (b1 : Addr) (k1 : ClassId) (ac : List Int32) (h0 : Heap) (n0 : Nat) (Z0 : n0 ≤ h0.size) (E_a1 : Exa Z h0 a1 "java/lang/StringBuilder") (F_value_a1 : Fld Z h0 a1 "java/lang/AbstractStringBuilder" "value" "[B" (.ref b1)) (F_coder_a1 : Fld Z h0 a1 "java/lang/AbstractStringBuilder" "coder" "B" (.int (0 : Int32))) (F_count_a1 : Fld Z h0 a1 "java/lang/AbstractStringBuilder" "count" "I" (.int (Int32.ofNat ac.length))) (V_b1 : Arv Z h0 b1 k1 .byte (16 : Int32) (own_by ac) (.int 0)) :
    MetFree l (⟨"java/lang/AbstractStringBuilder", "length", "()I"⟩ : MethodName) (head1 (Jvm.Cond.code (⟨"java/lang/AbstractStringBuilder", "length", "()I"⟩ : MethodName) jdk_68_method_6_code 1 (some .int) :: ws) ({ frames := 0, cells := 0, slots := 0, locals := 0 } : Room)) (fun a U => a = #[(.ref a1)] ∧ Z.Warmed39 U.vm ∧ U.heap = h0) (fun _ _ _ _ _ => True) (fun _ U o U' => ∃ v L, o = .returned v ∧ Q_rm_al Z a1 b1 k1 ac h0 n0 v U'.heap L ∧ FrameEnd U o U' L ({ frames := 0, cells := 0, slots := 0, locals := 0 } : Room).cells ({ frames := 0, cells := 0, slots := 0, locals := 0 } : Room).slots) := by
  refine MetFree.of_bodySF (plainFor_of_name pn_40) hisR ?_
  intro p e s m args below meth c s₁ Bd hml0 hP hK
  obtain ⟨rfl, hZ, hh⟩ := hP
  have hx := Bd.exec
  have hby := Bd.bytes
  have hml : c.maxLocals = 1 := hml0
  have hown : s.vm.findClass "java/lang/AbstractStringBuilder" = some m.cls := findClass_of_methodNamed Bd.named
  have hnm := (name_of_methodNamed Bd.named Bd.method).1
  have X0 : Stand p l e ({ frames := 0, cells := 0, slots := 0, locals := 0 } : Room) s m #[(.ref a1)] below meth c s₁ [] 0 0 := Stand.of_body Bd
  have e0 : s₁.heap = h0 := by rw [← hh, Bd.state]; rfl
  have N0 := Fr.nil n0
  have pre0 : ∀ t, Steps p.tables e below (s₁.setTop (mkF m 0 #[.val (.ref a1)] [])) t → Steps p.tables e below (s₁.setTop (entryFrame m #[(.ref a1)] 1)) t := fun t kt => castTop (ef_rm_al m a1) kt
  have ne_a1_b1 : a1 ≠ b1 := by
    obtain ⟨cA, AA, -⟩ := id V_b1
    exact ne_arr E_a1 (hw _ (List.mem_of_getElem? (i := 66) rfl)) AA
  obtain ⟨T1, X1, e1, st1⟩ := getF X0 hx hZ hown (host := "") (Or.inl (hw _ (List.mem_of_getElem? (i := 136) rfl))) Via.refl e0 F_count_a1 (g := (mkF m 1 #[.val (.ref a1)] [(.ref a1)])) rfl rfl (hb hby d40_1)
  obtain ⟨fs, hr, hrun, hended, hW, hsame⟩ := X1.leave (v := some (.int (Int32.ofNat ac.length))) (fun h => by rw [Bd.returns] at h; cases h) (hlocks := Bd.notSynchronized)
  refine ⟨_, _, pre0 _ ?_, hrun, hended, _, _, rfl, ?_, ⟨_, rfl⟩, hW, hsame.mono (by decide) (by decide)⟩
  · show Steps p.tables e below (s₁.setTop (mkF m 0 #[.val (.ref a1)] [])) _
    refine XS.aloadN X0.here hx rfl (hb hby d40_0) rfl rfl ?_
    show Steps p.tables e below (s₁.setTop (mkF m 1 #[.val (.ref a1)] [(.ref a1)])) _
    refine st1 _ ?_
    show Steps p.tables e below (T1.setTop (mkF m 4 #[.val (.ref a1)] [(.int (Int32.ofNat ac.length))])) _
    exact retI X1 hx Bd.returns (hb hby d40_4) hr
  · show Q_rm_al Z a1 b1 k1 ac h0 n0 _ T1.heap _
    rw [e1]
    exact ⟨rfl, N0, rfl⟩
theorem pn_39 : plainName "java/lang/StringBuilder" = true := by first | (simp [plainName, overriddenIn]; done) | decide +kernel
theorem ef_rm_ln (m : MethodId) (x0 : Addr) : entryFrame m #[(.ref x0)] 1 = mkF m 0 #[.val (.ref x0)] [] := by first | (simp [entryFrame, mkF, argsToLocals, Value.category]; done) | rfl
def Q_rm_ln (Z : State) (a1 : Addr) (b1 : Addr) (k1 : ClassId) (ac : List Int32) (h0 : Heap) (n0 : Nat) (v : Option Value) (h : Heap) (L : List Loc) : Prop := v = some (.int (Int32.ofNat ac.length)) ∧ Fr n0 L ∧ h = h0
theorem d39_0 : decode jdk_67_method_93_code 0 = .ok (.aload_n 0, 1) := by decide +kernel
theorem d39_1 : decode jdk_67_method_93_code 1 = .ok (.invokespecial 343, 3) := by decide +kernel
theorem d39_4 : decode jdk_67_method_93_code 4 = .ok (.ireturn, 1) := by decide +kernel
set_option maxRecDepth 65536 in
set_option maxHeartbeats 40000000 in
theorem rm_ln (l : Launch) (Z : State) (a0 : Array Value) (hw : ∀ d ∈ tables_1, d.before a0 Z = true) (ws : List Jvm.Cond) (a1 : Addr) (b1 : Addr) (k1 : ClassId) (ac : List Int32) (h0 : Heap) (n0 : Nat) (Z0 : n0 ≤ h0.size) (E_a1 : Exa Z h0 a1 "java/lang/StringBuilder") (F_value_a1 : Fld Z h0 a1 "java/lang/AbstractStringBuilder" "value" "[B" (.ref b1)) (F_coder_a1 : Fld Z h0 a1 "java/lang/AbstractStringBuilder" "coder" "B" (.int (0 : Int32))) (F_count_a1 : Fld Z h0 a1 "java/lang/AbstractStringBuilder" "count" "I" (.int (Int32.ofNat ac.length))) (V_b1 : Arv Z h0 b1 k1 .byte (16 : Int32) (own_by ac) (.int 0)) :
    MetFree l (⟨"java/lang/StringBuilder", "length", "()I"⟩ : MethodName) (head1 (Jvm.Cond.code (⟨"java/lang/StringBuilder", "length", "()I"⟩ : MethodName) jdk_67_method_93_code 1 (some .int) :: ws) ({ frames := 1, cells := 0, slots := 0, locals := 12 } : Room)) (fun a U => a = #[(.ref a1)] ∧ Z.Warmed39 U.vm ∧ U.heap = h0) (fun _ _ _ _ _ => True) (fun _ U o U' => ∃ v L, o = .returned v ∧ Q_rm_ln Z a1 b1 k1 ac h0 n0 v U'.heap L ∧ FrameEnd U o U' L ({ frames := 1, cells := 0, slots := 0, locals := 12 } : Room).cells ({ frames := 1, cells := 0, slots := 0, locals := 12 } : Room).slots) := by
  refine MetFree.of_bodySF (plainFor_of_name pn_39) hisR ?_
  intro p e s m args below meth c s₁ Bd hml0 hP hK
  obtain ⟨rfl, hZ, hh⟩ := hP
  have hx := Bd.exec
  have hby := Bd.bytes
  have hml : c.maxLocals = 1 := hml0
  have hown : s.vm.findClass "java/lang/StringBuilder" = some m.cls := findClass_of_methodNamed Bd.named
  have hnm := (name_of_methodNamed Bd.named Bd.method).1
  have X0 : Stand p l e ({ frames := 1, cells := 0, slots := 0, locals := 12 } : Room) s m #[(.ref a1)] below meth c s₁ [] 0 0 := Stand.of_body Bd
  have e0 : s₁.heap = h0 := by rw [← hh, Bd.state]; rfl
  have N0 := Fr.nil n0
  have pre0 : ∀ t, Steps p.tables e below (s₁.setTop (mkF m 0 #[.val (.ref a1)] [])) t → Steps p.tables e below (s₁.setTop (entryFrame m #[(.ref a1)] 1)) t := fun t kt => castTop (ef_rm_ln m a1) kt
  have ne_a1_b1 : a1 ≠ b1 := by
    obtain ⟨cA, AA, -⟩ := id V_b1
    exact ne_arr E_a1 (hw _ (List.mem_of_getElem? (i := 66) rfl)) AA
  obtain ⟨_, _, ⟨T1, L1, k1, n1⟩, -, X1, ⟨Lc1, hQ1, l1, y1, z1⟩, st1⟩ := superBack X0 hx hZ (y := (⟨"java/lang/AbstractStringBuilder", "length", "()I"⟩ : MethodName)) hown (hw _ (List.mem_of_getElem? (i := 203) rfl)) (own_sm (z := (⟨"java/lang/AbstractStringBuilder", "isLatin1", "()Z"⟩ : MethodName)) rfl (by decide) (hw _ (List.mem_of_getElem? (i := 199) rfl)) (hw _ (List.mem_of_getElem? (i := 152) rfl))) (hw _ (List.mem_of_getElem? (i := 199) rfl)) (hw _ (List.mem_of_getElem? (i := 121) rfl)) (by decide) (backOf (W := 0) (rm_al l Z a0 hw [] a1 b1 k1 ac h0 n0 Z0 E_a1 F_value_a1 F_coder_a1 F_count_a1 V_b1) hZ (hw _ (List.mem_of_getElem? (i := 204) rfl)) (hw _ (List.mem_of_getElem? (i := 75) rfl)) (by decide) (by decide)) e0 (Ins.self E_a1) (g := (mkF m 1 #[.val (.ref a1)] [(.ref a1)])) rfl (by rw [hml]; rfl) (hw _ (List.mem_of_getElem? (i := 204) rfl)) (argsL := []) (rest := []) (lenOf pd___I_154 rfl) rfl (by show 2 * 0 + _ ≤ _; exact Nat.le_of_eq rfl) (hb hby d39_1) (fun _ _ => ⟨rfl, e0, (by decide : 0 + 0 ≤ _), (by decide : 0 + 0 ≤ _)⟩)
  dsimp only [Pt.U, Pt.locs, Pt.cells, Pt.slots] at X1 l1 y1 z1 st1 hQ1
  subst l1 y1 z1
  obtain ⟨rfl, N1q, e1⟩ := hQ1
  have N1 := Fr.app N0 N1q
  obtain ⟨fs, hr, hrun, hended, hW, hsame⟩ := X1.leave (v := some (.int (Int32.ofNat ac.length))) (fun h => by rw [Bd.returns] at h; cases h) (hlocks := Bd.notSynchronized)
  refine ⟨_, _, pre0 _ ?_, hrun, hended, _, _, rfl, ?_, ⟨_, rfl⟩, hW, hsame.mono (by decide) (by decide)⟩
  · show Steps p.tables e below (s₁.setTop (mkF m 0 #[.val (.ref a1)] [])) _
    refine XS.aloadN X0.here hx rfl (hb hby d39_0) rfl rfl ?_
    show Steps p.tables e below (s₁.setTop (mkF m 1 #[.val (.ref a1)] [(.ref a1)])) _
    refine st1.trans ?_
    show Steps p.tables e below (T1.setTop (mkF m 4 #[.val (.ref a1)] [(.int (Int32.ofNat ac.length))])) _
    exact retI X1 hx Bd.returns (hb hby d39_4) hr
  · show Q_rm_ln Z a1 b1 k1 ac h0 n0 _ T1.heap _
    rw [e1]
    exact ⟨rfl, N1, rfl⟩
theorem pn_43 : plainName "java/util/Arrays" = true := by first | (simp [plainName, overriddenIn]; done) | decide +kernel
theorem ef_rm_ck (m : MethodId) (x0 : Int32) (x1 : Int32) : entryFrame m #[(.int x0), (.int x1)] 2 = mkF m 0 #[.val (.int x0), .val (.int x1)] [] := by first | (simp [entryFrame, mkF, argsToLocals, Value.category]; done) | rfl
def Q_rm_ck (Z : State) (n : Nat) (h0 : Heap) (n0 : Nat) (v : Option Value) (h : Heap) (L : List Loc) : Prop := v = none ∧ Fr n0 L ∧ h = h0
theorem d43_0 : decode jdk_65_method_131_code 0 = .ok (.iload_n 1, 1) := by decide +kernel
theorem d43_1 : decode jdk_65_method_131_code 1 = .ok (.iload_n 0, 1) := by decide +kernel
theorem d43_2 : decode jdk_65_method_131_code 2 = .ok (.if_icmp .ge 35, 3) := by decide +kernel
theorem d43_37 : decode jdk_65_method_131_code 37 = .ok (.return_, 1) := by decide +kernel
set_option maxRecDepth 65536 in
set_option maxHeartbeats 40000000 in
theorem rm_ck (l : Launch) (Z : State) (a0 : Array Value) (hw : ∀ d ∈ tables_1, d.before a0 Z = true) (ws : List Jvm.Cond) (n : Nat) (h0 : Heap) (n0 : Nat) (Z0 : n0 ≤ h0.size) (hn : n ≤ 4000) :
    MetFree l (⟨"java/util/Arrays", "checkLength", "(II)V"⟩ : MethodName) (head1 (Jvm.Cond.code (⟨"java/util/Arrays", "checkLength", "(II)V"⟩ : MethodName) jdk_65_method_131_code 2 none :: ws) ({ frames := 0, cells := 0, slots := 0, locals := 0 } : Room)) (fun a U => a = #[(.int (0 : Int32)), (.int (Int32.ofNat n))] ∧ Z.Warmed39 U.vm ∧ U.heap = h0) (fun _ _ _ _ _ => True) (fun _ U o U' => ∃ v L, o = .returned v ∧ Q_rm_ck Z n h0 n0 v U'.heap L ∧ FrameEnd U o U' L ({ frames := 0, cells := 0, slots := 0, locals := 0 } : Room).cells ({ frames := 0, cells := 0, slots := 0, locals := 0 } : Room).slots) := by
  refine MetFree.of_bodySF (plainFor_of_name pn_43) hisR ?_
  intro p e s m args below meth c s₁ Bd hml0 hP hK
  obtain ⟨rfl, hZ, hh⟩ := hP
  have hx := Bd.exec
  have hby := Bd.bytes
  have hml : c.maxLocals = 2 := hml0
  have hown : s.vm.findClass "java/util/Arrays" = some m.cls := findClass_of_methodNamed Bd.named
  have hnm := (name_of_methodNamed Bd.named Bd.method).1
  have X0 : Stand p l e ({ frames := 0, cells := 0, slots := 0, locals := 0 } : Room) s m #[(.int (0 : Int32)), (.int (Int32.ofNat n))] below meth c s₁ [] 0 0 := Stand.of_body Bd
  have e0 : s₁.heap = h0 := by rw [← hh, Bd.state]; rfl
  have N0 := Fr.nil n0
  have pre0 : ∀ t, Steps p.tables e below (s₁.setTop (mkF m 0 #[.val (.int (0 : Int32)), .val (.int (Int32.ofNat n))] [])) t → Steps p.tables e below (s₁.setTop (entryFrame m #[(.int (0 : Int32)), (.int (Int32.ofNat n))] 2)) t := fun t kt => castTop (ef_rm_ck m (0 : Int32) (Int32.ofNat n)) kt
  obtain ⟨fs, hr, hrun, hended, hW, hsame⟩ := X0.leave (v := none) (fun _ => rfl) (hlocks := Bd.notSynchronized)
  refine ⟨_, _, pre0 _ ?_, hrun, hended, _, _, rfl, ?_, ⟨_, rfl⟩, hW, hsame.mono (by decide) (by decide)⟩
  · show Steps p.tables e below (s₁.setTop (mkF m 0 #[.val (.int (0 : Int32)), .val (.int (Int32.ofNat n))] [])) _
    refine XS.iloadN X0.here hx rfl (hb hby d43_0) rfl ?_
    show Steps p.tables e below (s₁.setTop (mkF m 1 #[.val (.int (0 : Int32)), .val (.int (Int32.ofNat n))] [(.int (Int32.ofNat n))])) _
    refine XS.iloadN X0.here hx rfl (hb hby d43_1) rfl ?_
    show Steps p.tables e below (s₁.setTop (mkF m 2 #[.val (.int (0 : Int32)), .val (.int (Int32.ofNat n))] [(.int (0 : Int32)), (.int (Int32.ofNat n))])) _
    refine XS.icmpYes X0.here hx rfl (pc0 := 2) (pc' := 37) rfl (hb hby d43_2) rfl (flt (own_nn (by omega))).2.1 (by decide) (by decide) ?_
    show Steps p.tables e below (s₁.setTop (mkF m 37 #[.val (.int (0 : Int32)), .val (.int (Int32.ofNat n))] [])) _
    exact X0.returnOut hx Bd.returns (hb hby d43_37) hr
  · show Q_rm_ck Z n h0 n0 _ s₁.heap _
    rw [e0]
    exact ⟨rfl, N0, rfl⟩
theorem pn_42 : plainName "java/util/Arrays" = true := by first | (simp [plainName, overriddenIn]; done) | decide +kernel
theorem ef_rm_cb (m : MethodId) (x0 : Addr) (x1 : Int32) (x2 : Int32) : entryFrame m #[(.ref x0), (.int x1), (.int x2)] 5 = mkF m 0 #[.val (.ref x0), .val (.int x1), .val (.int x2), .unset, .unset] [] := by first | (simp [entryFrame, mkF, argsToLocals, Value.category]; done) | rfl
def Q_rm_cb (Z : State) (a1 : Addr) (k1 : ClassId) (ac : List Int32) (h0 : Heap) (n0 : Nat) (v : Option Value) (h : Heap) (L : List Loc) : Prop := ∃ (b : Addr) (k : ClassId), v = some (.ref b) ∧ Fr n0 L ∧ Keep h0 h [] ∧ n0 ≤ b ∧ h0.size ≤ b ∧ Arv Z h b k .byte (Int32.ofNat ac.length) (own_by ac) (.int 0)
theorem d42_0 : decode jdk_65_method_133_code 0 = .ok (.iload_n 1, 1) := by decide +kernel
theorem d42_1 : decode jdk_65_method_133_code 1 = .ok (.iload_n 2, 1) := by decide +kernel
theorem pd__II_V_313 : parseMethodDescriptor "(II)V" = some ⟨[.int, .int], none⟩ := by decide +kernel
theorem d42_2 : decode jdk_65_method_133_code 2 = .ok (.invokestatic 343, 3) := by decide +kernel
theorem d42_5 : decode jdk_65_method_133_code 5 = .ok (.iload_n 2, 1) := by decide +kernel
theorem d42_6 : decode jdk_65_method_133_code 6 = .ok (.iload_n 1, 1) := by decide +kernel
theorem d42_7 : decode jdk_65_method_133_code 7 = .ok (.isub, 1) := by decide +kernel
theorem d42_8 : decode jdk_65_method_133_code 8 = .ok (.istore_n 3, 1) := by decide +kernel
theorem d42_9 : decode jdk_65_method_133_code 9 = .ok (.iload_n 3, 1) := by decide +kernel
theorem d42_10 : decode jdk_65_method_133_code 10 = .ok (.newarray .byte, 2) := by decide +kernel
theorem d42_12 : decode jdk_65_method_133_code 12 = .ok (.astore 4, 2) := by decide +kernel
theorem d42_14 : decode jdk_65_method_133_code 14 = .ok (.aload_n 0, 1) := by decide +kernel
theorem d42_15 : decode jdk_65_method_133_code 15 = .ok (.iload_n 1, 1) := by decide +kernel
theorem d42_16 : decode jdk_65_method_133_code 16 = .ok (.aload 4, 2) := by decide +kernel
theorem d42_18 : decode jdk_65_method_133_code 18 = .ok (.iconst 0, 1) := by decide +kernel
theorem d42_19 : decode jdk_65_method_133_code 19 = .ok (.aload_n 0, 1) := by decide +kernel
theorem d42_20 : decode jdk_65_method_133_code 20 = .ok (.arraylength, 1) := by decide +kernel
theorem d42_21 : decode jdk_65_method_133_code 21 = .ok (.iload_n 1, 1) := by decide +kernel
theorem d42_22 : decode jdk_65_method_133_code 22 = .ok (.isub, 1) := by decide +kernel
theorem d42_23 : decode jdk_65_method_133_code 23 = .ok (.iload_n 3, 1) := by decide +kernel
theorem d42_24 : decode jdk_65_method_133_code 24 = .ok (.invokestatic 304, 3) := by decide +kernel
theorem d42_27 : decode jdk_65_method_133_code 27 = .ok (.invokestatic 150, 3) := by decide +kernel
theorem d42_30 : decode jdk_65_method_133_code 30 = .ok (.aload 4, 2) := by decide +kernel
theorem d42_32 : decode jdk_65_method_133_code 32 = .ok (.areturn, 1) := by decide +kernel
set_option maxRecDepth 65536 in
set_option maxHeartbeats 40000000 in
theorem rm_cb (l : Launch) (Z : State) (a0 : Array Value) (hw : ∀ d ∈ tables_1, d.before a0 Z = true) (ws : List Jvm.Cond) (a1 : Addr) (k1 : ClassId) (ac : List Int32) (h0 : Heap) (n0 : Nat) (Z0 : n0 ≤ h0.size) (V_a1 : Arv Z h0 a1 k1 .byte (16 : Int32) (own_by ac) (.int 0)) (hn : ac.length < 16) :
    MetFree l (⟨"java/util/Arrays", "copyOfRangeByte", "([BII)[B"⟩ : MethodName) (head1 (Jvm.Cond.code (⟨"java/util/Arrays", "copyOfRangeByte", "([BII)[B"⟩ : MethodName) jdk_65_method_133_code 5 (some (.array .byte)) :: ws) ({ frames := 1, cells := 1, slots := 16, locals := 18 } : Room)) (fun a U => a = #[(.ref a1), (.int (0 : Int32)), (.int (Int32.ofNat ac.length))] ∧ Z.Warmed39 U.vm ∧ U.heap = h0) (fun _ _ _ _ _ => True) (fun _ U o U' => ∃ v L, o = .returned v ∧ Q_rm_cb Z a1 k1 ac h0 n0 v U'.heap L ∧ FrameEnd U o U' L ({ frames := 1, cells := 1, slots := 16, locals := 18 } : Room).cells ({ frames := 1, cells := 1, slots := 16, locals := 18 } : Room).slots) := by
  refine MetFree.of_bodySF (plainFor_of_name pn_42) hisR ?_
  intro p e s m args below meth c s₁ Bd hml0 hP hK
  obtain ⟨rfl, hZ, hh⟩ := hP
  have hx := Bd.exec
  have hby := Bd.bytes
  have hml : c.maxLocals = 5 := hml0
  have hown : s.vm.findClass "java/util/Arrays" = some m.cls := findClass_of_methodNamed Bd.named
  have hnm := (name_of_methodNamed Bd.named Bd.method).1
  have X0 : Stand p l e ({ frames := 1, cells := 1, slots := 16, locals := 18 } : Room) s m #[(.ref a1), (.int (0 : Int32)), (.int (Int32.ofNat ac.length))] below meth c s₁ [] 0 0 := Stand.of_body Bd
  have e0 : s₁.heap = h0 := by rw [← hh, Bd.state]; rfl
  have N0 := Fr.nil n0
  have pre0 : ∀ t, Steps p.tables e below (s₁.setTop (mkF m 0 #[.val (.ref a1), .val (.int (0 : Int32)), .val (.int (Int32.ofNat ac.length)), .unset, .unset] [])) t → Steps p.tables e below (s₁.setTop (entryFrame m #[(.ref a1), (.int (0 : Int32)), (.int (Int32.ofNat ac.length))] 5)) t := fun t kt => castTop (ef_rm_cb m a1 (0 : Int32) (Int32.ofNat ac.length)) kt
  obtain ⟨_, _, ⟨T1, L1, k1, n1⟩, -, X1, ⟨Lc1, hQ1, l1, y1, z1⟩, st1⟩ := Jvm.LawKit.callS X0 hx (y := (⟨"java/util/Arrays", "checkLength", "(II)V"⟩ : MethodName)) hown (mvT hZ (hw _ (List.mem_of_getElem? (i := 213) rfl))) (mvT hZ (hw _ (List.mem_of_getElem? (i := 214) rfl))) (mvT hZ (hw _ (List.mem_of_getElem? (i := 208) rfl))) (mvT hZ (hw _ (List.mem_of_getElem? (i := 215) rfl))) (by decide) (backOf (W := 0) (rm_ck l Z a0 hw [] ac.length h0 n0 Z0 (by omega)) hZ (hw _ (List.mem_of_getElem? (i := 215) rfl)) (hw _ (List.mem_of_getElem? (i := 208) rfl)) (by decide) (by decide)) (g := (mkF m 2 #[.val (.ref a1), .val (.int (0 : Int32)), .val (.int (Int32.ofNat ac.length)), .unset, .unset] [(.int (Int32.ofNat ac.length)), (.int (0 : Int32))])) rfl (by rw [hml]; rfl) (argsL := [(.int (0 : Int32)), (.int (Int32.ofNat ac.length))]) (rest := []) (lenOf pd__II_V_313 rfl) rfl (by show 2 * 0 + _ ≤ _; exact Nat.le_of_eq rfl) (hb hby d42_2) (fun _ _ => ⟨rfl, e0, (by decide : 0 + 0 ≤ _), (by decide : 0 + 0 ≤ _)⟩)
  dsimp only [Pt.U, Pt.locs, Pt.cells, Pt.slots] at X1 l1 y1 z1 st1 hQ1
  subst l1 y1 z1
  obtain ⟨rfl, N1q, e1⟩ := hQ1
  have N1 := Fr.app N0 N1q
  obtain ⟨T2, h2, k2, X2, e2, E2, A2, st2⟩ := newP X1 hx hZ (hw _ (List.mem_of_getElem? (i := 24) rfl)) e1 (g := (mkF m 10 #[.val (.ref a1), .val (.int (0 : Int32)), .val (.int (Int32.ofNat ac.length)), .val (.int ((Int32.ofNat ac.length) - (0 : Int32))), .unset] [(.int ((Int32.ofNat ac.length) - (0 : Int32)))])) rfl (hb hby d42_10) rfl (by rw [own_s0]; exact own_nn (by omega)) (cap := 16) (by rw [own_s0, own_tn (show ac.length < 2147483648 by omega)]; omega) (by decide) (by decide) (by decide)
  obtain ⟨b2, g2⟩ : ∃ z, z = h0.size := ⟨_, rfl⟩
  rw [← g2] at A2 st2
  have sz_b2 : h0.size ≤ b2 := Nat.le_trans (Keep.refl h0 []).1 (Nat.le_of_eq g2.symm)
  have ne_a1_b2 : a1 ≠ b2 := Nat.ne_of_lt (Nat.lt_of_lt_of_le V_a1.lt (Nat.le_of_eq g2.symm))
  have f1 : Arv Z h2 a1 k1 .byte (16 : Int32) (own_by ac) (.int 0) := V_a1.ext E2
  have f2 : Keep h0 h2 [] := (Keep.refl h0 []).ext E2
  have g_b2 : n0 ≤ b2 := Nat.le_trans Z0 (Nat.le_of_eq g2.symm)
  have Z2 : n0 ≤ h2.size := Nat.le_trans Z0 E2.1
  have V_b2 : Arv Z h2 b2 k2 .byte ((Int32.ofNat ac.length) - (0 : Int32)) ([] ++ List.replicate ac.length (.int (0 : Int32))) (.int (0 : Int32)) := (Arv.new A2 (by rw [own_s0]; exact own_nn (by omega))).pad (pad_rep [] (.int (0 : Int32)) ac.length)
  obtain ⟨cl3, Ar3, aq3, aS3, aN3, aH3, aG3⟩ := id f1
  obtain ⟨_, _, ⟨T4, L4, k4, n4⟩, -, X4, ⟨Lc4, hQ4, l4, y4, z4⟩, st4⟩ := Jvm.LawKit.callS X2 hx (y := (⟨"java/lang/Math", "min", "(II)I"⟩ : MethodName)) hown (mvT hZ (hw _ (List.mem_of_getElem? (i := 216) rfl))) (mvT hZ (hw _ (List.mem_of_getElem? (i := 109) rfl))) (mvT hZ (hw _ (List.mem_of_getElem? (i := 106) rfl))) (mvT hZ (hw _ (List.mem_of_getElem? (i := 110) rfl))) (by decide) (backOf (W := 4) (rm_m2 l Z a0 hw [] ((16 : Int32) - (0 : Int32)) ((Int32.ofNat ac.length) - (0 : Int32)) h2 n0 Z2 (own_mn hn)) hZ (hw _ (List.mem_of_getElem? (i := 110) rfl)) (hw _ (List.mem_of_getElem? (i := 106) rfl)) (by decide) (by decide)) (g := (mkF m 24 #[.val (.ref a1), .val (.int (0 : Int32)), .val (.int (Int32.ofNat ac.length)), .val (.int ((Int32.ofNat ac.length) - (0 : Int32))), .val (.ref b2)] [(.int ((Int32.ofNat ac.length) - (0 : Int32))), (.int ((16 : Int32) - (0 : Int32))), (.int (0 : Int32)), (.ref b2), (.int (0 : Int32)), (.ref a1)])) rfl (by rw [hml]; rfl) (argsL := [(.int ((16 : Int32) - (0 : Int32))), (.int ((Int32.ofNat ac.length) - (0 : Int32)))]) (rest := [(.int (0 : Int32)), (.ref b2), (.int (0 : Int32)), (.ref a1)]) (lenOf pd__II_I_300 rfl) rfl (by show 2 * 0 + _ ≤ _; exact Nat.le_of_eq rfl) (hb hby d42_24) (fun _ _ => ⟨rfl, e2, (by decide : 1 + 0 ≤ _), (by decide : 16 + 0 ≤ _)⟩)
  dsimp only [Pt.U, Pt.locs, Pt.cells, Pt.slots] at X4 l4 y4 z4 st4 hQ4
  subst l4 y4 z4
  obtain ⟨rfl, N4q, e4⟩ := hQ4
  have N4 := Fr.app N1 N4q
  obtain ⟨T5, h5, Lk5, X5, e5, N5, K5, Vc5, st5⟩ := cpA X4 hx hZ hown (hw _ (List.mem_of_getElem? (i := 217) rfl)) (hw _ (List.mem_of_getElem? (i := 163) rfl)) (hw _ (List.mem_of_getElem? (i := 161) rfl)) (hw _ (List.mem_of_getElem? (i := 162) rfl)) e4 f1 V_b2 (us := (own_by ac)) (Or.inl ⟨rfl, rfl⟩) (by decide) (by decide) (by rw [own_s0]; exact own_nn (by omega)) (by rw [own_s0, own_tn (show ac.length < 2147483648 by omega)]; show 0 + ac.length ≤ 16; omega) (by rw [own_s0, own_tn (show ac.length < 2147483648 by omega)]; exact Nat.le_of_eq (Nat.zero_add _)) (own_cpEq hn) (by rw [own_s0, own_tn (show ac.length < 2147483648 by omega)]; simp [Int32.toNatClampNeg]) N4 g_b2 (g := (mkF m 27 #[.val (.ref a1), .val (.int (0 : Int32)), .val (.int (Int32.ofNat ac.length)), .val (.int ((Int32.ofNat ac.length) - (0 : Int32))), .val (.ref b2)] [(.int ((Int32.ofNat ac.length) - (0 : Int32))), (.int (0 : Int32)), (.ref b2), (.int (0 : Int32)), (.ref a1)])) rfl (by rw [hml]; rfl) (rest := []) rfl (hb hby d42_27) (by decide) (W := 0) (by show 2 * 0 + _ ≤ _; exact Nat.le_of_eq rfl) (by decide)
  have f3 : Arv Z h5 a1 k1 .byte (16 : Int32) (own_by ac) (.int 0) := f1.keep K5 (by simp [ne_a1_b2])
  have f4 : Keep h0 h5 [] := f2.trans K5 (fun x hx => by cases List.mem_singleton.mp hx; exact Or.inr sz_b2)
  have f5 : n0 ≤ b2 := g_b2
  have Z5 : n0 ≤ h5.size := Nat.le_trans Z2 K5.1
  have V_b2_6 : Arv Z h5 b2 k2 .byte ((Int32.ofNat ac.length) - (0 : Int32)) (own_by ac) (.int (0 : Int32)) := by rw [← own_cat1 (d := .int 0) (show ac.length < 16 from hn)]; exact Vc5
  obtain ⟨fs, hr, hrun, hended, hW, hsame⟩ := X5.leave (v := some (.ref b2)) (fun h => by rw [Bd.returns] at h; cases h) (hlocks := Bd.notSynchronized)
  refine ⟨_, _, pre0 _ ?_, hrun, hended, _, _, rfl, ?_, ⟨_, rfl⟩, hW, hsame.mono (by decide) (by decide)⟩
  · show Steps p.tables e below (s₁.setTop (mkF m 0 #[.val (.ref a1), .val (.int (0 : Int32)), .val (.int (Int32.ofNat ac.length)), .unset, .unset] [])) _
    refine XS.iloadN X0.here hx rfl (hb hby d42_0) rfl ?_
    show Steps p.tables e below (s₁.setTop (mkF m 1 #[.val (.ref a1), .val (.int (0 : Int32)), .val (.int (Int32.ofNat ac.length)), .unset, .unset] [(.int (0 : Int32))])) _
    refine XS.iloadN X0.here hx rfl (hb hby d42_1) rfl ?_
    show Steps p.tables e below (s₁.setTop (mkF m 2 #[.val (.ref a1), .val (.int (0 : Int32)), .val (.int (Int32.ofNat ac.length)), .unset, .unset] [(.int (Int32.ofNat ac.length)), (.int (0 : Int32))])) _
    refine st1 _ ?_
    show Steps p.tables e below (T1.setTop (mkF m 5 #[.val (.ref a1), .val (.int (0 : Int32)), .val (.int (Int32.ofNat ac.length)), .unset, .unset] [])) _
    refine XS.iloadN X1.here hx rfl (hb hby d42_5) rfl ?_
    show Steps p.tables e below (T1.setTop (mkF m 6 #[.val (.ref a1), .val (.int (0 : Int32)), .val (.int (Int32.ofNat ac.length)), .unset, .unset] [(.int (Int32.ofNat ac.length))])) _
    refine XS.iloadN X1.here hx rfl (hb hby d42_6) rfl ?_
    show Steps p.tables e below (T1.setTop (mkF m 7 #[.val (.ref a1), .val (.int (0 : Int32)), .val (.int (Int32.ofNat ac.length)), .unset, .unset] [(.int (0 : Int32)), (.int (Int32.ofNat ac.length))])) _
    refine XS.isub X1.here hx rfl (hb hby d42_7) rfl ?_
    show Steps p.tables e below (T1.setTop (mkF m 8 #[.val (.ref a1), .val (.int (0 : Int32)), .val (.int (Int32.ofNat ac.length)), .unset, .unset] [(.int ((Int32.ofNat ac.length) - (0 : Int32)))])) _
    refine XS.istoreN X1.here hx rfl (hb hby d42_8) rfl (l' := #[.val (.ref a1), .val (.int (0 : Int32)), .val (.int (Int32.ofNat ac.length)), .val (.int ((Int32.ofNat ac.length) - (0 : Int32))), .unset]) rfl ?_
    show Steps p.tables e below (T1.setTop (mkF m 9 #[.val (.ref a1), .val (.int (0 : Int32)), .val (.int (Int32.ofNat ac.length)), .val (.int ((Int32.ofNat ac.length) - (0 : Int32))), .unset] [])) _
    refine XS.iloadN X1.here hx rfl (hb hby d42_9) rfl ?_
    show Steps p.tables e below (T1.setTop (mkF m 10 #[.val (.ref a1), .val (.int (0 : Int32)), .val (.int (Int32.ofNat ac.length)), .val (.int ((Int32.ofNat ac.length) - (0 : Int32))), .unset] [(.int ((Int32.ofNat ac.length) - (0 : Int32)))])) _
    refine st2 _ ?_
    show Steps p.tables e below (T2.setTop (mkF m 12 #[.val (.ref a1), .val (.int (0 : Int32)), .val (.int (Int32.ofNat ac.length)), .val (.int ((Int32.ofNat ac.length) - (0 : Int32))), .unset] [(.ref b2)])) _
    refine XS.astore X2.here hx rfl (hb hby d42_12) rfl rfl (l' := #[.val (.ref a1), .val (.int (0 : Int32)), .val (.int (Int32.ofNat ac.length)), .val (.int ((Int32.ofNat ac.length) - (0 : Int32))), .val (.ref b2)]) rfl ?_
    show Steps p.tables e below (T2.setTop (mkF m 14 #[.val (.ref a1), .val (.int (0 : Int32)), .val (.int (Int32.ofNat ac.length)), .val (.int ((Int32.ofNat ac.length) - (0 : Int32))), .val (.ref b2)] [])) _
    refine XS.aloadN X2.here hx rfl (hb hby d42_14) rfl rfl ?_
    show Steps p.tables e below (T2.setTop (mkF m 15 #[.val (.ref a1), .val (.int (0 : Int32)), .val (.int (Int32.ofNat ac.length)), .val (.int ((Int32.ofNat ac.length) - (0 : Int32))), .val (.ref b2)] [(.ref a1)])) _
    refine XS.iloadN X2.here hx rfl (hb hby d42_15) rfl ?_
    show Steps p.tables e below (T2.setTop (mkF m 16 #[.val (.ref a1), .val (.int (0 : Int32)), .val (.int (Int32.ofNat ac.length)), .val (.int ((Int32.ofNat ac.length) - (0 : Int32))), .val (.ref b2)] [(.int (0 : Int32)), (.ref a1)])) _
    refine XS.aload X2.here hx rfl (hb hby d42_16) rfl rfl ?_
    show Steps p.tables e below (T2.setTop (mkF m 18 #[.val (.ref a1), .val (.int (0 : Int32)), .val (.int (Int32.ofNat ac.length)), .val (.int ((Int32.ofNat ac.length) - (0 : Int32))), .val (.ref b2)] [(.ref b2), (.int (0 : Int32)), (.ref a1)])) _
    refine XS.iconst X2.here hx rfl (hb hby d42_18) ?_
    show Steps p.tables e below (T2.setTop (mkF m 19 #[.val (.ref a1), .val (.int (0 : Int32)), .val (.int (Int32.ofNat ac.length)), .val (.int ((Int32.ofNat ac.length) - (0 : Int32))), .val (.ref b2)] [(.int (0 : Int32)), (.ref b2), (.int (0 : Int32)), (.ref a1)])) _
    refine XS.aloadN X2.here hx rfl (hb hby d42_19) rfl rfl ?_
    show Steps p.tables e below (T2.setTop (mkF m 20 #[.val (.ref a1), .val (.int (0 : Int32)), .val (.int (Int32.ofNat ac.length)), .val (.int ((Int32.ofNat ac.length) - (0 : Int32))), .val (.ref b2)] [(.ref a1), (.int (0 : Int32)), (.ref b2), (.int (0 : Int32)), (.ref a1)])) _
    refine X2.arraylength hx (by rw [e2]; exact Ar3.1) (State.isArrayOf_alike hZ.alike Ar3.2.1) (g := (mkF m 20 #[.val (.ref a1), .val (.int (0 : Int32)), .val (.int (Int32.ofNat ac.length)), .val (.int ((Int32.ofNat ac.length) - (0 : Int32))), .val (.ref b2)] [(.ref a1), (.int (0 : Int32)), (.ref b2), (.int (0 : Int32)), (.ref a1)])) rfl rfl (hb hby d42_20) _ ?_
    rw [len_of aS3 aN3]
    show Steps p.tables e below (T2.setTop (mkF m 21 #[.val (.ref a1), .val (.int (0 : Int32)), .val (.int (Int32.ofNat ac.length)), .val (.int ((Int32.ofNat ac.length) - (0 : Int32))), .val (.ref b2)] [(.int (16 : Int32)), (.int (0 : Int32)), (.ref b2), (.int (0 : Int32)), (.ref a1)])) _
    refine XS.iloadN X2.here hx rfl (hb hby d42_21) rfl ?_
    show Steps p.tables e below (T2.setTop (mkF m 22 #[.val (.ref a1), .val (.int (0 : Int32)), .val (.int (Int32.ofNat ac.length)), .val (.int ((Int32.ofNat ac.length) - (0 : Int32))), .val (.ref b2)] [(.int (0 : Int32)), (.int (16 : Int32)), (.int (0 : Int32)), (.ref b2), (.int (0 : Int32)), (.ref a1)])) _
    refine XS.isub X2.here hx rfl (hb hby d42_22) rfl ?_
    show Steps p.tables e below (T2.setTop (mkF m 23 #[.val (.ref a1), .val (.int (0 : Int32)), .val (.int (Int32.ofNat ac.length)), .val (.int ((Int32.ofNat ac.length) - (0 : Int32))), .val (.ref b2)] [(.int ((16 : Int32) - (0 : Int32))), (.int (0 : Int32)), (.ref b2), (.int (0 : Int32)), (.ref a1)])) _
    refine XS.iloadN X2.here hx rfl (hb hby d42_23) rfl ?_
    show Steps p.tables e below (T2.setTop (mkF m 24 #[.val (.ref a1), .val (.int (0 : Int32)), .val (.int (Int32.ofNat ac.length)), .val (.int ((Int32.ofNat ac.length) - (0 : Int32))), .val (.ref b2)] [(.int ((Int32.ofNat ac.length) - (0 : Int32))), (.int ((16 : Int32) - (0 : Int32))), (.int (0 : Int32)), (.ref b2), (.int (0 : Int32)), (.ref a1)])) _
    refine st4 _ ?_
    show Steps p.tables e below (T4.setTop (mkF m 27 #[.val (.ref a1), .val (.int (0 : Int32)), .val (.int (Int32.ofNat ac.length)), .val (.int ((Int32.ofNat ac.length) - (0 : Int32))), .val (.ref b2)] [(.int ((Int32.ofNat ac.length) - (0 : Int32))), (.int (0 : Int32)), (.ref b2), (.int (0 : Int32)), (.ref a1)])) _
    refine st5 _ ?_
    show Steps p.tables e below (T5.setTop (mkF m 30 #[.val (.ref a1), .val (.int (0 : Int32)), .val (.int (Int32.ofNat ac.length)), .val (.int ((Int32.ofNat ac.length) - (0 : Int32))), .val (.ref b2)] [])) _
    refine XS.aload X5.here hx rfl (hb hby d42_30) rfl rfl ?_
    show Steps p.tables e below (T5.setTop (mkF m 32 #[.val (.ref a1), .val (.int (0 : Int32)), .val (.int (Int32.ofNat ac.length)), .val (.int ((Int32.ofNat ac.length) - (0 : Int32))), .val (.ref b2)] [(.ref b2)])) _
    exact X5.areturnOut hx rfl Bd.returns rfl (hb hby d42_32) hr
  · show Q_rm_cb Z a1 k1 ac h0 n0 _ T5.heap _
    rw [e5]
    exact ⟨b2, _, rfl, N5, f4, f5, sz_b2, by have q := V_b2_6; rw [own_s0] at q; exact q⟩
theorem pn_41 : plainName "java/util/Arrays" = true := by first | (simp [plainName, overriddenIn]; done) | decide +kernel
theorem ef_rm_cr (m : MethodId) (x0 : Addr) (x1 : Int32) (x2 : Int32) : entryFrame m #[(.ref x0), (.int x1), (.int x2)] 3 = mkF m 0 #[.val (.ref x0), .val (.int x1), .val (.int x2)] [] := by first | (simp [entryFrame, mkF, argsToLocals, Value.category]; done) | rfl
def Q_rm_cr (Z : State) (a1 : Addr) (k1 : ClassId) (ac : List Int32) (h0 : Heap) (n0 : Nat) (v : Option Value) (h : Heap) (L : List Loc) : Prop := ∃ (b : Addr) (k : ClassId), v = some (.ref b) ∧ Fr n0 L ∧ Keep h0 h [] ∧ n0 ≤ b ∧ h0.size ≤ b ∧ Arv Z h b k .byte (Int32.ofNat ac.length) (own_by ac) (.int 0)
theorem d41_0 : decode jdk_65_method_132_code 0 = .ok (.iload_n 1, 1) := by decide +kernel
theorem d41_1 : decode jdk_65_method_132_code 1 = .ok (.ifCond .ne 9, 3) := by decide +kernel
theorem d41_4 : decode jdk_65_method_132_code 4 = .ok (.iload_n 2, 1) := by decide +kernel
theorem d41_5 : decode jdk_65_method_132_code 5 = .ok (.aload_n 0, 1) := by decide +kernel
theorem d41_6 : decode jdk_65_method_132_code 6 = .ok (.arraylength, 1) := by decide +kernel
theorem d41_7 : decode jdk_65_method_132_code 7 = .ok (.if_icmp .eq 10, 3) := by decide +kernel
theorem d41_10 : decode jdk_65_method_132_code 10 = .ok (.aload_n 0, 1) := by decide +kernel
theorem d41_11 : decode jdk_65_method_132_code 11 = .ok (.iload_n 1, 1) := by decide +kernel
theorem d41_12 : decode jdk_65_method_132_code 12 = .ok (.iload_n 2, 1) := by decide +kernel
theorem pd___BII__B_541 : parseMethodDescriptor "([BII)[B" = some ⟨[(.array .byte), .int, .int], some (.array .byte)⟩ := by decide +kernel
theorem d41_13 : decode jdk_65_method_132_code 13 = .ok (.invokestatic 339, 3) := by decide +kernel
theorem d41_16 : decode jdk_65_method_132_code 16 = .ok (.areturn, 1) := by decide +kernel
set_option maxRecDepth 65536 in
set_option maxHeartbeats 40000000 in
theorem rm_cr (l : Launch) (Z : State) (a0 : Array Value) (hw : ∀ d ∈ tables_1, d.before a0 Z = true) (ws : List Jvm.Cond) (a1 : Addr) (k1 : ClassId) (ac : List Int32) (h0 : Heap) (n0 : Nat) (Z0 : n0 ≤ h0.size) (V_a1 : Arv Z h0 a1 k1 .byte (16 : Int32) (own_by ac) (.int 0)) (hn : ac.length < 16) :
    MetFree l (⟨"java/util/Arrays", "copyOfRange", "([BII)[B"⟩ : MethodName) (head1 (Jvm.Cond.code (⟨"java/util/Arrays", "copyOfRange", "([BII)[B"⟩ : MethodName) jdk_65_method_132_code 3 (some (.array .byte)) :: ws) ({ frames := 2, cells := 1, slots := 16, locals := 34 } : Room)) (fun a U => a = #[(.ref a1), (.int (0 : Int32)), (.int (Int32.ofNat ac.length))] ∧ Z.Warmed39 U.vm ∧ U.heap = h0) (fun _ _ _ _ _ => True) (fun _ U o U' => ∃ v L, o = .returned v ∧ Q_rm_cr Z a1 k1 ac h0 n0 v U'.heap L ∧ FrameEnd U o U' L ({ frames := 2, cells := 1, slots := 16, locals := 34 } : Room).cells ({ frames := 2, cells := 1, slots := 16, locals := 34 } : Room).slots) := by
  refine MetFree.of_bodySF (plainFor_of_name pn_41) hisR ?_
  intro p e s m args below meth c s₁ Bd hml0 hP hK
  obtain ⟨rfl, hZ, hh⟩ := hP
  have hx := Bd.exec
  have hby := Bd.bytes
  have hml : c.maxLocals = 3 := hml0
  have hown : s.vm.findClass "java/util/Arrays" = some m.cls := findClass_of_methodNamed Bd.named
  have hnm := (name_of_methodNamed Bd.named Bd.method).1
  have X0 : Stand p l e ({ frames := 2, cells := 1, slots := 16, locals := 34 } : Room) s m #[(.ref a1), (.int (0 : Int32)), (.int (Int32.ofNat ac.length))] below meth c s₁ [] 0 0 := Stand.of_body Bd
  have e0 : s₁.heap = h0 := by rw [← hh, Bd.state]; rfl
  have N0 := Fr.nil n0
  have pre0 : ∀ t, Steps p.tables e below (s₁.setTop (mkF m 0 #[.val (.ref a1), .val (.int (0 : Int32)), .val (.int (Int32.ofNat ac.length))] [])) t → Steps p.tables e below (s₁.setTop (entryFrame m #[(.ref a1), (.int (0 : Int32)), (.int (Int32.ofNat ac.length))] 3)) t := fun t kt => castTop (ef_rm_cr m a1 (0 : Int32) (Int32.ofNat ac.length)) kt
  obtain ⟨cl1, Ar1, aq1, aS1, aN1, aH1, aG1⟩ := id V_a1
  obtain ⟨_, _, ⟨T2, L2, k2, n2⟩, -, X2, ⟨Lc2, hQ2, l2, y2, z2⟩, st2⟩ := Jvm.LawKit.callS X0 hx (y := (⟨"java/util/Arrays", "copyOfRangeByte", "([BII)[B"⟩ : MethodName)) hown (mvT hZ (hw _ (List.mem_of_getElem? (i := 210) rfl))) (mvT hZ (hw _ (List.mem_of_getElem? (i := 211) rfl))) (mvT hZ (hw _ (List.mem_of_getElem? (i := 208) rfl))) (mvT hZ (hw _ (List.mem_of_getElem? (i := 212) rfl))) (by decide) (backOf (W := 0) (rm_cb l Z a0 hw [] a1 k1 ac h0 n0 Z0 V_a1 hn) hZ (hw _ (List.mem_of_getElem? (i := 212) rfl)) (hw _ (List.mem_of_getElem? (i := 208) rfl)) (by decide) (by decide)) (g := (mkF m 13 #[.val (.ref a1), .val (.int (0 : Int32)), .val (.int (Int32.ofNat ac.length))] [(.int (Int32.ofNat ac.length)), (.int (0 : Int32)), (.ref a1)])) rfl (by rw [hml]; rfl) (argsL := [(.ref a1), (.int (0 : Int32)), (.int (Int32.ofNat ac.length))]) (rest := []) (lenOf pd___BII__B_541 rfl) rfl (by show 2 * 0 + _ ≤ _; exact Nat.le_of_eq rfl) (hb hby d41_13) (fun _ _ => ⟨rfl, e0, (by decide : 0 + 1 ≤ _), (by decide : 0 + 16 ≤ _)⟩)
  dsimp only [Pt.U, Pt.locs, Pt.cells, Pt.slots] at X2 l2 y2 z2 st2 hQ2
  subst l2 y2 z2
  obtain ⟨cb2, ck2, rfl, N2q, K2, gg2_cb2, zz2_cb2, fk2_0⟩ := hQ2
  have f1 : Arv Z T2.heap a1 k1 .byte (16 : Int32) (own_by ac) (.int 0) := V_a1.keep K2 (by simp)
  have f2 : Keep h0 T2.heap [] := (Keep.refl h0 []).trans K2 (fun x hx => by simp at hx)
  have Z2 : n0 ≤ T2.heap.size := Nat.le_trans Z0 K2.1
  have ne_a1_cb2 : a1 ≠ cb2 := Nat.ne_of_lt (Nat.lt_of_lt_of_le V_a1.lt zz2_cb2)
  have sz_cb2 : h0.size ≤ cb2 := Nat.le_trans (Keep.refl h0 []).1 zz2_cb2
  have N2 := Fr.app N0 N2q
  obtain ⟨fs, hr, hrun, hended, hW, hsame⟩ := X2.leave (v := some (.ref cb2)) (fun h => by rw [Bd.returns] at h; cases h) (hlocks := Bd.notSynchronized)
  refine ⟨_, _, pre0 _ ?_, hrun, hended, _, _, rfl, ?_, ⟨_, rfl⟩, hW, hsame.mono (by decide) (by decide)⟩
  · show Steps p.tables e below (s₁.setTop (mkF m 0 #[.val (.ref a1), .val (.int (0 : Int32)), .val (.int (Int32.ofNat ac.length))] [])) _
    refine XS.iloadN X0.here hx rfl (hb hby d41_0) rfl ?_
    show Steps p.tables e below (s₁.setTop (mkF m 1 #[.val (.ref a1), .val (.int (0 : Int32)), .val (.int (Int32.ofNat ac.length))] [(.int (0 : Int32))])) _
    refine XS.ifNo X0.here hx rfl (hb hby d41_1) rfl ((if0 _ _).trans (teq (by decide : (0 : Int32) = (0 : Int32))).2) ?_
    show Steps p.tables e below (s₁.setTop (mkF m 4 #[.val (.ref a1), .val (.int (0 : Int32)), .val (.int (Int32.ofNat ac.length))] [])) _
    refine XS.iloadN X0.here hx rfl (hb hby d41_4) rfl ?_
    show Steps p.tables e below (s₁.setTop (mkF m 5 #[.val (.ref a1), .val (.int (0 : Int32)), .val (.int (Int32.ofNat ac.length))] [(.int (Int32.ofNat ac.length))])) _
    refine XS.aloadN X0.here hx rfl (hb hby d41_5) rfl rfl ?_
    show Steps p.tables e below (s₁.setTop (mkF m 6 #[.val (.ref a1), .val (.int (0 : Int32)), .val (.int (Int32.ofNat ac.length))] [(.ref a1), (.int (Int32.ofNat ac.length))])) _
    refine X0.arraylength hx (by rw [e0]; exact Ar1.1) (State.isArrayOf_alike hZ.alike Ar1.2.1) (g := (mkF m 6 #[.val (.ref a1), .val (.int (0 : Int32)), .val (.int (Int32.ofNat ac.length))] [(.ref a1), (.int (Int32.ofNat ac.length))])) rfl rfl (hb hby d41_6) _ ?_
    rw [len_of aS1 aN1]
    show Steps p.tables e below (s₁.setTop (mkF m 7 #[.val (.ref a1), .val (.int (0 : Int32)), .val (.int (Int32.ofNat ac.length))] [(.int (16 : Int32)), (.int (Int32.ofNat ac.length))])) _
    refine XS.icmpNo X0.here hx rfl (hb hby d41_7) rfl (feq (own_ne16 hn)).1 ?_
    show Steps p.tables e below (s₁.setTop (mkF m 10 #[.val (.ref a1), .val (.int (0 : Int32)), .val (.int (Int32.ofNat ac.length))] [])) _
    refine XS.aloadN X0.here hx rfl (hb hby d41_10) rfl rfl ?_
    show Steps p.tables e below (s₁.setTop (mkF m 11 #[.val (.ref a1), .val (.int (0 : Int32)), .val (.int (Int32.ofNat ac.length))] [(.ref a1)])) _
    refine XS.iloadN X0.here hx rfl (hb hby d41_11) rfl ?_
    show Steps p.tables e below (s₁.setTop (mkF m 12 #[.val (.ref a1), .val (.int (0 : Int32)), .val (.int (Int32.ofNat ac.length))] [(.int (0 : Int32)), (.ref a1)])) _
    refine XS.iloadN X0.here hx rfl (hb hby d41_12) rfl ?_
    show Steps p.tables e below (s₁.setTop (mkF m 13 #[.val (.ref a1), .val (.int (0 : Int32)), .val (.int (Int32.ofNat ac.length))] [(.int (Int32.ofNat ac.length)), (.int (0 : Int32)), (.ref a1)])) _
    refine st2 _ ?_
    show Steps p.tables e below (T2.setTop (mkF m 16 #[.val (.ref a1), .val (.int (0 : Int32)), .val (.int (Int32.ofNat ac.length))] [(.ref cb2)])) _
    exact X2.areturnOut hx rfl Bd.returns rfl (hb hby d41_16) hr
  · show Q_rm_cr Z a1 k1 ac h0 n0 _ T2.heap _
    exact ⟨cb2, _, rfl, N2, f2, gg2_cb2, sz_cb2, fk2_0⟩
theorem pn_37 : plainName "java/lang/String" = true := by first | (simp [plainName, overriddenIn]; done) | decide +kernel
theorem ef_rm_sx (m : MethodId) (x0 : Addr) (x1 : Addr) : entryFrame m #[(.ref x0), (.ref x1), .null] 5 = mkF m 0 #[.val (.ref x0), .val (.ref x1), .val .null, .unset, .unset] [] := by first | (simp [entryFrame, mkF, argsToLocals, Value.category]; done) | rfl
def Q_rm_sx (Z : State) (a1 : Addr) (a2 : Addr) (b2 : Addr) (k2 : ClassId) (ac : List Int32) (cz : Int32) (h0 : Heap) (n0 : Nat) (v : Option Value) (h : Heap) (L : List Loc) : Prop := v = none ∧ Fr n0 L ∧ Keep h0 h [a1] ∧ ∃ (t : Addr) (kb : ClassId), n0 ≤ t ∧ h0.size ≤ t ∧ Exa Z h a1 "java/lang/String" ∧ Fld Z h a1 "java/lang/String" "coder" "B" (.int (0 : Int32)) ∧ Fld Z h a1 "java/lang/String" "value" "[B" (.ref t) ∧ Arv Z h t kb .byte (Int32.ofNat ac.length) (own_by ac) (.int 0)
theorem d37_0 : decode jdk_42_method_150_code 0 = .ok (.aload_n 0, 1) := by decide +kernel
theorem d37_1 : decode jdk_42_method_150_code 1 = .ok (.invokespecial 1, 3) := by decide +kernel
theorem d37_4 : decode jdk_42_method_150_code 4 = .ok (.aload_n 1, 1) := by decide +kernel
theorem d37_5 : decode jdk_42_method_150_code 5 = .ok (.invokevirtual 552, 3) := by decide +kernel
theorem d37_8 : decode jdk_42_method_150_code 8 = .ok (.astore_n 3, 1) := by decide +kernel
theorem d37_9 : decode jdk_42_method_150_code 9 = .ok (.aload_n 1, 1) := by decide +kernel
theorem d37_10 : decode jdk_42_method_150_code 10 = .ok (.invokevirtual 549, 3) := by decide +kernel
theorem d37_13 : decode jdk_42_method_150_code 13 = .ok (.istore 4, 2) := by decide +kernel
theorem d37_15 : decode jdk_42_method_150_code 15 = .ok (.aload_n 1, 1) := by decide +kernel
theorem d37_16 : decode jdk_42_method_150_code 16 = .ok (.invokevirtual 1047, 3) := by decide +kernel
theorem d37_19 : decode jdk_42_method_150_code 19 = .ok (.ifCond .eq 22, 3) := by decide +kernel
theorem d37_22 : decode jdk_42_method_150_code 22 = .ok (.aload_n 0, 1) := by decide +kernel
theorem d37_23 : decode jdk_42_method_150_code 23 = .ok (.iconst 0, 1) := by decide +kernel
theorem d37_24 : decode jdk_42_method_150_code 24 = .ok (.putfield 15, 3) := by decide +kernel
theorem d37_27 : decode jdk_42_method_150_code 27 = .ok (.aload_n 0, 1) := by decide +kernel
theorem d37_28 : decode jdk_42_method_150_code 28 = .ok (.aload_n 3, 1) := by decide +kernel
theorem d37_29 : decode jdk_42_method_150_code 29 = .ok (.iconst 0, 1) := by decide +kernel
theorem d37_30 : decode jdk_42_method_150_code 30 = .ok (.iload 4, 2) := by decide +kernel
theorem d37_32 : decode jdk_42_method_150_code 32 = .ok (.invokestatic 54, 3) := by decide +kernel
theorem own_sta {Z : State} {h h' : Heap} {C n d : String} {v : Value} (F : Sta Z h C n d v) (K : Keep h h' []) : Sta Z h' C n d v := by
  obtain ⟨cf, i, k, f, st, cell, h1, h2, h3, h4, h5, r⟩ := F
  exact ⟨cf, i, k, f, st, cell, h1, h2, h3, h4, K.2.1 st cell h5 (by simp), r⟩
theorem d37_35 : decode jdk_42_method_150_code 35 = .ok (.putfield 9, 3) := by decide +kernel
theorem d37_38 : decode jdk_42_method_150_code 38 = .ok (.goto 59, 3) := by decide +kernel
theorem d37_97 : decode jdk_42_method_150_code 97 = .ok (.return_, 1) := by decide +kernel
set_option maxRecDepth 65536 in
set_option maxHeartbeats 40000000 in
theorem rm_sx (l : Launch) (Z : State) (a0 : Array Value) (hw : ∀ d ∈ tables_1, d.before a0 Z = true) (ws : List Jvm.Cond) (a1 : Addr) (a2 : Addr) (b2 : Addr) (k2 : ClassId) (ac : List Int32) (cz : Int32) (h0 : Heap) (n0 : Nat) (Z0 : n0 ≤ h0.size) (E_a1 : Exa Z h0 a1 "java/lang/String") (F_value_a1 : Fld Z h0 a1 "java/lang/String" "value" "[B" .null) (F_coder_a1 : Fld Z h0 a1 "java/lang/String" "coder" "B" (.int (0 : Int32))) (g_a1 : n0 ≤ a1) (E_a2 : Exa Z h0 a2 "java/lang/StringBuilder") (F_value_a2 : Fld Z h0 a2 "java/lang/AbstractStringBuilder" "value" "[B" (.ref b2)) (F_coder_a2 : Fld Z h0 a2 "java/lang/AbstractStringBuilder" "coder" "B" (.int (0 : Int32))) (F_count_a2 : Fld Z h0 a2 "java/lang/AbstractStringBuilder" "count" "I" (.int (Int32.ofNat ac.length))) (V_b2 : Arv Z h0 b2 k2 .byte (16 : Int32) (own_by ac) (.int 0)) (hn : ac.length < 16) (S_CS : Sta Z h0 "java/lang/String" "COMPACT_STRINGS" "Z" (.int cz)) (hcs : ¬ cz = (0 : Int32)) :
    MetFree l (⟨"java/lang/String", "<init>", "(Ljava/lang/AbstractStringBuilder;Ljava/lang/Void;)V"⟩ : MethodName) (head1 (Jvm.Cond.code (⟨"java/lang/String", "<init>", "(Ljava/lang/AbstractStringBuilder;Ljava/lang/Void;)V"⟩ : MethodName) jdk_42_method_150_code 5 none :: ws) ({ frames := 3, cells := 1, slots := 16, locals := 49 } : Room)) (fun a U => a = #[(.ref a1), (.ref a2), .null] ∧ Z.Warmed39 U.vm ∧ U.heap = h0) (fun _ _ _ _ _ => True) (fun _ U o U' => ∃ v L, o = .returned v ∧ Q_rm_sx Z a1 a2 b2 k2 ac cz h0 n0 v U'.heap L ∧ FrameEnd U o U' L ({ frames := 3, cells := 1, slots := 16, locals := 49 } : Room).cells ({ frames := 3, cells := 1, slots := 16, locals := 49 } : Room).slots) := by
  refine MetFree.of_bodySF (plainFor_of_name pn_37) hisR ?_
  intro p e s m args below meth c s₁ Bd hml0 hP hK
  obtain ⟨rfl, hZ, hh⟩ := hP
  have hx := Bd.exec
  have hby := Bd.bytes
  have hml : c.maxLocals = 5 := hml0
  have hown : s.vm.findClass "java/lang/String" = some m.cls := findClass_of_methodNamed Bd.named
  have hnm := (name_of_methodNamed Bd.named Bd.method).1
  have X0 : Stand p l e ({ frames := 3, cells := 1, slots := 16, locals := 49 } : Room) s m #[(.ref a1), (.ref a2), .null] below meth c s₁ [] 0 0 := Stand.of_body Bd
  have e0 : s₁.heap = h0 := by rw [← hh, Bd.state]; rfl
  have N0 := Fr.nil n0
  have pre0 : ∀ t, Steps p.tables e below (s₁.setTop (mkF m 0 #[.val (.ref a1), .val (.ref a2), .val .null, .unset, .unset] [])) t → Steps p.tables e below (s₁.setTop (entryFrame m #[(.ref a1), (.ref a2), .null] 5)) t := fun t kt => castTop (ef_rm_sx m a1 a2) kt
  have ne_a2_b2 : a2 ≠ b2 := by
    obtain ⟨cA, AA, -⟩ := id V_b2
    exact ne_arr E_a2 (hw _ (List.mem_of_getElem? (i := 66) rfl)) AA
  have ne_a1_a2 : a1 ≠ a2 := ne_exa E_a1 E_a2 (by decide)
  have ne_a1_b2 : a1 ≠ b2 := by
    obtain ⟨cA, AA, -⟩ := id V_b2
    exact ne_arr E_a1 (hw _ (List.mem_of_getElem? (i := 7) rfl)) AA
  obtain ⟨T1, X1, e1, st1⟩ := initO X0 hx hZ hown (hw _ (List.mem_of_getElem? (i := 16) rfl)) (hw _ (List.mem_of_getElem? (i := 17) rfl)) (hw _ (List.mem_of_getElem? (i := 18) rfl)) e0 (g := (mkF m 1 #[.val (.ref a1), .val (.ref a2), .val .null, .unset, .unset] [(.ref a1)])) rfl (by rw [hml]; rfl) rfl (hb hby d37_1) (by decide) (W := 0) (by show 2 * 0 + _ ≤ _; exact Nat.le_of_eq rfl) (by decide)
  obtain ⟨cq2, kq2, q2a, q2b, q2c⟩ := isOf hZ e1 E_a2
  obtain ⟨_, _, ⟨T2, L2, k2, n2⟩, -, X2, ⟨Lc2, hQ2, l2, y2, z2⟩, st2⟩ := X1.virtualBack hx (y := (⟨"java/lang/AbstractStringBuilder", "getValue", "()[B"⟩ : MethodName)) (z := (⟨"java/lang/AbstractStringBuilder", "getValue", "()[B"⟩ : MethodName)) hown (mvT hZ (hw _ (List.mem_of_getElem? (i := 192) rfl))) (mvT hZ (hw _ (List.mem_of_getElem? (i := 193) rfl))) (notFace_of_selects (args := #[]) (mvT hZ (hw _ (List.mem_of_getElem? (i := 195) rfl)))) (mvT hZ (hw _ (List.mem_of_getElem? (i := 195) rfl))) (mvT hZ (hw _ (List.mem_of_getElem? (i := 194) rfl))) (by decide) (backOf (W := 0) (rm_gv l Z a0 hw [] a2 b2 k2 ac h0 n0 Z0 E_a2 F_value_a2 F_coder_a2 F_count_a2 V_b2) hZ (hw _ (List.mem_of_getElem? (i := 196) rfl)) (hw _ (List.mem_of_getElem? (i := 75) rfl)) (by decide) (by decide)) q2a q2c (g := (mkF m 5 #[.val (.ref a1), .val (.ref a2), .val .null, .unset, .unset] [(.ref a2)])) rfl (by rw [hml]; rfl) (Steps.refl _) (argsL := []) (rest := []) (lenOf pd____B_238 rfl) rfl (by show 2 * 0 + _ ≤ _; exact Nat.le_of_eq rfl) (hb hby d37_5) (fun _ _ => ⟨rfl, e1, (by decide : 0 + 0 ≤ _), (by decide : 0 + 0 ≤ _)⟩)
  dsimp only [Pt.U, Pt.locs, Pt.cells, Pt.slots] at X2 l2 y2 z2 st2 hQ2
  subst l2 y2 z2
  obtain ⟨rfl, N2q, e2⟩ := hQ2
  have N2 := Fr.app N0 N2q
  obtain ⟨cq3, kq3, q3a, q3b, q3c⟩ := isOf hZ e2 E_a2
  obtain ⟨_, _, ⟨T3, L3, k3, n3⟩, -, X3, ⟨Lc3, hQ3, l3, y3, z3⟩, st3⟩ := X2.virtualBack hx (y := (⟨"java/lang/AbstractStringBuilder", "length", "()I"⟩ : MethodName)) (z := (⟨"java/lang/StringBuilder", "length", "()I"⟩ : MethodName)) hown (mvT hZ (hw _ (List.mem_of_getElem? (i := 197) rfl))) (mvT hZ (hw _ (List.mem_of_getElem? (i := 198) rfl))) (own_nf (a0 := #[]) (z := (⟨"java/lang/AbstractStringBuilder", "isLatin1", "()Z"⟩ : MethodName)) rfl (mvT hZ (hw _ (List.mem_of_getElem? (i := 152) rfl)))) (mvT hZ (hw _ (List.mem_of_getElem? (i := 200) rfl))) (mvT hZ (hw _ (List.mem_of_getElem? (i := 201) rfl))) (by decide) (backOf (W := 0) (rm_ln l Z a0 hw [] a2 b2 k2 ac h0 n0 Z0 E_a2 F_value_a2 F_coder_a2 F_count_a2 V_b2) hZ (hw _ (List.mem_of_getElem? (i := 202) rfl)) (hw _ (List.mem_of_getElem? (i := 67) rfl)) (by decide) (by decide)) q3a q3c (g := (mkF m 10 #[.val (.ref a1), .val (.ref a2), .val .null, .val (.ref b2), .unset] [(.ref a2)])) rfl (by rw [hml]; rfl) (Steps.refl _) (argsL := []) (rest := []) (lenOf pd___I_154 rfl) rfl (by show 2 * 0 + _ ≤ _; exact Nat.le_of_eq rfl) (hb hby d37_10) (fun _ _ => ⟨rfl, e2, (by decide : 0 + 0 ≤ _), (by decide : 0 + 0 ≤ _)⟩)
  dsimp only [Pt.U, Pt.locs, Pt.cells, Pt.slots] at X3 l3 y3 z3 st3 hQ3
  subst l3 y3 z3
  obtain ⟨rfl, N3q, e3⟩ := hQ3
  have N3 := Fr.app N2 N3q
  obtain ⟨cq4, kq4, q4a, q4b, q4c⟩ := isOf hZ e3 E_a2
  obtain ⟨_, _, ⟨T4, L4, k4, n4⟩, -, X4, ⟨Lc4, hQ4, l4, y4, z4⟩, st4⟩ := X3.virtualBack hx (y := (⟨"java/lang/AbstractStringBuilder", "isLatin1", "()Z"⟩ : MethodName)) (z := (⟨"java/lang/AbstractStringBuilder", "isLatin1", "()Z"⟩ : MethodName)) hown (mvT hZ (hw _ (List.mem_of_getElem? (i := 205) rfl))) (mvT hZ (hw _ (List.mem_of_getElem? (i := 150) rfl))) (notFace_of_selects (args := #[]) (mvT hZ (hw _ (List.mem_of_getElem? (i := 152) rfl)))) (mvT hZ (hw _ (List.mem_of_getElem? (i := 152) rfl))) (mvT hZ (hw _ (List.mem_of_getElem? (i := 151) rfl))) (by decide) (backOf (W := 0) (rm_bl l Z a0 hw [] a2 cz h0 n0 Z0 S_CS hcs F_coder_a2) hZ (hw _ (List.mem_of_getElem? (i := 153) rfl)) (hw _ (List.mem_of_getElem? (i := 75) rfl)) (by decide) (by decide)) q4a q4c (g := (mkF m 16 #[.val (.ref a1), .val (.ref a2), .val .null, .val (.ref b2), .val (.int (Int32.ofNat ac.length))] [(.ref a2)])) rfl (by rw [hml]; rfl) (Steps.refl _) (argsL := []) (rest := []) (lenOf pd___Z_171 rfl) rfl (by show 2 * 0 + _ ≤ _; exact Nat.le_of_eq rfl) (hb hby d37_16) (fun _ _ => ⟨rfl, e3, (by decide : 0 + 0 ≤ _), (by decide : 0 + 0 ≤ _)⟩)
  dsimp only [Pt.U, Pt.locs, Pt.cells, Pt.slots] at X4 l4 y4 z4 st4 hQ4
  subst l4 y4 z4
  obtain ⟨rfl, N4q, e4⟩ := hQ4
  have N4 := Fr.app N3 N4q
  obtain ⟨T5, h5, X5, e5, W5, st5⟩ := putFN X4 hx hZ hown (hw _ (List.mem_of_getElem? (i := 31) rfl)) Via.refl e4 F_coder_a1 E_a1 (Or.inr ⟨(hw _ (List.mem_of_getElem? (i := 32) rfl)), rfl, hnm⟩) (hw _ (List.mem_of_getElem? (i := 7) rfl)) (ty := .byte) (v' := (.int (nar .byte (0 : Int32)))) (by decide) rfl (fits_nar_byte _) (g := (mkF m 24 #[.val (.ref a1), .val (.ref a2), .val .null, .val (.ref b2), .val (.int (Int32.ofNat ac.length))] [(.int (0 : Int32)), (.ref a1)])) rfl rfl (hb hby d37_24)
  have f1 : Sta Z h5 "java/lang/String" "COMPACT_STRINGS" "Z" (.int cz) := S_CS.wr W5
  have f2 : Exa Z h5 a1 "java/lang/String" := E_a1.wr W5
  have f3 : Fld Z h5 a1 "java/lang/String" "value" "[B" .null := F_value_a1.other W5 (Or.inr (slot_ne (Or.inr (hw _ (List.mem_of_getElem? (i := 34) rfl))) (Or.inr (hw _ (List.mem_of_getElem? (i := 32) rfl))) (by decide) (t := (.array .byte)) (t' := .byte) (by decide) (by decide)))
  have f4 : Fld Z h5 a1 "java/lang/String" "coder" "B" (.int (nar .byte (0 : Int32))) := F_coder_a1.same W5
  have f5 : n0 ≤ a1 := g_a1
  have f6 : Exa Z h5 a2 "java/lang/StringBuilder" := E_a2.wr W5
  have f7 : Fld Z h5 a2 "java/lang/AbstractStringBuilder" "value" "[B" (.ref b2) := F_value_a2.other W5 (Or.inl (Ne.symm ne_a1_a2))
  have f8 : Fld Z h5 a2 "java/lang/AbstractStringBuilder" "coder" "B" (.int (0 : Int32)) := F_coder_a2.other W5 (Or.inl (Ne.symm ne_a1_a2))
  have f9 : Fld Z h5 a2 "java/lang/AbstractStringBuilder" "count" "I" (.int (Int32.ofNat ac.length)) := F_count_a2.other W5 (Or.inl (Ne.symm ne_a1_a2))
  have f10 : Arv Z h5 b2 k2 .byte (16 : Int32) (own_by ac) (.int 0) := V_b2.other W5 (Ne.symm ne_a1_b2)
  have f11 : Keep h0 h5 [a1] := (Keep.refl h0 [a1]).wr W5 (Or.inl (by simp))
  have N5 := Fr.snoc X5 N4 f5
  have Z5 : n0 ≤ h5.size := by rw [W5.size]; exact Z0
  obtain ⟨_, _, ⟨T6, L6, k6, n6⟩, -, X6, ⟨Lc6, hQ6, l6, y6, z6⟩, st6⟩ := Jvm.LawKit.callS X5 hx (y := (⟨"java/util/Arrays", "copyOfRange", "([BII)[B"⟩ : MethodName)) hown (mvT hZ (hw _ (List.mem_of_getElem? (i := 206) rfl))) (mvT hZ (hw _ (List.mem_of_getElem? (i := 207) rfl))) (mvT hZ (hw _ (List.mem_of_getElem? (i := 208) rfl))) (mvT hZ (hw _ (List.mem_of_getElem? (i := 209) rfl))) (by decide) (backOf (W := 1) (rm_cr l Z a0 hw [] b2 k2 ac h5 n0 Z5 f10 hn) hZ (hw _ (List.mem_of_getElem? (i := 209) rfl)) (hw _ (List.mem_of_getElem? (i := 208) rfl)) (by decide) (by decide)) (g := (mkF m 32 #[.val (.ref a1), .val (.ref a2), .val .null, .val (.ref b2), .val (.int (Int32.ofNat ac.length))] [(.int (Int32.ofNat ac.length)), (.int (0 : Int32)), (.ref b2), (.ref a1)])) rfl (by rw [hml]; rfl) (argsL := [(.ref b2), (.int (0 : Int32)), (.int (Int32.ofNat ac.length))]) (rest := [(.ref a1)]) (lenOf pd___BII__B_541 rfl) rfl (by show 2 * 0 + _ ≤ _; exact Nat.le_of_eq rfl) (hb hby d37_32) (fun _ _ => ⟨rfl, e5, (by decide : 0 + 1 ≤ _), (by decide : 0 + 16 ≤ _)⟩)
  dsimp only [Pt.U, Pt.locs, Pt.cells, Pt.slots] at X6 l6 y6 z6 st6 hQ6
  subst l6 y6 z6
  obtain ⟨cb6, ck6, rfl, N6q, K6, gg6_cb6, zz6_cb6, fk6_0⟩ := hQ6
  have f12 : Sta Z T6.heap "java/lang/String" "COMPACT_STRINGS" "Z" (.int cz) := own_sta f1 K6
  have f13 : Exa Z T6.heap a1 "java/lang/String" := f2.keep K6
  have f14 : Fld Z T6.heap a1 "java/lang/String" "value" "[B" .null := f3.keep K6 (by simp)
  have f15 : Fld Z T6.heap a1 "java/lang/String" "coder" "B" (.int (nar .byte (0 : Int32))) := f4.keep K6 (by simp)
  have f16 : n0 ≤ a1 := f5
  have f17 : Exa Z T6.heap a2 "java/lang/StringBuilder" := f6.keep K6
  have f18 : Fld Z T6.heap a2 "java/lang/AbstractStringBuilder" "value" "[B" (.ref b2) := f7.keep K6 (by simp)
  have f19 : Fld Z T6.heap a2 "java/lang/AbstractStringBuilder" "coder" "B" (.int (0 : Int32)) := f8.keep K6 (by simp)
  have f20 : Fld Z T6.heap a2 "java/lang/AbstractStringBuilder" "count" "I" (.int (Int32.ofNat ac.length)) := f9.keep K6 (by simp)
  have f21 : Arv Z T6.heap b2 k2 .byte (16 : Int32) (own_by ac) (.int 0) := f10.keep K6 (by simp)
  have f22 : Keep h0 T6.heap [a1] := f11.trans K6 (fun x hx => by simp at hx)
  have Z6 : n0 ≤ T6.heap.size := Nat.le_trans Z5 K6.1
  have ne_a1_cb6 : a1 ≠ cb6 := Nat.ne_of_lt (Nat.lt_of_lt_of_le f4.lt zz6_cb6)
  have ne_a2_cb6 : a2 ≠ cb6 := Nat.ne_of_lt (Nat.lt_of_lt_of_le f9.lt zz6_cb6)
  have ne_b2_cb6 : b2 ≠ cb6 := Nat.ne_of_lt (Nat.lt_of_lt_of_le f10.lt zz6_cb6)
  have sz_cb6 : h0.size ≤ cb6 := Nat.le_trans f11.1 zz6_cb6
  have N6 := Fr.app N5 N6q
  obtain ⟨T7, h7, X7, e7, W7, st7⟩ := putF X6 hx hZ hown (host := "") (Or.inl (hw _ (List.mem_of_getElem? (i := 33) rfl))) Via.refl rfl f14 f13 (Or.inr ⟨(hw _ (List.mem_of_getElem? (i := 34) rfl)), rfl, hnm⟩) (hw _ (List.mem_of_getElem? (i := 7) rfl)) (ty := (.array .byte)) (by decide) rfl rfl (g := (mkF m 35 #[.val (.ref a1), .val (.ref a2), .val .null, .val (.ref b2), .val (.int (Int32.ofNat ac.length))] [(.ref cb6), (.ref a1)])) rfl rfl (hb hby d37_35)
  have f23 : Sta Z h7 "java/lang/String" "COMPACT_STRINGS" "Z" (.int cz) := f12.wr W7
  have f24 : Exa Z h7 a1 "java/lang/String" := f13.wr W7
  have f25 : Fld Z h7 a1 "java/lang/String" "value" "[B" (.ref cb6) := f14.same W7
  have f26 : Fld Z h7 a1 "java/lang/String" "coder" "B" (.int (nar .byte (0 : Int32))) := f15.other W7 (Or.inr (slot_ne (Or.inr (hw _ (List.mem_of_getElem? (i := 32) rfl))) (Or.inr (hw _ (List.mem_of_getElem? (i := 34) rfl))) (by decide) (t := .byte) (t' := (.array .byte)) (by decide) (by decide)))
  have f27 : n0 ≤ a1 := f16
  have f28 : Exa Z h7 a2 "java/lang/StringBuilder" := f17.wr W7
  have f29 : Fld Z h7 a2 "java/lang/AbstractStringBuilder" "value" "[B" (.ref b2) := f18.other W7 (Or.inl (Ne.symm ne_a1_a2))
  have f30 : Fld Z h7 a2 "java/lang/AbstractStringBuilder" "coder" "B" (.int (0 : Int32)) := f19.other W7 (Or.inl (Ne.symm ne_a1_a2))
  have f31 : Fld Z h7 a2 "java/lang/AbstractStringBuilder" "count" "I" (.int (Int32.ofNat ac.length)) := f20.other W7 (Or.inl (Ne.symm ne_a1_a2))
  have f32 : Arv Z h7 b2 k2 .byte (16 : Int32) (own_by ac) (.int 0) := f21.other W7 (Ne.symm ne_a1_b2)
  have f33 : Keep h0 h7 [a1] := f22.wr W7 (Or.inl (by simp))
  have f34 : Arv Z h7 cb6 ck6 .byte (Int32.ofNat ac.length) (own_by ac) (.int 0) := fk6_0.other W7 (Ne.symm ne_a1_cb6)
  have f35 : n0 ≤ cb6 := gg6_cb6
  have N7 := Fr.snoc X7 N6 f27
  have Z7 : n0 ≤ h7.size := by rw [W7.size]; exact Z6
  obtain ⟨fs, hr, hrun, hended, hW, hsame⟩ := X7.leave (v := none) (fun _ => rfl) (hlocks := Bd.notSynchronized)
  refine ⟨_, _, pre0 _ ?_, hrun, hended, _, _, rfl, ?_, ⟨_, rfl⟩, hW, hsame.mono (by decide) (by decide)⟩
  · show Steps p.tables e below (s₁.setTop (mkF m 0 #[.val (.ref a1), .val (.ref a2), .val .null, .unset, .unset] [])) _
    refine XS.aloadN X0.here hx rfl (hb hby d37_0) rfl rfl ?_
    show Steps p.tables e below (s₁.setTop (mkF m 1 #[.val (.ref a1), .val (.ref a2), .val .null, .unset, .unset] [(.ref a1)])) _
    refine st1 _ ?_
    show Steps p.tables e below (T1.setTop (mkF m 4 #[.val (.ref a1), .val (.ref a2), .val .null, .unset, .unset] [])) _
    refine XS.aloadN X1.here hx rfl (hb hby d37_4) rfl rfl ?_
    show Steps p.tables e below (T1.setTop (mkF m 5 #[.val (.ref a1), .val (.ref a2), .val .null, .unset, .unset] [(.ref a2)])) _
    refine st2.trans ?_
    show Steps p.tables e below (T2.setTop (mkF m 8 #[.val (.ref a1), .val (.ref a2), .val .null, .unset, .unset] [(.ref b2)])) _
    refine XS.astoreN X2.here hx rfl (hb hby d37_8) rfl rfl (l' := #[.val (.ref a1), .val (.ref a2), .val .null, .val (.ref b2), .unset]) rfl ?_
    show Steps p.tables e below (T2.setTop (mkF m 9 #[.val (.ref a1), .val (.ref a2), .val .null, .val (.ref b2), .unset] [])) _
    refine XS.aloadN X2.here hx rfl (hb hby d37_9) rfl rfl ?_
    show Steps p.tables e below (T2.setTop (mkF m 10 #[.val (.ref a1), .val (.ref a2), .val .null, .val (.ref b2), .unset] [(.ref a2)])) _
    refine st3.trans ?_
    show Steps p.tables e below (T3.setTop (mkF m 13 #[.val (.ref a1), .val (.ref a2), .val .null, .val (.ref b2), .unset] [(.int (Int32.ofNat ac.length))])) _
    refine XS.istore X3.here hx rfl (hb hby d37_13) rfl (l' := #[.val (.ref a1), .val (.ref a2), .val .null, .val (.ref b2), .val (.int (Int32.ofNat ac.length))]) rfl ?_
    show Steps p.tables e below (T3.setTop (mkF m 15 #[.val (.ref a1), .val (.ref a2), .val .null, .val (.ref b2), .val (.int (Int32.ofNat ac.length))] [])) _
    refine XS.aloadN X3.here hx rfl (hb hby d37_15) rfl rfl ?_
    show Steps p.tables e below (T3.setTop (mkF m 16 #[.val (.ref a1), .val (.ref a2), .val .null, .val (.ref b2), .val (.int (Int32.ofNat ac.length))] [(.ref a2)])) _
    refine st4.trans ?_
    show Steps p.tables e below (T4.setTop (mkF m 19 #[.val (.ref a1), .val (.ref a2), .val .null, .val (.ref b2), .val (.int (Int32.ofNat ac.length))] [(.int (1 : Int32))])) _
    refine XS.ifNo X4.here hx rfl (hb hby d37_19) rfl ((if0 _ _).trans (feq (by decide : ¬ ((1 : Int32) = (0 : Int32)))).1) ?_
    show Steps p.tables e below (T4.setTop (mkF m 22 #[.val (.ref a1), .val (.ref a2), .val .null, .val (.ref b2), .val (.int (Int32.ofNat ac.length))] [])) _
    refine XS.aloadN X4.here hx rfl (hb hby d37_22) rfl rfl ?_
    show Steps p.tables e below (T4.setTop (mkF m 23 #[.val (.ref a1), .val (.ref a2), .val .null, .val (.ref b2), .val (.int (Int32.ofNat ac.length))] [(.ref a1)])) _
    refine XS.iconst X4.here hx rfl (hb hby d37_23) ?_
    show Steps p.tables e below (T4.setTop (mkF m 24 #[.val (.ref a1), .val (.ref a2), .val .null, .val (.ref b2), .val (.int (Int32.ofNat ac.length))] [(.int (0 : Int32)), (.ref a1)])) _
    refine st5 _ ?_
    show Steps p.tables e below (T5.setTop (mkF m 27 #[.val (.ref a1), .val (.ref a2), .val .null, .val (.ref b2), .val (.int (Int32.ofNat ac.length))] [])) _
    refine XS.aloadN X5.here hx rfl (hb hby d37_27) rfl rfl ?_
    show Steps p.tables e below (T5.setTop (mkF m 28 #[.val (.ref a1), .val (.ref a2), .val .null, .val (.ref b2), .val (.int (Int32.ofNat ac.length))] [(.ref a1)])) _
    refine XS.aloadN X5.here hx rfl (hb hby d37_28) rfl rfl ?_
    show Steps p.tables e below (T5.setTop (mkF m 29 #[.val (.ref a1), .val (.ref a2), .val .null, .val (.ref b2), .val (.int (Int32.ofNat ac.length))] [(.ref b2), (.ref a1)])) _
    refine XS.iconst X5.here hx rfl (hb hby d37_29) ?_
    show Steps p.tables e below (T5.setTop (mkF m 30 #[.val (.ref a1), .val (.ref a2), .val .null, .val (.ref b2), .val (.int (Int32.ofNat ac.length))] [(.int (0 : Int32)), (.ref b2), (.ref a1)])) _
    refine XS.iload X5.here hx rfl (hb hby d37_30) rfl ?_
    show Steps p.tables e below (T5.setTop (mkF m 32 #[.val (.ref a1), .val (.ref a2), .val .null, .val (.ref b2), .val (.int (Int32.ofNat ac.length))] [(.int (Int32.ofNat ac.length)), (.int (0 : Int32)), (.ref b2), (.ref a1)])) _
    refine st6 _ ?_
    show Steps p.tables e below (T6.setTop (mkF m 35 #[.val (.ref a1), .val (.ref a2), .val .null, .val (.ref b2), .val (.int (Int32.ofNat ac.length))] [(.ref cb6), (.ref a1)])) _
    refine st7 _ ?_
    show Steps p.tables e below (T7.setTop (mkF m 38 #[.val (.ref a1), .val (.ref a2), .val .null, .val (.ref b2), .val (.int (Int32.ofNat ac.length))] [])) _
    refine XS.goto X7.here hx rfl (pc0 := 38) (pc' := 97) rfl (hb hby d37_38) (by decide) (by decide) ?_
    show Steps p.tables e below (T7.setTop (mkF m 97 #[.val (.ref a1), .val (.ref a2), .val .null, .val (.ref b2), .val (.int (Int32.ofNat ac.length))] [])) _
    exact X7.returnOut hx Bd.returns (hb hby d37_97) hr
  · show Q_rm_sx Z a1 a2 b2 k2 ac cz h0 n0 _ T7.heap _
    rw [e7]
    exact ⟨rfl, N7, f33, cb6, _, f35, sz_cb6, f24, f26, f25, f34⟩
theorem pn_36 : plainName "java/lang/String" = true := by first | (simp [plainName, overriddenIn]; done) | decide +kernel
theorem ef_rm_sy (m : MethodId) (x0 : Addr) (x1 : Addr) : entryFrame m #[(.ref x0), (.ref x1)] 2 = mkF m 0 #[.val (.ref x0), .val (.ref x1)] [] := by first | (simp [entryFrame, mkF, argsToLocals, Value.category]; done) | rfl
def Q_rm_sy (Z : State) (a1 : Addr) (a2 : Addr) (b2 : Addr) (k2 : ClassId) (ac : List Int32) (cz : Int32) (h0 : Heap) (n0 : Nat) (v : Option Value) (h : Heap) (L : List Loc) : Prop := v = none ∧ Fr n0 L ∧ Keep h0 h [a1] ∧ ∃ (t : Addr) (kb : ClassId), n0 ≤ t ∧ h0.size ≤ t ∧ Exa Z h a1 "java/lang/String" ∧ Fld Z h a1 "java/lang/String" "coder" "B" (.int (0 : Int32)) ∧ Fld Z h a1 "java/lang/String" "value" "[B" (.ref t) ∧ Arv Z h t kb .byte (Int32.ofNat ac.length) (own_by ac) (.int 0)
theorem d36_0 : decode jdk_42_method_53_code 0 = .ok (.aload_n 0, 1) := by decide +kernel
theorem d36_1 : decode jdk_42_method_53_code 1 = .ok (.aload_n 1, 1) := by decide +kernel
theorem d36_2 : decode jdk_42_method_53_code 2 = .ok (.aconst_null, 1) := by decide +kernel
theorem pd__Ljava_lang_AbstractStringBuilder_Ljava_lang_Void__V_4861 : parseMethodDescriptor "(Ljava/lang/AbstractStringBuilder;Ljava/lang/Void;)V" = some ⟨[(.object "java/lang/AbstractStringBuilder"), (.object "java/lang/Void")], none⟩ := by decide +kernel
theorem d36_3 : decode jdk_42_method_53_code 3 = .ok (.invokespecial 489, 3) := by decide +kernel
theorem d36_6 : decode jdk_42_method_53_code 6 = .ok (.return_, 1) := by decide +kernel
set_option maxRecDepth 65536 in
set_option maxHeartbeats 40000000 in
theorem rm_sy (l : Launch) (Z : State) (a0 : Array Value) (hw : ∀ d ∈ tables_1, d.before a0 Z = true) (ws : List Jvm.Cond) (a1 : Addr) (a2 : Addr) (b2 : Addr) (k2 : ClassId) (ac : List Int32) (cz : Int32) (h0 : Heap) (n0 : Nat) (Z0 : n0 ≤ h0.size) (E_a1 : Exa Z h0 a1 "java/lang/String") (F_value_a1 : Fld Z h0 a1 "java/lang/String" "value" "[B" .null) (F_coder_a1 : Fld Z h0 a1 "java/lang/String" "coder" "B" (.int (0 : Int32))) (g_a1 : n0 ≤ a1) (E_a2 : Exa Z h0 a2 "java/lang/StringBuilder") (F_value_a2 : Fld Z h0 a2 "java/lang/AbstractStringBuilder" "value" "[B" (.ref b2)) (F_coder_a2 : Fld Z h0 a2 "java/lang/AbstractStringBuilder" "coder" "B" (.int (0 : Int32))) (F_count_a2 : Fld Z h0 a2 "java/lang/AbstractStringBuilder" "count" "I" (.int (Int32.ofNat ac.length))) (V_b2 : Arv Z h0 b2 k2 .byte (16 : Int32) (own_by ac) (.int 0)) (hn : ac.length < 16) (S_CS : Sta Z h0 "java/lang/String" "COMPACT_STRINGS" "Z" (.int cz)) (hcs : ¬ cz = (0 : Int32)) :
    MetFree l (⟨"java/lang/String", "<init>", "(Ljava/lang/StringBuilder;)V"⟩ : MethodName) (head1 (Jvm.Cond.code (⟨"java/lang/String", "<init>", "(Ljava/lang/StringBuilder;)V"⟩ : MethodName) jdk_42_method_53_code 2 none :: ws) ({ frames := 4, cells := 1, slots := 16, locals := 65 } : Room)) (fun a U => a = #[(.ref a1), (.ref a2)] ∧ Z.Warmed39 U.vm ∧ U.heap = h0) (fun _ _ _ _ _ => True) (fun _ U o U' => ∃ v L, o = .returned v ∧ Q_rm_sy Z a1 a2 b2 k2 ac cz h0 n0 v U'.heap L ∧ FrameEnd U o U' L ({ frames := 4, cells := 1, slots := 16, locals := 65 } : Room).cells ({ frames := 4, cells := 1, slots := 16, locals := 65 } : Room).slots) := by
  refine MetFree.of_bodySF (plainFor_of_name pn_36) hisR ?_
  intro p e s m args below meth c s₁ Bd hml0 hP hK
  obtain ⟨rfl, hZ, hh⟩ := hP
  have hx := Bd.exec
  have hby := Bd.bytes
  have hml : c.maxLocals = 2 := hml0
  have hown : s.vm.findClass "java/lang/String" = some m.cls := findClass_of_methodNamed Bd.named
  have hnm := (name_of_methodNamed Bd.named Bd.method).1
  have X0 : Stand p l e ({ frames := 4, cells := 1, slots := 16, locals := 65 } : Room) s m #[(.ref a1), (.ref a2)] below meth c s₁ [] 0 0 := Stand.of_body Bd
  have e0 : s₁.heap = h0 := by rw [← hh, Bd.state]; rfl
  have N0 := Fr.nil n0
  have pre0 : ∀ t, Steps p.tables e below (s₁.setTop (mkF m 0 #[.val (.ref a1), .val (.ref a2)] [])) t → Steps p.tables e below (s₁.setTop (entryFrame m #[(.ref a1), (.ref a2)] 2)) t := fun t kt => castTop (ef_rm_sy m a1 a2) kt
  have ne_a2_b2 : a2 ≠ b2 := by
    obtain ⟨cA, AA, -⟩ := id V_b2
    exact ne_arr E_a2 (hw _ (List.mem_of_getElem? (i := 66) rfl)) AA
  have ne_a1_a2 : a1 ≠ a2 := ne_exa E_a1 E_a2 (by decide)
  have ne_a1_b2 : a1 ≠ b2 := by
    obtain ⟨cA, AA, -⟩ := id V_b2
    exact ne_arr E_a1 (hw _ (List.mem_of_getElem? (i := 7) rfl)) AA
  obtain ⟨_, _, ⟨T1, L1, k1, n1⟩, -, X1, ⟨Lc1, hQ1, l1, y1, z1⟩, st1⟩ := X0.specialBack hx (y := (⟨"java/lang/String", "<init>", "(Ljava/lang/AbstractStringBuilder;Ljava/lang/Void;)V"⟩ : MethodName)) rfl hown (mvT hZ (hw _ (List.mem_of_getElem? (i := 189) rfl))) (mvT hZ (hw _ (List.mem_of_getElem? (i := 190) rfl))) (mvT hZ (hw _ (List.mem_of_getElem? (i := 191) rfl))) (by decide) (backOf (W := 0) (rm_sx l Z a0 hw [] a1 a2 b2 k2 ac cz h0 n0 Z0 E_a1 F_value_a1 F_coder_a1 g_a1 E_a2 F_value_a2 F_coder_a2 F_count_a2 V_b2 hn S_CS hcs) hZ (hw _ (List.mem_of_getElem? (i := 191) rfl)) (hw _ (List.mem_of_getElem? (i := 8) rfl)) (by decide) (by decide)) (g := (mkF m 3 #[.val (.ref a1), .val (.ref a2)] [.null, (.ref a2), (.ref a1)])) rfl (by rw [hml]; rfl) (Steps.refl _) (a := a1) (argsL := [(.ref a2), .null]) (rest := []) (lenOf pd__Ljava_lang_AbstractStringBuilder_Ljava_lang_Void__V_4861 rfl) rfl (by show 2 * 0 + _ ≤ _; exact Nat.le_of_eq rfl) (hb hby d36_3) (fun _ _ => ⟨rfl, e0, (by decide : 0 + 1 ≤ _), (by decide : 0 + 16 ≤ _)⟩)
  dsimp only [Pt.U, Pt.locs, Pt.cells, Pt.slots] at X1 l1 y1 z1 st1 hQ1
  subst l1 y1 z1
  obtain ⟨rfl, N1q, K1, st_1, sk1, gg1_st_1, zz1_st_1, fk1_0, fk1_1, fk1_2, fk1_3⟩ := hQ1
  have f1 : Sta Z T1.heap "java/lang/String" "COMPACT_STRINGS" "Z" (.int cz) := own_staK S_CS K1 (nsS E_a1.nostat ns0)
  have f2 : n0 ≤ a1 := g_a1
  have f3 : Exa Z T1.heap a2 "java/lang/StringBuilder" := E_a2.keep K1
  have f4 : Fld Z T1.heap a2 "java/lang/AbstractStringBuilder" "value" "[B" (.ref b2) := F_value_a2.keep K1 (by simp [(Ne.symm ne_a1_a2)])
  have f5 : Fld Z T1.heap a2 "java/lang/AbstractStringBuilder" "coder" "B" (.int (0 : Int32)) := F_coder_a2.keep K1 (by simp [(Ne.symm ne_a1_a2)])
  have f6 : Fld Z T1.heap a2 "java/lang/AbstractStringBuilder" "count" "I" (.int (Int32.ofNat ac.length)) := F_count_a2.keep K1 (by simp [(Ne.symm ne_a1_a2)])
  have f7 : Arv Z T1.heap b2 k2 .byte (16 : Int32) (own_by ac) (.int 0) := V_b2.keep K1 (by simp [(Ne.symm ne_a1_b2)])
  have f8 : Keep h0 T1.heap [a1] := (Keep.refl h0 [a1]).trans K1 (fun x hx => by cases List.mem_singleton.mp hx; exact Or.inl (by simp))
  have Z1 : n0 ≤ T1.heap.size := Nat.le_trans Z0 K1.1
  have ne_a1_st_1 : a1 ≠ st_1 := Nat.ne_of_lt (Nat.lt_of_lt_of_le F_coder_a1.lt zz1_st_1)
  have ne_a2_st_1 : a2 ≠ st_1 := Nat.ne_of_lt (Nat.lt_of_lt_of_le F_count_a2.lt zz1_st_1)
  have ne_b2_st_1 : b2 ≠ st_1 := Nat.ne_of_lt (Nat.lt_of_lt_of_le V_b2.lt zz1_st_1)
  have sz_st_1 : h0.size ≤ st_1 := Nat.le_trans (Keep.refl h0 [a1]).1 zz1_st_1
  have N1 := Fr.app N0 N1q
  obtain ⟨fs, hr, hrun, hended, hW, hsame⟩ := X1.leave (v := none) (fun _ => rfl) (hlocks := Bd.notSynchronized)
  refine ⟨_, _, pre0 _ ?_, hrun, hended, _, _, rfl, ?_, ⟨_, rfl⟩, hW, hsame.mono (by decide) (by decide)⟩
  · show Steps p.tables e below (s₁.setTop (mkF m 0 #[.val (.ref a1), .val (.ref a2)] [])) _
    refine XS.aloadN X0.here hx rfl (hb hby d36_0) rfl rfl ?_
    show Steps p.tables e below (s₁.setTop (mkF m 1 #[.val (.ref a1), .val (.ref a2)] [(.ref a1)])) _
    refine XS.aloadN X0.here hx rfl (hb hby d36_1) rfl rfl ?_
    show Steps p.tables e below (s₁.setTop (mkF m 2 #[.val (.ref a1), .val (.ref a2)] [(.ref a2), (.ref a1)])) _
    refine XS.aconstNull X0.here hx rfl (hb hby d36_2) ?_
    show Steps p.tables e below (s₁.setTop (mkF m 3 #[.val (.ref a1), .val (.ref a2)] [.null, (.ref a2), (.ref a1)])) _
    refine st1.trans ?_
    show Steps p.tables e below (T1.setTop (mkF m 6 #[.val (.ref a1), .val (.ref a2)] [])) _
    exact X1.returnOut hx Bd.returns (hb hby d36_6) hr
  · show Q_rm_sy Z a1 a2 b2 k2 ac cz h0 n0 _ T1.heap _
    exact ⟨rfl, N1, f8, st_1, _, gg1_st_1, sz_st_1, fk1_0, fk1_1, fk1_2, fk1_3⟩
theorem pn_35 : plainName "java/lang/StringBuilder" = true := by first | (simp [plainName, overriddenIn]; done) | decide +kernel
theorem ef_rm_ts (m : MethodId) (x0 : Addr) : entryFrame m #[(.ref x0)] 1 = mkF m 0 #[.val (.ref x0)] [] := by first | (simp [entryFrame, mkF, argsToLocals, Value.category]; done) | rfl
def Q_rm_ts (Z : State) (a1 : Addr) (bv : Addr) (kv : ClassId) (ac : List Int32) (cz : Int32) (h0 : Heap) (n0 : Nat) (v : Option Value) (h : Heap) (L : List Loc) : Prop := ∃ (o t : Addr) (kb : ClassId), v = some (.ref o) ∧ Fr n0 L ∧ Keep h0 h [] ∧ n0 ≤ o ∧ h0.size ≤ o ∧ n0 ≤ t ∧ h0.size ≤ t ∧ Exa Z h o "java/lang/String" ∧ Fld Z h o "java/lang/String" "coder" "B" (.int (0 : Int32)) ∧ Fld Z h o "java/lang/String" "value" "[B" (.ref t) ∧ Arv Z h t kb .byte (Int32.ofNat ac.length) (own_by ac) (.int 0)
theorem d35_0 : decode jdk_67_method_42_code 0 = .ok (.new 18, 3) := by decide +kernel
theorem d35_3 : decode jdk_67_method_42_code 3 = .ok (.dup, 1) := by decide +kernel
theorem d35_4 : decode jdk_67_method_42_code 4 = .ok (.aload_n 0, 1) := by decide +kernel
theorem pd__Ljava_lang_StringBuilder__V_2574 : parseMethodDescriptor "(Ljava/lang/StringBuilder;)V" = some ⟨[(.object "java/lang/StringBuilder")], none⟩ := by decide +kernel
theorem d35_5 : decode jdk_67_method_42_code 5 = .ok (.invokespecial 137, 3) := by decide +kernel
theorem d35_8 : decode jdk_67_method_42_code 8 = .ok (.areturn, 1) := by decide +kernel
set_option maxRecDepth 65536 in
set_option maxHeartbeats 40000000 in
theorem rm_ts (l : Launch) (Z : State) (a0 : Array Value) (hw : ∀ d ∈ tables_1, d.before a0 Z = true) (ws : List Jvm.Cond) (a1 : Addr) (bv : Addr) (kv : ClassId) (ac : List Int32) (cz : Int32) (h0 : Heap) (n0 : Nat) (Z0 : n0 ≤ h0.size) (E_a1 : Exa Z h0 a1 "java/lang/StringBuilder") (F_value_a1 : Fld Z h0 a1 "java/lang/AbstractStringBuilder" "value" "[B" (.ref bv)) (F_coder_a1 : Fld Z h0 a1 "java/lang/AbstractStringBuilder" "coder" "B" (.int (0 : Int32))) (F_count_a1 : Fld Z h0 a1 "java/lang/AbstractStringBuilder" "count" "I" (.int (Int32.ofNat ac.length))) (V_bv : Arv Z h0 bv kv .byte (16 : Int32) (own_by ac) (.int 0)) (hn : ac.length < 16) (S_CS : Sta Z h0 "java/lang/String" "COMPACT_STRINGS" "Z" (.int cz)) (hcs : ¬ cz = (0 : Int32)) :
    MetFree l (⟨"java/lang/StringBuilder", "toString", "()Ljava/lang/String;"⟩ : MethodName) (head1 (Jvm.Cond.code (⟨"java/lang/StringBuilder", "toString", "()Ljava/lang/String;"⟩ : MethodName) jdk_67_method_42_code 1 (some (.object "java/lang/String")) :: ws) ({ frames := 5, cells := 2, slots := 20, locals := 79 } : Room)) (fun a U => a = #[(.ref a1)] ∧ Z.Warmed39 U.vm ∧ U.heap = h0) (fun _ _ _ _ _ => True) (fun _ U o U' => ∃ v L, o = .returned v ∧ Q_rm_ts Z a1 bv kv ac cz h0 n0 v U'.heap L ∧ FrameEnd U o U' L ({ frames := 5, cells := 2, slots := 20, locals := 79 } : Room).cells ({ frames := 5, cells := 2, slots := 20, locals := 79 } : Room).slots) := by
  refine MetFree.of_bodySF (plainFor_of_name pn_35) hisR ?_
  intro p e s m args below meth c s₁ Bd hml0 hP hK
  obtain ⟨rfl, hZ, hh⟩ := hP
  have hx := Bd.exec
  have hby := Bd.bytes
  have hml : c.maxLocals = 1 := hml0
  have hown : s.vm.findClass "java/lang/StringBuilder" = some m.cls := findClass_of_methodNamed Bd.named
  have hnm := (name_of_methodNamed Bd.named Bd.method).1
  have X0 : Stand p l e ({ frames := 5, cells := 2, slots := 20, locals := 79 } : Room) s m #[(.ref a1)] below meth c s₁ [] 0 0 := Stand.of_body Bd
  have e0 : s₁.heap = h0 := by rw [← hh, Bd.state]; rfl
  have N0 := Fr.nil n0
  have pre0 : ∀ t, Steps p.tables e below (s₁.setTop (mkF m 0 #[.val (.ref a1)] [])) t → Steps p.tables e below (s₁.setTop (entryFrame m #[(.ref a1)] 1)) t := fun t kt => castTop (ef_rm_ts m a1) kt
  have ne_a1_bv : a1 ≠ bv := by
    obtain ⟨cA, AA, -⟩ := id V_bv
    exact ne_arr E_a1 (hw _ (List.mem_of_getElem? (i := 66) rfl)) AA
  obtain ⟨T1, h1, X1, e1, E1, A1, D1, -, st1⟩ := newO X0 hx hZ hown (hw _ (List.mem_of_getElem? (i := 185) rfl)) (hw _ (List.mem_of_getElem? (i := 7) rfl)) (hw _ (List.mem_of_getElem? (i := 8) rfl)) e0 (g := (mkF m 0 #[.val (.ref a1)] [])) rfl (hb hby d35_0) (by decide) (by decide)
  obtain ⟨b1, g1⟩ : ∃ z, z = h0.size := ⟨_, rfl⟩
  rw [← g1] at A1 D1 st1
  have sz_b1 : h0.size ≤ b1 := Nat.le_trans (Keep.refl h0 []).1 (Nat.le_of_eq g1.symm)
  have ne_a1_b1 : a1 ≠ b1 := Nat.ne_of_lt (Nat.lt_of_lt_of_le E_a1.lt (Nat.le_of_eq g1.symm))
  have ne_bv_b1 : bv ≠ b1 := Nat.ne_of_lt (Nat.lt_of_lt_of_le V_bv.lt (Nat.le_of_eq g1.symm))
  have f1 : Sta Z h1 "java/lang/String" "COMPACT_STRINGS" "Z" (.int cz) := S_CS.ext E1
  have f2 : Exa Z h1 a1 "java/lang/StringBuilder" := E_a1.ext E1
  have f3 : Fld Z h1 a1 "java/lang/AbstractStringBuilder" "value" "[B" (.ref bv) := F_value_a1.ext E1
  have f4 : Fld Z h1 a1 "java/lang/AbstractStringBuilder" "coder" "B" (.int (0 : Int32)) := F_coder_a1.ext E1
  have f5 : Fld Z h1 a1 "java/lang/AbstractStringBuilder" "count" "I" (.int (Int32.ofNat ac.length)) := F_count_a1.ext E1
  have f6 : Arv Z h1 bv kv .byte (16 : Int32) (own_by ac) (.int 0) := V_bv.ext E1
  have f7 : Keep h0 h1 [] := (Keep.refl h0 []).ext E1
  have g_b1 : n0 ≤ b1 := Nat.le_trans Z0 (Nat.le_of_eq g1.symm)
  have Z1 : n0 ≤ h1.size := Nat.le_trans Z0 E1.1
  have F_coder_b1 : Fld Z h1 b1 "java/lang/String" "coder" "B" (.int (0 : Int32)) := D1 (Or.inr (hw _ (List.mem_of_getElem? (i := 32) rfl))) (ty := .byte) (by decide)
  have F_value_b1 : Fld Z h1 b1 "java/lang/String" "value" "[B" .null := D1 (Or.inr (hw _ (List.mem_of_getElem? (i := 34) rfl))) (ty := (.array .byte)) (by decide)
  obtain ⟨_, _, ⟨T2, L2, k2, n2⟩, -, X2, ⟨Lc2, hQ2, l2, y2, z2⟩, st2⟩ := X1.specialBack hx (y := (⟨"java/lang/String", "<init>", "(Ljava/lang/StringBuilder;)V"⟩ : MethodName)) rfl hown (mvT hZ (hw _ (List.mem_of_getElem? (i := 186) rfl))) (mvT hZ (hw _ (List.mem_of_getElem? (i := 187) rfl))) (mvT hZ (hw _ (List.mem_of_getElem? (i := 188) rfl))) (by decide) (backOf (W := 1) (rm_sy l Z a0 hw [] b1 a1 bv kv ac cz h1 n0 Z1 A1 F_value_b1 F_coder_b1 g_b1 f2 f3 f4 f5 f6 hn f1 hcs) hZ (hw _ (List.mem_of_getElem? (i := 188) rfl)) (hw _ (List.mem_of_getElem? (i := 8) rfl)) (by decide) (by decide)) (g := (mkF m 5 #[.val (.ref a1)] [(.ref a1), (.ref b1), (.ref b1)])) rfl (by rw [hml]; rfl) (Steps.refl _) (a := b1) (argsL := [(.ref a1)]) (rest := [(.ref b1)]) (lenOf pd__Ljava_lang_StringBuilder__V_2574 rfl) rfl (by show 2 * 0 + _ ≤ _; exact Nat.le_of_eq rfl) (hb hby d35_5) (fun _ _ => ⟨rfl, e1, (by decide : 1 + 1 ≤ _), (by decide : 4 + 16 ≤ _)⟩)
  dsimp only [Pt.U, Pt.locs, Pt.cells, Pt.slots] at X2 l2 y2 z2 st2 hQ2
  subst l2 y2 z2
  obtain ⟨rfl, N2q, K2, st_2, sk2, gg2_st_2, zz2_st_2, fk2_0, fk2_1, fk2_2, fk2_3⟩ := hQ2
  have f8 : Sta Z T2.heap "java/lang/String" "COMPACT_STRINGS" "Z" (.int cz) := own_staK f1 K2 (nsS A1.nostat ns0)
  have f9 : Exa Z T2.heap a1 "java/lang/StringBuilder" := f2.keep K2
  have f10 : Fld Z T2.heap a1 "java/lang/AbstractStringBuilder" "value" "[B" (.ref bv) := f3.keep K2 (by simp [ne_a1_b1])
  have f11 : Fld Z T2.heap a1 "java/lang/AbstractStringBuilder" "coder" "B" (.int (0 : Int32)) := f4.keep K2 (by simp [ne_a1_b1])
  have f12 : Fld Z T2.heap a1 "java/lang/AbstractStringBuilder" "count" "I" (.int (Int32.ofNat ac.length)) := f5.keep K2 (by simp [ne_a1_b1])
  have f13 : Arv Z T2.heap bv kv .byte (16 : Int32) (own_by ac) (.int 0) := f6.keep K2 (by simp [ne_bv_b1])
  have f14 : Keep h0 T2.heap [] := f7.trans K2 (fun x hx => by cases List.mem_singleton.mp hx; exact Or.inr sz_b1)
  have f15 : n0 ≤ b1 := g_b1
  have Z2 : n0 ≤ T2.heap.size := Nat.le_trans Z1 K2.1
  have ne_a1_st_2 : a1 ≠ st_2 := Nat.ne_of_lt (Nat.lt_of_lt_of_le f5.lt zz2_st_2)
  have ne_bv_st_2 : bv ≠ st_2 := Nat.ne_of_lt (Nat.lt_of_lt_of_le f6.lt zz2_st_2)
  have ne_b1_st_2 : b1 ≠ st_2 := Nat.ne_of_lt (Nat.lt_of_lt_of_le F_value_b1.lt zz2_st_2)
  have sz_st_2 : h0.size ≤ st_2 := Nat.le_trans f7.1 zz2_st_2
  have N2 := Fr.app N0 N2q
  obtain ⟨fs, hr, hrun, hended, hW, hsame⟩ := X2.leave (v := some (.ref b1)) (fun h => by rw [Bd.returns] at h; cases h) (hlocks := Bd.notSynchronized)
  refine ⟨_, _, pre0 _ ?_, hrun, hended, _, _, rfl, ?_, ⟨_, rfl⟩, hW, hsame.mono (by decide) (by decide)⟩
  · show Steps p.tables e below (s₁.setTop (mkF m 0 #[.val (.ref a1)] [])) _
    refine st1 _ ?_
    show Steps p.tables e below (T1.setTop (mkF m 3 #[.val (.ref a1)] [(.ref b1)])) _
    refine XS.dup X1.here hx rfl (hb hby d35_3) rfl rfl ?_
    show Steps p.tables e below (T1.setTop (mkF m 4 #[.val (.ref a1)] [(.ref b1), (.ref b1)])) _
    refine XS.aloadN X1.here hx rfl (hb hby d35_4) rfl rfl ?_
    show Steps p.tables e below (T1.setTop (mkF m 5 #[.val (.ref a1)] [(.ref a1), (.ref b1), (.ref b1)])) _
    refine st2.trans ?_
    show Steps p.tables e below (T2.setTop (mkF m 8 #[.val (.ref a1)] [(.ref b1)])) _
    exact X2.areturnOut hx rfl Bd.returns rfl (hb hby d35_8) hr
  · show Q_rm_ts Z a1 bv kv ac cz h0 n0 _ T2.heap _
    exact ⟨b1, st_2, _, rfl, N2, f14, f15, sz_b1, gg2_st_2, sz_st_2, fk2_0, fk2_1, fk2_2, fk2_3⟩
theorem pn_45 : plainName "java/lang/Record" = true := by first | (simp [plainName, overriddenIn]; done) | decide +kernel
theorem ef_rm_rc (m : MethodId) (x0 : Addr) : entryFrame m #[(.ref x0)] 1 = mkF m 0 #[.val (.ref x0)] [] := by first | (simp [entryFrame, mkF, argsToLocals, Value.category]; done) | rfl
def Q_rm_rc (Z : State) (a1 : Addr) (h0 : Heap) (n0 : Nat) (v : Option Value) (h : Heap) (L : List Loc) : Prop := v = none ∧ Fr n0 L ∧ h = h0
theorem d45_0 : decode jdk_30_method_1_code 0 = .ok (.aload_n 0, 1) := by decide +kernel
theorem d45_1 : decode jdk_30_method_1_code 1 = .ok (.invokespecial 1, 3) := by decide +kernel
theorem d45_4 : decode jdk_30_method_1_code 4 = .ok (.return_, 1) := by decide +kernel
set_option maxRecDepth 65536 in
set_option maxHeartbeats 40000000 in
theorem rm_rc (l : Launch) (Z : State) (a0 : Array Value) (hw : ∀ d ∈ tables_1, d.before a0 Z = true) (ws : List Jvm.Cond) (a1 : Addr) (h0 : Heap) (n0 : Nat) (Z0 : n0 ≤ h0.size)  :
    MetFree l (⟨"java/lang/Record", "<init>", "()V"⟩ : MethodName) (head1 (Jvm.Cond.code (⟨"java/lang/Record", "<init>", "()V"⟩ : MethodName) jdk_30_method_1_code 1 none :: ws) ({ frames := 1, cells := 0, slots := 0, locals := 12 } : Room)) (fun a U => a = #[(.ref a1)] ∧ Z.Warmed39 U.vm ∧ U.heap = h0) (fun _ _ _ _ _ => True) (fun _ U o U' => ∃ v L, o = .returned v ∧ Q_rm_rc Z a1 h0 n0 v U'.heap L ∧ FrameEnd U o U' L ({ frames := 1, cells := 0, slots := 0, locals := 12 } : Room).cells ({ frames := 1, cells := 0, slots := 0, locals := 12 } : Room).slots) := by
  refine MetFree.of_bodySF (plainFor_of_name pn_45) hisR ?_
  intro p e s m args below meth c s₁ Bd hml0 hP hK
  obtain ⟨rfl, hZ, hh⟩ := hP
  have hx := Bd.exec
  have hby := Bd.bytes
  have hml : c.maxLocals = 1 := hml0
  have hown : s.vm.findClass "java/lang/Record" = some m.cls := findClass_of_methodNamed Bd.named
  have hnm := (name_of_methodNamed Bd.named Bd.method).1
  have X0 : Stand p l e ({ frames := 1, cells := 0, slots := 0, locals := 12 } : Room) s m #[(.ref a1)] below meth c s₁ [] 0 0 := Stand.of_body Bd
  have e0 : s₁.heap = h0 := by rw [← hh, Bd.state]; rfl
  have N0 := Fr.nil n0
  have pre0 : ∀ t, Steps p.tables e below (s₁.setTop (mkF m 0 #[.val (.ref a1)] [])) t → Steps p.tables e below (s₁.setTop (entryFrame m #[(.ref a1)] 1)) t := fun t kt => castTop (ef_rm_rc m a1) kt
  obtain ⟨T1, X1, e1, st1⟩ := initO X0 hx hZ hown (hw _ (List.mem_of_getElem? (i := 226) rfl)) (hw _ (List.mem_of_getElem? (i := 17) rfl)) (hw _ (List.mem_of_getElem? (i := 18) rfl)) e0 (g := (mkF m 1 #[.val (.ref a1)] [(.ref a1)])) rfl (by rw [hml]; rfl) rfl (hb hby d45_1) (by decide) (W := 0) (by show 2 * 0 + _ ≤ _; exact Nat.le_of_eq rfl) (by decide)
  obtain ⟨fs, hr, hrun, hended, hW, hsame⟩ := X1.leave (v := none) (fun _ => rfl) (hlocks := Bd.notSynchronized)
  refine ⟨_, _, pre0 _ ?_, hrun, hended, _, _, rfl, ?_, ⟨_, rfl⟩, hW, hsame.mono (by decide) (by decide)⟩
  · show Steps p.tables e below (s₁.setTop (mkF m 0 #[.val (.ref a1)] [])) _
    refine XS.aloadN X0.here hx rfl (hb hby d45_0) rfl rfl ?_
    show Steps p.tables e below (s₁.setTop (mkF m 1 #[.val (.ref a1)] [(.ref a1)])) _
    refine st1 _ ?_
    show Steps p.tables e below (T1.setTop (mkF m 4 #[.val (.ref a1)] [])) _
    exact X1.returnOut hx Bd.returns (hb hby d45_4) hr
  · show Q_rm_rc Z a1 h0 n0 _ T1.heap _
    rw [e1]
    exact ⟨rfl, N0, rfl⟩
theorem pn_44 : plainName "com/example/purveyor/purveyor/sqlite/QuotedText$Run" = true := by first | (simp [plainName, overriddenIn]; done) | decide +kernel
theorem ef_rm_ru (m : MethodId) (x0 : Addr) (x1 : Addr) (x2 : Int32) : entryFrame m #[(.ref x0), (.ref x1), (.int x2)] 3 = mkF m 0 #[.val (.ref x0), .val (.ref x1), .val (.int x2)] [] := by first | (simp [entryFrame, mkF, argsToLocals, Value.category]; done) | rfl
def Q_rm_ru (Z : State) (a1 : Addr) (a2 : Addr) (p3 : Int32) (h0 : Heap) (n0 : Nat) (v : Option Value) (h : Heap) (L : List Loc) : Prop := v = none ∧ Fr n0 L ∧ Keep h0 h [a1] ∧ Exa Z h a1 "com/example/purveyor/purveyor/sqlite/QuotedText$Run" ∧ Fld Z h a1 "com/example/purveyor/purveyor/sqlite/QuotedText$Run" "content" "Ljava/lang/String;" (.ref a2) ∧ Fld Z h a1 "com/example/purveyor/purveyor/sqlite/QuotedText$Run" "end" "I" (.int p3)
theorem d44_0 : decode prog_32_method_1_code 0 = .ok (.aload_n 0, 1) := by decide +kernel
theorem pd___V_167 : parseMethodDescriptor "()V" = some ⟨[], none⟩ := by decide +kernel
theorem d44_1 : decode prog_32_method_1_code 1 = .ok (.invokespecial 1, 3) := by decide +kernel
theorem d44_4 : decode prog_32_method_1_code 4 = .ok (.aload_n 0, 1) := by decide +kernel
theorem d44_5 : decode prog_32_method_1_code 5 = .ok (.aload_n 1, 1) := by decide +kernel
theorem d44_6 : decode prog_32_method_1_code 6 = .ok (.putfield 7, 3) := by decide +kernel
theorem d44_9 : decode prog_32_method_1_code 9 = .ok (.aload_n 0, 1) := by decide +kernel
theorem d44_10 : decode prog_32_method_1_code 10 = .ok (.iload_n 2, 1) := by decide +kernel
theorem d44_11 : decode prog_32_method_1_code 11 = .ok (.putfield 13, 3) := by decide +kernel
theorem d44_14 : decode prog_32_method_1_code 14 = .ok (.return_, 1) := by decide +kernel
set_option maxRecDepth 65536 in
set_option maxHeartbeats 40000000 in
theorem rm_ru (l : Launch) (Z : State) (a0 : Array Value) (hw : ∀ d ∈ tables_1, d.before a0 Z = true) (ws : List Jvm.Cond) (a1 : Addr) (a2 : Addr) (p3 : Int32) (h0 : Heap) (n0 : Nat) (Z0 : n0 ≤ h0.size) (E_a1 : Exa Z h0 a1 "com/example/purveyor/purveyor/sqlite/QuotedText$Run") (F_content_a1 : Fld Z h0 a1 "com/example/purveyor/purveyor/sqlite/QuotedText$Run" "content" "Ljava/lang/String;" .null) (F_end_a1 : Fld Z h0 a1 "com/example/purveyor/purveyor/sqlite/QuotedText$Run" "end" "I" (.int (0 : Int32))) (g_a1 : n0 ≤ a1) :
    MetFree l (⟨"com/example/purveyor/purveyor/sqlite/QuotedText$Run", "<init>", "(Ljava/lang/String;I)V"⟩ : MethodName) (head1 (Jvm.Cond.code (⟨"com/example/purveyor/purveyor/sqlite/QuotedText$Run", "<init>", "(Ljava/lang/String;I)V"⟩ : MethodName) prog_32_method_1_code 3 none :: ws) ({ frames := 2, cells := 0, slots := 0, locals := 24 } : Room)) (fun a U => a = #[(.ref a1), (.ref a2), (.int p3)] ∧ Z.Warmed39 U.vm ∧ U.heap = h0) (fun _ _ _ _ _ => True) (fun _ U o U' => ∃ v L, o = .returned v ∧ Q_rm_ru Z a1 a2 p3 h0 n0 v U'.heap L ∧ FrameEnd U o U' L ({ frames := 2, cells := 0, slots := 0, locals := 24 } : Room).cells ({ frames := 2, cells := 0, slots := 0, locals := 24 } : Room).slots) := by
  refine MetFree.of_bodySF (plainFor_of_name pn_44) hisR ?_
  intro p e s m args below meth c s₁ Bd hml0 hP hK
  obtain ⟨rfl, hZ, hh⟩ := hP
  have hx := Bd.exec
  have hby := Bd.bytes
  have hml : c.maxLocals = 3 := hml0
  have hown : s.vm.findClass "com/example/purveyor/purveyor/sqlite/QuotedText$Run" = some m.cls := findClass_of_methodNamed Bd.named
  have hnm := (name_of_methodNamed Bd.named Bd.method).1
  have X0 : Stand p l e ({ frames := 2, cells := 0, slots := 0, locals := 24 } : Room) s m #[(.ref a1), (.ref a2), (.int p3)] below meth c s₁ [] 0 0 := Stand.of_body Bd
  have e0 : s₁.heap = h0 := by rw [← hh, Bd.state]; rfl
  have N0 := Fr.nil n0
  have pre0 : ∀ t, Steps p.tables e below (s₁.setTop (mkF m 0 #[.val (.ref a1), .val (.ref a2), .val (.int p3)] [])) t → Steps p.tables e below (s₁.setTop (entryFrame m #[(.ref a1), (.ref a2), (.int p3)] 3)) t := fun t kt => castTop (ef_rm_ru m a1 a2 p3) kt
  obtain ⟨_, _, ⟨T1, L1, k1, n1⟩, -, X1, ⟨Lc1, hQ1, l1, y1, z1⟩, st1⟩ := X0.specialBack hx (y := (⟨"java/lang/Record", "<init>", "()V"⟩ : MethodName)) rfl hown (mvT hZ (hw _ (List.mem_of_getElem? (i := 221) rfl))) (mvT hZ (hw _ (List.mem_of_getElem? (i := 222) rfl))) (mvT hZ (hw _ (List.mem_of_getElem? (i := 225) rfl))) (by decide) (backOf (W := 0) (rm_rc l Z a0 hw [] a1 h0 n0 Z0 ) hZ (hw _ (List.mem_of_getElem? (i := 225) rfl)) (hw _ (List.mem_of_getElem? (i := 224) rfl)) (by decide) (by decide)) (g := (mkF m 1 #[.val (.ref a1), .val (.ref a2), .val (.int p3)] [(.ref a1)])) rfl (by rw [hml]; rfl) (Steps.refl _) (a := a1) (argsL := []) (rest := []) (lenOf pd___V_167 rfl) rfl (by show 2 * 0 + _ ≤ _; exact Nat.le_of_eq rfl) (hb hby d44_1) (fun _ _ => ⟨rfl, e0, (by decide : 0 + 0 ≤ _), (by decide : 0 + 0 ≤ _)⟩)
  dsimp only [Pt.U, Pt.locs, Pt.cells, Pt.slots] at X1 l1 y1 z1 st1 hQ1
  subst l1 y1 z1
  obtain ⟨rfl, N1q, e1⟩ := hQ1
  have N1 := Fr.app N0 N1q
  obtain ⟨T2, h2, X2, e2, W2, st2⟩ := putF X1 hx hZ hown (host := "") (Or.inl (hw _ (List.mem_of_getElem? (i := 227) rfl))) Via.refl e1 F_content_a1 E_a1 (Or.inr ⟨(hw _ (List.mem_of_getElem? (i := 228) rfl)), rfl, hnm⟩) (hw _ (List.mem_of_getElem? (i := 178) rfl)) (ty := (.object "java/lang/String")) (by decide) rfl rfl (g := (mkF m 6 #[.val (.ref a1), .val (.ref a2), .val (.int p3)] [(.ref a2), (.ref a1)])) rfl rfl (hb hby d44_6)
  have f1 : Exa Z h2 a1 "com/example/purveyor/purveyor/sqlite/QuotedText$Run" := E_a1.wr W2
  have f2 : Fld Z h2 a1 "com/example/purveyor/purveyor/sqlite/QuotedText$Run" "content" "Ljava/lang/String;" (.ref a2) := F_content_a1.same W2
  have f3 : Fld Z h2 a1 "com/example/purveyor/purveyor/sqlite/QuotedText$Run" "end" "I" (.int (0 : Int32)) := F_end_a1.other W2 (Or.inr (slot_ne (Or.inr (hw _ (List.mem_of_getElem? (i := 230) rfl))) (Or.inr (hw _ (List.mem_of_getElem? (i := 228) rfl))) (by decide) (t := .int) (t' := (.object "java/lang/String")) (by decide) (by decide)))
  have f4 : n0 ≤ a1 := g_a1
  have f5 : Keep h0 h2 [a1] := (Keep.refl h0 [a1]).wr W2 (Or.inl (by simp))
  have N2 := Fr.snoc X2 N1 f4
  have Z2 : n0 ≤ h2.size := by rw [W2.size]; exact Z0
  obtain ⟨T3, h3, X3, e3, W3, st3⟩ := putF X2 hx hZ hown (host := "") (Or.inl (hw _ (List.mem_of_getElem? (i := 229) rfl))) Via.refl e2 f3 f1 (Or.inr ⟨(hw _ (List.mem_of_getElem? (i := 230) rfl)), rfl, hnm⟩) (hw _ (List.mem_of_getElem? (i := 178) rfl)) (ty := .int) (by decide) rfl rfl (g := (mkF m 11 #[.val (.ref a1), .val (.ref a2), .val (.int p3)] [(.int p3), (.ref a1)])) rfl rfl (hb hby d44_11)
  have f6 : Exa Z h3 a1 "com/example/purveyor/purveyor/sqlite/QuotedText$Run" := f1.wr W3
  have f7 : Fld Z h3 a1 "com/example/purveyor/purveyor/sqlite/QuotedText$Run" "content" "Ljava/lang/String;" (.ref a2) := f2.other W3 (Or.inr (slot_ne (Or.inr (hw _ (List.mem_of_getElem? (i := 228) rfl))) (Or.inr (hw _ (List.mem_of_getElem? (i := 230) rfl))) (by decide) (t := (.object "java/lang/String")) (t' := .int) (by decide) (by decide)))
  have f8 : Fld Z h3 a1 "com/example/purveyor/purveyor/sqlite/QuotedText$Run" "end" "I" (.int p3) := f3.same W3
  have f9 : n0 ≤ a1 := f4
  have f10 : Keep h0 h3 [a1] := f5.wr W3 (Or.inl (by simp))
  have N3 := Fr.snoc X3 N2 f9
  have Z3 : n0 ≤ h3.size := by rw [W3.size]; exact Z2
  obtain ⟨fs, hr, hrun, hended, hW, hsame⟩ := X3.leave (v := none) (fun _ => rfl) (hlocks := Bd.notSynchronized)
  refine ⟨_, _, pre0 _ ?_, hrun, hended, _, _, rfl, ?_, ⟨_, rfl⟩, hW, hsame.mono (by decide) (by decide)⟩
  · show Steps p.tables e below (s₁.setTop (mkF m 0 #[.val (.ref a1), .val (.ref a2), .val (.int p3)] [])) _
    refine XS.aloadN X0.here hx rfl (hb hby d44_0) rfl rfl ?_
    show Steps p.tables e below (s₁.setTop (mkF m 1 #[.val (.ref a1), .val (.ref a2), .val (.int p3)] [(.ref a1)])) _
    refine st1.trans ?_
    show Steps p.tables e below (T1.setTop (mkF m 4 #[.val (.ref a1), .val (.ref a2), .val (.int p3)] [])) _
    refine XS.aloadN X1.here hx rfl (hb hby d44_4) rfl rfl ?_
    show Steps p.tables e below (T1.setTop (mkF m 5 #[.val (.ref a1), .val (.ref a2), .val (.int p3)] [(.ref a1)])) _
    refine XS.aloadN X1.here hx rfl (hb hby d44_5) rfl rfl ?_
    show Steps p.tables e below (T1.setTop (mkF m 6 #[.val (.ref a1), .val (.ref a2), .val (.int p3)] [(.ref a2), (.ref a1)])) _
    refine st2 _ ?_
    show Steps p.tables e below (T2.setTop (mkF m 9 #[.val (.ref a1), .val (.ref a2), .val (.int p3)] [])) _
    refine XS.aloadN X2.here hx rfl (hb hby d44_9) rfl rfl ?_
    show Steps p.tables e below (T2.setTop (mkF m 10 #[.val (.ref a1), .val (.ref a2), .val (.int p3)] [(.ref a1)])) _
    refine XS.iloadN X2.here hx rfl (hb hby d44_10) rfl ?_
    show Steps p.tables e below (T2.setTop (mkF m 11 #[.val (.ref a1), .val (.ref a2), .val (.int p3)] [(.int p3), (.ref a1)])) _
    refine st3 _ ?_
    show Steps p.tables e below (T3.setTop (mkF m 14 #[.val (.ref a1), .val (.ref a2), .val (.int p3)] [])) _
    exact X3.returnOut hx Bd.returns (hb hby d44_14) hr
  · show Q_rm_ru Z a1 a2 p3 h0 n0 _ T3.heap _
    rw [e3]
    exact ⟨rfl, N3, f10, f6, f7, f8⟩
theorem pn_46 : plainName "com/example/purveyor/purveyor/sqlite/QuotedText$Run" = true := by first | (simp [plainName, overriddenIn]; done) | decide +kernel
theorem ef_rm_ct (m : MethodId) (x0 : Addr) : entryFrame m #[(.ref x0)] 1 = mkF m 0 #[.val (.ref x0)] [] := by first | (simp [entryFrame, mkF, argsToLocals, Value.category]; done) | rfl
def Q_rm_ct (Z : State) (a1 : Addr) (s1 : Addr) (h0 : Heap) (n0 : Nat) (v : Option Value) (h : Heap) (L : List Loc) : Prop := v = some (.ref s1) ∧ Fr n0 L ∧ h = h0
theorem d46_0 : decode prog_32_method_5_code 0 = .ok (.aload_n 0, 1) := by decide +kernel
theorem d46_1 : decode prog_32_method_5_code 1 = .ok (.getfield 7, 3) := by decide +kernel
theorem d46_4 : decode prog_32_method_5_code 4 = .ok (.areturn, 1) := by decide +kernel
set_option maxRecDepth 65536 in
set_option maxHeartbeats 40000000 in
theorem rm_ct (l : Launch) (Z : State) (a0 : Array Value) (hw : ∀ d ∈ tables_1, d.before a0 Z = true) (ws : List Jvm.Cond) (a1 : Addr) (s1 : Addr) (h0 : Heap) (n0 : Nat) (Z0 : n0 ≤ h0.size) (F_c : Fld Z h0 a1 "com/example/purveyor/purveyor/sqlite/QuotedText$Run" "content" "Ljava/lang/String;" (.ref s1)) :
    MetFree l (⟨"com/example/purveyor/purveyor/sqlite/QuotedText$Run", "content", "()Ljava/lang/String;"⟩ : MethodName) (head1 (Jvm.Cond.code (⟨"com/example/purveyor/purveyor/sqlite/QuotedText$Run", "content", "()Ljava/lang/String;"⟩ : MethodName) prog_32_method_5_code 1 (some (.object "java/lang/String")) :: ws) ({ frames := 0, cells := 0, slots := 0, locals := 0 } : Room)) (fun a U => a = #[(.ref a1)] ∧ Z.Warmed39 U.vm ∧ U.heap = h0) (fun _ _ _ _ _ => True) (fun _ U o U' => ∃ v L, o = .returned v ∧ Q_rm_ct Z a1 s1 h0 n0 v U'.heap L ∧ FrameEnd U o U' L ({ frames := 0, cells := 0, slots := 0, locals := 0 } : Room).cells ({ frames := 0, cells := 0, slots := 0, locals := 0 } : Room).slots) := by
  refine MetFree.of_bodySF (plainFor_of_name pn_46) hisR ?_
  intro p e s m args below meth c s₁ Bd hml0 hP hK
  obtain ⟨rfl, hZ, hh⟩ := hP
  have hx := Bd.exec
  have hby := Bd.bytes
  have hml : c.maxLocals = 1 := hml0
  have hown : s.vm.findClass "com/example/purveyor/purveyor/sqlite/QuotedText$Run" = some m.cls := findClass_of_methodNamed Bd.named
  have hnm := (name_of_methodNamed Bd.named Bd.method).1
  have X0 : Stand p l e ({ frames := 0, cells := 0, slots := 0, locals := 0 } : Room) s m #[(.ref a1)] below meth c s₁ [] 0 0 := Stand.of_body Bd
  have e0 : s₁.heap = h0 := by rw [← hh, Bd.state]; rfl
  have N0 := Fr.nil n0
  have pre0 : ∀ t, Steps p.tables e below (s₁.setTop (mkF m 0 #[.val (.ref a1)] [])) t → Steps p.tables e below (s₁.setTop (entryFrame m #[(.ref a1)] 1)) t := fun t kt => castTop (ef_rm_ct m a1) kt
  obtain ⟨T1, X1, e1, st1⟩ := getF X0 hx hZ hown (host := "") (Or.inl (hw _ (List.mem_of_getElem? (i := 227) rfl))) Via.refl e0 F_c (g := (mkF m 1 #[.val (.ref a1)] [(.ref a1)])) rfl rfl (hb hby d46_1)
  obtain ⟨fs, hr, hrun, hended, hW, hsame⟩ := X1.leave (v := some (.ref s1)) (fun h => by rw [Bd.returns] at h; cases h) (hlocks := Bd.notSynchronized)
  refine ⟨_, _, pre0 _ ?_, hrun, hended, _, _, rfl, ?_, ⟨_, rfl⟩, hW, hsame.mono (by decide) (by decide)⟩
  · show Steps p.tables e below (s₁.setTop (mkF m 0 #[.val (.ref a1)] [])) _
    refine XS.aloadN X0.here hx rfl (hb hby d46_0) rfl rfl ?_
    show Steps p.tables e below (s₁.setTop (mkF m 1 #[.val (.ref a1)] [(.ref a1)])) _
    refine st1 _ ?_
    show Steps p.tables e below (T1.setTop (mkF m 4 #[.val (.ref a1)] [(.ref s1)])) _
    exact X1.areturnOut hx rfl Bd.returns rfl (hb hby d46_4) hr
  · show Q_rm_ct Z a1 s1 h0 n0 _ T1.heap _
    rw [e1]
    exact ⟨rfl, N0, rfl⟩
theorem pn_47 : plainName "com/example/purveyor/purveyor/sqlite/QuotedText$Run" = true := by first | (simp [plainName, overriddenIn]; done) | decide +kernel
theorem ef_rm_en (m : MethodId) (x0 : Addr) : entryFrame m #[(.ref x0)] 1 = mkF m 0 #[.val (.ref x0)] [] := by first | (simp [entryFrame, mkF, argsToLocals, Value.category]; done) | rfl
def Q_rm_en (Z : State) (a1 : Addr) (z1 : Int32) (h0 : Heap) (n0 : Nat) (v : Option Value) (h : Heap) (L : List Loc) : Prop := v = some (.int z1) ∧ Fr n0 L ∧ h = h0
theorem d47_0 : decode prog_32_method_6_code 0 = .ok (.aload_n 0, 1) := by decide +kernel
theorem d47_1 : decode prog_32_method_6_code 1 = .ok (.getfield 13, 3) := by decide +kernel
theorem d47_4 : decode prog_32_method_6_code 4 = .ok (.ireturn, 1) := by decide +kernel
set_option maxRecDepth 65536 in
set_option maxHeartbeats 40000000 in
theorem rm_en (l : Launch) (Z : State) (a0 : Array Value) (hw : ∀ d ∈ tables_1, d.before a0 Z = true) (ws : List Jvm.Cond) (a1 : Addr) (z1 : Int32) (h0 : Heap) (n0 : Nat) (Z0 : n0 ≤ h0.size) (F_c : Fld Z h0 a1 "com/example/purveyor/purveyor/sqlite/QuotedText$Run" "end" "I" (.int z1)) :
    MetFree l (⟨"com/example/purveyor/purveyor/sqlite/QuotedText$Run", "end", "()I"⟩ : MethodName) (head1 (Jvm.Cond.code (⟨"com/example/purveyor/purveyor/sqlite/QuotedText$Run", "end", "()I"⟩ : MethodName) prog_32_method_6_code 1 (some .int) :: ws) ({ frames := 0, cells := 0, slots := 0, locals := 0 } : Room)) (fun a U => a = #[(.ref a1)] ∧ Z.Warmed39 U.vm ∧ U.heap = h0) (fun _ _ _ _ _ => True) (fun _ U o U' => ∃ v L, o = .returned v ∧ Q_rm_en Z a1 z1 h0 n0 v U'.heap L ∧ FrameEnd U o U' L ({ frames := 0, cells := 0, slots := 0, locals := 0 } : Room).cells ({ frames := 0, cells := 0, slots := 0, locals := 0 } : Room).slots) := by
  refine MetFree.of_bodySF (plainFor_of_name pn_47) hisR ?_
  intro p e s m args below meth c s₁ Bd hml0 hP hK
  obtain ⟨rfl, hZ, hh⟩ := hP
  have hx := Bd.exec
  have hby := Bd.bytes
  have hml : c.maxLocals = 1 := hml0
  have hown : s.vm.findClass "com/example/purveyor/purveyor/sqlite/QuotedText$Run" = some m.cls := findClass_of_methodNamed Bd.named
  have hnm := (name_of_methodNamed Bd.named Bd.method).1
  have X0 : Stand p l e ({ frames := 0, cells := 0, slots := 0, locals := 0 } : Room) s m #[(.ref a1)] below meth c s₁ [] 0 0 := Stand.of_body Bd
  have e0 : s₁.heap = h0 := by rw [← hh, Bd.state]; rfl
  have N0 := Fr.nil n0
  have pre0 : ∀ t, Steps p.tables e below (s₁.setTop (mkF m 0 #[.val (.ref a1)] [])) t → Steps p.tables e below (s₁.setTop (entryFrame m #[(.ref a1)] 1)) t := fun t kt => castTop (ef_rm_en m a1) kt
  obtain ⟨T1, X1, e1, st1⟩ := getF X0 hx hZ hown (host := "") (Or.inl (hw _ (List.mem_of_getElem? (i := 229) rfl))) Via.refl e0 F_c (g := (mkF m 1 #[.val (.ref a1)] [(.ref a1)])) rfl rfl (hb hby d47_1)
  obtain ⟨fs, hr, hrun, hended, hW, hsame⟩ := X1.leave (v := some (.int z1)) (fun h => by rw [Bd.returns] at h; cases h) (hlocks := Bd.notSynchronized)
  refine ⟨_, _, pre0 _ ?_, hrun, hended, _, _, rfl, ?_, ⟨_, rfl⟩, hW, hsame.mono (by decide) (by decide)⟩
  · show Steps p.tables e below (s₁.setTop (mkF m 0 #[.val (.ref a1)] [])) _
    refine XS.aloadN X0.here hx rfl (hb hby d47_0) rfl rfl ?_
    show Steps p.tables e below (s₁.setTop (mkF m 1 #[.val (.ref a1)] [(.ref a1)])) _
    refine st1 _ ?_
    show Steps p.tables e below (T1.setTop (mkF m 4 #[.val (.ref a1)] [(.int z1)])) _
    exact retI X1 hx Bd.returns (hb hby d47_4) hr
  · show Q_rm_en Z a1 z1 h0 n0 _ T1.heap _
    rw [e1]
    exact ⟨rfl, N0, rfl⟩
def own_rd (cl : List Int32) (q : Int32) : Nat → Nat → List Int32 → Option (List Int32 × Nat)
  | 0, _, _ => none
  | k + 1, f, acc => match own_fo cl q f with
    | none => none
    | some nx => if nx + 1 = cl.length ∨ ¬ cl.getD (nx + 1) 0 = q then some (acc ++ own_sl cl f nx, nx + 1) else own_rd cl q k (nx + 2) (acc ++ own_sl cl f nx ++ [q])
theorem own_rd_none {cl : List Int32} {q : Int32} {k f : Nat} {acc : List Int32} (h : own_fo cl q f = none) : own_rd cl q k f acc = none := by
  cases k with
  | zero => rfl
  | succ k => simp only [own_rd, h]
theorem own_rd_end {cl : List Int32} {q : Int32} {k f nx : Nat} {acc : List Int32} (hk : 1 ≤ k) (h : own_fo cl q f = some nx) (e : nx + 1 = cl.length ∨ ¬ cl.getD (nx + 1) 0 = q) : own_rd cl q k f acc = some (acc ++ own_sl cl f nx, nx + 1) := by
  cases k with
  | zero => omega
  | succ k => simp only [own_rd, h]; rw [if_pos e]
theorem own_rd_go {cl : List Int32} {q : Int32} {k f nx : Nat} {acc : List Int32} (hk : 1 ≤ k) (h : own_fo cl q f = some nx) (e : ¬ (nx + 1 = cl.length ∨ ¬ cl.getD (nx + 1) 0 = q)) : own_rd cl q k f acc = own_rd cl q (k - 1) (nx + 2) (acc ++ own_sl cl f nx ++ [q]) := by
  cases k with
  | zero => omega
  | succ k => simp only [own_rd, h]; rw [if_neg e]; rfl
theorem own_ix_none {cl : List Int32} {q : Int32} {f : Nat} (h : own_fo cl q f = none) : own_ix cl q f = (-1 : Int32) := by rw [own_ix, h]
theorem own_ix_some {cl : List Int32} {q : Int32} {f nx : Nat} (h : own_fo cl q f = some nx) : own_ix cl q f = Int32.ofNat nx := by rw [own_ix, h]
theorem own_eqN {i j : Nat} (hi : i < 2147483648) (hj : j < 2147483648) (h : Int32.ofNat i = Int32.ofNat j) : i = j := by
  have := congrArg Int32.toInt h
  rw [own_ti hi, own_ti hj] at this
  omega
theorem own_nl1 {nx n : Nat} (h : nx < n) (hn : n < 2147483648) (h57 : ¬ Int32.ofNat (nx + 1) = Int32.ofNat n) : nx + 1 < n := by
  have : nx + 1 ≠ n := fun q => h57 (by rw [q])
  omega
theorem own_pa1 {a b : List Int32} (ha : ∀ c ∈ a, ¬ c < 0 ∧ ¬ (255 : Int32) < c) (hb : ∀ c ∈ b, ¬ c < 0 ∧ ¬ (255 : Int32) < c) : ∀ c ∈ a ++ b, ¬ c < 0 ∧ ¬ (255 : Int32) < c := fun c hc => (List.mem_append.mp hc).elim (ha c) (hb c)
theorem own_pa2 {a b : List Int32} {q : Int32} (ha : ∀ c ∈ a, ¬ c < 0 ∧ ¬ (255 : Int32) < c) (hb : ∀ c ∈ b, ¬ c < 0 ∧ ¬ (255 : Int32) < c) (hq : ¬ q < 0 ∧ ¬ (255 : Int32) < q) : ∀ c ∈ a ++ b ++ [q], ¬ c < 0 ∧ ¬ (255 : Int32) < c :=
  own_pa1 (own_pa1 ha hb) (fun c hc => by cases List.mem_singleton.mp hc; exact hq)

theorem pn_9 : plainName "com/example/purveyor/purveyor/sqlite/QuotedText" = true := by first | (simp [plainName, overriddenIn]; done) | decide +kernel
theorem ef_rm_rd (m : MethodId) (x0 : Addr) (x1 : Int32) : entryFrame m #[(.ref x0), (.int x1)] 6 = mkF m 0 #[.val (.ref x0), .val (.int x1), .unset, .unset, .unset, .unset] [] := by first | (simp [entryFrame, mkF, argsToLocals, Value.category]; done) | rfl
def Q_rm_rd (Z : State) (a1 : Addr) (t1 : Addr) (kb1 : ClassId) (cl : List Int32) (oo : Nat) (cz : Int32) (fS fi : Value) (r : Option (List Int32 × Nat)) (h0 : Heap) (n0 : Nat) (v : Option Value) (h : Heap) (L : List Loc) : Prop := match r with | none => v = some .null ∧ Fr n0 L ∧ Keep h0 h [] | some (ac, en) => ∃ (x so t : Addr) (kb : ClassId), v = some (.ref x) ∧ Fr n0 L ∧ Keep h0 h [] ∧ Exa Z h x "com/example/purveyor/purveyor/sqlite/QuotedText$Run" ∧ Fld Z h x "com/example/purveyor/purveyor/sqlite/QuotedText$Run" "content" "Ljava/lang/String;" (.ref so) ∧ Fld Z h x "com/example/purveyor/purveyor/sqlite/QuotedText$Run" "end" "I" (.int (Int32.ofNat en)) ∧ Exa Z h so "java/lang/String" ∧ Fld Z h so "java/lang/String" "coder" "B" (.int (0 : Int32)) ∧ Fld Z h so "java/lang/String" "value" "[B" (.ref t) ∧ Arv Z h t kb .byte (Int32.ofNat ac.length) (own_by ac) (.int 0) ∧ ∀ c ∈ ac, ¬ c < 0 ∧ ¬ (255 : Int32) < c
theorem d9_0 : decode prog_31_method_2_code 0 = .ok (.aload_n 0, 1) := by decide +kernel
theorem d9_1 : decode prog_31_method_2_code 1 = .ok (.iload_n 1, 1) := by decide +kernel
theorem pd__I_C_221 : parseMethodDescriptor "(I)C" = some ⟨[.int], some .char⟩ := by decide +kernel
theorem d9_2 : decode prog_31_method_2_code 2 = .ok (.invokevirtual 7, 3) := by decide +kernel
theorem d9_5 : decode prog_31_method_2_code 5 = .ok (.istore_n 2, 1) := by decide +kernel
theorem d9_6 : decode prog_31_method_2_code 6 = .ok (.new 13, 3) := by decide +kernel
theorem d9_9 : decode prog_31_method_2_code 9 = .ok (.dup, 1) := by decide +kernel
theorem d9_10 : decode prog_31_method_2_code 10 = .ok (.invokespecial 15, 3) := by decide +kernel
theorem d9_13 : decode prog_31_method_2_code 13 = .ok (.astore_n 3, 1) := by decide +kernel
theorem d9_14 : decode prog_31_method_2_code 14 = .ok (.iload_n 1, 1) := by decide +kernel
theorem d9_15 : decode prog_31_method_2_code 15 = .ok (.iconst 1, 1) := by decide +kernel
theorem d9_16 : decode prog_31_method_2_code 16 = .ok (.iadd, 1) := by decide +kernel
theorem d9_17 : decode prog_31_method_2_code 17 = .ok (.istore 4, 2) := by decide +kernel
theorem d9_19 : decode prog_31_method_2_code 19 = .ok (.aload_n 0, 1) := by decide +kernel
theorem d9_20 : decode prog_31_method_2_code 20 = .ok (.iload_n 2, 1) := by decide +kernel
theorem d9_21 : decode prog_31_method_2_code 21 = .ok (.iload 4, 2) := by decide +kernel
theorem d9_23 : decode prog_31_method_2_code 23 = .ok (.invokevirtual 16, 3) := by decide +kernel
theorem d9_26 : decode prog_31_method_2_code 26 = .ok (.istore 5, 2) := by decide +kernel
theorem d9_28 : decode prog_31_method_2_code 28 = .ok (.iload 5, 2) := by decide +kernel
theorem d9_30 : decode prog_31_method_2_code 30 = .ok (.ifCond .ge 5, 3) := by decide +kernel
theorem d9_33 : decode prog_31_method_2_code 33 = .ok (.aconst_null, 1) := by decide +kernel
theorem d9_34 : decode prog_31_method_2_code 34 = .ok (.areturn, 1) := by decide +kernel
theorem d9_35 : decode prog_31_method_2_code 35 = .ok (.aload_n 3, 1) := by decide +kernel
theorem d9_36 : decode prog_31_method_2_code 36 = .ok (.aload_n 0, 1) := by decide +kernel
theorem d9_37 : decode prog_31_method_2_code 37 = .ok (.iload 4, 2) := by decide +kernel
theorem d9_39 : decode prog_31_method_2_code 39 = .ok (.iload 5, 2) := by decide +kernel
theorem pd__Ljava_lang_CharSequence_II_Ljava_lang_StringBuilder__4906 : parseMethodDescriptor "(Ljava/lang/CharSequence;II)Ljava/lang/StringBuilder;" = some ⟨[(.object "java/lang/CharSequence"), .int, .int], some (.object "java/lang/StringBuilder")⟩ := by decide +kernel
theorem d9_41 : decode prog_31_method_2_code 41 = .ok (.invokevirtual 20, 3) := by decide +kernel
theorem d9_44 : decode prog_31_method_2_code 44 = .ok (.pop, 1) := by decide +kernel
theorem d9_45 : decode prog_31_method_2_code 45 = .ok (.iload 5, 2) := by decide +kernel
theorem d9_47 : decode prog_31_method_2_code 47 = .ok (.iconst 1, 1) := by decide +kernel
theorem d9_48 : decode prog_31_method_2_code 48 = .ok (.iadd, 1) := by decide +kernel
theorem d9_49 : decode prog_31_method_2_code 49 = .ok (.istore 4, 2) := by decide +kernel
theorem d9_51 : decode prog_31_method_2_code 51 = .ok (.iload 4, 2) := by decide +kernel
theorem d9_53 : decode prog_31_method_2_code 53 = .ok (.aload_n 0, 1) := by decide +kernel
theorem d9_54 : decode prog_31_method_2_code 54 = .ok (.invokevirtual 24, 3) := by decide +kernel
theorem d9_57 : decode prog_31_method_2_code 57 = .ok (.if_icmp .eq 13, 3) := by decide +kernel
theorem d9_70 : decode prog_31_method_2_code 70 = .ok (.new 28, 3) := by decide +kernel
theorem d9_73 : decode prog_31_method_2_code 73 = .ok (.dup, 1) := by decide +kernel
theorem d9_74 : decode prog_31_method_2_code 74 = .ok (.aload_n 3, 1) := by decide +kernel
theorem pd___Ljava_lang_String__1777 : parseMethodDescriptor "()Ljava/lang/String;" = some ⟨[], some (.object "java/lang/String")⟩ := by decide +kernel
theorem d9_75 : decode prog_31_method_2_code 75 = .ok (.invokevirtual 30, 3) := by decide +kernel
theorem d9_78 : decode prog_31_method_2_code 78 = .ok (.iload 4, 2) := by decide +kernel
theorem pd__Ljava_lang_String_I_V_1936 : parseMethodDescriptor "(Ljava/lang/String;I)V" = some ⟨[(.object "java/lang/String"), .int], none⟩ := by decide +kernel
theorem d9_80 : decode prog_31_method_2_code 80 = .ok (.invokespecial 34, 3) := by decide +kernel
theorem d9_83 : decode prog_31_method_2_code 83 = .ok (.areturn, 1) := by decide +kernel
theorem d9_60 : decode prog_31_method_2_code 60 = .ok (.aload_n 0, 1) := by decide +kernel
theorem d9_61 : decode prog_31_method_2_code 61 = .ok (.iload 4, 2) := by decide +kernel
theorem d9_63 : decode prog_31_method_2_code 63 = .ok (.invokevirtual 7, 3) := by decide +kernel
theorem d9_66 : decode prog_31_method_2_code 66 = .ok (.iload_n 2, 1) := by decide +kernel
theorem d9_67 : decode prog_31_method_2_code 67 = .ok (.if_icmp .eq 17, 3) := by decide +kernel
theorem d9_84 : decode prog_31_method_2_code 84 = .ok (.aload_n 3, 1) := by decide +kernel
theorem d9_85 : decode prog_31_method_2_code 85 = .ok (.iload_n 2, 1) := by decide +kernel
theorem pd__C_Ljava_lang_StringBuilder__2555 : parseMethodDescriptor "(C)Ljava/lang/StringBuilder;" = some ⟨[.char], some (.object "java/lang/StringBuilder")⟩ := by decide +kernel
theorem d9_86 : decode prog_31_method_2_code 86 = .ok (.invokevirtual 37, 3) := by decide +kernel
theorem d9_89 : decode prog_31_method_2_code 89 = .ok (.pop, 1) := by decide +kernel
theorem d9_90 : decode prog_31_method_2_code 90 = .ok (.iinc 4 1, 3) := by decide +kernel
theorem d9_93 : decode prog_31_method_2_code 93 = .ok (.goto (-74), 3) := by decide +kernel
set_option maxRecDepth 65536 in
set_option maxHeartbeats 40000000 in
theorem rm_rd (l : Launch) (Z : State) (a0 : Array Value) (hw : ∀ d ∈ tables_1, d.before a0 Z = true) (ws : List Jvm.Cond) (a1 : Addr) (t1 : Addr) (kb1 : ClassId) (cl : List Int32) (oo : Nat) (cz : Int32) (fS fi : Value) (r : Option (List Int32 × Nat)) (h0 : Heap) (n0 : Nat) (Z0 : n0 ≤ h0.size) (E_a1 : Exa Z h0 a1 "java/lang/String") (F_coder_a1 : Fld Z h0 a1 "java/lang/String" "coder" "B" (.int (0 : Int32))) (F_value_a1 : Fld Z h0 a1 "java/lang/String" "value" "[B" (.ref t1)) (V_t1 : Arv Z h0 t1 kb1 .byte (Int32.ofNat cl.length) (own_by cl) (.int 0)) (hp : ∀ c ∈ cl, ¬ c < 0 ∧ ¬ (255 : Int32) < c) (hl15 : cl.length ≤ 15) (hl : cl.length ≤ 4000) (ho : oo < cl.length) (hrd : own_rd cl (cl.getD oo 0) (cl.length + 1) (oo + 1) [] = r) (S_CS : Sta Z h0 "java/lang/String" "COMPACT_STRINGS" "Z" (.int cz)) (hcs : ¬ cz = (0 : Int32)) (S_SI : Sta Z h0 "jdk/internal/util/Preconditions" "SIOOBE_FORMATTER" "Ljava/util/function/BiFunction;" fS) (hsi : fS.isRef = true) (S_IO : Sta Z h0 "jdk/internal/util/Preconditions" "IOOBE_FORMATTER" "Ljava/util/function/BiFunction;" fi) (hfi : fi.isRef = true) :
    MetFree l (⟨"com/example/purveyor/purveyor/sqlite/QuotedText", "read", "(Ljava/lang/String;I)Lcom/example/purveyor/purveyor/sqlite/QuotedText$Run;"⟩ : MethodName) (head1 (Jvm.Cond.code (⟨"com/example/purveyor/purveyor/sqlite/QuotedText", "read", "(Ljava/lang/String;I)Lcom/example/purveyor/purveyor/sqlite/QuotedText$Run;"⟩ : MethodName) prog_31_method_2_code 6 (some (.object "com/example/purveyor/purveyor/sqlite/QuotedText$Run")) :: ws) ({ frames := 6, cells := 5, slots := 42, locals := 93 } : Room)) (fun a U => a = #[(.ref a1), (.int (Int32.ofNat oo))] ∧ Z.Warmed39 U.vm ∧ U.heap = h0) (fun _ _ _ _ _ => True) (fun _ U o U' => ∃ v L, o = .returned v ∧ Q_rm_rd Z a1 t1 kb1 cl oo cz fS fi r h0 n0 v U'.heap L ∧ FrameEnd U o U' L ({ frames := 6, cells := 5, slots := 42, locals := 93 } : Room).cells ({ frames := 6, cells := 5, slots := 42, locals := 93 } : Room).slots) := by
  refine MetFree.of_bodySF (plainFor_of_name pn_9) hisR ?_
  intro p e s m args below meth c s₁ Bd hml0 hP hK
  obtain ⟨rfl, hZ, hh⟩ := hP
  have hx := Bd.exec
  have hby := Bd.bytes
  have hml : c.maxLocals = 6 := hml0
  have hown : s.vm.findClass "com/example/purveyor/purveyor/sqlite/QuotedText" = some m.cls := findClass_of_methodNamed Bd.named
  have hnm := (name_of_methodNamed Bd.named Bd.method).1
  have X0 : Stand p l e ({ frames := 6, cells := 5, slots := 42, locals := 93 } : Room) s m #[(.ref a1), (.int (Int32.ofNat oo))] below meth c s₁ [] 0 0 := Stand.of_body Bd
  have e0 : s₁.heap = h0 := by rw [← hh, Bd.state]; rfl
  have N0 := Fr.nil n0
  have pre0 : ∀ t, Steps p.tables e below (s₁.setTop (mkF m 0 #[.val (.ref a1), .val (.int (Int32.ofNat oo)), .unset, .unset, .unset, .unset] [])) t → Steps p.tables e below (s₁.setTop (entryFrame m #[(.ref a1), (.int (Int32.ofNat oo))] 6)) t := fun t kt => castTop (ef_rm_rd m a1 (Int32.ofNat oo)) kt
  obtain ⟨cq1, kq1, q1a, q1b, q1c⟩ := isOf hZ e0 E_a1
  obtain ⟨_, _, ⟨T1, L1, k1, n1⟩, -, X1, ⟨Lc1, hQ1, l1, y1, z1⟩, st1⟩ := X0.virtualBack hx (y := (⟨"java/lang/String", "charAt", "(I)C"⟩ : MethodName)) (z := (⟨"java/lang/String", "charAt", "(I)C"⟩ : MethodName)) hown (mvT hZ (hw _ (List.mem_of_getElem? (i := 43) rfl))) (mvT hZ (hw _ (List.mem_of_getElem? (i := 44) rfl))) (notFace_of_selects (args := #[]) (mvT hZ (hw _ (List.mem_of_getElem? (i := 46) rfl)))) (mvT hZ (hw _ (List.mem_of_getElem? (i := 46) rfl))) (mvT hZ (hw _ (List.mem_of_getElem? (i := 45) rfl))) (by decide) (StrChars.Road.chN (W := 0) hZ (fun d hd => hw d (own_wCh d hd)) (kI := 4) (hw _ (List.mem_of_getElem? (i := 7) rfl)) (cs := cl) (i := oo) E_a1 F_value_a1 F_coder_a1 V_t1 (own_cod cl hp) (own_up _ hp) S_CS hcs S_SI hsi hl ho rfl (by decide) (by decide)) q1a q1c (g := (mkF m 2 #[.val (.ref a1), .val (.int (Int32.ofNat oo)), .unset, .unset, .unset, .unset] [(.int (Int32.ofNat oo)), (.ref a1)])) rfl (by rw [hml]; rfl) (Steps.refl _) (argsL := [(.int (Int32.ofNat oo))]) (rest := []) (lenOf pd__I_C_221 rfl) rfl (by show 2 * 0 + _ ≤ _; exact Nat.le_of_eq rfl) (hb hby d9_2) (fun _ _ => ⟨rfl, e0, (by decide : 0 + 0 ≤ _), (by decide : 0 + 0 ≤ _)⟩)
  dsimp only [Pt.U, Pt.locs, Pt.cells, Pt.slots] at X1 l1 y1 z1 st1 hQ1
  subst l1 y1 z1
  obtain ⟨rfl, rfl, e1⟩ := hQ1
  have N1q := Fr.nil n0
  have N1 := Fr.app N0 N1q
  obtain ⟨T2, h2, X2, e2, E2, A2, D2, -, st2⟩ := newO X1 hx hZ hown (hw _ (List.mem_of_getElem? (i := 65) rfl)) (hw _ (List.mem_of_getElem? (i := 66) rfl)) (hw _ (List.mem_of_getElem? (i := 67) rfl)) e1 (g := (mkF m 6 #[.val (.ref a1), .val (.int (Int32.ofNat oo)), .val (.int (cl.getD oo 0)), .unset, .unset, .unset] [])) rfl (hb hby d9_6) (by decide) (by decide)
  obtain ⟨b2, g2⟩ : ∃ z, z = h0.size := ⟨_, rfl⟩
  rw [← g2] at A2 D2 st2
  have sz_b2 : h0.size ≤ b2 := Nat.le_trans (Keep.refl h0 []).1 (Nat.le_of_eq g2.symm)
  have ne_a1_b2 : a1 ≠ b2 := Nat.ne_of_lt (Nat.lt_of_lt_of_le E_a1.lt (Nat.le_of_eq g2.symm))
  have ne_t1_b2 : t1 ≠ b2 := Nat.ne_of_lt (Nat.lt_of_lt_of_le V_t1.lt (Nat.le_of_eq g2.symm))
  have f1 : Sta Z h2 "java/lang/String" "COMPACT_STRINGS" "Z" (.int cz) := S_CS.ext E2
  have f2 : Sta Z h2 "jdk/internal/util/Preconditions" "SIOOBE_FORMATTER" "Ljava/util/function/BiFunction;" fS := S_SI.ext E2
  have f3 : Sta Z h2 "jdk/internal/util/Preconditions" "IOOBE_FORMATTER" "Ljava/util/function/BiFunction;" fi := S_IO.ext E2
  have f4 : Exa Z h2 a1 "java/lang/String" := E_a1.ext E2
  have f5 : Fld Z h2 a1 "java/lang/String" "coder" "B" (.int (0 : Int32)) := F_coder_a1.ext E2
  have f6 : Fld Z h2 a1 "java/lang/String" "value" "[B" (.ref t1) := F_value_a1.ext E2
  have f7 : Arv Z h2 t1 kb1 .byte (Int32.ofNat cl.length) (own_by cl) (.int 0) := V_t1.ext E2
  have f8 : Keep h0 h2 [] := (Keep.refl h0 []).ext E2
  have g_b2 : n0 ≤ b2 := Nat.le_trans Z0 (Nat.le_of_eq g2.symm)
  have Z2 : n0 ≤ h2.size := Nat.le_trans Z0 E2.1
  have F_value_b2 : Fld Z h2 b2 "java/lang/AbstractStringBuilder" "value" "[B" .null := D2 (Or.inl (hw _ (List.mem_of_getElem? (i := 80) rfl))) (ty := (.array .byte)) (by decide)
  have F_coder_b2 : Fld Z h2 b2 "java/lang/AbstractStringBuilder" "coder" "B" (.int (0 : Int32)) := D2 (Or.inl (hw _ (List.mem_of_getElem? (i := 82) rfl))) (ty := .byte) (by decide)
  have F_count_b2 : Fld Z h2 b2 "java/lang/AbstractStringBuilder" "count" "I" (.int (0 : Int32)) := D2 (Or.inl (hw _ (List.mem_of_getElem? (i := 137) rfl))) (ty := .int) (by decide)
  obtain ⟨_, _, ⟨T3, L3, k3, n3⟩, -, X3, ⟨Lc3, hQ3, l3, y3, z3⟩, st3⟩ := X2.specialBack hx (y := (⟨"java/lang/StringBuilder", "<init>", "()V"⟩ : MethodName)) rfl hown (mvT hZ (hw _ (List.mem_of_getElem? (i := 68) rfl))) (mvT hZ (hw _ (List.mem_of_getElem? (i := 69) rfl))) (mvT hZ (hw _ (List.mem_of_getElem? (i := 70) rfl))) (by decide) (backOf (W := 1) (rm_bs l Z a0 hw [] b2 cz h2 n0 Z2 A2 F_value_b2 F_coder_b2 F_count_b2 g_b2 f1 hcs) hZ (hw _ (List.mem_of_getElem? (i := 70) rfl)) (hw _ (List.mem_of_getElem? (i := 67) rfl)) (by decide) (by decide)) (g := (mkF m 10 #[.val (.ref a1), .val (.int (Int32.ofNat oo)), .val (.int (cl.getD oo 0)), .unset, .unset, .unset] [(.ref b2), (.ref b2)])) rfl (by rw [hml]; rfl) (Steps.refl _) (a := b2) (argsL := []) (rest := [(.ref b2)]) (lenOf pd___V_167 rfl) rfl (by show 2 * 0 + _ ≤ _; exact Nat.le_of_eq rfl) (hb hby d9_10) (fun _ _ => ⟨rfl, e2, (by decide : 1 + 1 ≤ _), (by decide : 4 + 16 ≤ _)⟩)
  dsimp only [Pt.U, Pt.locs, Pt.cells, Pt.slots] at X3 l3 y3 z3 st3 hQ3
  subst l3 y3 z3
  obtain ⟨rfl, N3q, K3, vb3, kv3, gg3_vb3, zz3_vb3, fk3_0, fk3_1, fk3_2, fk3_3, fk3_4⟩ := hQ3
  have f9 : Sta Z T3.heap "java/lang/String" "COMPACT_STRINGS" "Z" (.int cz) := own_staK f1 K3 (nsS A2.nostat ns0)
  have f10 : Sta Z T3.heap "jdk/internal/util/Preconditions" "SIOOBE_FORMATTER" "Ljava/util/function/BiFunction;" fS := own_staK f2 K3 (nsS A2.nostat ns0)
  have f11 : Sta Z T3.heap "jdk/internal/util/Preconditions" "IOOBE_FORMATTER" "Ljava/util/function/BiFunction;" fi := own_staK f3 K3 (nsS A2.nostat ns0)
  have f12 : Exa Z T3.heap a1 "java/lang/String" := f4.keep K3
  have f13 : Fld Z T3.heap a1 "java/lang/String" "coder" "B" (.int (0 : Int32)) := f5.keep K3 (by simp [ne_a1_b2])
  have f14 : Fld Z T3.heap a1 "java/lang/String" "value" "[B" (.ref t1) := f6.keep K3 (by simp [ne_a1_b2])
  have f15 : Arv Z T3.heap t1 kb1 .byte (Int32.ofNat cl.length) (own_by cl) (.int 0) := f7.keep K3 (by simp [ne_t1_b2])
  have f16 : Keep h0 T3.heap [] := f8.trans K3 (fun x hx => by cases List.mem_singleton.mp hx; exact Or.inr sz_b2)
  have f17 : n0 ≤ b2 := g_b2
  have Z3 : n0 ≤ T3.heap.size := Nat.le_trans Z2 K3.1
  have ne_a1_vb3 : a1 ≠ vb3 := Nat.ne_of_lt (Nat.lt_of_lt_of_le f6.lt zz3_vb3)
  have ne_t1_vb3 : t1 ≠ vb3 := Nat.ne_of_lt (Nat.lt_of_lt_of_le f7.lt zz3_vb3)
  have ne_b2_vb3 : b2 ≠ vb3 := Nat.ne_of_lt (Nat.lt_of_lt_of_le F_count_b2.lt zz3_vb3)
  have sz_vb3 : h0.size ≤ vb3 := Nat.le_trans f8.1 zz3_vb3
  have N3 := Fr.app N1 N3q
  have pre_4 : ∀ t, Steps p.tables e below (T3.setTop (mkF m 17 #[.val (.ref a1), .val (.int (Int32.ofNat oo)), .val (.int (cl.getD oo 0)), .val (.ref b2), .unset, .unset] [(.int ((Int32.ofNat oo) + (1 : Int32)))])) t → Steps p.tables e below (s₁.setTop (entryFrame m #[(.ref a1), (.int (Int32.ofNat oo))] 6)) t := by
    intro t kt
    refine pre0 _ ?_
    show Steps p.tables e below (s₁.setTop (mkF m 0 #[.val (.ref a1), .val (.int (Int32.ofNat oo)), .unset, .unset, .unset, .unset] [])) _
    refine XS.aloadN X0.here hx rfl (hb hby d9_0) rfl rfl ?_
    show Steps p.tables e below (s₁.setTop (mkF m 1 #[.val (.ref a1), .val (.int (Int32.ofNat oo)), .unset, .unset, .unset, .unset] [(.ref a1)])) _
    refine XS.iloadN X0.here hx rfl (hb hby d9_1) rfl ?_
    show Steps p.tables e below (s₁.setTop (mkF m 2 #[.val (.ref a1), .val (.int (Int32.ofNat oo)), .unset, .unset, .unset, .unset] [(.int (Int32.ofNat oo)), (.ref a1)])) _
    refine st1.trans ?_
    show Steps p.tables e below (T1.setTop (mkF m 5 #[.val (.ref a1), .val (.int (Int32.ofNat oo)), .unset, .unset, .unset, .unset] [(.int (cl.getD oo 0))])) _
    refine XS.istoreN X1.here hx rfl (hb hby d9_5) rfl (l' := #[.val (.ref a1), .val (.int (Int32.ofNat oo)), .val (.int (cl.getD oo 0)), .unset, .unset, .unset]) rfl ?_
    show Steps p.tables e below (T1.setTop (mkF m 6 #[.val (.ref a1), .val (.int (Int32.ofNat oo)), .val (.int (cl.getD oo 0)), .unset, .unset, .unset] [])) _
    refine st2 _ ?_
    show Steps p.tables e below (T2.setTop (mkF m 9 #[.val (.ref a1), .val (.int (Int32.ofNat oo)), .val (.int (cl.getD oo 0)), .unset, .unset, .unset] [(.ref b2)])) _
    refine XS.dup X2.here hx rfl (hb hby d9_9) rfl rfl ?_
    show Steps p.tables e below (T2.setTop (mkF m 10 #[.val (.ref a1), .val (.int (Int32.ofNat oo)), .val (.int (cl.getD oo 0)), .unset, .unset, .unset] [(.ref b2), (.ref b2)])) _
    refine st3.trans ?_
    show Steps p.tables e below (T3.setTop (mkF m 13 #[.val (.ref a1), .val (.int (Int32.ofNat oo)), .val (.int (cl.getD oo 0)), .unset, .unset, .unset] [(.ref b2)])) _
    refine XS.astoreN X3.here hx rfl (hb hby d9_13) rfl rfl (l' := #[.val (.ref a1), .val (.int (Int32.ofNat oo)), .val (.int (cl.getD oo 0)), .val (.ref b2), .unset, .unset]) rfl ?_
    show Steps p.tables e below (T3.setTop (mkF m 14 #[.val (.ref a1), .val (.int (Int32.ofNat oo)), .val (.int (cl.getD oo 0)), .val (.ref b2), .unset, .unset] [])) _
    refine XS.iloadN X3.here hx rfl (hb hby d9_14) rfl ?_
    show Steps p.tables e below (T3.setTop (mkF m 15 #[.val (.ref a1), .val (.int (Int32.ofNat oo)), .val (.int (cl.getD oo 0)), .val (.ref b2), .unset, .unset] [(.int (Int32.ofNat oo))])) _
    refine XS.iconst X3.here hx rfl (hb hby d9_15) ?_
    show Steps p.tables e below (T3.setTop (mkF m 16 #[.val (.ref a1), .val (.int (Int32.ofNat oo)), .val (.int (cl.getD oo 0)), .val (.ref b2), .unset, .unset] [(.int (1 : Int32)), (.int (Int32.ofNat oo))])) _
    refine XS.iadd X3.here hx rfl (hb hby d9_16) rfl ?_
    exact kt
  have pre_5 : ∀ t, Steps p.tables e below (T3.setTop (mkF m 17 #[.val (.ref a1), .val (.int (Int32.ofNat oo)), .val (.int (cl.getD oo 0)), .val (.ref b2), .unset, .unset] [(.int (Int32.ofNat (oo + 1)))])) t → Steps p.tables e below (s₁.setTop (entryFrame m #[(.ref a1), (.int (Int32.ofNat oo))] 6)) t := fun t kt => pre_4 t (by rw [own_succ (show oo + 1 < 2147483648 by omega)]; exact kt)
  have pre_6 : ∀ t, Steps p.tables e below (T3.setTop (mkF m 19 #[.val (.ref a1), .val (.int (Int32.ofNat oo)), .val (.int (cl.getD oo 0)), .val (.ref b2), .val (.int (Int32.ofNat (oo + 1))), .unset] [])) t → Steps p.tables e below (s₁.setTop (entryFrame m #[(.ref a1), (.int (Int32.ofNat oo))] 6)) t := by
    intro t kt
    refine pre_5 _ ?_
    show Steps p.tables e below (T3.setTop (mkF m 17 #[.val (.ref a1), .val (.int (Int32.ofNat oo)), .val (.int (cl.getD oo 0)), .val (.ref b2), .unset, .unset] [(.int (Int32.ofNat (oo + 1)))])) _
    refine XS.istore X3.here hx rfl (hb hby d9_17) rfl (l' := #[.val (.ref a1), .val (.int (Int32.ofNat oo)), .val (.int (cl.getD oo 0)), .val (.ref b2), .val (.int (Int32.ofNat (oo + 1))), .unset]) rfl ?_
    exact kt
  refine own_rec (fun k => ∃ (f : Nat) (acc : List Int32) (s5 : Slot) (TL : State) (hL : Heap) (LL : List Loc), own_rd cl (cl.getD oo 0) (cl.length + 1) (oo + 1) [] = own_rd cl (cl.getD oo 0) k f acc ∧ f ≤ cl.length ∧ acc.length ≤ f ∧ cl.length < f + k ∧ (∀ c ∈ acc, ¬ c < 0 ∧ ¬ (255 : Int32) < c) ∧ (s5 = .unset ∨ ∃ z, s5 = .val (.int z)) ∧ Stand p l e ({ frames := 6, cells := 5, slots := 42, locals := 93 } : Room) s m #[(.ref a1), (.int (Int32.ofNat oo))] below meth c TL LL 2 20 ∧ TL.heap = hL ∧ Fr n0 LL ∧ n0 ≤ hL.size ∧ Sta Z hL "java/lang/String" "COMPACT_STRINGS" "Z" (.int cz) ∧ Sta Z hL "jdk/internal/util/Preconditions" "SIOOBE_FORMATTER" "Ljava/util/function/BiFunction;" fS ∧ Sta Z hL "jdk/internal/util/Preconditions" "IOOBE_FORMATTER" "Ljava/util/function/BiFunction;" fi ∧ Exa Z hL a1 "java/lang/String" ∧ Fld Z hL a1 "java/lang/String" "coder" "B" (.int (0 : Int32)) ∧ Fld Z hL a1 "java/lang/String" "value" "[B" (.ref t1) ∧ Arv Z hL t1 kb1 .byte (Int32.ofNat cl.length) (own_by cl) (.int 0) ∧ Keep h0 hL [] ∧ Exa Z hL b2 "java/lang/StringBuilder" ∧ Fld Z hL b2 "java/lang/AbstractStringBuilder" "value" "[B" (.ref vb3) ∧ Fld Z hL b2 "java/lang/AbstractStringBuilder" "coder" "B" (.int (0 : Int32)) ∧ Fld Z hL b2 "java/lang/AbstractStringBuilder" "count" "I" (.int (Int32.ofNat acc.length)) ∧ Arv Z hL vb3 kv3 .byte (16 : Int32) (own_by acc) (.int 0) ∧ (∀ t, Steps p.tables e below (TL.setTop (mkF m 19 #[.val (.ref a1), .val (.int (Int32.ofNat oo)), .val (.int (cl.getD oo 0)), .val (.ref b2), .val (.int (Int32.ofNat f)), s5] [])) t → Steps p.tables e below (s₁.setTop (entryFrame m #[(.ref a1), (.int (Int32.ofNat oo))] 6)) t)) (cl.length + 1) ⟨oo + 1, [], .unset, T3, T3.heap, _, rfl, by omega, Nat.zero_le _, by omega, (fun c hc => nomatch hc), Or.inl rfl, X3, rfl, N3, Z3, f9, f10, f11, f12, f13, f14, f15, f16, fk3_0, fk3_1, fk3_2, fk3_3, fk3_4, pre_6⟩ ?_
  rintro k ih ⟨f, acc, s5, TL, hL, LL, hinv, hfl, hal, hk, hpa, hs5, XL, eL, NL, ZL, il0, il1, il2, il3, il4, il5, il6, il7, il8, il9, il10, il11, il12, preL⟩
  obtain ⟨cq7, kq7, q7a, q7b, q7c⟩ := isOf hZ eL il3
  obtain ⟨_, _, ⟨T7, L7, k7, n7⟩, -, X7, ⟨Lc7, hQ7, l7, y7, z7⟩, st7⟩ := XL.virtualBack hx (y := (⟨"java/lang/String", "indexOf", "(II)I"⟩ : MethodName)) (z := (⟨"java/lang/String", "indexOf", "(II)I"⟩ : MethodName)) hown (mvT hZ (hw _ (List.mem_of_getElem? (i := 83) rfl))) (mvT hZ (hw _ (List.mem_of_getElem? (i := 84) rfl))) (notFace_of_selects (args := #[]) (mvT hZ (hw _ (List.mem_of_getElem? (i := 86) rfl)))) (mvT hZ (hw _ (List.mem_of_getElem? (i := 86) rfl))) (mvT hZ (hw _ (List.mem_of_getElem? (i := 85) rfl))) (by decide) (backOf (W := 0) (rm_si l Z a0 hw [] a1 (cl.getD oo 0) t1 kb1 cl f cz hL n0 ZL il3 il4 il5 il6 hp hl hfl (own_getD hp ho) il0 hcs) hZ (hw _ (List.mem_of_getElem? (i := 87) rfl)) (hw _ (List.mem_of_getElem? (i := 8) rfl)) (by decide) (by decide)) q7a q7c (g := (mkF m 23 #[.val (.ref a1), .val (.int (Int32.ofNat oo)), .val (.int (cl.getD oo 0)), .val (.ref b2), .val (.int (Int32.ofNat f)), s5] [(.int (Int32.ofNat f)), (.int (cl.getD oo 0)), (.ref a1)])) rfl (by rw [hml]; rfl) (Steps.refl _) (argsL := [(.int (cl.getD oo 0)), (.int (Int32.ofNat f))]) (rest := []) (lenOf pd__II_I_300 rfl) rfl (by show 2 * 0 + _ ≤ _; exact Nat.le_of_eq rfl) (hb hby d9_23) (fun _ _ => ⟨rfl, eL, (by decide : 2 + 0 ≤ _), (by decide : 20 + 0 ≤ _)⟩)
  dsimp only [Pt.U, Pt.locs, Pt.cells, Pt.slots] at X7 l7 y7 z7 st7 hQ7
  subst l7 y7 z7
  obtain ⟨rfl, N7q, e7⟩ := hQ7
  have N7 := Fr.app NL N7q
  have pre_8 : ∀ t, Steps p.tables e below (T7.setTop (mkF m 26 #[.val (.ref a1), .val (.int (Int32.ofNat oo)), .val (.int (cl.getD oo 0)), .val (.ref b2), .val (.int (Int32.ofNat f)), s5] [(.int (own_ix cl (cl.getD oo 0) f))])) t → Steps p.tables e below (s₁.setTop (entryFrame m #[(.ref a1), (.int (Int32.ofNat oo))] 6)) t := by
    intro t kt
    refine preL _ ?_
    show Steps p.tables e below (TL.setTop (mkF m 19 #[.val (.ref a1), .val (.int (Int32.ofNat oo)), .val (.int (cl.getD oo 0)), .val (.ref b2), .val (.int (Int32.ofNat f)), s5] [])) _
    refine XS.aloadN XL.here hx rfl (hb hby d9_19) rfl rfl ?_
    show Steps p.tables e below (TL.setTop (mkF m 20 #[.val (.ref a1), .val (.int (Int32.ofNat oo)), .val (.int (cl.getD oo 0)), .val (.ref b2), .val (.int (Int32.ofNat f)), s5] [(.ref a1)])) _
    refine XS.iloadN XL.here hx rfl (hb hby d9_20) rfl ?_
    show Steps p.tables e below (TL.setTop (mkF m 21 #[.val (.ref a1), .val (.int (Int32.ofNat oo)), .val (.int (cl.getD oo 0)), .val (.ref b2), .val (.int (Int32.ofNat f)), s5] [(.int (cl.getD oo 0)), (.ref a1)])) _
    refine XS.iload XL.here hx rfl (hb hby d9_21) rfl ?_
    show Steps p.tables e below (TL.setTop (mkF m 23 #[.val (.ref a1), .val (.int (Int32.ofNat oo)), .val (.int (cl.getD oo 0)), .val (.ref b2), .val (.int (Int32.ofNat f)), s5] [(.int (Int32.ofNat f)), (.int (cl.getD oo 0)), (.ref a1)])) _
    refine st7.trans ?_
    exact kt
  rcases hfo : own_fo cl (cl.getD oo 0) f with _ | nx
  · have pre_9 : ∀ t, Steps p.tables e below (T7.setTop (mkF m 26 #[.val (.ref a1), .val (.int (Int32.ofNat oo)), .val (.int (cl.getD oo 0)), .val (.ref b2), .val (.int (Int32.ofNat f)), s5] [(.int (-1 : Int32))])) t → Steps p.tables e below (s₁.setTop (entryFrame m #[(.ref a1), (.int (Int32.ofNat oo))] 6)) t := fun t kt => pre_8 t (by rw [own_ix_none hfo]; exact kt)
    obtain ⟨fs, hr, hrun, hended, hW, hsame⟩ := X7.leave (v := some .null) (fun h => by rw [Bd.returns] at h; cases h) (hlocks := Bd.notSynchronized)
    refine ⟨_, _, pre_9 _ ?_, hrun, hended, _, _, rfl, ?_, ⟨_, rfl⟩, hW, hsame.mono (by decide) (by decide)⟩
    · show Steps p.tables e below (T7.setTop (mkF m 26 #[.val (.ref a1), .val (.int (Int32.ofNat oo)), .val (.int (cl.getD oo 0)), .val (.ref b2), .val (.int (Int32.ofNat f)), s5] [(.int (-1 : Int32))])) _
      refine XS.istore X7.here hx rfl (hb hby d9_26) rfl (l' := #[.val (.ref a1), .val (.int (Int32.ofNat oo)), .val (.int (cl.getD oo 0)), .val (.ref b2), .val (.int (Int32.ofNat f)), .val (.int (-1 : Int32))]) (by rcases hs5 with rfl | ⟨z5, rfl⟩ <;> rfl) ?_
      show Steps p.tables e below (T7.setTop (mkF m 28 #[.val (.ref a1), .val (.int (Int32.ofNat oo)), .val (.int (cl.getD oo 0)), .val (.ref b2), .val (.int (Int32.ofNat f)), .val (.int (-1 : Int32))] [])) _
      refine XS.iload X7.here hx rfl (hb hby d9_28) rfl ?_
      show Steps p.tables e below (T7.setTop (mkF m 30 #[.val (.ref a1), .val (.int (Int32.ofNat oo)), .val (.int (cl.getD oo 0)), .val (.ref b2), .val (.int (Int32.ofNat f)), .val (.int (-1 : Int32))] [(.int (-1 : Int32))])) _
      refine XS.ifNo X7.here hx rfl (hb hby d9_30) rfl ((if0 _ _).trans (tlt (by decide : (-1 : Int32) < (0 : Int32))).2.1) ?_
      show Steps p.tables e below (T7.setTop (mkF m 33 #[.val (.ref a1), .val (.int (Int32.ofNat oo)), .val (.int (cl.getD oo 0)), .val (.ref b2), .val (.int (Int32.ofNat f)), .val (.int (-1 : Int32))] [])) _
      refine XS.aconstNull X7.here hx rfl (hb hby d9_33) ?_
      show Steps p.tables e below (T7.setTop (mkF m 34 #[.val (.ref a1), .val (.int (Int32.ofNat oo)), .val (.int (cl.getD oo 0)), .val (.ref b2), .val (.int (Int32.ofNat f)), .val (.int (-1 : Int32))] [.null])) _
      exact X7.areturnOut hx rfl Bd.returns rfl (hb hby d9_34) hr
    · show Q_rm_rd Z a1 t1 kb1 cl oo cz fS fi r h0 n0 _ T7.heap _
      rw [e7]
      have er : r = none := by rw [← hrd, hinv, own_rd_none hfo]
      subst er
      exact ⟨rfl, N7, il7⟩
  · obtain ⟨hn1, hn2, hn3⟩ := own_fo_lt (cl.length - f) f nx (Nat.le_refl _) hfo
    have pre_10 : ∀ t, Steps p.tables e below (T7.setTop (mkF m 26 #[.val (.ref a1), .val (.int (Int32.ofNat oo)), .val (.int (cl.getD oo 0)), .val (.ref b2), .val (.int (Int32.ofNat f)), s5] [(.int (Int32.ofNat nx))])) t → Steps p.tables e below (s₁.setTop (entryFrame m #[(.ref a1), (.int (Int32.ofNat oo))] 6)) t := fun t kt => pre_8 t (by rw [own_ix_some hfo]; exact kt)
    obtain ⟨cq11, kq11, q11a, q11b, q11c⟩ := isOf hZ e7 il8
    obtain ⟨_, _, ⟨T11, L11, k11, n11⟩, -, X11, ⟨Lc11, hQ11, l11, y11, z11⟩, st11⟩ := X7.virtualBack hx (y := (⟨"java/lang/StringBuilder", "append", "(Ljava/lang/CharSequence;II)Ljava/lang/StringBuilder;"⟩ : MethodName)) (z := (⟨"java/lang/StringBuilder", "append", "(Ljava/lang/CharSequence;II)Ljava/lang/StringBuilder;"⟩ : MethodName)) hown (mvT hZ (hw _ (List.mem_of_getElem? (i := 114) rfl))) (mvT hZ (hw _ (List.mem_of_getElem? (i := 115) rfl))) (notFace_of_selects (args := #[]) (mvT hZ (hw _ (List.mem_of_getElem? (i := 117) rfl)))) (mvT hZ (hw _ (List.mem_of_getElem? (i := 117) rfl))) (mvT hZ (hw _ (List.mem_of_getElem? (i := 116) rfl))) (by decide) (backOf (W := 0) (rm_sa l Z a0 hw [] b2 a1 vb3 kv3 acc t1 kb1 cl f nx cz fi hL n0 ZL il8 il9 il10 il11 il12 f17 gg3_vb3 il3 il4 il5 il6 ne_t1_vb3 hp hl hn1 (by omega) (by omega) il0 hcs il2 hfi) hZ (hw _ (List.mem_of_getElem? (i := 118) rfl)) (hw _ (List.mem_of_getElem? (i := 67) rfl)) (by decide) (by decide)) q11a q11c (g := (mkF m 41 #[.val (.ref a1), .val (.int (Int32.ofNat oo)), .val (.int (cl.getD oo 0)), .val (.ref b2), .val (.int (Int32.ofNat f)), .val (.int (Int32.ofNat nx))] [(.int (Int32.ofNat nx)), (.int (Int32.ofNat f)), (.ref a1), (.ref b2)])) rfl (by rw [hml]; rfl) (Steps.refl _) (argsL := [(.ref a1), (.int (Int32.ofNat f)), (.int (Int32.ofNat nx))]) (rest := []) (lenOf pd__Ljava_lang_CharSequence_II_Ljava_lang_StringBuilder__4906 rfl) rfl (by show 2 * 0 + _ ≤ _; exact Nat.le_of_eq rfl) (hb hby d9_41) (fun _ _ => ⟨rfl, e7, (by decide : 2 + 0 ≤ _), (by decide : 20 + 0 ≤ _)⟩)
    dsimp only [Pt.U, Pt.locs, Pt.cells, Pt.slots] at X11 l11 y11 z11 st11 hQ11
    subst l11 y11 z11
    obtain ⟨rfl, N11q, K11, fk11_0, fk11_1, fk11_2, fk11_3, fk11_4⟩ := hQ11
    have f18 : Sta Z T11.heap "java/lang/String" "COMPACT_STRINGS" "Z" (.int cz) := own_staK il0 K11 (nsS il8.nostat (nsS il12.nostat ns0))
    have f19 : Sta Z T11.heap "jdk/internal/util/Preconditions" "SIOOBE_FORMATTER" "Ljava/util/function/BiFunction;" fS := own_staK il1 K11 (nsS il8.nostat (nsS il12.nostat ns0))
    have f20 : Sta Z T11.heap "jdk/internal/util/Preconditions" "IOOBE_FORMATTER" "Ljava/util/function/BiFunction;" fi := own_staK il2 K11 (nsS il8.nostat (nsS il12.nostat ns0))
    have f21 : Exa Z T11.heap a1 "java/lang/String" := il3.keep K11
    have f22 : Fld Z T11.heap a1 "java/lang/String" "coder" "B" (.int (0 : Int32)) := il4.keep K11 (by simp [ne_a1_b2, ne_a1_vb3])
    have f23 : Fld Z T11.heap a1 "java/lang/String" "value" "[B" (.ref t1) := il5.keep K11 (by simp [ne_a1_b2, ne_a1_vb3])
    have f24 : Arv Z T11.heap t1 kb1 .byte (Int32.ofNat cl.length) (own_by cl) (.int 0) := il6.keep K11 (by simp [ne_t1_b2, ne_t1_vb3])
    have f25 : Keep h0 T11.heap [] := il7.trans K11 (fun x hx => (List.mem_cons.mp hx).elim (fun q => by subst q; exact Or.inr sz_b2) (fun hx' => (by cases List.mem_singleton.mp hx'; exact Or.inr sz_vb3)))
    have f26 : n0 ≤ b2 := f17
    have f27 : n0 ≤ vb3 := gg3_vb3
    have Z11 : n0 ≤ T11.heap.size := Nat.le_trans ZL K11.1
    have N11 := Fr.app N7 N11q
    have pre_12 : ∀ t, Steps p.tables e below (T11.setTop (mkF m 49 #[.val (.ref a1), .val (.int (Int32.ofNat oo)), .val (.int (cl.getD oo 0)), .val (.ref b2), .val (.int (Int32.ofNat f)), .val (.int (Int32.ofNat nx))] [(.int ((Int32.ofNat nx) + (1 : Int32)))])) t → Steps p.tables e below (s₁.setTop (entryFrame m #[(.ref a1), (.int (Int32.ofNat oo))] 6)) t := by
      intro t kt
      refine pre_10 _ ?_
      show Steps p.tables e below (T7.setTop (mkF m 26 #[.val (.ref a1), .val (.int (Int32.ofNat oo)), .val (.int (cl.getD oo 0)), .val (.ref b2), .val (.int (Int32.ofNat f)), s5] [(.int (Int32.ofNat nx))])) _
      refine XS.istore X7.here hx rfl (hb hby d9_26) rfl (l' := #[.val (.ref a1), .val (.int (Int32.ofNat oo)), .val (.int (cl.getD oo 0)), .val (.ref b2), .val (.int (Int32.ofNat f)), .val (.int (Int32.ofNat nx))]) (by rcases hs5 with rfl | ⟨z5, rfl⟩ <;> rfl) ?_
      show Steps p.tables e below (T7.setTop (mkF m 28 #[.val (.ref a1), .val (.int (Int32.ofNat oo)), .val (.int (cl.getD oo 0)), .val (.ref b2), .val (.int (Int32.ofNat f)), .val (.int (Int32.ofNat nx))] [])) _
      refine XS.iload X7.here hx rfl (hb hby d9_28) rfl ?_
      show Steps p.tables e below (T7.setTop (mkF m 30 #[.val (.ref a1), .val (.int (Int32.ofNat oo)), .val (.int (cl.getD oo 0)), .val (.ref b2), .val (.int (Int32.ofNat f)), .val (.int (Int32.ofNat nx))] [(.int (Int32.ofNat nx))])) _
      refine XS.ifYes X7.here hx rfl (pc0 := 30) (pc' := 35) rfl (hb hby d9_30) rfl ((if0 _ _).trans (flt (own_nn (show nx < 2147483648 by omega))).2.1) (by decide) (by decide) ?_
      show Steps p.tables e below (T7.setTop (mkF m 35 #[.val (.ref a1), .val (.int (Int32.ofNat oo)), .val (.int (cl.getD oo 0)), .val (.ref b2), .val (.int (Int32.ofNat f)), .val (.int (Int32.ofNat nx))] [])) _
      refine XS.aloadN X7.here hx rfl (hb hby d9_35) rfl rfl ?_
      show Steps p.tables e below (T7.setTop (mkF m 36 #[.val (.ref a1), .val (.int (Int32.ofNat oo)), .val (.int (cl.getD oo 0)), .val (.ref b2), .val (.int (Int32.ofNat f)), .val (.int (Int32.ofNat nx))] [(.ref b2)])) _
      refine XS.aloadN X7.here hx rfl (hb hby d9_36) rfl rfl ?_
      show Steps p.tables e below (T7.setTop (mkF m 37 #[.val (.ref a1), .val (.int (Int32.ofNat oo)), .val (.int (cl.getD oo 0)), .val (.ref b2), .val (.int (Int32.ofNat f)), .val (.int (Int32.ofNat nx))] [(.ref a1), (.ref b2)])) _
      refine XS.iload X7.here hx rfl (hb hby d9_37) rfl ?_
      show Steps p.tables e below (T7.setTop (mkF m 39 #[.val (.ref a1), .val (.int (Int32.ofNat oo)), .val (.int (cl.getD oo 0)), .val (.ref b2), .val (.int (Int32.ofNat f)), .val (.int (Int32.ofNat nx))] [(.int (Int32.ofNat f)), (.ref a1), (.ref b2)])) _
      refine XS.iload X7.here hx rfl (hb hby d9_39) rfl ?_
      show Steps p.tables e below (T7.setTop (mkF m 41 #[.val (.ref a1), .val (.int (Int32.ofNat oo)), .val (.int (cl.getD oo 0)), .val (.ref b2), .val (.int (Int32.ofNat f)), .val (.int (Int32.ofNat nx))] [(.int (Int32.ofNat nx)), (.int (Int32.ofNat f)), (.ref a1), (.ref b2)])) _
      refine st11.trans ?_
      show Steps p.tables e below (T11.setTop (mkF m 44 #[.val (.ref a1), .val (.int (Int32.ofNat oo)), .val (.int (cl.getD oo 0)), .val (.ref b2), .val (.int (Int32.ofNat f)), .val (.int (Int32.ofNat nx))] [(.ref b2)])) _
      refine XS.pop X11.here hx rfl (hb hby d9_44) rfl rfl ?_
      show Steps p.tables e below (T11.setTop (mkF m 45 #[.val (.ref a1), .val (.int (Int32.ofNat oo)), .val (.int (cl.getD oo 0)), .val (.ref b2), .val (.int (Int32.ofNat f)), .val (.int (Int32.ofNat nx))] [])) _
      refine XS.iload X11.here hx rfl (hb hby d9_45) rfl ?_
      show Steps p.tables e below (T11.setTop (mkF m 47 #[.val (.ref a1), .val (.int (Int32.ofNat oo)), .val (.int (cl.getD oo 0)), .val (.ref b2), .val (.int (Int32.ofNat f)), .val (.int (Int32.ofNat nx))] [(.int (Int32.ofNat nx))])) _
      refine XS.iconst X11.here hx rfl (hb hby d9_47) ?_
      show Steps p.tables e below (T11.setTop (mkF m 48 #[.val (.ref a1), .val (.int (Int32.ofNat oo)), .val (.int (cl.getD oo 0)), .val (.ref b2), .val (.int (Int32.ofNat f)), .val (.int (Int32.ofNat nx))] [(.int (1 : Int32)), (.int (Int32.ofNat nx))])) _
      refine XS.iadd X11.here hx rfl (hb hby d9_48) rfl ?_
      exact kt
    have pre_13 : ∀ t, Steps p.tables e below (T11.setTop (mkF m 49 #[.val (.ref a1), .val (.int (Int32.ofNat oo)), .val (.int (cl.getD oo 0)), .val (.ref b2), .val (.int (Int32.ofNat f)), .val (.int (Int32.ofNat nx))] [(.int (Int32.ofNat (nx + 1)))])) t → Steps p.tables e below (s₁.setTop (entryFrame m #[(.ref a1), (.int (Int32.ofNat oo))] 6)) t := fun t kt => pre_12 t (by rw [own_succ (show nx + 1 < 2147483648 by omega)]; exact kt)
    obtain ⟨cq14, kq14, q14a, q14b, q14c⟩ := isOf hZ (rfl : T11.heap = T11.heap) f21
    obtain ⟨_, _, ⟨T14, L14, k14, n14⟩, -, X14, ⟨Lc14, hQ14, l14, y14, z14⟩, st14⟩ := X11.virtualBack hx (y := (⟨"java/lang/String", "length", "()I"⟩ : MethodName)) (z := (⟨"java/lang/String", "length", "()I"⟩ : MethodName)) hown (mvT hZ (hw _ (List.mem_of_getElem? (i := 164) rfl))) (mvT hZ (hw _ (List.mem_of_getElem? (i := 89) rfl))) (notFace_of_selects (args := #[]) (mvT hZ (hw _ (List.mem_of_getElem? (i := 91) rfl)))) (mvT hZ (hw _ (List.mem_of_getElem? (i := 91) rfl))) (mvT hZ (hw _ (List.mem_of_getElem? (i := 90) rfl))) (by decide) (StrChars.Road.lenW (W := 1) hZ (fun d hd => hw d (own_wLen d hd)) (kI := 4) (hw _ (List.mem_of_getElem? (i := 7) rfl)) (cs := cl) f21 f23 f22 f24 (own_cod cl hp) (own_up _ hp) f18 hcs hl (by decide) (by decide)) q14a q14c (g := (mkF m 54 #[.val (.ref a1), .val (.int (Int32.ofNat oo)), .val (.int (cl.getD oo 0)), .val (.ref b2), .val (.int (Int32.ofNat (nx + 1))), .val (.int (Int32.ofNat nx))] [(.ref a1), (.int (Int32.ofNat (nx + 1)))])) rfl (by rw [hml]; rfl) (Steps.refl _) (argsL := []) (rest := [(.int (Int32.ofNat (nx + 1)))]) (lenOf pd___I_154 rfl) rfl (by show 2 * 0 + _ ≤ _; exact Nat.le_of_eq rfl) (hb hby d9_54) (fun _ _ => ⟨rfl, rfl, (by decide : 2 + 0 ≤ _), (by decide : 20 + 0 ≤ _)⟩)
    dsimp only [Pt.U, Pt.locs, Pt.cells, Pt.slots] at X14 l14 y14 z14 st14 hQ14
    subst l14 y14 z14
    obtain ⟨rfl, rfl, e14⟩ := hQ14
    have N14q := Fr.nil n0
    have N14 := Fr.app N11 N14q
    have pre_15 : ∀ t, Steps p.tables e below (T14.setTop (mkF m 57 #[.val (.ref a1), .val (.int (Int32.ofNat oo)), .val (.int (cl.getD oo 0)), .val (.ref b2), .val (.int (Int32.ofNat (nx + 1))), .val (.int (Int32.ofNat nx))] [(.int (Int32.ofNat cl.length)), (.int (Int32.ofNat (nx + 1)))])) t → Steps p.tables e below (s₁.setTop (entryFrame m #[(.ref a1), (.int (Int32.ofNat oo))] 6)) t := by
      intro t kt
      refine pre_13 _ ?_
      show Steps p.tables e below (T11.setTop (mkF m 49 #[.val (.ref a1), .val (.int (Int32.ofNat oo)), .val (.int (cl.getD oo 0)), .val (.ref b2), .val (.int (Int32.ofNat f)), .val (.int (Int32.ofNat nx))] [(.int (Int32.ofNat (nx + 1)))])) _
      refine XS.istore X11.here hx rfl (hb hby d9_49) rfl (l' := #[.val (.ref a1), .val (.int (Int32.ofNat oo)), .val (.int (cl.getD oo 0)), .val (.ref b2), .val (.int (Int32.ofNat (nx + 1))), .val (.int (Int32.ofNat nx))]) rfl ?_
      show Steps p.tables e below (T11.setTop (mkF m 51 #[.val (.ref a1), .val (.int (Int32.ofNat oo)), .val (.int (cl.getD oo 0)), .val (.ref b2), .val (.int (Int32.ofNat (nx + 1))), .val (.int (Int32.ofNat nx))] [])) _
      refine XS.iload X11.here hx rfl (hb hby d9_51) rfl ?_
      show Steps p.tables e below (T11.setTop (mkF m 53 #[.val (.ref a1), .val (.int (Int32.ofNat oo)), .val (.int (cl.getD oo 0)), .val (.ref b2), .val (.int (Int32.ofNat (nx + 1))), .val (.int (Int32.ofNat nx))] [(.int (Int32.ofNat (nx + 1)))])) _
      refine XS.aloadN X11.here hx rfl (hb hby d9_53) rfl rfl ?_
      show Steps p.tables e below (T11.setTop (mkF m 54 #[.val (.ref a1), .val (.int (Int32.ofNat oo)), .val (.int (cl.getD oo 0)), .val (.ref b2), .val (.int (Int32.ofNat (nx + 1))), .val (.int (Int32.ofNat nx))] [(.ref a1), (.int (Int32.ofNat (nx + 1)))])) _
      refine st14.trans ?_
      exact kt
    by_cases hc57 : (Int32.ofNat (nx + 1)) = (Int32.ofNat cl.length)
    · obtain ⟨T16, h16, X16, e16, E16, A16, D16, -, st16⟩ := newO X14 hx hZ hown (hw _ (List.mem_of_getElem? (i := 177) rfl)) (hw _ (List.mem_of_getElem? (i := 178) rfl)) (hw _ (List.mem_of_getElem? (i := 179) rfl)) e14 (g := (mkF m 70 #[.val (.ref a1), .val (.int (Int32.ofNat oo)), .val (.int (cl.getD oo 0)), .val (.ref b2), .val (.int (Int32.ofNat (nx + 1))), .val (.int (Int32.ofNat nx))] [])) rfl (hb hby d9_70) (by decide) (by decide)
      obtain ⟨b16, g16⟩ : ∃ z, z = T11.heap.size := ⟨_, rfl⟩
      rw [← g16] at A16 D16 st16
      have sz_b16 : h0.size ≤ b16 := Nat.le_trans f25.1 (Nat.le_of_eq g16.symm)
      have ne_a1_b16 : a1 ≠ b16 := Nat.ne_of_lt (Nat.lt_of_lt_of_le f21.lt (Nat.le_of_eq g16.symm))
      have ne_b2_b16 : b2 ≠ b16 := Nat.ne_of_lt (Nat.lt_of_lt_of_le fk11_0.lt (Nat.le_of_eq g16.symm))
      have ne_t1_b16 : t1 ≠ b16 := Nat.ne_of_lt (Nat.lt_of_lt_of_le f24.lt (Nat.le_of_eq g16.symm))
      have ne_vb3_b16 : vb3 ≠ b16 := Nat.ne_of_lt (Nat.lt_of_lt_of_le fk11_4.lt (Nat.le_of_eq g16.symm))
      have f28 : Sta Z h16 "java/lang/String" "COMPACT_STRINGS" "Z" (.int cz) := f18.ext E16
      have f29 : Sta Z h16 "jdk/internal/util/Preconditions" "SIOOBE_FORMATTER" "Ljava/util/function/BiFunction;" fS := f19.ext E16
      have f30 : Sta Z h16 "jdk/internal/util/Preconditions" "IOOBE_FORMATTER" "Ljava/util/function/BiFunction;" fi := f20.ext E16
      have f31 : Exa Z h16 a1 "java/lang/String" := f21.ext E16
      have f32 : Fld Z h16 a1 "java/lang/String" "coder" "B" (.int (0 : Int32)) := f22.ext E16
      have f33 : Fld Z h16 a1 "java/lang/String" "value" "[B" (.ref t1) := f23.ext E16
      have f34 : Arv Z h16 t1 kb1 .byte (Int32.ofNat cl.length) (own_by cl) (.int 0) := f24.ext E16
      have f35 : Keep h0 h16 [] := f25.ext E16
      have f36 : n0 ≤ b2 := f26
      have f37 : n0 ≤ vb3 := f27
      have f38 : Exa Z h16 b2 "java/lang/StringBuilder" := fk11_0.ext E16
      have f39 : Fld Z h16 b2 "java/lang/AbstractStringBuilder" "value" "[B" (.ref vb3) := fk11_1.ext E16
      have f40 : Fld Z h16 b2 "java/lang/AbstractStringBuilder" "coder" "B" (.int (0 : Int32)) := fk11_2.ext E16
      have f41 : Fld Z h16 b2 "java/lang/AbstractStringBuilder" "count" "I" (.int (Int32.ofNat (acc ++ own_sl cl f nx).length)) := fk11_3.ext E16
      have f42 : Arv Z h16 vb3 kv3 .byte (16 : Int32) (own_by (acc ++ own_sl cl f nx)) (.int 0) := fk11_4.ext E16
      have g_b16 : n0 ≤ b16 := Nat.le_trans Z11 (Nat.le_of_eq g16.symm)
      have Z16 : n0 ≤ h16.size := Nat.le_trans Z11 E16.1
      have F_content_b16 : Fld Z h16 b16 "com/example/purveyor/purveyor/sqlite/QuotedText$Run" "content" "Ljava/lang/String;" .null := D16 (Or.inr (hw _ (List.mem_of_getElem? (i := 228) rfl))) (ty := (.object "java/lang/String")) (by decide)
      have F_end_b16 : Fld Z h16 b16 "com/example/purveyor/purveyor/sqlite/QuotedText$Run" "end" "I" (.int (0 : Int32)) := D16 (Or.inr (hw _ (List.mem_of_getElem? (i := 230) rfl))) (ty := .int) (by decide)
      obtain ⟨cq17, kq17, q17a, q17b, q17c⟩ := isOf hZ e16 f38
      obtain ⟨_, _, ⟨T17, L17, k17, n17⟩, -, X17, ⟨Lc17, hQ17, l17, y17, z17⟩, st17⟩ := X16.virtualBack hx (y := (⟨"java/lang/StringBuilder", "toString", "()Ljava/lang/String;"⟩ : MethodName)) (z := (⟨"java/lang/StringBuilder", "toString", "()Ljava/lang/String;"⟩ : MethodName)) hown (mvT hZ (hw _ (List.mem_of_getElem? (i := 180) rfl))) (mvT hZ (hw _ (List.mem_of_getElem? (i := 181) rfl))) (notFace_of_selects (args := #[]) (mvT hZ (hw _ (List.mem_of_getElem? (i := 183) rfl)))) (mvT hZ (hw _ (List.mem_of_getElem? (i := 183) rfl))) (mvT hZ (hw _ (List.mem_of_getElem? (i := 182) rfl))) (by decide) (backOf (W := 2) (rm_ts l Z a0 hw [] b2 vb3 kv3 (acc ++ own_sl cl f nx) cz h16 n0 Z16 f38 f39 f40 f41 f42 (by rw [List.length_append, own_slL (by omega)]; omega) f28 hcs) hZ (hw _ (List.mem_of_getElem? (i := 184) rfl)) (hw _ (List.mem_of_getElem? (i := 67) rfl)) (by decide) (by decide)) q17a q17c (g := (mkF m 75 #[.val (.ref a1), .val (.int (Int32.ofNat oo)), .val (.int (cl.getD oo 0)), .val (.ref b2), .val (.int (Int32.ofNat (nx + 1))), .val (.int (Int32.ofNat nx))] [(.ref b2), (.ref b16), (.ref b16)])) rfl (by rw [hml]; rfl) (Steps.refl _) (argsL := []) (rest := [(.ref b16), (.ref b16)]) (lenOf pd___Ljava_lang_String__1777 rfl) rfl (by show 2 * 0 + _ ≤ _; exact Nat.le_of_eq rfl) (hb hby d9_75) (fun _ _ => ⟨rfl, e16, (by decide : 3 + 2 ≤ _), (by decide : 22 + 20 ≤ _)⟩)
      dsimp only [Pt.U, Pt.locs, Pt.cells, Pt.slots] at X17 l17 y17 z17 st17 hQ17
      subst l17 y17 z17
      obtain ⟨so17, sr17, sk17, rfl, N17q, K17, gg17_so17, zz17_so17, gg17_sr17, zz17_sr17, fk17_0, fk17_1, fk17_2, fk17_3⟩ := hQ17
      have f43 : Sta Z T17.heap "java/lang/String" "COMPACT_STRINGS" "Z" (.int cz) := own_sta f28 K17
      have f44 : Sta Z T17.heap "jdk/internal/util/Preconditions" "SIOOBE_FORMATTER" "Ljava/util/function/BiFunction;" fS := own_sta f29 K17
      have f45 : Sta Z T17.heap "jdk/internal/util/Preconditions" "IOOBE_FORMATTER" "Ljava/util/function/BiFunction;" fi := own_sta f30 K17
      have f46 : Exa Z T17.heap a1 "java/lang/String" := f31.keep K17
      have f47 : Fld Z T17.heap a1 "java/lang/String" "coder" "B" (.int (0 : Int32)) := f32.keep K17 (by simp)
      have f48 : Fld Z T17.heap a1 "java/lang/String" "value" "[B" (.ref t1) := f33.keep K17 (by simp)
      have f49 : Arv Z T17.heap t1 kb1 .byte (Int32.ofNat cl.length) (own_by cl) (.int 0) := f34.keep K17 (by simp)
      have f50 : Keep h0 T17.heap [] := f35.trans K17 (fun x hx => by simp at hx)
      have f51 : n0 ≤ b2 := f36
      have f52 : n0 ≤ vb3 := f37
      have f53 : Exa Z T17.heap b2 "java/lang/StringBuilder" := f38.keep K17
      have f54 : Fld Z T17.heap b2 "java/lang/AbstractStringBuilder" "value" "[B" (.ref vb3) := f39.keep K17 (by simp)
      have f55 : Fld Z T17.heap b2 "java/lang/AbstractStringBuilder" "coder" "B" (.int (0 : Int32)) := f40.keep K17 (by simp)
      have f56 : Fld Z T17.heap b2 "java/lang/AbstractStringBuilder" "count" "I" (.int (Int32.ofNat (acc ++ own_sl cl f nx).length)) := f41.keep K17 (by simp)
      have f57 : Arv Z T17.heap vb3 kv3 .byte (16 : Int32) (own_by (acc ++ own_sl cl f nx)) (.int 0) := f42.keep K17 (by simp)
      have f58 : n0 ≤ b16 := g_b16
      have f59 : Exa Z T17.heap b16 "com/example/purveyor/purveyor/sqlite/QuotedText$Run" := A16.keep K17
      have f60 : Fld Z T17.heap b16 "com/example/purveyor/purveyor/sqlite/QuotedText$Run" "content" "Ljava/lang/String;" .null := F_content_b16.keep K17 (by simp)
      have f61 : Fld Z T17.heap b16 "com/example/purveyor/purveyor/sqlite/QuotedText$Run" "end" "I" (.int (0 : Int32)) := F_end_b16.keep K17 (by simp)
      have Z17 : n0 ≤ T17.heap.size := Nat.le_trans Z16 K17.1
      have ne_a1_so17 : a1 ≠ so17 := Nat.ne_of_lt (Nat.lt_of_lt_of_le f33.lt zz17_so17)
      have ne_t1_so17 : t1 ≠ so17 := Nat.ne_of_lt (Nat.lt_of_lt_of_le f34.lt zz17_so17)
      have ne_b2_so17 : b2 ≠ so17 := Nat.ne_of_lt (Nat.lt_of_lt_of_le f41.lt zz17_so17)
      have ne_vb3_so17 : vb3 ≠ so17 := Nat.ne_of_lt (Nat.lt_of_lt_of_le f42.lt zz17_so17)
      have ne_b16_so17 : b16 ≠ so17 := Nat.ne_of_lt (Nat.lt_of_lt_of_le F_end_b16.lt zz17_so17)
      have sz_so17 : h0.size ≤ so17 := Nat.le_trans f35.1 zz17_so17
      have ne_a1_sr17 : a1 ≠ sr17 := Nat.ne_of_lt (Nat.lt_of_lt_of_le f33.lt zz17_sr17)
      have ne_t1_sr17 : t1 ≠ sr17 := Nat.ne_of_lt (Nat.lt_of_lt_of_le f34.lt zz17_sr17)
      have ne_b2_sr17 : b2 ≠ sr17 := Nat.ne_of_lt (Nat.lt_of_lt_of_le f41.lt zz17_sr17)
      have ne_vb3_sr17 : vb3 ≠ sr17 := Nat.ne_of_lt (Nat.lt_of_lt_of_le f42.lt zz17_sr17)
      have ne_b16_sr17 : b16 ≠ sr17 := Nat.ne_of_lt (Nat.lt_of_lt_of_le F_end_b16.lt zz17_sr17)
      have sz_sr17 : h0.size ≤ sr17 := Nat.le_trans f35.1 zz17_sr17
      have N17 := Fr.app N14 N17q
      obtain ⟨_, _, ⟨T18, L18, k18, n18⟩, -, X18, ⟨Lc18, hQ18, l18, y18, z18⟩, st18⟩ := X17.specialBack hx (y := (⟨"com/example/purveyor/purveyor/sqlite/QuotedText$Run", "<init>", "(Ljava/lang/String;I)V"⟩ : MethodName)) rfl hown (mvT hZ (hw _ (List.mem_of_getElem? (i := 218) rfl))) (mvT hZ (hw _ (List.mem_of_getElem? (i := 219) rfl))) (mvT hZ (hw _ (List.mem_of_getElem? (i := 220) rfl))) (by decide) (backOf (W := 1) (rm_ru l Z a0 hw [] b16 so17 (Int32.ofNat (nx + 1)) T17.heap n0 Z17 f59 f60 f61 f58) hZ (hw _ (List.mem_of_getElem? (i := 220) rfl)) (hw _ (List.mem_of_getElem? (i := 179) rfl)) (by decide) (by decide)) (g := (mkF m 80 #[.val (.ref a1), .val (.int (Int32.ofNat oo)), .val (.int (cl.getD oo 0)), .val (.ref b2), .val (.int (Int32.ofNat (nx + 1))), .val (.int (Int32.ofNat nx))] [(.int (Int32.ofNat (nx + 1))), (.ref so17), (.ref b16), (.ref b16)])) rfl (by rw [hml]; rfl) (Steps.refl _) (a := b16) (argsL := [(.ref so17), (.int (Int32.ofNat (nx + 1)))]) (rest := [(.ref b16)]) (lenOf pd__Ljava_lang_String_I_V_1936 rfl) rfl (by show 2 * 0 + _ ≤ _; exact Nat.le_of_eq rfl) (hb hby d9_80) (fun _ _ => ⟨rfl, rfl, (by decide : 5 + 0 ≤ _), (by decide : 42 + 0 ≤ _)⟩)
      dsimp only [Pt.U, Pt.locs, Pt.cells, Pt.slots] at X18 l18 y18 z18 st18 hQ18
      subst l18 y18 z18
      obtain ⟨rfl, N18q, K18, fk18_0, fk18_1, fk18_2⟩ := hQ18
      have f62 : Sta Z T18.heap "java/lang/String" "COMPACT_STRINGS" "Z" (.int cz) := own_staK f43 K18 (nsS f59.nostat ns0)
      have f63 : Sta Z T18.heap "jdk/internal/util/Preconditions" "SIOOBE_FORMATTER" "Ljava/util/function/BiFunction;" fS := own_staK f44 K18 (nsS f59.nostat ns0)
      have f64 : Sta Z T18.heap "jdk/internal/util/Preconditions" "IOOBE_FORMATTER" "Ljava/util/function/BiFunction;" fi := own_staK f45 K18 (nsS f59.nostat ns0)
      have f65 : Exa Z T18.heap a1 "java/lang/String" := f46.keep K18
      have f66 : Fld Z T18.heap a1 "java/lang/String" "coder" "B" (.int (0 : Int32)) := f47.keep K18 (by simp [ne_a1_b16])
      have f67 : Fld Z T18.heap a1 "java/lang/String" "value" "[B" (.ref t1) := f48.keep K18 (by simp [ne_a1_b16])
      have f68 : Arv Z T18.heap t1 kb1 .byte (Int32.ofNat cl.length) (own_by cl) (.int 0) := f49.keep K18 (by simp [ne_t1_b16])
      have f69 : Keep h0 T18.heap [] := f50.trans K18 (fun x hx => by cases List.mem_singleton.mp hx; exact Or.inr sz_b16)
      have f70 : n0 ≤ b2 := f51
      have f71 : n0 ≤ vb3 := f52
      have f72 : Exa Z T18.heap b2 "java/lang/StringBuilder" := f53.keep K18
      have f73 : Fld Z T18.heap b2 "java/lang/AbstractStringBuilder" "value" "[B" (.ref vb3) := f54.keep K18 (by simp [ne_b2_b16])
      have f74 : Fld Z T18.heap b2 "java/lang/AbstractStringBuilder" "coder" "B" (.int (0 : Int32)) := f55.keep K18 (by simp [ne_b2_b16])
      have f75 : Fld Z T18.heap b2 "java/lang/AbstractStringBuilder" "count" "I" (.int (Int32.ofNat (acc ++ own_sl cl f nx).length)) := f56.keep K18 (by simp [ne_b2_b16])
      have f76 : Arv Z T18.heap vb3 kv3 .byte (16 : Int32) (own_by (acc ++ own_sl cl f nx)) (.int 0) := f57.keep K18 (by simp [ne_vb3_b16])
      have f77 : n0 ≤ b16 := f58
      have f78 : Exa Z T18.heap so17 "java/lang/String" := fk17_0.keep K18
      have f79 : Fld Z T18.heap so17 "java/lang/String" "coder" "B" (.int (0 : Int32)) := fk17_1.keep K18 (by simp [(Ne.symm ne_b16_so17)])
      have f80 : Fld Z T18.heap so17 "java/lang/String" "value" "[B" (.ref sr17) := fk17_2.keep K18 (by simp [(Ne.symm ne_b16_so17)])
      have f81 : Arv Z T18.heap sr17 sk17 .byte (Int32.ofNat (acc ++ own_sl cl f nx).length) (own_by (acc ++ own_sl cl f nx)) (.int 0) := fk17_3.keep K18 (by simp [(Ne.symm ne_b16_sr17)])
      have f82 : n0 ≤ so17 := gg17_so17
      have f83 : n0 ≤ sr17 := gg17_sr17
      have Z18 : n0 ≤ T18.heap.size := Nat.le_trans Z17 K18.1
      have N18 := Fr.app N17 N18q
      obtain ⟨fs, hr, hrun, hended, hW, hsame⟩ := X18.leave (v := some (.ref b16)) (fun h => by rw [Bd.returns] at h; cases h) (hlocks := Bd.notSynchronized)
      refine ⟨_, _, pre_15 _ ?_, hrun, hended, _, _, rfl, ?_, ⟨_, rfl⟩, hW, hsame.mono (by decide) (by decide)⟩
      · show Steps p.tables e below (T14.setTop (mkF m 57 #[.val (.ref a1), .val (.int (Int32.ofNat oo)), .val (.int (cl.getD oo 0)), .val (.ref b2), .val (.int (Int32.ofNat (nx + 1))), .val (.int (Int32.ofNat nx))] [(.int (Int32.ofNat cl.length)), (.int (Int32.ofNat (nx + 1)))])) _
        refine XS.icmpYes X14.here hx rfl (pc0 := 57) (pc' := 70) rfl (hb hby d9_57) rfl (teq hc57).1 (by decide) (by decide) ?_
        show Steps p.tables e below (T14.setTop (mkF m 70 #[.val (.ref a1), .val (.int (Int32.ofNat oo)), .val (.int (cl.getD oo 0)), .val (.ref b2), .val (.int (Int32.ofNat (nx + 1))), .val (.int (Int32.ofNat nx))] [])) _
        refine st16 _ ?_
        show Steps p.tables e below (T16.setTop (mkF m 73 #[.val (.ref a1), .val (.int (Int32.ofNat oo)), .val (.int (cl.getD oo 0)), .val (.ref b2), .val (.int (Int32.ofNat (nx + 1))), .val (.int (Int32.ofNat nx))] [(.ref b16)])) _
        refine XS.dup X16.here hx rfl (hb hby d9_73) rfl rfl ?_
        show Steps p.tables e below (T16.setTop (mkF m 74 #[.val (.ref a1), .val (.int (Int32.ofNat oo)), .val (.int (cl.getD oo 0)), .val (.ref b2), .val (.int (Int32.ofNat (nx + 1))), .val (.int (Int32.ofNat nx))] [(.ref b16), (.ref b16)])) _
        refine XS.aloadN X16.here hx rfl (hb hby d9_74) rfl rfl ?_
        show Steps p.tables e below (T16.setTop (mkF m 75 #[.val (.ref a1), .val (.int (Int32.ofNat oo)), .val (.int (cl.getD oo 0)), .val (.ref b2), .val (.int (Int32.ofNat (nx + 1))), .val (.int (Int32.ofNat nx))] [(.ref b2), (.ref b16), (.ref b16)])) _
        refine st17.trans ?_
        show Steps p.tables e below (T17.setTop (mkF m 78 #[.val (.ref a1), .val (.int (Int32.ofNat oo)), .val (.int (cl.getD oo 0)), .val (.ref b2), .val (.int (Int32.ofNat (nx + 1))), .val (.int (Int32.ofNat nx))] [(.ref so17), (.ref b16), (.ref b16)])) _
        refine XS.iload X17.here hx rfl (hb hby d9_78) rfl ?_
        show Steps p.tables e below (T17.setTop (mkF m 80 #[.val (.ref a1), .val (.int (Int32.ofNat oo)), .val (.int (cl.getD oo 0)), .val (.ref b2), .val (.int (Int32.ofNat (nx + 1))), .val (.int (Int32.ofNat nx))] [(.int (Int32.ofNat (nx + 1))), (.ref so17), (.ref b16), (.ref b16)])) _
        refine st18.trans ?_
        show Steps p.tables e below (T18.setTop (mkF m 83 #[.val (.ref a1), .val (.int (Int32.ofNat oo)), .val (.int (cl.getD oo 0)), .val (.ref b2), .val (.int (Int32.ofNat (nx + 1))), .val (.int (Int32.ofNat nx))] [(.ref b16)])) _
        exact X18.areturnOut hx rfl Bd.returns rfl (hb hby d9_83) hr
      · show Q_rm_rd Z a1 t1 kb1 cl oo cz fS fi r h0 n0 _ T18.heap _
        have er : r = some ((acc ++ own_sl cl f nx), nx + 1) := by rw [← hrd, hinv, own_rd_end (by omega) hfo (Or.inl (own_eqN (by omega) (by omega) hc57))]
        subst er
        exact ⟨b16, so17, sr17, sk17, rfl, N18, f69, fk18_0, fk18_1, fk18_2, f78, f79, f80, f81, own_pa1 hpa (own_slP hp f nx)⟩
    · obtain ⟨cq19, kq19, q19a, q19b, q19c⟩ := isOf hZ e14 f21
      obtain ⟨_, _, ⟨T19, L19, k19, n19⟩, -, X19, ⟨Lc19, hQ19, l19, y19, z19⟩, st19⟩ := X14.virtualBack hx (y := (⟨"java/lang/String", "charAt", "(I)C"⟩ : MethodName)) (z := (⟨"java/lang/String", "charAt", "(I)C"⟩ : MethodName)) hown (mvT hZ (hw _ (List.mem_of_getElem? (i := 43) rfl))) (mvT hZ (hw _ (List.mem_of_getElem? (i := 44) rfl))) (notFace_of_selects (args := #[]) (mvT hZ (hw _ (List.mem_of_getElem? (i := 46) rfl)))) (mvT hZ (hw _ (List.mem_of_getElem? (i := 46) rfl))) (mvT hZ (hw _ (List.mem_of_getElem? (i := 45) rfl))) (by decide) (StrChars.Road.chN (W := 0) hZ (fun d hd => hw d (own_wCh d hd)) (kI := 4) (hw _ (List.mem_of_getElem? (i := 7) rfl)) (cs := cl) (i := (nx + 1)) f21 f23 f22 f24 (own_cod cl hp) (own_up _ hp) f18 hcs f19 hsi hl (own_nl1 hn2 (by omega) hc57) rfl (by decide) (by decide)) q19a q19c (g := (mkF m 63 #[.val (.ref a1), .val (.int (Int32.ofNat oo)), .val (.int (cl.getD oo 0)), .val (.ref b2), .val (.int (Int32.ofNat (nx + 1))), .val (.int (Int32.ofNat nx))] [(.int (Int32.ofNat (nx + 1))), (.ref a1)])) rfl (by rw [hml]; rfl) (Steps.refl _) (argsL := [(.int (Int32.ofNat (nx + 1)))]) (rest := []) (lenOf pd__I_C_221 rfl) rfl (by show 2 * 0 + _ ≤ _; exact Nat.le_of_eq rfl) (hb hby d9_63) (fun _ _ => ⟨rfl, e14, (by decide : 2 + 0 ≤ _), (by decide : 20 + 0 ≤ _)⟩)
      dsimp only [Pt.U, Pt.locs, Pt.cells, Pt.slots] at X19 l19 y19 z19 st19 hQ19
      subst l19 y19 z19
      obtain ⟨rfl, rfl, e19⟩ := hQ19
      have N19q := Fr.nil n0
      have N19 := Fr.app N14 N19q
      have pre_20 : ∀ t, Steps p.tables e below (T19.setTop (mkF m 67 #[.val (.ref a1), .val (.int (Int32.ofNat oo)), .val (.int (cl.getD oo 0)), .val (.ref b2), .val (.int (Int32.ofNat (nx + 1))), .val (.int (Int32.ofNat nx))] [(.int (cl.getD oo 0)), (.int (cl.getD (nx + 1) 0))])) t → Steps p.tables e below (s₁.setTop (entryFrame m #[(.ref a1), (.int (Int32.ofNat oo))] 6)) t := by
        intro t kt
        refine pre_15 _ ?_
        show Steps p.tables e below (T14.setTop (mkF m 57 #[.val (.ref a1), .val (.int (Int32.ofNat oo)), .val (.int (cl.getD oo 0)), .val (.ref b2), .val (.int (Int32.ofNat (nx + 1))), .val (.int (Int32.ofNat nx))] [(.int (Int32.ofNat cl.length)), (.int (Int32.ofNat (nx + 1)))])) _
        refine XS.icmpNo X14.here hx rfl (hb hby d9_57) rfl (feq hc57).1 ?_
        show Steps p.tables e below (T14.setTop (mkF m 60 #[.val (.ref a1), .val (.int (Int32.ofNat oo)), .val (.int (cl.getD oo 0)), .val (.ref b2), .val (.int (Int32.ofNat (nx + 1))), .val (.int (Int32.ofNat nx))] [])) _
        refine XS.aloadN X14.here hx rfl (hb hby d9_60) rfl rfl ?_
        show Steps p.tables e below (T14.setTop (mkF m 61 #[.val (.ref a1), .val (.int (Int32.ofNat oo)), .val (.int (cl.getD oo 0)), .val (.ref b2), .val (.int (Int32.ofNat (nx + 1))), .val (.int (Int32.ofNat nx))] [(.ref a1)])) _
        refine XS.iload X14.here hx rfl (hb hby d9_61) rfl ?_
        show Steps p.tables e below (T14.setTop (mkF m 63 #[.val (.ref a1), .val (.int (Int32.ofNat oo)), .val (.int (cl.getD oo 0)), .val (.ref b2), .val (.int (Int32.ofNat (nx + 1))), .val (.int (Int32.ofNat nx))] [(.int (Int32.ofNat (nx + 1))), (.ref a1)])) _
        refine st19.trans ?_
        show Steps p.tables e below (T19.setTop (mkF m 66 #[.val (.ref a1), .val (.int (Int32.ofNat oo)), .val (.int (cl.getD oo 0)), .val (.ref b2), .val (.int (Int32.ofNat (nx + 1))), .val (.int (Int32.ofNat nx))] [(.int (cl.getD (nx + 1) 0))])) _
        refine XS.iloadN X19.here hx rfl (hb hby d9_66) rfl ?_
        exact kt
      by_cases hc67 : (cl.getD (nx + 1) 0) = (cl.getD oo 0)
      · have hgo : ¬ (nx + 1 = cl.length ∨ ¬ cl.getD (nx + 1) 0 = (cl.getD oo 0)) := fun q => q.elim (fun q => hc57 (by rw [q])) (fun q => q hc67)
        obtain ⟨cq21, kq21, q21a, q21b, q21c⟩ := isOf hZ e19 fk11_0
        obtain ⟨_, _, ⟨T21, L21, k21, n21⟩, -, X21, ⟨Lc21, hQ21, l21, y21, z21⟩, st21⟩ := X19.virtualBack hx (y := (⟨"java/lang/StringBuilder", "append", "(C)Ljava/lang/StringBuilder;"⟩ : MethodName)) (z := (⟨"java/lang/StringBuilder", "append", "(C)Ljava/lang/StringBuilder;"⟩ : MethodName)) hown (mvT hZ (hw _ (List.mem_of_getElem? (i := 165) rfl))) (mvT hZ (hw _ (List.mem_of_getElem? (i := 166) rfl))) (notFace_of_selects (args := #[]) (mvT hZ (hw _ (List.mem_of_getElem? (i := 168) rfl)))) (mvT hZ (hw _ (List.mem_of_getElem? (i := 168) rfl))) (mvT hZ (hw _ (List.mem_of_getElem? (i := 167) rfl))) (by decide) (backOf (W := 0) (rm_sp l Z a0 hw [] b2 (cl.getD oo 0) vb3 kv3 (acc ++ own_sl cl f nx) cz T11.heap n0 Z11 fk11_0 fk11_1 fk11_2 fk11_3 fk11_4 f26 f27 (own_getD hp ho) (by rw [List.length_append, own_slL (by omega)]; omega) f18 hcs) hZ (hw _ (List.mem_of_getElem? (i := 169) rfl)) (hw _ (List.mem_of_getElem? (i := 67) rfl)) (by decide) (by decide)) q21a q21c (g := (mkF m 86 #[.val (.ref a1), .val (.int (Int32.ofNat oo)), .val (.int (cl.getD oo 0)), .val (.ref b2), .val (.int (Int32.ofNat (nx + 1))), .val (.int (Int32.ofNat nx))] [(.int (cl.getD oo 0)), (.ref b2)])) rfl (by rw [hml]; rfl) (Steps.refl _) (argsL := [(.int (cl.getD oo 0))]) (rest := []) (lenOf pd__C_Ljava_lang_StringBuilder__2555 rfl) rfl (by show 2 * 0 + _ ≤ _; exact Nat.le_of_eq rfl) (hb hby d9_86) (fun _ _ => ⟨rfl, e19, (by decide : 2 + 0 ≤ _), (by decide : 20 + 0 ≤ _)⟩)
        dsimp only [Pt.U, Pt.locs, Pt.cells, Pt.slots] at X21 l21 y21 z21 st21 hQ21
        subst l21 y21 z21
        obtain ⟨rfl, N21q, K21, fk21_0, fk21_1, fk21_2, fk21_3, fk21_4⟩ := hQ21
        have f84 : Sta Z T21.heap "java/lang/String" "COMPACT_STRINGS" "Z" (.int cz) := own_staK f18 K21 (nsS fk11_0.nostat (nsS fk11_4.nostat ns0))
        have f85 : Sta Z T21.heap "jdk/internal/util/Preconditions" "SIOOBE_FORMATTER" "Ljava/util/function/BiFunction;" fS := own_staK f19 K21 (nsS fk11_0.nostat (nsS fk11_4.nostat ns0))
        have f86 : Sta Z T21.heap "jdk/internal/util/Preconditions" "IOOBE_FORMATTER" "Ljava/util/function/BiFunction;" fi := own_staK f20 K21 (nsS fk11_0.nostat (nsS fk11_4.nostat ns0))
        have f87 : Exa Z T21.heap a1 "java/lang/String" := f21.keep K21
        have f88 : Fld Z T21.heap a1 "java/lang/String" "coder" "B" (.int (0 : Int32)) := f22.keep K21 (by simp [ne_a1_b2, ne_a1_vb3])
        have f89 : Fld Z T21.heap a1 "java/lang/String" "value" "[B" (.ref t1) := f23.keep K21 (by simp [ne_a1_b2, ne_a1_vb3])
        have f90 : Arv Z T21.heap t1 kb1 .byte (Int32.ofNat cl.length) (own_by cl) (.int 0) := f24.keep K21 (by simp [ne_t1_b2, ne_t1_vb3])
        have f91 : Keep h0 T21.heap [] := f25.trans K21 (fun x hx => (List.mem_cons.mp hx).elim (fun q => by subst q; exact Or.inr sz_b2) (fun hx' => (by cases List.mem_singleton.mp hx'; exact Or.inr sz_vb3)))
        have f92 : n0 ≤ b2 := f26
        have f93 : n0 ≤ vb3 := f27
        have Z21 : n0 ≤ T21.heap.size := Nat.le_trans Z11 K21.1
        have N21 := Fr.app N19 N21q
        have pre_22 : ∀ t, Steps p.tables e below (T21.setTop (mkF m 19 #[.val (.ref a1), .val (.int (Int32.ofNat oo)), .val (.int (cl.getD oo 0)), .val (.ref b2), .val (.int ((Int32.ofNat (nx + 1)) + (1 : Int32))), .val (.int (Int32.ofNat nx))] [])) t → Steps p.tables e below (s₁.setTop (entryFrame m #[(.ref a1), (.int (Int32.ofNat oo))] 6)) t := by
          intro t kt
          refine pre_20 _ ?_
          show Steps p.tables e below (T19.setTop (mkF m 67 #[.val (.ref a1), .val (.int (Int32.ofNat oo)), .val (.int (cl.getD oo 0)), .val (.ref b2), .val (.int (Int32.ofNat (nx + 1))), .val (.int (Int32.ofNat nx))] [(.int (cl.getD oo 0)), (.int (cl.getD (nx + 1) 0))])) _
          refine XS.icmpYes X19.here hx rfl (pc0 := 67) (pc' := 84) rfl (hb hby d9_67) rfl (teq hc67).1 (by decide) (by decide) ?_
          show Steps p.tables e below (T19.setTop (mkF m 84 #[.val (.ref a1), .val (.int (Int32.ofNat oo)), .val (.int (cl.getD oo 0)), .val (.ref b2), .val (.int (Int32.ofNat (nx + 1))), .val (.int (Int32.ofNat nx))] [])) _
          refine XS.aloadN X19.here hx rfl (hb hby d9_84) rfl rfl ?_
          show Steps p.tables e below (T19.setTop (mkF m 85 #[.val (.ref a1), .val (.int (Int32.ofNat oo)), .val (.int (cl.getD oo 0)), .val (.ref b2), .val (.int (Int32.ofNat (nx + 1))), .val (.int (Int32.ofNat nx))] [(.ref b2)])) _
          refine XS.iloadN X19.here hx rfl (hb hby d9_85) rfl ?_
          show Steps p.tables e below (T19.setTop (mkF m 86 #[.val (.ref a1), .val (.int (Int32.ofNat oo)), .val (.int (cl.getD oo 0)), .val (.ref b2), .val (.int (Int32.ofNat (nx + 1))), .val (.int (Int32.ofNat nx))] [(.int (cl.getD oo 0)), (.ref b2)])) _
          refine st21.trans ?_
          show Steps p.tables e below (T21.setTop (mkF m 89 #[.val (.ref a1), .val (.int (Int32.ofNat oo)), .val (.int (cl.getD oo 0)), .val (.ref b2), .val (.int (Int32.ofNat (nx + 1))), .val (.int (Int32.ofNat nx))] [(.ref b2)])) _
          refine XS.pop X21.here hx rfl (hb hby d9_89) rfl rfl ?_
          show Steps p.tables e below (T21.setTop (mkF m 90 #[.val (.ref a1), .val (.int (Int32.ofNat oo)), .val (.int (cl.getD oo 0)), .val (.ref b2), .val (.int (Int32.ofNat (nx + 1))), .val (.int (Int32.ofNat nx))] [])) _
          refine XS.iinc X21.here hx rfl (hb hby d9_90) rfl (l' := #[.val (.ref a1), .val (.int (Int32.ofNat oo)), .val (.int (cl.getD oo 0)), .val (.ref b2), .val (.int ((Int32.ofNat (nx + 1)) + (1 : Int32))), .val (.int (Int32.ofNat nx))]) rfl ?_
          show Steps p.tables e below (T21.setTop (mkF m 93 #[.val (.ref a1), .val (.int (Int32.ofNat oo)), .val (.int (cl.getD oo 0)), .val (.ref b2), .val (.int ((Int32.ofNat (nx + 1)) + (1 : Int32))), .val (.int (Int32.ofNat nx))] [])) _
          refine XS.goto X21.here hx rfl (pc0 := 93) (pc' := 19) rfl (hb hby d9_93) (by decide) (by decide) ?_
          exact kt
        exact ih (k - 1) (by omega) ⟨nx + 2, _, .val (.int (Int32.ofNat nx)), T21, T21.heap, _, by rw [hinv, own_rd_go (by omega) hfo hgo], by omega, by rw [List.length_append, List.length_append, own_slL (by omega)]; show _ + 1 ≤ _; omega, by omega, own_pa2 hpa (own_slP hp f nx) (own_getD hp ho), Or.inr ⟨_, rfl⟩, X21, rfl, N21, Z21, f84, f85, f86, f87, f88, f89, f90, f91, fk21_0, fk21_1, fk21_2, fk21_3, fk21_4, fun t kt => pre_22 t (by rw [own_succ (show nx + 1 + 1 < 2147483648 by omega)]; exact kt)⟩
      · obtain ⟨T23, h23, X23, e23, E23, A23, D23, -, st23⟩ := newO X19 hx hZ hown (hw _ (List.mem_of_getElem? (i := 177) rfl)) (hw _ (List.mem_of_getElem? (i := 178) rfl)) (hw _ (List.mem_of_getElem? (i := 179) rfl)) e19 (g := (mkF m 70 #[.val (.ref a1), .val (.int (Int32.ofNat oo)), .val (.int (cl.getD oo 0)), .val (.ref b2), .val (.int (Int32.ofNat (nx + 1))), .val (.int (Int32.ofNat nx))] [])) rfl (hb hby d9_70) (by decide) (by decide)
        obtain ⟨b23, g23⟩ : ∃ z, z = T11.heap.size := ⟨_, rfl⟩
        rw [← g23] at A23 D23 st23
        have sz_b23 : h0.size ≤ b23 := Nat.le_trans f25.1 (Nat.le_of_eq g23.symm)
        have ne_a1_b23 : a1 ≠ b23 := Nat.ne_of_lt (Nat.lt_of_lt_of_le f21.lt (Nat.le_of_eq g23.symm))
        have ne_b2_b23 : b2 ≠ b23 := Nat.ne_of_lt (Nat.lt_of_lt_of_le fk11_0.lt (Nat.le_of_eq g23.symm))
        have ne_t1_b23 : t1 ≠ b23 := Nat.ne_of_lt (Nat.lt_of_lt_of_le f24.lt (Nat.le_of_eq g23.symm))
        have ne_vb3_b23 : vb3 ≠ b23 := Nat.ne_of_lt (Nat.lt_of_lt_of_le fk11_4.lt (Nat.le_of_eq g23.symm))
        have f94 : Sta Z h23 "java/lang/String" "COMPACT_STRINGS" "Z" (.int cz) := f18.ext E23
        have f95 : Sta Z h23 "jdk/internal/util/Preconditions" "SIOOBE_FORMATTER" "Ljava/util/function/BiFunction;" fS := f19.ext E23
        have f96 : Sta Z h23 "jdk/internal/util/Preconditions" "IOOBE_FORMATTER" "Ljava/util/function/BiFunction;" fi := f20.ext E23
        have f97 : Exa Z h23 a1 "java/lang/String" := f21.ext E23
        have f98 : Fld Z h23 a1 "java/lang/String" "coder" "B" (.int (0 : Int32)) := f22.ext E23
        have f99 : Fld Z h23 a1 "java/lang/String" "value" "[B" (.ref t1) := f23.ext E23
        have f100 : Arv Z h23 t1 kb1 .byte (Int32.ofNat cl.length) (own_by cl) (.int 0) := f24.ext E23
        have f101 : Keep h0 h23 [] := f25.ext E23
        have f102 : n0 ≤ b2 := f26
        have f103 : n0 ≤ vb3 := f27
        have f104 : Exa Z h23 b2 "java/lang/StringBuilder" := fk11_0.ext E23
        have f105 : Fld Z h23 b2 "java/lang/AbstractStringBuilder" "value" "[B" (.ref vb3) := fk11_1.ext E23
        have f106 : Fld Z h23 b2 "java/lang/AbstractStringBuilder" "coder" "B" (.int (0 : Int32)) := fk11_2.ext E23
        have f107 : Fld Z h23 b2 "java/lang/AbstractStringBuilder" "count" "I" (.int (Int32.ofNat (acc ++ own_sl cl f nx).length)) := fk11_3.ext E23
        have f108 : Arv Z h23 vb3 kv3 .byte (16 : Int32) (own_by (acc ++ own_sl cl f nx)) (.int 0) := fk11_4.ext E23
        have g_b23 : n0 ≤ b23 := Nat.le_trans Z11 (Nat.le_of_eq g23.symm)
        have Z23 : n0 ≤ h23.size := Nat.le_trans Z11 E23.1
        have F_content_b23 : Fld Z h23 b23 "com/example/purveyor/purveyor/sqlite/QuotedText$Run" "content" "Ljava/lang/String;" .null := D23 (Or.inr (hw _ (List.mem_of_getElem? (i := 228) rfl))) (ty := (.object "java/lang/String")) (by decide)
        have F_end_b23 : Fld Z h23 b23 "com/example/purveyor/purveyor/sqlite/QuotedText$Run" "end" "I" (.int (0 : Int32)) := D23 (Or.inr (hw _ (List.mem_of_getElem? (i := 230) rfl))) (ty := .int) (by decide)
        obtain ⟨cq24, kq24, q24a, q24b, q24c⟩ := isOf hZ e23 f104
        obtain ⟨_, _, ⟨T24, L24, k24, n24⟩, -, X24, ⟨Lc24, hQ24, l24, y24, z24⟩, st24⟩ := X23.virtualBack hx (y := (⟨"java/lang/StringBuilder", "toString", "()Ljava/lang/String;"⟩ : MethodName)) (z := (⟨"java/lang/StringBuilder", "toString", "()Ljava/lang/String;"⟩ : MethodName)) hown (mvT hZ (hw _ (List.mem_of_getElem? (i := 180) rfl))) (mvT hZ (hw _ (List.mem_of_getElem? (i := 181) rfl))) (notFace_of_selects (args := #[]) (mvT hZ (hw _ (List.mem_of_getElem? (i := 183) rfl)))) (mvT hZ (hw _ (List.mem_of_getElem? (i := 183) rfl))) (mvT hZ (hw _ (List.mem_of_getElem? (i := 182) rfl))) (by decide) (backOf (W := 2) (rm_ts l Z a0 hw [] b2 vb3 kv3 (acc ++ own_sl cl f nx) cz h23 n0 Z23 f104 f105 f106 f107 f108 (by rw [List.length_append, own_slL (by omega)]; omega) f94 hcs) hZ (hw _ (List.mem_of_getElem? (i := 184) rfl)) (hw _ (List.mem_of_getElem? (i := 67) rfl)) (by decide) (by decide)) q24a q24c (g := (mkF m 75 #[.val (.ref a1), .val (.int (Int32.ofNat oo)), .val (.int (cl.getD oo 0)), .val (.ref b2), .val (.int (Int32.ofNat (nx + 1))), .val (.int (Int32.ofNat nx))] [(.ref b2), (.ref b23), (.ref b23)])) rfl (by rw [hml]; rfl) (Steps.refl _) (argsL := []) (rest := [(.ref b23), (.ref b23)]) (lenOf pd___Ljava_lang_String__1777 rfl) rfl (by show 2 * 0 + _ ≤ _; exact Nat.le_of_eq rfl) (hb hby d9_75) (fun _ _ => ⟨rfl, e23, (by decide : 3 + 2 ≤ _), (by decide : 22 + 20 ≤ _)⟩)
        dsimp only [Pt.U, Pt.locs, Pt.cells, Pt.slots] at X24 l24 y24 z24 st24 hQ24
        subst l24 y24 z24
        obtain ⟨so24, sr24, sk24, rfl, N24q, K24, gg24_so24, zz24_so24, gg24_sr24, zz24_sr24, fk24_0, fk24_1, fk24_2, fk24_3⟩ := hQ24
        have f109 : Sta Z T24.heap "java/lang/String" "COMPACT_STRINGS" "Z" (.int cz) := own_sta f94 K24
        have f110 : Sta Z T24.heap "jdk/internal/util/Preconditions" "SIOOBE_FORMATTER" "Ljava/util/function/BiFunction;" fS := own_sta f95 K24
        have f111 : Sta Z T24.heap "jdk/internal/util/Preconditions" "IOOBE_FORMATTER" "Ljava/util/function/BiFunction;" fi := own_sta f96 K24
        have f112 : Exa Z T24.heap a1 "java/lang/String" := f97.keep K24
        have f113 : Fld Z T24.heap a1 "java/lang/String" "coder" "B" (.int (0 : Int32)) := f98.keep K24 (by simp)
        have f114 : Fld Z T24.heap a1 "java/lang/String" "value" "[B" (.ref t1) := f99.keep K24 (by simp)
        have f115 : Arv Z T24.heap t1 kb1 .byte (Int32.ofNat cl.length) (own_by cl) (.int 0) := f100.keep K24 (by simp)
        have f116 : Keep h0 T24.heap [] := f101.trans K24 (fun x hx => by simp at hx)
        have f117 : n0 ≤ b2 := f102
        have f118 : n0 ≤ vb3 := f103
        have f119 : Exa Z T24.heap b2 "java/lang/StringBuilder" := f104.keep K24
        have f120 : Fld Z T24.heap b2 "java/lang/AbstractStringBuilder" "value" "[B" (.ref vb3) := f105.keep K24 (by simp)
        have f121 : Fld Z T24.heap b2 "java/lang/AbstractStringBuilder" "coder" "B" (.int (0 : Int32)) := f106.keep K24 (by simp)
        have f122 : Fld Z T24.heap b2 "java/lang/AbstractStringBuilder" "count" "I" (.int (Int32.ofNat (acc ++ own_sl cl f nx).length)) := f107.keep K24 (by simp)
        have f123 : Arv Z T24.heap vb3 kv3 .byte (16 : Int32) (own_by (acc ++ own_sl cl f nx)) (.int 0) := f108.keep K24 (by simp)
        have f124 : n0 ≤ b23 := g_b23
        have f125 : Exa Z T24.heap b23 "com/example/purveyor/purveyor/sqlite/QuotedText$Run" := A23.keep K24
        have f126 : Fld Z T24.heap b23 "com/example/purveyor/purveyor/sqlite/QuotedText$Run" "content" "Ljava/lang/String;" .null := F_content_b23.keep K24 (by simp)
        have f127 : Fld Z T24.heap b23 "com/example/purveyor/purveyor/sqlite/QuotedText$Run" "end" "I" (.int (0 : Int32)) := F_end_b23.keep K24 (by simp)
        have Z24 : n0 ≤ T24.heap.size := Nat.le_trans Z23 K24.1
        have ne_a1_so24 : a1 ≠ so24 := Nat.ne_of_lt (Nat.lt_of_lt_of_le f99.lt zz24_so24)
        have ne_t1_so24 : t1 ≠ so24 := Nat.ne_of_lt (Nat.lt_of_lt_of_le f100.lt zz24_so24)
        have ne_b2_so24 : b2 ≠ so24 := Nat.ne_of_lt (Nat.lt_of_lt_of_le f107.lt zz24_so24)
        have ne_vb3_so24 : vb3 ≠ so24 := Nat.ne_of_lt (Nat.lt_of_lt_of_le f108.lt zz24_so24)
        have ne_b23_so24 : b23 ≠ so24 := Nat.ne_of_lt (Nat.lt_of_lt_of_le F_end_b23.lt zz24_so24)
        have sz_so24 : h0.size ≤ so24 := Nat.le_trans f101.1 zz24_so24
        have ne_a1_sr24 : a1 ≠ sr24 := Nat.ne_of_lt (Nat.lt_of_lt_of_le f99.lt zz24_sr24)
        have ne_t1_sr24 : t1 ≠ sr24 := Nat.ne_of_lt (Nat.lt_of_lt_of_le f100.lt zz24_sr24)
        have ne_b2_sr24 : b2 ≠ sr24 := Nat.ne_of_lt (Nat.lt_of_lt_of_le f107.lt zz24_sr24)
        have ne_vb3_sr24 : vb3 ≠ sr24 := Nat.ne_of_lt (Nat.lt_of_lt_of_le f108.lt zz24_sr24)
        have ne_b23_sr24 : b23 ≠ sr24 := Nat.ne_of_lt (Nat.lt_of_lt_of_le F_end_b23.lt zz24_sr24)
        have sz_sr24 : h0.size ≤ sr24 := Nat.le_trans f101.1 zz24_sr24
        have N24 := Fr.app N19 N24q
        obtain ⟨_, _, ⟨T25, L25, k25, n25⟩, -, X25, ⟨Lc25, hQ25, l25, y25, z25⟩, st25⟩ := X24.specialBack hx (y := (⟨"com/example/purveyor/purveyor/sqlite/QuotedText$Run", "<init>", "(Ljava/lang/String;I)V"⟩ : MethodName)) rfl hown (mvT hZ (hw _ (List.mem_of_getElem? (i := 218) rfl))) (mvT hZ (hw _ (List.mem_of_getElem? (i := 219) rfl))) (mvT hZ (hw _ (List.mem_of_getElem? (i := 220) rfl))) (by decide) (backOf (W := 1) (rm_ru l Z a0 hw [] b23 so24 (Int32.ofNat (nx + 1)) T24.heap n0 Z24 f125 f126 f127 f124) hZ (hw _ (List.mem_of_getElem? (i := 220) rfl)) (hw _ (List.mem_of_getElem? (i := 179) rfl)) (by decide) (by decide)) (g := (mkF m 80 #[.val (.ref a1), .val (.int (Int32.ofNat oo)), .val (.int (cl.getD oo 0)), .val (.ref b2), .val (.int (Int32.ofNat (nx + 1))), .val (.int (Int32.ofNat nx))] [(.int (Int32.ofNat (nx + 1))), (.ref so24), (.ref b23), (.ref b23)])) rfl (by rw [hml]; rfl) (Steps.refl _) (a := b23) (argsL := [(.ref so24), (.int (Int32.ofNat (nx + 1)))]) (rest := [(.ref b23)]) (lenOf pd__Ljava_lang_String_I_V_1936 rfl) rfl (by show 2 * 0 + _ ≤ _; exact Nat.le_of_eq rfl) (hb hby d9_80) (fun _ _ => ⟨rfl, rfl, (by decide : 5 + 0 ≤ _), (by decide : 42 + 0 ≤ _)⟩)
        dsimp only [Pt.U, Pt.locs, Pt.cells, Pt.slots] at X25 l25 y25 z25 st25 hQ25
        subst l25 y25 z25
        obtain ⟨rfl, N25q, K25, fk25_0, fk25_1, fk25_2⟩ := hQ25
        have f128 : Sta Z T25.heap "java/lang/String" "COMPACT_STRINGS" "Z" (.int cz) := own_staK f109 K25 (nsS f125.nostat ns0)
        have f129 : Sta Z T25.heap "jdk/internal/util/Preconditions" "SIOOBE_FORMATTER" "Ljava/util/function/BiFunction;" fS := own_staK f110 K25 (nsS f125.nostat ns0)
        have f130 : Sta Z T25.heap "jdk/internal/util/Preconditions" "IOOBE_FORMATTER" "Ljava/util/function/BiFunction;" fi := own_staK f111 K25 (nsS f125.nostat ns0)
        have f131 : Exa Z T25.heap a1 "java/lang/String" := f112.keep K25
        have f132 : Fld Z T25.heap a1 "java/lang/String" "coder" "B" (.int (0 : Int32)) := f113.keep K25 (by simp [ne_a1_b23])
        have f133 : Fld Z T25.heap a1 "java/lang/String" "value" "[B" (.ref t1) := f114.keep K25 (by simp [ne_a1_b23])
        have f134 : Arv Z T25.heap t1 kb1 .byte (Int32.ofNat cl.length) (own_by cl) (.int 0) := f115.keep K25 (by simp [ne_t1_b23])
        have f135 : Keep h0 T25.heap [] := f116.trans K25 (fun x hx => by cases List.mem_singleton.mp hx; exact Or.inr sz_b23)
        have f136 : n0 ≤ b2 := f117
        have f137 : n0 ≤ vb3 := f118
        have f138 : Exa Z T25.heap b2 "java/lang/StringBuilder" := f119.keep K25
        have f139 : Fld Z T25.heap b2 "java/lang/AbstractStringBuilder" "value" "[B" (.ref vb3) := f120.keep K25 (by simp [ne_b2_b23])
        have f140 : Fld Z T25.heap b2 "java/lang/AbstractStringBuilder" "coder" "B" (.int (0 : Int32)) := f121.keep K25 (by simp [ne_b2_b23])
        have f141 : Fld Z T25.heap b2 "java/lang/AbstractStringBuilder" "count" "I" (.int (Int32.ofNat (acc ++ own_sl cl f nx).length)) := f122.keep K25 (by simp [ne_b2_b23])
        have f142 : Arv Z T25.heap vb3 kv3 .byte (16 : Int32) (own_by (acc ++ own_sl cl f nx)) (.int 0) := f123.keep K25 (by simp [ne_vb3_b23])
        have f143 : n0 ≤ b23 := f124
        have f144 : Exa Z T25.heap so24 "java/lang/String" := fk24_0.keep K25
        have f145 : Fld Z T25.heap so24 "java/lang/String" "coder" "B" (.int (0 : Int32)) := fk24_1.keep K25 (by simp [(Ne.symm ne_b23_so24)])
        have f146 : Fld Z T25.heap so24 "java/lang/String" "value" "[B" (.ref sr24) := fk24_2.keep K25 (by simp [(Ne.symm ne_b23_so24)])
        have f147 : Arv Z T25.heap sr24 sk24 .byte (Int32.ofNat (acc ++ own_sl cl f nx).length) (own_by (acc ++ own_sl cl f nx)) (.int 0) := fk24_3.keep K25 (by simp [(Ne.symm ne_b23_sr24)])
        have f148 : n0 ≤ so24 := gg24_so24
        have f149 : n0 ≤ sr24 := gg24_sr24
        have Z25 : n0 ≤ T25.heap.size := Nat.le_trans Z24 K25.1
        have N25 := Fr.app N24 N25q
        obtain ⟨fs, hr, hrun, hended, hW, hsame⟩ := X25.leave (v := some (.ref b23)) (fun h => by rw [Bd.returns] at h; cases h) (hlocks := Bd.notSynchronized)
        refine ⟨_, _, pre_20 _ ?_, hrun, hended, _, _, rfl, ?_, ⟨_, rfl⟩, hW, hsame.mono (by decide) (by decide)⟩
        · show Steps p.tables e below (T19.setTop (mkF m 67 #[.val (.ref a1), .val (.int (Int32.ofNat oo)), .val (.int (cl.getD oo 0)), .val (.ref b2), .val (.int (Int32.ofNat (nx + 1))), .val (.int (Int32.ofNat nx))] [(.int (cl.getD oo 0)), (.int (cl.getD (nx + 1) 0))])) _
          refine XS.icmpNo X19.here hx rfl (hb hby d9_67) rfl (feq hc67).1 ?_
          show Steps p.tables e below (T19.setTop (mkF m 70 #[.val (.ref a1), .val (.int (Int32.ofNat oo)), .val (.int (cl.getD oo 0)), .val (.ref b2), .val (.int (Int32.ofNat (nx + 1))), .val (.int (Int32.ofNat nx))] [])) _
          refine st23 _ ?_
          show Steps p.tables e below (T23.setTop (mkF m 73 #[.val (.ref a1), .val (.int (Int32.ofNat oo)), .val (.int (cl.getD oo 0)), .val (.ref b2), .val (.int (Int32.ofNat (nx + 1))), .val (.int (Int32.ofNat nx))] [(.ref b23)])) _
          refine XS.dup X23.here hx rfl (hb hby d9_73) rfl rfl ?_
          show Steps p.tables e below (T23.setTop (mkF m 74 #[.val (.ref a1), .val (.int (Int32.ofNat oo)), .val (.int (cl.getD oo 0)), .val (.ref b2), .val (.int (Int32.ofNat (nx + 1))), .val (.int (Int32.ofNat nx))] [(.ref b23), (.ref b23)])) _
          refine XS.aloadN X23.here hx rfl (hb hby d9_74) rfl rfl ?_
          show Steps p.tables e below (T23.setTop (mkF m 75 #[.val (.ref a1), .val (.int (Int32.ofNat oo)), .val (.int (cl.getD oo 0)), .val (.ref b2), .val (.int (Int32.ofNat (nx + 1))), .val (.int (Int32.ofNat nx))] [(.ref b2), (.ref b23), (.ref b23)])) _
          refine st24.trans ?_
          show Steps p.tables e below (T24.setTop (mkF m 78 #[.val (.ref a1), .val (.int (Int32.ofNat oo)), .val (.int (cl.getD oo 0)), .val (.ref b2), .val (.int (Int32.ofNat (nx + 1))), .val (.int (Int32.ofNat nx))] [(.ref so24), (.ref b23), (.ref b23)])) _
          refine XS.iload X24.here hx rfl (hb hby d9_78) rfl ?_
          show Steps p.tables e below (T24.setTop (mkF m 80 #[.val (.ref a1), .val (.int (Int32.ofNat oo)), .val (.int (cl.getD oo 0)), .val (.ref b2), .val (.int (Int32.ofNat (nx + 1))), .val (.int (Int32.ofNat nx))] [(.int (Int32.ofNat (nx + 1))), (.ref so24), (.ref b23), (.ref b23)])) _
          refine st25.trans ?_
          show Steps p.tables e below (T25.setTop (mkF m 83 #[.val (.ref a1), .val (.int (Int32.ofNat oo)), .val (.int (cl.getD oo 0)), .val (.ref b2), .val (.int (Int32.ofNat (nx + 1))), .val (.int (Int32.ofNat nx))] [(.ref b23)])) _
          exact X25.areturnOut hx rfl Bd.returns rfl (hb hby d9_83) hr
        · show Q_rm_rd Z a1 t1 kb1 cl oo cz fS fi r h0 n0 _ T25.heap _
          have er : r = some ((acc ++ own_sl cl f nx), nx + 1) := by rw [← hrd, hinv, own_rd_end (by omega) hfo (Or.inr hc67)]
          subst er
          exact ⟨b23, so24, sr24, sk24, rfl, N25, f135, fk25_0, fk25_1, fk25_2, f144, f145, f146, f147, own_pa1 hpa (own_slP hp f nx)⟩
abbrev own_in (c : Int32) : Prop := ¬ c < 0 ∧ ¬ (255 : Int32) < c
theorem own_nch {c : Int32} (h : own_in c) : nar .char c = c := by
  obtain ⟨h1, h2⟩ := h
  show c.toUInt32.toUInt16.toUInt32.toInt32 = c
  have h3 := c_i2c c
  rw [Int32.lt_iff_toInt_lt] at h1 h2
  have e1 : (255 : Int32).toInt = 255 := by decide
  have e0 : (0 : Int32).toInt = 0 := by decide
  apply Int32.toInt_inj.mp
  omega
theorem own_nc {c : Int32} (h : own_in c) : own_in (nar .char c) := by rw [own_nch h]; exact h
theorem own_b8 (x : Int32) : own_in ((x &&& (255 : Int32)).toUInt32.toUInt16.toUInt32.toInt32) := by
  have h := c_mask x 255 8 (by decide) (by decide)
  have e : ((2 ^ 8 : Nat) : Int) = 256 := by decide
  rw [e] at h
  have h3 := c_i2c (x &&& 255)
  unfold own_in
  rw [Int32.lt_iff_toInt_lt, Int32.lt_iff_toInt_lt]
  have e1 : (255 : Int32).toInt = 255 := by decide
  have e0 : (0 : Int32).toInt = 0 := by decide
  omega
theorem own_open (y : Int32) : ∃ o : Nat, o < 6 ∧ ((y &&& (65535 : Int32)) - ((y &&& (65535 : Int32)) / (6 : Int32)) * (6 : Int32)) = Int32.ofNat o := by
  have h := c_mask y 65535 16 (by decide) (by decide)
  have e : ((2 ^ 16 : Nat) : Int) = 65536 := by decide
  rw [e] at h
  generalize y &&& (65535 : Int32) = x at h ⊢
  have hx : 0 ≤ x.toInt ∧ x.toInt < 65536 := by omega
  have h1 := (c_idiv x 6 6 (by decide) (by decide)).1 hx.1
  have h2 := c_imul (x / 6) 6
  have h3 := c_isub x (x / 6 * 6)
  have r1 := rng32 (x / 6 * 6)
  have r2 := rng32 (x - x / 6 * 6)
  have e6 : (6 : Int32).toInt = 6 := by decide
  rw [e6] at h2
  have hv : 0 ≤ (x - x / 6 * 6).toInt ∧ (x - x / 6 * 6).toInt < 6 := by omega
  refine ⟨(x - x / 6 * 6).toInt.toNat, by omega, ?_⟩
  apply Int32.toInt_inj.mp
  rw [own_ti (by omega)]
  omega
/-! what the law's own scan makes of one char -/
def own_s1 (q c : Int32) (i : Nat) (s : Int32 × Int32 × List Int32) : Int32 × Int32 × List Int32 :=
  if s.1 = 2 then s else if s.1 = 0 then (if c = q then (1, s.2.1, s.2.2) else (s.1, s.2.1, s.2.2 ++ [c])) else (if c = q then (0, s.2.1, s.2.2 ++ [q]) else (2, Int32.ofNat i, s.2.2))
def own_step (cl : List Int32) (q : Int32) (o i : Nat) (s : Int32 × Int32 × List Int32) : Int32 × Int32 × List Int32 := if o < i then own_s1 q (cl.getD i 0) i s else s
def own_go (q : Int32) : List Int32 → Nat → Int32 × Int32 × List Int32 → Int32 × Int32 × List Int32
  | [], _, s => s
  | c :: cs, i, s => own_go q cs (i + 1) (own_s1 q c i s)
theorem own_stepL (cl : List Int32) (q : Int32) (o i : Nat) (s : Int32 × Int32 × List Int32) : (own_step cl q o i s).2.2.length ≤ s.2.2.length + 1 := by
  unfold own_step own_s1
  split <;> (try split) <;> (try split) <;> (try split) <;> simp
theorem own_go2 (q : Int32) : ∀ (cs : List Int32) (i : Nat) (s : Int32 × Int32 × List Int32), s.1 = 2 → own_go q cs i s = s
  | [], _, _, _ => rfl
  | c :: cs, i, s, h => by
    have e : own_s1 q c i s = s := by rw [own_s1, if_pos h]
    show own_go q cs (i + 1) (own_s1 q c i s) = s
    rw [e]
    exact own_go2 q cs (i + 1) s h
theorem own_five {cl : List Int32} {q : Int32} {o : Nat} (ho : o < 6) (hcl : cl.length = 6) (s : Int32 × Int32 × List Int32) :
    own_step cl q o 5 (own_step cl q o 4 (own_step cl q o 3 (own_step cl q o 2 (own_step cl q o 1 s)))) = own_go q (cl.drop (o + 1)) (o + 1) s := by
  match cl, hcl with
  | [c0, c1, c2, c3, c4, c5], _ =>
    match o, ho with
    | 0, _ => simp [own_step, own_go]
    | 1, _ => simp [own_step, own_go]
    | 2, _ => simp [own_step, own_go]
    | 3, _ => simp [own_step, own_go]
    | 4, _ => simp [own_step, own_go]
    | 5, _ => simp [own_step, own_go]
theorem own_s1a {q c e : Int32} {i : Nat} {acc : List Int32} (h : c = q) : own_s1 q c i (0, e, acc) = (1, e, acc) := by
  show (if (0 : Int32) = 2 then _ else if (0 : Int32) = 0 then (if c = q then _ else _) else _) = _
  rw [if_neg (by decide), if_pos rfl, if_pos h]
theorem own_s1b {q c e : Int32} {i : Nat} {acc : List Int32} (h : ¬ c = q) : own_s1 q c i (0, e, acc) = (0, e, acc ++ [c]) := by
  show (if (0 : Int32) = 2 then _ else if (0 : Int32) = 0 then (if c = q then _ else _) else _) = _
  rw [if_neg (by decide), if_pos rfl, if_neg h]
theorem own_s1c {q c e : Int32} {i : Nat} {acc : List Int32} (h : c = q) : own_s1 q c i (1, e, acc) = (0, e, acc ++ [q]) := by
  show (if (1 : Int32) = 2 then _ else if (1 : Int32) = 0 then _ else (if c = q then _ else _)) = _
  rw [if_neg (by decide), if_neg (by decide), if_pos h]
theorem own_s1d {q c e : Int32} {i : Nat} {acc : List Int32} (h : ¬ c = q) : own_s1 q c i (1, e, acc) = (2, Int32.ofNat i, acc) := by
  show (if (1 : Int32) = 2 then _ else if (1 : Int32) = 0 then _ else (if c = q then _ else _)) = _
  rw [if_neg (by decide), if_neg (by decide), if_neg h]
theorem own_dropC {cl : List Int32} {f : Nat} (h : f < cl.length) : cl.drop f = cl.getD f 0 :: cl.drop (f + 1) := by
  rw [List.drop_eq_getElem_cons h]
  simp [List.getD_eq_getElem?_getD, h]
theorem own_slC {cl : List Int32} {f nx : Nat} (h : f < cl.length) (hn : f + 1 ≤ nx) : own_sl cl f nx = cl.getD f 0 :: own_sl cl (f + 1) nx := by
  unfold own_sl
  rw [own_dropC h, show nx - f = (nx - (f + 1)) + 1 by omega, List.take_succ_cons]
theorem own_sl0 (cl : List Int32) (f : Nat) : own_sl cl f f = [] := by simp [own_sl]
theorem own_rd_miss {cl : List Int32} {q : Int32} {f : Nat} (h : f < cl.length) (e : ¬ cl.getD f 0 = q) : ∀ (k : Nat) (acc : List Int32), own_rd cl q k f acc = own_rd cl q k (f + 1) (acc ++ [cl.getD f 0])
  | 0, _ => rfl
  | k + 1, acc => by
    rcases hf : own_fo cl q (f + 1) with _ | nx
    · rw [own_rd_none hf, own_rd_none (by rw [own_fo_miss h e]; exact hf)]
    · have hf' : own_fo cl q f = some nx := by rw [own_fo_miss h e]; exact hf
      have hle := (own_fo_lt _ (f + 1) nx (Nat.le_refl _) hf).1
      have es : acc ++ own_sl cl f nx = acc ++ [cl.getD f 0] ++ own_sl cl (f + 1) nx := by rw [own_slC h hle]; simp
      by_cases c : nx + 1 = cl.length ∨ ¬ cl.getD (nx + 1) 0 = q
      · rw [own_rd_end (by omega) hf' c, own_rd_end (by omega) hf c, es]
      · rw [own_rd_go (by omega) hf' c, own_rd_go (by omega) hf c, es]
def own_ok (cl : List Int32) (s : Int32 × Int32 × List Int32) : Option (List Int32 × Nat) → Prop
  | none => s.1 = 0
  | some (ac, en) => ((s.1 = 1 ∧ en = cl.length) ∨ (s.1 = 2 ∧ s.2.1 = Int32.ofNat en)) ∧ s.2.2 = ac
theorem own_main0 (cl : List Int32) (q : Int32) : ∀ (n f k : Nat) (e : Int32) (acc : List Int32), cl.length - f ≤ n → f ≤ cl.length → cl.length < f + k → own_ok cl (own_go q (cl.drop f) f (0, e, acc)) (own_rd cl q k f acc)
  | n, f, k, e, acc, hn, hf, hk => by
    by_cases h : f < cl.length
    · have n1 : 1 ≤ n := by omega
      obtain ⟨n', rfl⟩ : ∃ n', n = n' + 1 := ⟨n - 1, by omega⟩
      rw [own_dropC h]
      show own_ok cl (own_go q (cl.drop (f + 1)) (f + 1) (own_s1 q (cl.getD f 0) f (0, e, acc))) _
      by_cases c : cl.getD f 0 = q
      · have e1 : own_s1 q (cl.getD f 0) f (0, e, acc) = (1, e, acc) := own_s1a c
        have ef := own_fo_hit h c
        rw [e1]
        by_cases d : f + 1 < cl.length
        · rw [own_dropC d]
          show own_ok cl (own_go q (cl.drop (f + 1 + 1)) (f + 1 + 1) (own_s1 q (cl.getD (f + 1) 0) (f + 1) (1, e, acc))) _
          by_cases g : cl.getD (f + 1) 0 = q
          · have e2 : own_s1 q (cl.getD (f + 1) 0) (f + 1) (1, e, acc) = (0, e, acc ++ [q]) := own_s1c g
            rw [e2, own_rd_go (by omega) ef (fun z => z.elim (fun z => by omega) (fun z => z g)), own_sl0, List.append_nil]
            exact own_main0 cl q n' (f + 2) (k - 1) e (acc ++ [q]) (by omega) (by omega) (by omega)
          · have e2 : own_s1 q (cl.getD (f + 1) 0) (f + 1) (1, e, acc) = (2, Int32.ofNat (f + 1), acc) := own_s1d g
            rw [e2, own_go2 q _ _ _ rfl, own_rd_end (by omega) ef (Or.inr g), own_sl0, List.append_nil]
            exact ⟨Or.inr ⟨rfl, rfl⟩, rfl⟩
        · rw [List.drop_eq_nil_of_le (by omega), own_rd_end (by omega) ef (Or.inl (by omega)), own_sl0, List.append_nil]
          exact ⟨Or.inl ⟨rfl, by omega⟩, rfl⟩
      · have e1 : own_s1 q (cl.getD f 0) f (0, e, acc) = (0, e, acc ++ [cl.getD f 0]) := own_s1b c
        rw [e1, own_rd_miss h c]
        exact own_main0 cl q n' (f + 1) k e (acc ++ [cl.getD f 0]) (by omega) (by omega) (by omega)
    · rw [List.drop_eq_nil_of_le (by omega), own_rd_none (own_fo_end (by omega))]
      rfl
termination_by n => n
theorem own_main {cl : List Int32} {q : Int32} {o : Nat} (ho : o < 6) (hcl : cl.length = 6) {s1 s2 s3 s4 s5 : Int32 × Int32 × List Int32} (e1 : s1 = own_step cl q o 1 (0, 0, [])) (e2 : s2 = own_step cl q o 2 s1) (e3 : s3 = own_step cl q o 3 s2) (e4 : s4 = own_step cl q o 4 s3) (e5 : s5 = own_step cl q o 5 s4) :
    own_ok cl s5 (own_rd cl q 7 (o + 1) []) := by
  rw [e5, e4, e3, e2, e1, own_five ho hcl]
  exact own_main0 cl q (cl.length - (o + 1)) (o + 1) 7 0 [] (Nat.le_refl _) (by omega) (by omega)
theorem own_mapAt (cl : List Int32) {i : Nat} (hi : i < 2147483648) : (cl.map Value.int).getD (Int32.ofNat i).toNatClampNeg (.int 0) = .int (cl.getD i 0) := by
  rw [own_tn hi]
  by_cases h : i < cl.length
  · simp [List.getD_eq_getElem?_getD, h]
  · simp [List.getD_eq_getElem?_getD, h]
theorem own_setC {ac : List Int32} {x : Int32} (hx : own_in x) : ((ac.map Value.int ++ List.replicate 1 (Value.int 0)).set ac.length (Value.int (nar .char x))) = (ac ++ [x]).map Value.int := by
  rw [own_nch hx, List.map_append, List.set_append_right _ _ (by simp), List.length_map, Nat.sub_self]
  rfl
theorem own_text {o : Nat} {q w0 w1 w2 w3 w4 w5 : Int32} (ho : o < 6) (hq : own_in q) (h0 : own_in w0) (h1 : own_in w1) (h2 : own_in w2) (h3 : own_in w3) (h4 : own_in w4) (h5 : own_in w5) :
    ∃ cl : List Int32, cl.length = 6 ∧ cl.getD o 0 = q ∧ (∀ c ∈ cl, ¬ c < 0 ∧ ¬ (255 : Int32) < c) ∧ [Value.int w0, Value.int w1, Value.int w2, Value.int w3, Value.int w4, Value.int w5].set o (Value.int (nar .char q)) = cl.map Value.int := by
  refine ⟨[w0, w1, w2, w3, w4, w5].set o q, by simp, by simp [List.getD_eq_getElem?_getD, ho], ?_, ?_⟩
  · intro c hc
    rcases List.mem_or_eq_of_mem_set hc with hc | rfl
    · simp only [List.mem_cons, List.mem_nil_iff, or_false] at hc
      rcases hc with rfl | rfl | rfl | rfl | rfl | rfl <;> assumption
    · exact hq
  · rw [own_nch hq, List.map_set]
    rfl

theorem pn_1 : plainName "com/example/purveyor/purveyor/sqlite/QuotedTextReadPinLaw" = true := by first | (simp [plainName, overriddenIn]; done) | decide +kernel
theorem ef_rm_pk (m : MethodId) (x0 : Int32) (x1 : Int32) (x2 : Int32) (x3 : Int32) : entryFrame m #[(.int x0), (.int x1), (.int x2), (.int x3)] 4 = mkF m 0 #[.val (.int x0), .val (.int x1), .val (.int x2), .val (.int x3)] [] := by first | (simp [entryFrame, mkF, argsToLocals, Value.category]; done) | rfl
def Q_rm_pk (Z : State) (p1 : Int32) (p2 : Int32) (p3 : Int32) (p4 : Int32) (h0 : Heap) (n0 : Nat) (v : Option Value) (h : Heap) (L : List Loc) : Prop := ∃ w : Int32, v = some (.int w) ∧ Fr n0 L ∧ h = h0 ∧ own_in w
theorem d1_0 : decode method_2_code 0 = .ok (.iload_n 0, 1) := by decide +kernel
theorem d1_1 : decode method_2_code 1 = .ok (.iload_n 1, 1) := by decide +kernel
theorem d1_2 : decode method_2_code 2 = .ok (.iushr, 1) := by decide +kernel
theorem d1_3 : decode method_2_code 3 = .ok (.iconst 1, 1) := by decide +kernel
theorem d1_4 : decode method_2_code 4 = .ok (.iand, 1) := by decide +kernel
theorem d1_5 : decode method_2_code 5 = .ok (.ifCond .eq 7, 3) := by decide +kernel
theorem d1_12 : decode method_2_code 12 = .ok (.iload_n 3, 1) := by decide +kernel
theorem d1_13 : decode method_2_code 13 = .ok (.ireturn, 1) := by decide +kernel
theorem d1_8 : decode method_2_code 8 = .ok (.iload_n 2, 1) := by decide +kernel
theorem d1_9 : decode method_2_code 9 = .ok (.goto 4, 3) := by decide +kernel
set_option maxRecDepth 65536 in
set_option maxHeartbeats 40000000 in
theorem rm_pk (l : Launch) (Z : State) (a0 : Array Value) (hw : ∀ d ∈ tables_1, d.before a0 Z = true) (ws : List Jvm.Cond) (p1 : Int32) (p2 : Int32) (p3 : Int32) (p4 : Int32) (h0 : Heap) (n0 : Nat) (Z0 : n0 ≤ h0.size) (hq3 : own_in p3) (hq4 : own_in p4) :
    MetFree l (⟨"com/example/purveyor/purveyor/sqlite/QuotedTextReadPinLaw", "pick", "(IICC)C"⟩ : MethodName) (head1 (Jvm.Cond.code (⟨"com/example/purveyor/purveyor/sqlite/QuotedTextReadPinLaw", "pick", "(IICC)C"⟩ : MethodName) method_2_code 4 (some .char) :: ws) ({ frames := 0, cells := 0, slots := 0, locals := 0 } : Room)) (fun a U => a = #[(.int p1), (.int p2), (.int p3), (.int p4)] ∧ Z.Warmed39 U.vm ∧ U.heap = h0) (fun _ _ _ _ _ => True) (fun _ U o U' => ∃ v L, o = .returned v ∧ Q_rm_pk Z p1 p2 p3 p4 h0 n0 v U'.heap L ∧ FrameEnd U o U' L ({ frames := 0, cells := 0, slots := 0, locals := 0 } : Room).cells ({ frames := 0, cells := 0, slots := 0, locals := 0 } : Room).slots) := by
  refine MetFree.of_bodySF (plainFor_of_name pn_1) hisR ?_
  intro p e s m args below meth c s₁ Bd hml0 hP hK
  obtain ⟨rfl, hZ, hh⟩ := hP
  have hx := Bd.exec
  have hby := Bd.bytes
  have hml : c.maxLocals = 4 := hml0
  have hown : s.vm.findClass "com/example/purveyor/purveyor/sqlite/QuotedTextReadPinLaw" = some m.cls := findClass_of_methodNamed Bd.named
  have hnm := (name_of_methodNamed Bd.named Bd.method).1
  have X0 : Stand p l e ({ frames := 0, cells := 0, slots := 0, locals := 0 } : Room) s m #[(.int p1), (.int p2), (.int p3), (.int p4)] below meth c s₁ [] 0 0 := Stand.of_body Bd
  have e0 : s₁.heap = h0 := by rw [← hh, Bd.state]; rfl
  have N0 := Fr.nil n0
  have pre0 : ∀ t, Steps p.tables e below (s₁.setTop (mkF m 0 #[.val (.int p1), .val (.int p2), .val (.int p3), .val (.int p4)] [])) t → Steps p.tables e below (s₁.setTop (entryFrame m #[(.int p1), (.int p2), (.int p3), (.int p4)] 4)) t := fun t kt => castTop (ef_rm_pk m p1 p2 p3 p4) kt
  have pre_1 : ∀ t, Steps p.tables e below (s₁.setTop (mkF m 5 #[.val (.int p1), .val (.int p2), .val (.int p3), .val (.int p4)] [(.int (((p1.toUInt32 >>> (p2 &&& 31).toUInt32).toInt32) &&& (1 : Int32)))])) t → Steps p.tables e below (s₁.setTop (entryFrame m #[(.int p1), (.int p2), (.int p3), (.int p4)] 4)) t := by
    intro t kt
    refine pre0 _ ?_
    show Steps p.tables e below (s₁.setTop (mkF m 0 #[.val (.int p1), .val (.int p2), .val (.int p3), .val (.int p4)] [])) _
    refine XS.iloadN X0.here hx rfl (hb hby d1_0) rfl ?_
    show Steps p.tables e below (s₁.setTop (mkF m 1 #[.val (.int p1), .val (.int p2), .val (.int p3), .val (.int p4)] [(.int p1)])) _
    refine XS.iloadN X0.here hx rfl (hb hby d1_1) rfl ?_
    show Steps p.tables e below (s₁.setTop (mkF m 2 #[.val (.int p1), .val (.int p2), .val (.int p3), .val (.int p4)] [(.int p2), (.int p1)])) _
    refine XS.iushr X0.here hx rfl (hb hby d1_2) rfl ?_
    show Steps p.tables e below (s₁.setTop (mkF m 3 #[.val (.int p1), .val (.int p2), .val (.int p3), .val (.int p4)] [(.int ((p1.toUInt32 >>> (p2 &&& 31).toUInt32).toInt32))])) _
    refine XS.iconst X0.here hx rfl (hb hby d1_3) ?_
    show Steps p.tables e below (s₁.setTop (mkF m 4 #[.val (.int p1), .val (.int p2), .val (.int p3), .val (.int p4)] [(.int (1 : Int32)), (.int ((p1.toUInt32 >>> (p2 &&& 31).toUInt32).toInt32))])) _
    refine XS.iand X0.here hx rfl (hb hby d1_4) rfl ?_
    exact kt
  by_cases hc5 : (((p1.toUInt32 >>> (p2 &&& 31).toUInt32).toInt32) &&& (1 : Int32)) = (0 : Int32)
  · obtain ⟨fs, hr, hrun, hended, hW, hsame⟩ := X0.leave (v := some (.int (nar .char p4))) (fun h => by rw [Bd.returns] at h; cases h) (hlocks := Bd.notSynchronized)
    refine ⟨_, _, pre_1 _ ?_, hrun, hended, _, _, rfl, ?_, ⟨_, rfl⟩, hW, hsame.mono (by decide) (by decide)⟩
    · show Steps p.tables e below (s₁.setTop (mkF m 5 #[.val (.int p1), .val (.int p2), .val (.int p3), .val (.int p4)] [(.int (((p1.toUInt32 >>> (p2 &&& 31).toUInt32).toInt32) &&& (1 : Int32)))])) _
      refine XS.ifYes X0.here hx rfl (pc0 := 5) (pc' := 12) rfl (hb hby d1_5) rfl ((if0 _ _).trans (teq hc5).1) (by decide) (by decide) ?_
      show Steps p.tables e below (s₁.setTop (mkF m 12 #[.val (.int p1), .val (.int p2), .val (.int p3), .val (.int p4)] [])) _
      refine XS.iloadN X0.here hx rfl (hb hby d1_12) rfl ?_
      show Steps p.tables e below (s₁.setTop (mkF m 13 #[.val (.int p1), .val (.int p2), .val (.int p3), .val (.int p4)] [(.int p4)])) _
      exact retN X0 hx (t := .char) Bd.returns (by simp) (hb hby d1_13) hr
    · show Q_rm_pk Z p1 p2 p3 p4 h0 n0 _ s₁.heap _
      rw [e0]
      exact ⟨_, rfl, N0, rfl, own_nc hq4⟩
  · obtain ⟨fs, hr, hrun, hended, hW, hsame⟩ := X0.leave (v := some (.int (nar .char p3))) (fun h => by rw [Bd.returns] at h; cases h) (hlocks := Bd.notSynchronized)
    refine ⟨_, _, pre_1 _ ?_, hrun, hended, _, _, rfl, ?_, ⟨_, rfl⟩, hW, hsame.mono (by decide) (by decide)⟩
    · show Steps p.tables e below (s₁.setTop (mkF m 5 #[.val (.int p1), .val (.int p2), .val (.int p3), .val (.int p4)] [(.int (((p1.toUInt32 >>> (p2 &&& 31).toUInt32).toInt32) &&& (1 : Int32)))])) _
      refine XS.ifNo X0.here hx rfl (hb hby d1_5) rfl ((if0 _ _).trans (feq hc5).1) ?_
      show Steps p.tables e below (s₁.setTop (mkF m 8 #[.val (.int p1), .val (.int p2), .val (.int p3), .val (.int p4)] [])) _
      refine XS.iloadN X0.here hx rfl (hb hby d1_8) rfl ?_
      show Steps p.tables e below (s₁.setTop (mkF m 9 #[.val (.int p1), .val (.int p2), .val (.int p3), .val (.int p4)] [(.int p3)])) _
      refine XS.goto X0.here hx rfl (pc0 := 9) (pc' := 13) rfl (hb hby d1_9) (by decide) (by decide) ?_
      show Steps p.tables e below (s₁.setTop (mkF m 13 #[.val (.int p1), .val (.int p2), .val (.int p3), .val (.int p4)] [(.int p3)])) _
      exact retN X0 hx (t := .char) Bd.returns (by simp) (hb hby d1_13) hr
    · show Q_rm_pk Z p1 p2 p3 p4 h0 n0 _ s₁.heap _
      rw [e0]
      exact ⟨_, rfl, N0, rfl, own_nc hq3⟩
theorem pn_8 : plainName "com/example/purveyor/purveyor/sqlite/QuotedTextReadPinLaw" = true := by first | (simp [plainName, overriddenIn]; done) | decide +kernel
theorem ef_rm_st (m : MethodId) (x0 : Addr) (x1 : Int32) (x2 : Int32) (x3 : Int32) (x4 : Addr) (x5 : Addr) : entryFrame m #[(.ref x0), (.int x1), (.int x2), (.int x3), (.ref x4), (.ref x5)] 7 = mkF m 0 #[.val (.ref x0), .val (.int x1), .val (.int x2), .val (.int x3), .val (.ref x4), .val (.ref x5), .unset] [] := by first | (simp [entryFrame, mkF, argsToLocals, Value.category]; done) | rfl
def Q_rm_st (Z : State) (a1 : Addr) (p4 : Int32) (a5 : Addr) (a6 : Addr) (kt ks ko : ClassId) (cl : List Int32) (i oo : Nat) (sp : Int32 × Int32 × List Int32) (h0 : Heap) (n0 : Nat) (v : Option Value) (h : Heap) (L : List Loc) : Prop := ∃ sn : Int32 × Int32 × List Int32, sn = own_step cl p4 oo i sp ∧ v = none ∧ Fr n0 L ∧ Keep h0 h [a5, a6] ∧ Arv Z h a5 ks .int (3 : Int32) [(.int sn.1), (.int (Int32.ofNat sn.2.2.length)), (.int sn.2.1)] (.int (0 : Int32)) ∧ Arv Z h a6 ko .char (6 : Int32) (sn.2.2.map Value.int) (.int 0)
theorem d8_0 : decode method_3_code 0 = .ok (.iload_n 1, 1) := by decide +kernel
theorem d8_1 : decode method_3_code 1 = .ok (.iload_n 2, 1) := by decide +kernel
theorem d8_2 : decode method_3_code 2 = .ok (.if_icmp .le 11, 3) := by decide +kernel
theorem d8_5 : decode method_3_code 5 = .ok (.aload 4, 2) := by decide +kernel
theorem d8_7 : decode method_3_code 7 = .ok (.iconst 0, 1) := by decide +kernel
theorem d8_8 : decode method_3_code 8 = .ok (.iaload, 1) := by decide +kernel
theorem d8_9 : decode method_3_code 9 = .ok (.iconst 2, 1) := by decide +kernel
theorem d8_10 : decode method_3_code 10 = .ok (.if_icmp .ne 4, 3) := by decide +kernel
theorem d8_13 : decode method_3_code 13 = .ok (.return_, 1) := by decide +kernel
theorem d8_14 : decode method_3_code 14 = .ok (.aload_n 0, 1) := by decide +kernel
theorem d8_15 : decode method_3_code 15 = .ok (.iload_n 1, 1) := by decide +kernel
theorem d8_16 : decode method_3_code 16 = .ok (.caload, 1) := by decide +kernel
theorem d8_17 : decode method_3_code 17 = .ok (.istore 6, 2) := by decide +kernel
theorem d8_19 : decode method_3_code 19 = .ok (.aload 4, 2) := by decide +kernel
theorem d8_21 : decode method_3_code 21 = .ok (.iconst 0, 1) := by decide +kernel
theorem d8_22 : decode method_3_code 22 = .ok (.iaload, 1) := by decide +kernel
theorem d8_23 : decode method_3_code 23 = .ok (.ifCond .ne 39, 3) := by decide +kernel
theorem d8_26 : decode method_3_code 26 = .ok (.iload 6, 2) := by decide +kernel
theorem d8_28 : decode method_3_code 28 = .ok (.iload_n 3, 1) := by decide +kernel
theorem d8_29 : decode method_3_code 29 = .ok (.if_icmp .ne 11, 3) := by decide +kernel
theorem d8_32 : decode method_3_code 32 = .ok (.aload 4, 2) := by decide +kernel
theorem d8_34 : decode method_3_code 34 = .ok (.iconst 0, 1) := by decide +kernel
theorem d8_35 : decode method_3_code 35 = .ok (.iconst 1, 1) := by decide +kernel
theorem d8_36 : decode method_3_code 36 = .ok (.iastore, 1) := by decide +kernel
theorem d8_37 : decode method_3_code 37 = .ok (.goto 67, 3) := by decide +kernel
theorem d8_104 : decode method_3_code 104 = .ok (.return_, 1) := by decide +kernel
theorem d8_40 : decode method_3_code 40 = .ok (.aload 5, 2) := by decide +kernel
theorem d8_42 : decode method_3_code 42 = .ok (.aload 4, 2) := by decide +kernel
theorem d8_44 : decode method_3_code 44 = .ok (.iconst 1, 1) := by decide +kernel
theorem d8_45 : decode method_3_code 45 = .ok (.iaload, 1) := by decide +kernel
theorem d8_46 : decode method_3_code 46 = .ok (.iload 6, 2) := by decide +kernel
theorem d8_48 : decode method_3_code 48 = .ok (.castore, 1) := by decide +kernel
theorem d8_49 : decode method_3_code 49 = .ok (.aload 4, 2) := by decide +kernel
theorem d8_51 : decode method_3_code 51 = .ok (.iconst 1, 1) := by decide +kernel
theorem d8_52 : decode method_3_code 52 = .ok (.aload 4, 2) := by decide +kernel
theorem d8_54 : decode method_3_code 54 = .ok (.iconst 1, 1) := by decide +kernel
theorem d8_55 : decode method_3_code 55 = .ok (.iaload, 1) := by decide +kernel
theorem d8_56 : decode method_3_code 56 = .ok (.iconst 1, 1) := by decide +kernel
theorem d8_57 : decode method_3_code 57 = .ok (.iadd, 1) := by decide +kernel
theorem d8_58 : decode method_3_code 58 = .ok (.iastore, 1) := by decide +kernel
theorem d8_59 : decode method_3_code 59 = .ok (.goto 45, 3) := by decide +kernel
theorem d8_62 : decode method_3_code 62 = .ok (.iload 6, 2) := by decide +kernel
theorem d8_64 : decode method_3_code 64 = .ok (.iload_n 3, 1) := by decide +kernel
theorem d8_65 : decode method_3_code 65 = .ok (.if_icmp .ne 29, 3) := by decide +kernel
theorem d8_68 : decode method_3_code 68 = .ok (.aload 5, 2) := by decide +kernel
theorem d8_70 : decode method_3_code 70 = .ok (.aload 4, 2) := by decide +kernel
theorem d8_72 : decode method_3_code 72 = .ok (.iconst 1, 1) := by decide +kernel
theorem d8_73 : decode method_3_code 73 = .ok (.iaload, 1) := by decide +kernel
theorem d8_74 : decode method_3_code 74 = .ok (.iload_n 3, 1) := by decide +kernel
theorem d8_75 : decode method_3_code 75 = .ok (.castore, 1) := by decide +kernel
theorem d8_76 : decode method_3_code 76 = .ok (.aload 4, 2) := by decide +kernel
theorem d8_78 : decode method_3_code 78 = .ok (.iconst 1, 1) := by decide +kernel
theorem d8_79 : decode method_3_code 79 = .ok (.aload 4, 2) := by decide +kernel
theorem d8_81 : decode method_3_code 81 = .ok (.iconst 1, 1) := by decide +kernel
theorem d8_82 : decode method_3_code 82 = .ok (.iaload, 1) := by decide +kernel
theorem d8_83 : decode method_3_code 83 = .ok (.iconst 1, 1) := by decide +kernel
theorem d8_84 : decode method_3_code 84 = .ok (.iadd, 1) := by decide +kernel
theorem d8_85 : decode method_3_code 85 = .ok (.iastore, 1) := by decide +kernel
theorem d8_86 : decode method_3_code 86 = .ok (.aload 4, 2) := by decide +kernel
theorem d8_88 : decode method_3_code 88 = .ok (.iconst 0, 1) := by decide +kernel
theorem d8_89 : decode method_3_code 89 = .ok (.iconst 0, 1) := by decide +kernel
theorem d8_90 : decode method_3_code 90 = .ok (.iastore, 1) := by decide +kernel
theorem d8_91 : decode method_3_code 91 = .ok (.goto 13, 3) := by decide +kernel
theorem d8_94 : decode method_3_code 94 = .ok (.aload 4, 2) := by decide +kernel
theorem d8_96 : decode method_3_code 96 = .ok (.iconst 0, 1) := by decide +kernel
theorem d8_97 : decode method_3_code 97 = .ok (.iconst 2, 1) := by decide +kernel
theorem d8_98 : decode method_3_code 98 = .ok (.iastore, 1) := by decide +kernel
theorem d8_99 : decode method_3_code 99 = .ok (.aload 4, 2) := by decide +kernel
theorem d8_101 : decode method_3_code 101 = .ok (.iconst 2, 1) := by decide +kernel
theorem d8_102 : decode method_3_code 102 = .ok (.iload_n 1, 1) := by decide +kernel
theorem d8_103 : decode method_3_code 103 = .ok (.iastore, 1) := by decide +kernel
set_option maxRecDepth 65536 in
set_option maxHeartbeats 40000000 in
theorem rm_st (l : Launch) (Z : State) (a0 : Array Value) (hw : ∀ d ∈ tables_1, d.before a0 Z = true) (ws : List Jvm.Cond) (a1 : Addr) (p4 : Int32) (a5 : Addr) (a6 : Addr) (kt ks ko : ClassId) (cl : List Int32) (i oo : Nat) (sp : Int32 × Int32 × List Int32) (h0 : Heap) (n0 : Nat) (Z0 : n0 ≤ h0.size) (V_a1 : Arv Z h0 a1 kt .char (6 : Int32) (cl.map Value.int) (.int 0)) (V_a5 : Arv Z h0 a5 ks .int (3 : Int32) [(.int sp.1), (.int (Int32.ofNat sp.2.2.length)), (.int sp.2.1)] (.int (0 : Int32))) (V_a6 : Arv Z h0 a6 ko .char (6 : Int32) (sp.2.2.map Value.int) (.int 0)) (ne_a1_a5 : a1 ≠ a5) (ne_a1_a6 : a1 ≠ a6) (ne_a5_a6 : a5 ≠ a6) (g_a5 : n0 ≤ a5) (g_a6 : n0 ≤ a6) (hcl : cl.length = 6) (hi : i < 6) (ho : oo < 6) (hO : sp.2.2.length < 6) (hp : ∀ c ∈ cl, ¬ c < 0 ∧ ¬ (255 : Int32) < c) (hq : own_in p4) :
    MetFree l (⟨"com/example/purveyor/purveyor/sqlite/QuotedTextReadPinLaw", "step", "([CIIC[I[C)V"⟩ : MethodName) (head1 (Jvm.Cond.code (⟨"com/example/purveyor/purveyor/sqlite/QuotedTextReadPinLaw", "step", "([CIIC[I[C)V"⟩ : MethodName) method_3_code 7 none :: ws) ({ frames := 0, cells := 0, slots := 0, locals := 0 } : Room)) (fun a U => a = #[(.ref a1), (.int (Int32.ofNat i)), (.int (Int32.ofNat oo)), (.int p4), (.ref a5), (.ref a6)] ∧ Z.Warmed39 U.vm ∧ U.heap = h0) (fun _ _ _ _ _ => True) (fun _ U o U' => ∃ v L, o = .returned v ∧ Q_rm_st Z a1 p4 a5 a6 kt ks ko cl i oo sp h0 n0 v U'.heap L ∧ FrameEnd U o U' L ({ frames := 0, cells := 0, slots := 0, locals := 0 } : Room).cells ({ frames := 0, cells := 0, slots := 0, locals := 0 } : Room).slots) := by
  refine MetFree.of_bodySF (plainFor_of_name pn_8) hisR ?_
  intro p e s m args below meth c s₁ Bd hml0 hP hK
  obtain ⟨rfl, hZ, hh⟩ := hP
  have hx := Bd.exec
  have hby := Bd.bytes
  have hml : c.maxLocals = 7 := hml0
  have hown : s.vm.findClass "com/example/purveyor/purveyor/sqlite/QuotedTextReadPinLaw" = some m.cls := findClass_of_methodNamed Bd.named
  have hnm := (name_of_methodNamed Bd.named Bd.method).1
  have X0 : Stand p l e ({ frames := 0, cells := 0, slots := 0, locals := 0 } : Room) s m #[(.ref a1), (.int (Int32.ofNat i)), (.int (Int32.ofNat oo)), (.int p4), (.ref a5), (.ref a6)] below meth c s₁ [] 0 0 := Stand.of_body Bd
  have e0 : s₁.heap = h0 := by rw [← hh, Bd.state]; rfl
  have N0 := Fr.nil n0
  have pre0 : ∀ t, Steps p.tables e below (s₁.setTop (mkF m 0 #[.val (.ref a1), .val (.int (Int32.ofNat i)), .val (.int (Int32.ofNat oo)), .val (.int p4), .val (.ref a5), .val (.ref a6), .unset] [])) t → Steps p.tables e below (s₁.setTop (entryFrame m #[(.ref a1), (.int (Int32.ofNat i)), (.int (Int32.ofNat oo)), (.int p4), (.ref a5), (.ref a6)] 7)) t := fun t kt => castTop (ef_rm_st m a1 (Int32.ofNat i) (Int32.ofNat oo) p4 a5 a6) kt
  have pre_1 : ∀ t, Steps p.tables e below (s₁.setTop (mkF m 2 #[.val (.ref a1), .val (.int (Int32.ofNat i)), .val (.int (Int32.ofNat oo)), .val (.int p4), .val (.ref a5), .val (.ref a6), .unset] [(.int (Int32.ofNat oo)), (.int (Int32.ofNat i))])) t → Steps p.tables e below (s₁.setTop (entryFrame m #[(.ref a1), (.int (Int32.ofNat i)), (.int (Int32.ofNat oo)), (.int p4), (.ref a5), (.ref a6)] 7)) t := by
    intro t kt
    refine pre0 _ ?_
    show Steps p.tables e below (s₁.setTop (mkF m 0 #[.val (.ref a1), .val (.int (Int32.ofNat i)), .val (.int (Int32.ofNat oo)), .val (.int p4), .val (.ref a5), .val (.ref a6), .unset] [])) _
    refine XS.iloadN X0.here hx rfl (hb hby d8_0) rfl ?_
    show Steps p.tables e below (s₁.setTop (mkF m 1 #[.val (.ref a1), .val (.int (Int32.ofNat i)), .val (.int (Int32.ofNat oo)), .val (.int p4), .val (.ref a5), .val (.ref a6), .unset] [(.int (Int32.ofNat i))])) _
    refine XS.iloadN X0.here hx rfl (hb hby d8_1) rfl ?_
    exact kt
  by_cases hc2 : (Int32.ofNat oo) < (Int32.ofNat i)
  · obtain ⟨cl2, Ar2, aq2, aS2, aN2, aH2, aG2⟩ := id V_a5
    have hin2 : ¬ ((0 : Int32) < 0 ∨ cl2.slots.size ≤ ((0 : Int32)).toNatClampNeg) := inb_of aS2 ⟨by decide, by decide⟩
    have pre_3 : ∀ t, Steps p.tables e below (s₁.setTop (mkF m 10 #[.val (.ref a1), .val (.int (Int32.ofNat i)), .val (.int (Int32.ofNat oo)), .val (.int p4), .val (.ref a5), .val (.ref a6), .unset] [(.int (2 : Int32)), (.int sp.1)])) t → Steps p.tables e below (s₁.setTop (entryFrame m #[(.ref a1), (.int (Int32.ofNat i)), (.int (Int32.ofNat oo)), (.int p4), (.ref a5), (.ref a6)] 7)) t := by
      intro t kt
      refine pre_1 _ ?_
      show Steps p.tables e below (s₁.setTop (mkF m 2 #[.val (.ref a1), .val (.int (Int32.ofNat i)), .val (.int (Int32.ofNat oo)), .val (.int p4), .val (.ref a5), .val (.ref a6), .unset] [(.int (Int32.ofNat oo)), (.int (Int32.ofNat i))])) _
      refine XS.icmpNo X0.here hx rfl (hb hby d8_2) rfl (tlt hc2).2.2.2 ?_
      show Steps p.tables e below (s₁.setTop (mkF m 5 #[.val (.ref a1), .val (.int (Int32.ofNat i)), .val (.int (Int32.ofNat oo)), .val (.int p4), .val (.ref a5), .val (.ref a6), .unset] [])) _
      refine XS.aload X0.here hx rfl (hb hby d8_5) rfl rfl ?_
      show Steps p.tables e below (s₁.setTop (mkF m 7 #[.val (.ref a1), .val (.int (Int32.ofNat i)), .val (.int (Int32.ofNat oo)), .val (.int p4), .val (.ref a5), .val (.ref a6), .unset] [(.ref a5)])) _
      refine XS.iconst X0.here hx rfl (hb hby d8_7) ?_
      show Steps p.tables e below (s₁.setTop (mkF m 8 #[.val (.ref a1), .val (.int (Int32.ofNat i)), .val (.int (Int32.ofNat oo)), .val (.int p4), .val (.ref a5), .val (.ref a6), .unset] [(.int (0 : Int32)), (.ref a5)])) _
      refine X0.iaload hx (j := (0 : Int32)) (v := (.int sp.1)) (by rw [e0]; exact Ar2.1) (State.isArrayOf_alike hZ.alike Ar2.2.1) Ar2.2.2 hin2 (Has.at aH2 hin2 rfl) (g := (mkF m 8 #[.val (.ref a1), .val (.int (Int32.ofNat i)), .val (.int (Int32.ofNat oo)), .val (.int p4), .val (.ref a5), .val (.ref a6), .unset] [(.int (0 : Int32)), (.ref a5)])) rfl rfl (hb hby d8_8) _ ?_
      show Steps p.tables e below (s₁.setTop (mkF m 9 #[.val (.ref a1), .val (.int (Int32.ofNat i)), .val (.int (Int32.ofNat oo)), .val (.int p4), .val (.ref a5), .val (.ref a6), .unset] [(.int sp.1)])) _
      refine XS.iconst X0.here hx rfl (hb hby d8_9) ?_
      exact kt
    by_cases hc10 : sp.1 = (2 : Int32)
    · obtain ⟨fs, hr, hrun, hended, hW, hsame⟩ := X0.leave (v := none) (fun _ => rfl) (hlocks := Bd.notSynchronized)
      refine ⟨_, _, pre_3 _ ?_, hrun, hended, _, _, rfl, ?_, ⟨_, rfl⟩, hW, hsame.mono (by decide) (by decide)⟩
      · show Steps p.tables e below (s₁.setTop (mkF m 10 #[.val (.ref a1), .val (.int (Int32.ofNat i)), .val (.int (Int32.ofNat oo)), .val (.int p4), .val (.ref a5), .val (.ref a6), .unset] [(.int (2 : Int32)), (.int sp.1)])) _
        refine XS.icmpNo X0.here hx rfl (hb hby d8_10) rfl (teq hc10).2 ?_
        show Steps p.tables e below (s₁.setTop (mkF m 13 #[.val (.ref a1), .val (.int (Int32.ofNat i)), .val (.int (Int32.ofNat oo)), .val (.int p4), .val (.ref a5), .val (.ref a6), .unset] [])) _
        exact X0.returnOut hx Bd.returns (hb hby d8_13) hr
      · show Q_rm_st Z a1 p4 a5 a6 kt ks ko cl i oo sp h0 n0 _ s₁.heap _
        rw [e0]
        exact ⟨sp, by rw [own_step, if_pos ((own_lt (show oo < 2147483648 by omega) (show i < 2147483648 by omega)).mp hc2), own_s1, if_pos hc10], rfl, N0, (Keep.refl h0 [a5, a6]), V_a5, V_a6⟩
    · obtain ⟨cl4, Ar4, aq4, aS4, aN4, aH4, aG4⟩ := id V_a1
      have hin4 : ¬ ((Int32.ofNat i) < 0 ∨ cl4.slots.size ≤ ((Int32.ofNat i)).toNatClampNeg) := inb_of aS4 ⟨own_nn (by omega), (own_lt (show i < 2147483648 by omega) (show 6 < 2147483648 by omega)).mpr hi⟩
      obtain ⟨cl5, Ar5, aq5, aS5, aN5, aH5, aG5⟩ := id V_a5
      have hin5 : ¬ ((0 : Int32) < 0 ∨ cl5.slots.size ≤ ((0 : Int32)).toNatClampNeg) := inb_of aS5 ⟨by decide, by decide⟩
      have pre_6 : ∀ t, Steps p.tables e below (s₁.setTop (mkF m 23 #[.val (.ref a1), .val (.int (Int32.ofNat i)), .val (.int (Int32.ofNat oo)), .val (.int p4), .val (.ref a5), .val (.ref a6), .val (.int (cl.getD i 0))] [(.int sp.1)])) t → Steps p.tables e below (s₁.setTop (entryFrame m #[(.ref a1), (.int (Int32.ofNat i)), (.int (Int32.ofNat oo)), (.int p4), (.ref a5), (.ref a6)] 7)) t := by
        intro t kt
        refine pre_3 _ ?_
        show Steps p.tables e below (s₁.setTop (mkF m 10 #[.val (.ref a1), .val (.int (Int32.ofNat i)), .val (.int (Int32.ofNat oo)), .val (.int p4), .val (.ref a5), .val (.ref a6), .unset] [(.int (2 : Int32)), (.int sp.1)])) _
        refine XS.icmpYes X0.here hx rfl (pc0 := 10) (pc' := 14) rfl (hb hby d8_10) rfl (feq hc10).2 (by decide) (by decide) ?_
        show Steps p.tables e below (s₁.setTop (mkF m 14 #[.val (.ref a1), .val (.int (Int32.ofNat i)), .val (.int (Int32.ofNat oo)), .val (.int p4), .val (.ref a5), .val (.ref a6), .unset] [])) _
        refine XS.aloadN X0.here hx rfl (hb hby d8_14) rfl rfl ?_
        show Steps p.tables e below (s₁.setTop (mkF m 15 #[.val (.ref a1), .val (.int (Int32.ofNat i)), .val (.int (Int32.ofNat oo)), .val (.int p4), .val (.ref a5), .val (.ref a6), .unset] [(.ref a1)])) _
        refine XS.iloadN X0.here hx rfl (hb hby d8_15) rfl ?_
        show Steps p.tables e below (s₁.setTop (mkF m 16 #[.val (.ref a1), .val (.int (Int32.ofNat i)), .val (.int (Int32.ofNat oo)), .val (.int p4), .val (.ref a5), .val (.ref a6), .unset] [(.int (Int32.ofNat i)), (.ref a1)])) _
        refine X0.caload hx (j := (Int32.ofNat i)) (v := (.int (cl.getD i 0))) (by rw [e0]; exact Ar4.1) (State.isArrayOf_alike hZ.alike Ar4.2.1) Ar4.2.2 hin4 (Has.at aH4 hin4 (own_mapAt cl (by omega))) (g := (mkF m 16 #[.val (.ref a1), .val (.int (Int32.ofNat i)), .val (.int (Int32.ofNat oo)), .val (.int p4), .val (.ref a5), .val (.ref a6), .unset] [(.int (Int32.ofNat i)), (.ref a1)])) rfl rfl (hb hby d8_16) _ ?_
        show Steps p.tables e below (s₁.setTop (mkF m 17 #[.val (.ref a1), .val (.int (Int32.ofNat i)), .val (.int (Int32.ofNat oo)), .val (.int p4), .val (.ref a5), .val (.ref a6), .unset] [(.int (cl.getD i 0))])) _
        refine XS.istore X0.here hx rfl (hb hby d8_17) rfl (l' := #[.val (.ref a1), .val (.int (Int32.ofNat i)), .val (.int (Int32.ofNat oo)), .val (.int p4), .val (.ref a5), .val (.ref a6), .val (.int (cl.getD i 0))]) rfl ?_
        show Steps p.tables e below (s₁.setTop (mkF m 19 #[.val (.ref a1), .val (.int (Int32.ofNat i)), .val (.int (Int32.ofNat oo)), .val (.int p4), .val (.ref a5), .val (.ref a6), .val (.int (cl.getD i 0))] [])) _
        refine XS.aload X0.here hx rfl (hb hby d8_19) rfl rfl ?_
        show Steps p.tables e below (s₁.setTop (mkF m 21 #[.val (.ref a1), .val (.int (Int32.ofNat i)), .val (.int (Int32.ofNat oo)), .val (.int p4), .val (.ref a5), .val (.ref a6), .val (.int (cl.getD i 0))] [(.ref a5)])) _
        refine XS.iconst X0.here hx rfl (hb hby d8_21) ?_
        show Steps p.tables e below (s₁.setTop (mkF m 22 #[.val (.ref a1), .val (.int (Int32.ofNat i)), .val (.int (Int32.ofNat oo)), .val (.int p4), .val (.ref a5), .val (.ref a6), .val (.int (cl.getD i 0))] [(.int (0 : Int32)), (.ref a5)])) _
        refine X0.iaload hx (j := (0 : Int32)) (v := (.int sp.1)) (by rw [e0]; exact Ar5.1) (State.isArrayOf_alike hZ.alike Ar5.2.1) Ar5.2.2 hin5 (Has.at aH5 hin5 rfl) (g := (mkF m 22 #[.val (.ref a1), .val (.int (Int32.ofNat i)), .val (.int (Int32.ofNat oo)), .val (.int p4), .val (.ref a5), .val (.ref a6), .val (.int (cl.getD i 0))] [(.int (0 : Int32)), (.ref a5)])) rfl rfl (hb hby d8_22) _ ?_
        exact kt
      by_cases hc23 : sp.1 = (0 : Int32)
      · have pre_7 : ∀ t, Steps p.tables e below (s₁.setTop (mkF m 29 #[.val (.ref a1), .val (.int (Int32.ofNat i)), .val (.int (Int32.ofNat oo)), .val (.int p4), .val (.ref a5), .val (.ref a6), .val (.int (cl.getD i 0))] [(.int p4), (.int (cl.getD i 0))])) t → Steps p.tables e below (s₁.setTop (entryFrame m #[(.ref a1), (.int (Int32.ofNat i)), (.int (Int32.ofNat oo)), (.int p4), (.ref a5), (.ref a6)] 7)) t := by
          intro t kt
          refine pre_6 _ ?_
          show Steps p.tables e below (s₁.setTop (mkF m 23 #[.val (.ref a1), .val (.int (Int32.ofNat i)), .val (.int (Int32.ofNat oo)), .val (.int p4), .val (.ref a5), .val (.ref a6), .val (.int (cl.getD i 0))] [(.int sp.1)])) _
          refine XS.ifNo X0.here hx rfl (hb hby d8_23) rfl ((if0 _ _).trans (teq hc23).2) ?_
          show Steps p.tables e below (s₁.setTop (mkF m 26 #[.val (.ref a1), .val (.int (Int32.ofNat i)), .val (.int (Int32.ofNat oo)), .val (.int p4), .val (.ref a5), .val (.ref a6), .val (.int (cl.getD i 0))] [])) _
          refine XS.iload X0.here hx rfl (hb hby d8_26) rfl ?_
          show Steps p.tables e below (s₁.setTop (mkF m 28 #[.val (.ref a1), .val (.int (Int32.ofNat i)), .val (.int (Int32.ofNat oo)), .val (.int p4), .val (.ref a5), .val (.ref a6), .val (.int (cl.getD i 0))] [(.int (cl.getD i 0))])) _
          refine XS.iloadN X0.here hx rfl (hb hby d8_28) rfl ?_
          exact kt
        by_cases hc29 : (cl.getD i 0) = p4
        · obtain ⟨cl8, Ar8, aq8, aS8, aN8, aH8, aG8⟩ := V_a5
          have hin8 : ¬ ((0 : Int32) < 0 ∨ cl8.slots.size ≤ ((0 : Int32)).toNatClampNeg) := inb_of aS8 ⟨by decide, by decide⟩
          obtain ⟨T9, h9, X9, e9, W9, st9⟩ := stI X0 hx hZ e0 Ar8 (j := (0 : Int32)) hin8 (g := (mkF m 36 #[.val (.ref a1), .val (.int (Int32.ofNat i)), .val (.int (Int32.ofNat oo)), .val (.int p4), .val (.ref a5), .val (.ref a6), .val (.int (cl.getD i 0))] [(.int (1 : Int32)), (.int (0 : Int32)), (.ref a5)])) rfl rfl (hb hby d8_36)
          have V_a5_9 : Arv Z h9 a5 ks .int (3 : Int32) [(.int (1 : Int32)), (.int (Int32.ofNat sp.2.2.length)), (.int sp.2.1)] (.int (0 : Int32)) := Arv.set Ar8 aq8 aS8 aN8 aH8 aG8 rfl W9 0 rfl (Nat.le_of_ble_eq_true rfl)
          have f1 : Arv Z h9 a1 kt .char (6 : Int32) (cl.map Value.int) (.int 0) := V_a1.other W9 ne_a1_a5
          have f2 : Arv Z h9 a6 ko .char (6 : Int32) (sp.2.2.map Value.int) (.int 0) := V_a6.other W9 (Ne.symm ne_a5_a6)
          have f3 : n0 ≤ a5 := g_a5
          have f4 : n0 ≤ a6 := g_a6
          have f5 : Keep h0 h9 [a5, a6] := (Keep.refl h0 [a5, a6]).wr W9 (Or.inl (by simp))
          have N9 := Fr.snoc X9 N0 f3
          have Z9 : n0 ≤ h9.size := by rw [W9.size]; exact Z0
          obtain ⟨fs, hr, hrun, hended, hW, hsame⟩ := X9.leave (v := none) (fun _ => rfl) (hlocks := Bd.notSynchronized)
          refine ⟨_, _, pre_7 _ ?_, hrun, hended, _, _, rfl, ?_, ⟨_, rfl⟩, hW, hsame.mono (by decide) (by decide)⟩
          · show Steps p.tables e below (s₁.setTop (mkF m 29 #[.val (.ref a1), .val (.int (Int32.ofNat i)), .val (.int (Int32.ofNat oo)), .val (.int p4), .val (.ref a5), .val (.ref a6), .val (.int (cl.getD i 0))] [(.int p4), (.int (cl.getD i 0))])) _
            refine XS.icmpNo X0.here hx rfl (hb hby d8_29) rfl (teq hc29).2 ?_
            show Steps p.tables e below (s₁.setTop (mkF m 32 #[.val (.ref a1), .val (.int (Int32.ofNat i)), .val (.int (Int32.ofNat oo)), .val (.int p4), .val (.ref a5), .val (.ref a6), .val (.int (cl.getD i 0))] [])) _
            refine XS.aload X0.here hx rfl (hb hby d8_32) rfl rfl ?_
            show Steps p.tables e below (s₁.setTop (mkF m 34 #[.val (.ref a1), .val (.int (Int32.ofNat i)), .val (.int (Int32.ofNat oo)), .val (.int p4), .val (.ref a5), .val (.ref a6), .val (.int (cl.getD i 0))] [(.ref a5)])) _
            refine XS.iconst X0.here hx rfl (hb hby d8_34) ?_
            show Steps p.tables e below (s₁.setTop (mkF m 35 #[.val (.ref a1), .val (.int (Int32.ofNat i)), .val (.int (Int32.ofNat oo)), .val (.int p4), .val (.ref a5), .val (.ref a6), .val (.int (cl.getD i 0))] [(.int (0 : Int32)), (.ref a5)])) _
            refine XS.iconst X0.here hx rfl (hb hby d8_35) ?_
            show Steps p.tables e below (s₁.setTop (mkF m 36 #[.val (.ref a1), .val (.int (Int32.ofNat i)), .val (.int (Int32.ofNat oo)), .val (.int p4), .val (.ref a5), .val (.ref a6), .val (.int (cl.getD i 0))] [(.int (1 : Int32)), (.int (0 : Int32)), (.ref a5)])) _
            refine st9 _ ?_
            show Steps p.tables e below (T9.setTop (mkF m 37 #[.val (.ref a1), .val (.int (Int32.ofNat i)), .val (.int (Int32.ofNat oo)), .val (.int p4), .val (.ref a5), .val (.ref a6), .val (.int (cl.getD i 0))] [])) _
            refine XS.goto X9.here hx rfl (pc0 := 37) (pc' := 104) rfl (hb hby d8_37) (by decide) (by decide) ?_
            show Steps p.tables e below (T9.setTop (mkF m 104 #[.val (.ref a1), .val (.int (Int32.ofNat i)), .val (.int (Int32.ofNat oo)), .val (.int p4), .val (.ref a5), .val (.ref a6), .val (.int (cl.getD i 0))] [])) _
            exact X9.returnOut hx Bd.returns (hb hby d8_104) hr
          · show Q_rm_st Z a1 p4 a5 a6 kt ks ko cl i oo sp h0 n0 _ T9.heap _
            rw [e9]
            exact ⟨(1, sp.2.1, sp.2.2), by rw [own_step, if_pos ((own_lt (show oo < 2147483648 by omega) (show i < 2147483648 by omega)).mp hc2), own_s1, if_neg hc10, if_pos hc23, if_pos hc29], rfl, N9, f5, V_a5_9, f2⟩
        · obtain ⟨cl10, Ar10, aq10, aS10, aN10, aH10, aG10⟩ := id V_a5
          have hin10 : ¬ ((1 : Int32) < 0 ∨ cl10.slots.size ≤ ((1 : Int32)).toNatClampNeg) := inb_of aS10 ⟨by decide, by decide⟩
          have V_a6_11 : Arv Z h0 a6 ko .char (6 : Int32) (sp.2.2.map Value.int ++ List.replicate 1 (Value.int 0)) (.int 0) := V_a6.pad (pad_rep _ _ _)
          obtain ⟨cl12, Ar12, aq12, aS12, aN12, aH12, aG12⟩ := id V_a6_11
          have hin12 : ¬ ((Int32.ofNat sp.2.2.length) < 0 ∨ cl12.slots.size ≤ ((Int32.ofNat sp.2.2.length)).toNatClampNeg) := inb_of aS12 ⟨own_nn (by omega), (own_lt (show sp.2.2.length < 2147483648 by omega) (show 6 < 2147483648 by omega)).mpr hO⟩
          obtain ⟨T13, h13, X13, e13, W13, st13⟩ := stC X0 hx hZ e0 Ar12 (j := (Int32.ofNat sp.2.2.length)) hin12 (g := (mkF m 48 #[.val (.ref a1), .val (.int (Int32.ofNat i)), .val (.int (Int32.ofNat oo)), .val (.int p4), .val (.ref a5), .val (.ref a6), .val (.int (cl.getD i 0))] [(.int (cl.getD i 0)), (.int (Int32.ofNat sp.2.2.length)), (.ref a6)])) rfl rfl (hb hby d8_48)
          have V_a6_13 : Arv Z h13 a6 ko .char (6 : Int32) ((sp.2.2.map Value.int ++ List.replicate 1 (Value.int 0)).set sp.2.2.length (.int (nar .char (cl.getD i 0)))) (.int 0) := Arv.set Ar12 aq12 aS12 aN12 aH12 aG12 (fits_nar_char _) W13 sp.2.2.length (own_tn (by omega)) (by rw [List.length_append, List.length_map]; simp)
          have f6 : Arv Z h13 a1 kt .char (6 : Int32) (cl.map Value.int) (.int 0) := V_a1.other W13 ne_a1_a6
          have f7 : Arv Z h13 a5 ks .int (3 : Int32) [(.int sp.1), (.int (Int32.ofNat sp.2.2.length)), (.int sp.2.1)] (.int (0 : Int32)) := V_a5.other W13 ne_a5_a6
          have f8 : n0 ≤ a5 := g_a5
          have f9 : n0 ≤ a6 := g_a6
          have f10 : Keep h0 h13 [a5, a6] := (Keep.refl h0 [a5, a6]).wr W13 (Or.inl (by simp))
          have N13 := Fr.snoc X13 N0 f9
          have Z13 : n0 ≤ h13.size := by rw [W13.size]; exact Z0
          have V_a6_14 : Arv Z h13 a6 ko .char (6 : Int32) ((sp.2.2 ++ [(cl.getD i 0)]).map Value.int) (.int 0) := by rw [← own_setC (own_getD hp (by omega))]; exact V_a6_13
          obtain ⟨cl15, Ar15, aq15, aS15, aN15, aH15, aG15⟩ := id f7
          have hin15 : ¬ ((1 : Int32) < 0 ∨ cl15.slots.size ≤ ((1 : Int32)).toNatClampNeg) := inb_of aS15 ⟨by decide, by decide⟩
          obtain ⟨cl16, Ar16, aq16, aS16, aN16, aH16, aG16⟩ := f7
          have hin16 : ¬ ((1 : Int32) < 0 ∨ cl16.slots.size ≤ ((1 : Int32)).toNatClampNeg) := inb_of aS16 ⟨by decide, by decide⟩
          obtain ⟨T17, h17, X17, e17, W17, st17⟩ := stI X13 hx hZ e13 Ar16 (j := (1 : Int32)) hin16 (g := (mkF m 58 #[.val (.ref a1), .val (.int (Int32.ofNat i)), .val (.int (Int32.ofNat oo)), .val (.int p4), .val (.ref a5), .val (.ref a6), .val (.int (cl.getD i 0))] [(.int ((Int32.ofNat sp.2.2.length) + (1 : Int32))), (.int (1 : Int32)), (.ref a5)])) rfl rfl (hb hby d8_58)
          have V_a5_17 : Arv Z h17 a5 ks .int (3 : Int32) [(.int sp.1), (.int ((Int32.ofNat sp.2.2.length) + (1 : Int32))), (.int sp.2.1)] (.int (0 : Int32)) := Arv.set Ar16 aq16 aS16 aN16 aH16 aG16 rfl W17 1 rfl (Nat.le_of_ble_eq_true rfl)
          have f11 : Arv Z h17 a1 kt .char (6 : Int32) (cl.map Value.int) (.int 0) := f6.other W17 ne_a1_a5
          have f12 : n0 ≤ a5 := f8
          have f13 : n0 ≤ a6 := f9
          have f14 : Keep h0 h17 [a5, a6] := f10.wr W17 (Or.inl (by simp))
          have f15 : Arv Z h17 a6 ko .char (6 : Int32) ((sp.2.2 ++ [(cl.getD i 0)]).map Value.int) (.int 0) := V_a6_14.other W17 (Ne.symm ne_a5_a6)
          have N17 := Fr.snoc X17 N13 f12
          have Z17 : n0 ≤ h17.size := by rw [W17.size]; exact Z13
          obtain ⟨fs, hr, hrun, hended, hW, hsame⟩ := X17.leave (v := none) (fun _ => rfl) (hlocks := Bd.notSynchronized)
          refine ⟨_, _, pre_7 _ ?_, hrun, hended, _, _, rfl, ?_, ⟨_, rfl⟩, hW, hsame.mono (by decide) (by decide)⟩
          · show Steps p.tables e below (s₁.setTop (mkF m 29 #[.val (.ref a1), .val (.int (Int32.ofNat i)), .val (.int (Int32.ofNat oo)), .val (.int p4), .val (.ref a5), .val (.ref a6), .val (.int (cl.getD i 0))] [(.int p4), (.int (cl.getD i 0))])) _
            refine XS.icmpYes X0.here hx rfl (pc0 := 29) (pc' := 40) rfl (hb hby d8_29) rfl (feq hc29).2 (by decide) (by decide) ?_
            show Steps p.tables e below (s₁.setTop (mkF m 40 #[.val (.ref a1), .val (.int (Int32.ofNat i)), .val (.int (Int32.ofNat oo)), .val (.int p4), .val (.ref a5), .val (.ref a6), .val (.int (cl.getD i 0))] [])) _
            refine XS.aload X0.here hx rfl (hb hby d8_40) rfl rfl ?_
            show Steps p.tables e below (s₁.setTop (mkF m 42 #[.val (.ref a1), .val (.int (Int32.ofNat i)), .val (.int (Int32.ofNat oo)), .val (.int p4), .val (.ref a5), .val (.ref a6), .val (.int (cl.getD i 0))] [(.ref a6)])) _
            refine XS.aload X0.here hx rfl (hb hby d8_42) rfl rfl ?_
            show Steps p.tables e below (s₁.setTop (mkF m 44 #[.val (.ref a1), .val (.int (Int32.ofNat i)), .val (.int (Int32.ofNat oo)), .val (.int p4), .val (.ref a5), .val (.ref a6), .val (.int (cl.getD i 0))] [(.ref a5), (.ref a6)])) _
            refine XS.iconst X0.here hx rfl (hb hby d8_44) ?_
            show Steps p.tables e below (s₁.setTop (mkF m 45 #[.val (.ref a1), .val (.int (Int32.ofNat i)), .val (.int (Int32.ofNat oo)), .val (.int p4), .val (.ref a5), .val (.ref a6), .val (.int (cl.getD i 0))] [(.int (1 : Int32)), (.ref a5), (.ref a6)])) _
            refine X0.iaload hx (j := (1 : Int32)) (v := (.int (Int32.ofNat sp.2.2.length))) (by rw [e0]; exact Ar10.1) (State.isArrayOf_alike hZ.alike Ar10.2.1) Ar10.2.2 hin10 (Has.at aH10 hin10 rfl) (g := (mkF m 45 #[.val (.ref a1), .val (.int (Int32.ofNat i)), .val (.int (Int32.ofNat oo)), .val (.int p4), .val (.ref a5), .val (.ref a6), .val (.int (cl.getD i 0))] [(.int (1 : Int32)), (.ref a5), (.ref a6)])) rfl rfl (hb hby d8_45) _ ?_
            show Steps p.tables e below (s₁.setTop (mkF m 46 #[.val (.ref a1), .val (.int (Int32.ofNat i)), .val (.int (Int32.ofNat oo)), .val (.int p4), .val (.ref a5), .val (.ref a6), .val (.int (cl.getD i 0))] [(.int (Int32.ofNat sp.2.2.length)), (.ref a6)])) _
            refine XS.iload X0.here hx rfl (hb hby d8_46) rfl ?_
            show Steps p.tables e below (s₁.setTop (mkF m 48 #[.val (.ref a1), .val (.int (Int32.ofNat i)), .val (.int (Int32.ofNat oo)), .val (.int p4), .val (.ref a5), .val (.ref a6), .val (.int (cl.getD i 0))] [(.int (cl.getD i 0)), (.int (Int32.ofNat sp.2.2.length)), (.ref a6)])) _
            refine st13 _ ?_
            show Steps p.tables e below (T13.setTop (mkF m 49 #[.val (.ref a1), .val (.int (Int32.ofNat i)), .val (.int (Int32.ofNat oo)), .val (.int p4), .val (.ref a5), .val (.ref a6), .val (.int (cl.getD i 0))] [])) _
            refine XS.aload X13.here hx rfl (hb hby d8_49) rfl rfl ?_
            show Steps p.tables e below (T13.setTop (mkF m 51 #[.val (.ref a1), .val (.int (Int32.ofNat i)), .val (.int (Int32.ofNat oo)), .val (.int p4), .val (.ref a5), .val (.ref a6), .val (.int (cl.getD i 0))] [(.ref a5)])) _
            refine XS.iconst X13.here hx rfl (hb hby d8_51) ?_
            show Steps p.tables e below (T13.setTop (mkF m 52 #[.val (.ref a1), .val (.int (Int32.ofNat i)), .val (.int (Int32.ofNat oo)), .val (.int p4), .val (.ref a5), .val (.ref a6), .val (.int (cl.getD i 0))] [(.int (1 : Int32)), (.ref a5)])) _
            refine XS.aload X13.here hx rfl (hb hby d8_52) rfl rfl ?_
            show Steps p.tables e below (T13.setTop (mkF m 54 #[.val (.ref a1), .val (.int (Int32.ofNat i)), .val (.int (Int32.ofNat oo)), .val (.int p4), .val (.ref a5), .val (.ref a6), .val (.int (cl.getD i 0))] [(.ref a5), (.int (1 : Int32)), (.ref a5)])) _
            refine XS.iconst X13.here hx rfl (hb hby d8_54) ?_
            show Steps p.tables e below (T13.setTop (mkF m 55 #[.val (.ref a1), .val (.int (Int32.ofNat i)), .val (.int (Int32.ofNat oo)), .val (.int p4), .val (.ref a5), .val (.ref a6), .val (.int (cl.getD i 0))] [(.int (1 : Int32)), (.ref a5), (.int (1 : Int32)), (.ref a5)])) _
            refine X13.iaload hx (j := (1 : Int32)) (v := (.int (Int32.ofNat sp.2.2.length))) (by rw [e13]; exact Ar15.1) (State.isArrayOf_alike hZ.alike Ar15.2.1) Ar15.2.2 hin15 (Has.at aH15 hin15 rfl) (g := (mkF m 55 #[.val (.ref a1), .val (.int (Int32.ofNat i)), .val (.int (Int32.ofNat oo)), .val (.int p4), .val (.ref a5), .val (.ref a6), .val (.int (cl.getD i 0))] [(.int (1 : Int32)), (.ref a5), (.int (1 : Int32)), (.ref a5)])) rfl rfl (hb hby d8_55) _ ?_
            show Steps p.tables e below (T13.setTop (mkF m 56 #[.val (.ref a1), .val (.int (Int32.ofNat i)), .val (.int (Int32.ofNat oo)), .val (.int p4), .val (.ref a5), .val (.ref a6), .val (.int (cl.getD i 0))] [(.int (Int32.ofNat sp.2.2.length)), (.int (1 : Int32)), (.ref a5)])) _
            refine XS.iconst X13.here hx rfl (hb hby d8_56) ?_
            show Steps p.tables e below (T13.setTop (mkF m 57 #[.val (.ref a1), .val (.int (Int32.ofNat i)), .val (.int (Int32.ofNat oo)), .val (.int p4), .val (.ref a5), .val (.ref a6), .val (.int (cl.getD i 0))] [(.int (1 : Int32)), (.int (Int32.ofNat sp.2.2.length)), (.int (1 : Int32)), (.ref a5)])) _
            refine XS.iadd X13.here hx rfl (hb hby d8_57) rfl ?_
            show Steps p.tables e below (T13.setTop (mkF m 58 #[.val (.ref a1), .val (.int (Int32.ofNat i)), .val (.int (Int32.ofNat oo)), .val (.int p4), .val (.ref a5), .val (.ref a6), .val (.int (cl.getD i 0))] [(.int ((Int32.ofNat sp.2.2.length) + (1 : Int32))), (.int (1 : Int32)), (.ref a5)])) _
            refine st17 _ ?_
            show Steps p.tables e below (T17.setTop (mkF m 59 #[.val (.ref a1), .val (.int (Int32.ofNat i)), .val (.int (Int32.ofNat oo)), .val (.int p4), .val (.ref a5), .val (.ref a6), .val (.int (cl.getD i 0))] [])) _
            refine XS.goto X17.here hx rfl (pc0 := 59) (pc' := 104) rfl (hb hby d8_59) (by decide) (by decide) ?_
            show Steps p.tables e below (T17.setTop (mkF m 104 #[.val (.ref a1), .val (.int (Int32.ofNat i)), .val (.int (Int32.ofNat oo)), .val (.int p4), .val (.ref a5), .val (.ref a6), .val (.int (cl.getD i 0))] [])) _
            exact X17.returnOut hx Bd.returns (hb hby d8_104) hr
          · show Q_rm_st Z a1 p4 a5 a6 kt ks ko cl i oo sp h0 n0 _ T17.heap _
            rw [e17]
            exact ⟨(sp.1, sp.2.1, sp.2.2 ++ [(cl.getD i 0)]), by rw [own_step, if_pos ((own_lt (show oo < 2147483648 by omega) (show i < 2147483648 by omega)).mp hc2), own_s1, if_neg hc10, if_pos hc23, if_neg hc29], rfl, N17, f14, (by have q := V_a5_17; rw [own_cnt1 (ac := sp.2.2) (x := (cl.getD i 0)) (by omega)] at q; exact q), f15⟩
      · have pre_18 : ∀ t, Steps p.tables e below (s₁.setTop (mkF m 65 #[.val (.ref a1), .val (.int (Int32.ofNat i)), .val (.int (Int32.ofNat oo)), .val (.int p4), .val (.ref a5), .val (.ref a6), .val (.int (cl.getD i 0))] [(.int p4), (.int (cl.getD i 0))])) t → Steps p.tables e below (s₁.setTop (entryFrame m #[(.ref a1), (.int (Int32.ofNat i)), (.int (Int32.ofNat oo)), (.int p4), (.ref a5), (.ref a6)] 7)) t := by
          intro t kt
          refine pre_6 _ ?_
          show Steps p.tables e below (s₁.setTop (mkF m 23 #[.val (.ref a1), .val (.int (Int32.ofNat i)), .val (.int (Int32.ofNat oo)), .val (.int p4), .val (.ref a5), .val (.ref a6), .val (.int (cl.getD i 0))] [(.int sp.1)])) _
          refine XS.ifYes X0.here hx rfl (pc0 := 23) (pc' := 62) rfl (hb hby d8_23) rfl ((if0 _ _).trans (feq hc23).2) (by decide) (by decide) ?_
          show Steps p.tables e below (s₁.setTop (mkF m 62 #[.val (.ref a1), .val (.int (Int32.ofNat i)), .val (.int (Int32.ofNat oo)), .val (.int p4), .val (.ref a5), .val (.ref a6), .val (.int (cl.getD i 0))] [])) _
          refine XS.iload X0.here hx rfl (hb hby d8_62) rfl ?_
          show Steps p.tables e below (s₁.setTop (mkF m 64 #[.val (.ref a1), .val (.int (Int32.ofNat i)), .val (.int (Int32.ofNat oo)), .val (.int p4), .val (.ref a5), .val (.ref a6), .val (.int (cl.getD i 0))] [(.int (cl.getD i 0))])) _
          refine XS.iloadN X0.here hx rfl (hb hby d8_64) rfl ?_
          exact kt
        by_cases hc65 : (cl.getD i 0) = p4
        · obtain ⟨cl19, Ar19, aq19, aS19, aN19, aH19, aG19⟩ := id V_a5
          have hin19 : ¬ ((1 : Int32) < 0 ∨ cl19.slots.size ≤ ((1 : Int32)).toNatClampNeg) := inb_of aS19 ⟨by decide, by decide⟩
          have V_a6_20 : Arv Z h0 a6 ko .char (6 : Int32) (sp.2.2.map Value.int ++ List.replicate 1 (Value.int 0)) (.int 0) := V_a6.pad (pad_rep _ _ _)
          obtain ⟨cl21, Ar21, aq21, aS21, aN21, aH21, aG21⟩ := id V_a6_20
          have hin21 : ¬ ((Int32.ofNat sp.2.2.length) < 0 ∨ cl21.slots.size ≤ ((Int32.ofNat sp.2.2.length)).toNatClampNeg) := inb_of aS21 ⟨own_nn (by omega), (own_lt (show sp.2.2.length < 2147483648 by omega) (show 6 < 2147483648 by omega)).mpr hO⟩
          obtain ⟨T22, h22, X22, e22, W22, st22⟩ := stC X0 hx hZ e0 Ar21 (j := (Int32.ofNat sp.2.2.length)) hin21 (g := (mkF m 75 #[.val (.ref a1), .val (.int (Int32.ofNat i)), .val (.int (Int32.ofNat oo)), .val (.int p4), .val (.ref a5), .val (.ref a6), .val (.int (cl.getD i 0))] [(.int p4), (.int (Int32.ofNat sp.2.2.length)), (.ref a6)])) rfl rfl (hb hby d8_75)
          have V_a6_22 : Arv Z h22 a6 ko .char (6 : Int32) ((sp.2.2.map Value.int ++ List.replicate 1 (Value.int 0)).set sp.2.2.length (.int (nar .char p4))) (.int 0) := Arv.set Ar21 aq21 aS21 aN21 aH21 aG21 (fits_nar_char _) W22 sp.2.2.length (own_tn (by omega)) (by rw [List.length_append, List.length_map]; simp)
          have f16 : Arv Z h22 a1 kt .char (6 : Int32) (cl.map Value.int) (.int 0) := V_a1.other W22 ne_a1_a6
          have f17 : Arv Z h22 a5 ks .int (3 : Int32) [(.int sp.1), (.int (Int32.ofNat sp.2.2.length)), (.int sp.2.1)] (.int (0 : Int32)) := V_a5.other W22 ne_a5_a6
          have f18 : n0 ≤ a5 := g_a5
          have f19 : n0 ≤ a6 := g_a6
          have f20 : Keep h0 h22 [a5, a6] := (Keep.refl h0 [a5, a6]).wr W22 (Or.inl (by simp))
          have N22 := Fr.snoc X22 N0 f19
          have Z22 : n0 ≤ h22.size := by rw [W22.size]; exact Z0
          have V_a6_23 : Arv Z h22 a6 ko .char (6 : Int32) ((sp.2.2 ++ [p4]).map Value.int) (.int 0) := by rw [← own_setC hq]; exact V_a6_22
          obtain ⟨cl24, Ar24, aq24, aS24, aN24, aH24, aG24⟩ := id f17
          have hin24 : ¬ ((1 : Int32) < 0 ∨ cl24.slots.size ≤ ((1 : Int32)).toNatClampNeg) := inb_of aS24 ⟨by decide, by decide⟩
          obtain ⟨cl25, Ar25, aq25, aS25, aN25, aH25, aG25⟩ := f17
          have hin25 : ¬ ((1 : Int32) < 0 ∨ cl25.slots.size ≤ ((1 : Int32)).toNatClampNeg) := inb_of aS25 ⟨by decide, by decide⟩
          obtain ⟨T26, h26, X26, e26, W26, st26⟩ := stI X22 hx hZ e22 Ar25 (j := (1 : Int32)) hin25 (g := (mkF m 85 #[.val (.ref a1), .val (.int (Int32.ofNat i)), .val (.int (Int32.ofNat oo)), .val (.int p4), .val (.ref a5), .val (.ref a6), .val (.int (cl.getD i 0))] [(.int ((Int32.ofNat sp.2.2.length) + (1 : Int32))), (.int (1 : Int32)), (.ref a5)])) rfl rfl (hb hby d8_85)
          have V_a5_26 : Arv Z h26 a5 ks .int (3 : Int32) [(.int sp.1), (.int ((Int32.ofNat sp.2.2.length) + (1 : Int32))), (.int sp.2.1)] (.int (0 : Int32)) := Arv.set Ar25 aq25 aS25 aN25 aH25 aG25 rfl W26 1 rfl (Nat.le_of_ble_eq_true rfl)
          have f21 : Arv Z h26 a1 kt .char (6 : Int32) (cl.map Value.int) (.int 0) := f16.other W26 ne_a1_a5
          have f22 : n0 ≤ a5 := f18
          have f23 : n0 ≤ a6 := f19
          have f24 : Keep h0 h26 [a5, a6] := f20.wr W26 (Or.inl (by simp))
          have f25 : Arv Z h26 a6 ko .char (6 : Int32) ((sp.2.2 ++ [p4]).map Value.int) (.int 0) := V_a6_23.other W26 (Ne.symm ne_a5_a6)
          have N26 := Fr.snoc X26 N22 f22
          have Z26 : n0 ≤ h26.size := by rw [W26.size]; exact Z22
          obtain ⟨cl27, Ar27, aq27, aS27, aN27, aH27, aG27⟩ := V_a5_26
          have hin27 : ¬ ((0 : Int32) < 0 ∨ cl27.slots.size ≤ ((0 : Int32)).toNatClampNeg) := inb_of aS27 ⟨by decide, by decide⟩
          obtain ⟨T28, h28, X28, e28, W28, st28⟩ := stI X26 hx hZ e26 Ar27 (j := (0 : Int32)) hin27 (g := (mkF m 90 #[.val (.ref a1), .val (.int (Int32.ofNat i)), .val (.int (Int32.ofNat oo)), .val (.int p4), .val (.ref a5), .val (.ref a6), .val (.int (cl.getD i 0))] [(.int (0 : Int32)), (.int (0 : Int32)), (.ref a5)])) rfl rfl (hb hby d8_90)
          have V_a5_28 : Arv Z h28 a5 ks .int (3 : Int32) [(.int (0 : Int32)), (.int ((Int32.ofNat sp.2.2.length) + (1 : Int32))), (.int sp.2.1)] (.int (0 : Int32)) := Arv.set Ar27 aq27 aS27 aN27 aH27 aG27 rfl W28 0 rfl (Nat.le_of_ble_eq_true rfl)
          have f26 : Arv Z h28 a1 kt .char (6 : Int32) (cl.map Value.int) (.int 0) := f21.other W28 ne_a1_a5
          have f27 : n0 ≤ a5 := f22
          have f28 : n0 ≤ a6 := f23
          have f29 : Keep h0 h28 [a5, a6] := f24.wr W28 (Or.inl (by simp))
          have f30 : Arv Z h28 a6 ko .char (6 : Int32) ((sp.2.2 ++ [p4]).map Value.int) (.int 0) := f25.other W28 (Ne.symm ne_a5_a6)
          have N28 := Fr.snoc X28 N26 f27
          have Z28 : n0 ≤ h28.size := by rw [W28.size]; exact Z26
          obtain ⟨fs, hr, hrun, hended, hW, hsame⟩ := X28.leave (v := none) (fun _ => rfl) (hlocks := Bd.notSynchronized)
          refine ⟨_, _, pre_18 _ ?_, hrun, hended, _, _, rfl, ?_, ⟨_, rfl⟩, hW, hsame.mono (by decide) (by decide)⟩
          · show Steps p.tables e below (s₁.setTop (mkF m 65 #[.val (.ref a1), .val (.int (Int32.ofNat i)), .val (.int (Int32.ofNat oo)), .val (.int p4), .val (.ref a5), .val (.ref a6), .val (.int (cl.getD i 0))] [(.int p4), (.int (cl.getD i 0))])) _
            refine XS.icmpNo X0.here hx rfl (hb hby d8_65) rfl (teq hc65).2 ?_
            show Steps p.tables e below (s₁.setTop (mkF m 68 #[.val (.ref a1), .val (.int (Int32.ofNat i)), .val (.int (Int32.ofNat oo)), .val (.int p4), .val (.ref a5), .val (.ref a6), .val (.int (cl.getD i 0))] [])) _
            refine XS.aload X0.here hx rfl (hb hby d8_68) rfl rfl ?_
            show Steps p.tables e below (s₁.setTop (mkF m 70 #[.val (.ref a1), .val (.int (Int32.ofNat i)), .val (.int (Int32.ofNat oo)), .val (.int p4), .val (.ref a5), .val (.ref a6), .val (.int (cl.getD i 0))] [(.ref a6)])) _
            refine XS.aload X0.here hx rfl (hb hby d8_70) rfl rfl ?_
            show Steps p.tables e below (s₁.setTop (mkF m 72 #[.val (.ref a1), .val (.int (Int32.ofNat i)), .val (.int (Int32.ofNat oo)), .val (.int p4), .val (.ref a5), .val (.ref a6), .val (.int (cl.getD i 0))] [(.ref a5), (.ref a6)])) _
            refine XS.iconst X0.here hx rfl (hb hby d8_72) ?_
            show Steps p.tables e below (s₁.setTop (mkF m 73 #[.val (.ref a1), .val (.int (Int32.ofNat i)), .val (.int (Int32.ofNat oo)), .val (.int p4), .val (.ref a5), .val (.ref a6), .val (.int (cl.getD i 0))] [(.int (1 : Int32)), (.ref a5), (.ref a6)])) _
            refine X0.iaload hx (j := (1 : Int32)) (v := (.int (Int32.ofNat sp.2.2.length))) (by rw [e0]; exact Ar19.1) (State.isArrayOf_alike hZ.alike Ar19.2.1) Ar19.2.2 hin19 (Has.at aH19 hin19 rfl) (g := (mkF m 73 #[.val (.ref a1), .val (.int (Int32.ofNat i)), .val (.int (Int32.ofNat oo)), .val (.int p4), .val (.ref a5), .val (.ref a6), .val (.int (cl.getD i 0))] [(.int (1 : Int32)), (.ref a5), (.ref a6)])) rfl rfl (hb hby d8_73) _ ?_
            show Steps p.tables e below (s₁.setTop (mkF m 74 #[.val (.ref a1), .val (.int (Int32.ofNat i)), .val (.int (Int32.ofNat oo)), .val (.int p4), .val (.ref a5), .val (.ref a6), .val (.int (cl.getD i 0))] [(.int (Int32.ofNat sp.2.2.length)), (.ref a6)])) _
            refine XS.iloadN X0.here hx rfl (hb hby d8_74) rfl ?_
            show Steps p.tables e below (s₁.setTop (mkF m 75 #[.val (.ref a1), .val (.int (Int32.ofNat i)), .val (.int (Int32.ofNat oo)), .val (.int p4), .val (.ref a5), .val (.ref a6), .val (.int (cl.getD i 0))] [(.int p4), (.int (Int32.ofNat sp.2.2.length)), (.ref a6)])) _
            refine st22 _ ?_
            show Steps p.tables e below (T22.setTop (mkF m 76 #[.val (.ref a1), .val (.int (Int32.ofNat i)), .val (.int (Int32.ofNat oo)), .val (.int p4), .val (.ref a5), .val (.ref a6), .val (.int (cl.getD i 0))] [])) _
            refine XS.aload X22.here hx rfl (hb hby d8_76) rfl rfl ?_
            show Steps p.tables e below (T22.setTop (mkF m 78 #[.val (.ref a1), .val (.int (Int32.ofNat i)), .val (.int (Int32.ofNat oo)), .val (.int p4), .val (.ref a5), .val (.ref a6), .val (.int (cl.getD i 0))] [(.ref a5)])) _
            refine XS.iconst X22.here hx rfl (hb hby d8_78) ?_
            show Steps p.tables e below (T22.setTop (mkF m 79 #[.val (.ref a1), .val (.int (Int32.ofNat i)), .val (.int (Int32.ofNat oo)), .val (.int p4), .val (.ref a5), .val (.ref a6), .val (.int (cl.getD i 0))] [(.int (1 : Int32)), (.ref a5)])) _
            refine XS.aload X22.here hx rfl (hb hby d8_79) rfl rfl ?_
            show Steps p.tables e below (T22.setTop (mkF m 81 #[.val (.ref a1), .val (.int (Int32.ofNat i)), .val (.int (Int32.ofNat oo)), .val (.int p4), .val (.ref a5), .val (.ref a6), .val (.int (cl.getD i 0))] [(.ref a5), (.int (1 : Int32)), (.ref a5)])) _
            refine XS.iconst X22.here hx rfl (hb hby d8_81) ?_
            show Steps p.tables e below (T22.setTop (mkF m 82 #[.val (.ref a1), .val (.int (Int32.ofNat i)), .val (.int (Int32.ofNat oo)), .val (.int p4), .val (.ref a5), .val (.ref a6), .val (.int (cl.getD i 0))] [(.int (1 : Int32)), (.ref a5), (.int (1 : Int32)), (.ref a5)])) _
            refine X22.iaload hx (j := (1 : Int32)) (v := (.int (Int32.ofNat sp.2.2.length))) (by rw [e22]; exact Ar24.1) (State.isArrayOf_alike hZ.alike Ar24.2.1) Ar24.2.2 hin24 (Has.at aH24 hin24 rfl) (g := (mkF m 82 #[.val (.ref a1), .val (.int (Int32.ofNat i)), .val (.int (Int32.ofNat oo)), .val (.int p4), .val (.ref a5), .val (.ref a6), .val (.int (cl.getD i 0))] [(.int (1 : Int32)), (.ref a5), (.int (1 : Int32)), (.ref a5)])) rfl rfl (hb hby d8_82) _ ?_
            show Steps p.tables e below (T22.setTop (mkF m 83 #[.val (.ref a1), .val (.int (Int32.ofNat i)), .val (.int (Int32.ofNat oo)), .val (.int p4), .val (.ref a5), .val (.ref a6), .val (.int (cl.getD i 0))] [(.int (Int32.ofNat sp.2.2.length)), (.int (1 : Int32)), (.ref a5)])) _
            refine XS.iconst X22.here hx rfl (hb hby d8_83) ?_
            show Steps p.tables e below (T22.setTop (mkF m 84 #[.val (.ref a1), .val (.int (Int32.ofNat i)), .val (.int (Int32.ofNat oo)), .val (.int p4), .val (.ref a5), .val (.ref a6), .val (.int (cl.getD i 0))] [(.int (1 : Int32)), (.int (Int32.ofNat sp.2.2.length)), (.int (1 : Int32)), (.ref a5)])) _
            refine XS.iadd X22.here hx rfl (hb hby d8_84) rfl ?_
            show Steps p.tables e below (T22.setTop (mkF m 85 #[.val (.ref a1), .val (.int (Int32.ofNat i)), .val (.int (Int32.ofNat oo)), .val (.int p4), .val (.ref a5), .val (.ref a6), .val (.int (cl.getD i 0))] [(.int ((Int32.ofNat sp.2.2.length) + (1 : Int32))), (.int (1 : Int32)), (.ref a5)])) _
            refine st26 _ ?_
            show Steps p.tables e below (T26.setTop (mkF m 86 #[.val (.ref a1), .val (.int (Int32.ofNat i)), .val (.int (Int32.ofNat oo)), .val (.int p4), .val (.ref a5), .val (.ref a6), .val (.int (cl.getD i 0))] [])) _
            refine XS.aload X26.here hx rfl (hb hby d8_86) rfl rfl ?_
            show Steps p.tables e below (T26.setTop (mkF m 88 #[.val (.ref a1), .val (.int (Int32.ofNat i)), .val (.int (Int32.ofNat oo)), .val (.int p4), .val (.ref a5), .val (.ref a6), .val (.int (cl.getD i 0))] [(.ref a5)])) _
            refine XS.iconst X26.here hx rfl (hb hby d8_88) ?_
            show Steps p.tables e below (T26.setTop (mkF m 89 #[.val (.ref a1), .val (.int (Int32.ofNat i)), .val (.int (Int32.ofNat oo)), .val (.int p4), .val (.ref a5), .val (.ref a6), .val (.int (cl.getD i 0))] [(.int (0 : Int32)), (.ref a5)])) _
            refine XS.iconst X26.here hx rfl (hb hby d8_89) ?_
            show Steps p.tables e below (T26.setTop (mkF m 90 #[.val (.ref a1), .val (.int (Int32.ofNat i)), .val (.int (Int32.ofNat oo)), .val (.int p4), .val (.ref a5), .val (.ref a6), .val (.int (cl.getD i 0))] [(.int (0 : Int32)), (.int (0 : Int32)), (.ref a5)])) _
            refine st28 _ ?_
            show Steps p.tables e below (T28.setTop (mkF m 91 #[.val (.ref a1), .val (.int (Int32.ofNat i)), .val (.int (Int32.ofNat oo)), .val (.int p4), .val (.ref a5), .val (.ref a6), .val (.int (cl.getD i 0))] [])) _
            refine XS.goto X28.here hx rfl (pc0 := 91) (pc' := 104) rfl (hb hby d8_91) (by decide) (by decide) ?_
            show Steps p.tables e below (T28.setTop (mkF m 104 #[.val (.ref a1), .val (.int (Int32.ofNat i)), .val (.int (Int32.ofNat oo)), .val (.int p4), .val (.ref a5), .val (.ref a6), .val (.int (cl.getD i 0))] [])) _
            exact X28.returnOut hx Bd.returns (hb hby d8_104) hr
          · show Q_rm_st Z a1 p4 a5 a6 kt ks ko cl i oo sp h0 n0 _ T28.heap _
            rw [e28]
            exact ⟨(0, sp.2.1, sp.2.2 ++ [p4]), by rw [own_step, if_pos ((own_lt (show oo < 2147483648 by omega) (show i < 2147483648 by omega)).mp hc2), own_s1, if_neg hc10, if_neg hc23, if_pos hc65], rfl, N28, f29, (by have q := V_a5_28; rw [own_cnt1 (ac := sp.2.2) (x := p4) (by omega)] at q; exact q), f30⟩
        · obtain ⟨cl29, Ar29, aq29, aS29, aN29, aH29, aG29⟩ := V_a5
          have hin29 : ¬ ((0 : Int32) < 0 ∨ cl29.slots.size ≤ ((0 : Int32)).toNatClampNeg) := inb_of aS29 ⟨by decide, by decide⟩
          obtain ⟨T30, h30, X30, e30, W30, st30⟩ := stI X0 hx hZ e0 Ar29 (j := (0 : Int32)) hin29 (g := (mkF m 98 #[.val (.ref a1), .val (.int (Int32.ofNat i)), .val (.int (Int32.ofNat oo)), .val (.int p4), .val (.ref a5), .val (.ref a6), .val (.int (cl.getD i 0))] [(.int (2 : Int32)), (.int (0 : Int32)), (.ref a5)])) rfl rfl (hb hby d8_98)
          have V_a5_30 : Arv Z h30 a5 ks .int (3 : Int32) [(.int (2 : Int32)), (.int (Int32.ofNat sp.2.2.length)), (.int sp.2.1)] (.int (0 : Int32)) := Arv.set Ar29 aq29 aS29 aN29 aH29 aG29 rfl W30 0 rfl (Nat.le_of_ble_eq_true rfl)
          have f31 : Arv Z h30 a1 kt .char (6 : Int32) (cl.map Value.int) (.int 0) := V_a1.other W30 ne_a1_a5
          have f32 : Arv Z h30 a6 ko .char (6 : Int32) (sp.2.2.map Value.int) (.int 0) := V_a6.other W30 (Ne.symm ne_a5_a6)
          have f33 : n0 ≤ a5 := g_a5
          have f34 : n0 ≤ a6 := g_a6
          have f35 : Keep h0 h30 [a5, a6] := (Keep.refl h0 [a5, a6]).wr W30 (Or.inl (by simp))
          have N30 := Fr.snoc X30 N0 f33
          have Z30 : n0 ≤ h30.size := by rw [W30.size]; exact Z0
          obtain ⟨cl31, Ar31, aq31, aS31, aN31, aH31, aG31⟩ := V_a5_30
          have hin31 : ¬ ((2 : Int32) < 0 ∨ cl31.slots.size ≤ ((2 : Int32)).toNatClampNeg) := inb_of aS31 ⟨by decide, by decide⟩
          obtain ⟨T32, h32, X32, e32, W32, st32⟩ := stI X30 hx hZ e30 Ar31 (j := (2 : Int32)) hin31 (g := (mkF m 103 #[.val (.ref a1), .val (.int (Int32.ofNat i)), .val (.int (Int32.ofNat oo)), .val (.int p4), .val (.ref a5), .val (.ref a6), .val (.int (cl.getD i 0))] [(.int (Int32.ofNat i)), (.int (2 : Int32)), (.ref a5)])) rfl rfl (hb hby d8_103)
          have V_a5_32 : Arv Z h32 a5 ks .int (3 : Int32) [(.int (2 : Int32)), (.int (Int32.ofNat sp.2.2.length)), (.int (Int32.ofNat i))] (.int (0 : Int32)) := Arv.set Ar31 aq31 aS31 aN31 aH31 aG31 rfl W32 2 rfl (Nat.le_of_ble_eq_true rfl)
          have f36 : Arv Z h32 a1 kt .char (6 : Int32) (cl.map Value.int) (.int 0) := f31.other W32 ne_a1_a5
          have f37 : Arv Z h32 a6 ko .char (6 : Int32) (sp.2.2.map Value.int) (.int 0) := f32.other W32 (Ne.symm ne_a5_a6)
          have f38 : n0 ≤ a5 := f33
          have f39 : n0 ≤ a6 := f34
          have f40 : Keep h0 h32 [a5, a6] := f35.wr W32 (Or.inl (by simp))
          have N32 := Fr.snoc X32 N30 f38
          have Z32 : n0 ≤ h32.size := by rw [W32.size]; exact Z30
          obtain ⟨fs, hr, hrun, hended, hW, hsame⟩ := X32.leave (v := none) (fun _ => rfl) (hlocks := Bd.notSynchronized)
          refine ⟨_, _, pre_18 _ ?_, hrun, hended, _, _, rfl, ?_, ⟨_, rfl⟩, hW, hsame.mono (by decide) (by decide)⟩
          · show Steps p.tables e below (s₁.setTop (mkF m 65 #[.val (.ref a1), .val (.int (Int32.ofNat i)), .val (.int (Int32.ofNat oo)), .val (.int p4), .val (.ref a5), .val (.ref a6), .val (.int (cl.getD i 0))] [(.int p4), (.int (cl.getD i 0))])) _
            refine XS.icmpYes X0.here hx rfl (pc0 := 65) (pc' := 94) rfl (hb hby d8_65) rfl (feq hc65).2 (by decide) (by decide) ?_
            show Steps p.tables e below (s₁.setTop (mkF m 94 #[.val (.ref a1), .val (.int (Int32.ofNat i)), .val (.int (Int32.ofNat oo)), .val (.int p4), .val (.ref a5), .val (.ref a6), .val (.int (cl.getD i 0))] [])) _
            refine XS.aload X0.here hx rfl (hb hby d8_94) rfl rfl ?_
            show Steps p.tables e below (s₁.setTop (mkF m 96 #[.val (.ref a1), .val (.int (Int32.ofNat i)), .val (.int (Int32.ofNat oo)), .val (.int p4), .val (.ref a5), .val (.ref a6), .val (.int (cl.getD i 0))] [(.ref a5)])) _
            refine XS.iconst X0.here hx rfl (hb hby d8_96) ?_
            show Steps p.tables e below (s₁.setTop (mkF m 97 #[.val (.ref a1), .val (.int (Int32.ofNat i)), .val (.int (Int32.ofNat oo)), .val (.int p4), .val (.ref a5), .val (.ref a6), .val (.int (cl.getD i 0))] [(.int (0 : Int32)), (.ref a5)])) _
            refine XS.iconst X0.here hx rfl (hb hby d8_97) ?_
            show Steps p.tables e below (s₁.setTop (mkF m 98 #[.val (.ref a1), .val (.int (Int32.ofNat i)), .val (.int (Int32.ofNat oo)), .val (.int p4), .val (.ref a5), .val (.ref a6), .val (.int (cl.getD i 0))] [(.int (2 : Int32)), (.int (0 : Int32)), (.ref a5)])) _
            refine st30 _ ?_
            show Steps p.tables e below (T30.setTop (mkF m 99 #[.val (.ref a1), .val (.int (Int32.ofNat i)), .val (.int (Int32.ofNat oo)), .val (.int p4), .val (.ref a5), .val (.ref a6), .val (.int (cl.getD i 0))] [])) _
            refine XS.aload X30.here hx rfl (hb hby d8_99) rfl rfl ?_
            show Steps p.tables e below (T30.setTop (mkF m 101 #[.val (.ref a1), .val (.int (Int32.ofNat i)), .val (.int (Int32.ofNat oo)), .val (.int p4), .val (.ref a5), .val (.ref a6), .val (.int (cl.getD i 0))] [(.ref a5)])) _
            refine XS.iconst X30.here hx rfl (hb hby d8_101) ?_
            show Steps p.tables e below (T30.setTop (mkF m 102 #[.val (.ref a1), .val (.int (Int32.ofNat i)), .val (.int (Int32.ofNat oo)), .val (.int p4), .val (.ref a5), .val (.ref a6), .val (.int (cl.getD i 0))] [(.int (2 : Int32)), (.ref a5)])) _
            refine XS.iloadN X30.here hx rfl (hb hby d8_102) rfl ?_
            show Steps p.tables e below (T30.setTop (mkF m 103 #[.val (.ref a1), .val (.int (Int32.ofNat i)), .val (.int (Int32.ofNat oo)), .val (.int p4), .val (.ref a5), .val (.ref a6), .val (.int (cl.getD i 0))] [(.int (Int32.ofNat i)), (.int (2 : Int32)), (.ref a5)])) _
            refine st32 _ ?_
            show Steps p.tables e below (T32.setTop (mkF m 104 #[.val (.ref a1), .val (.int (Int32.ofNat i)), .val (.int (Int32.ofNat oo)), .val (.int p4), .val (.ref a5), .val (.ref a6), .val (.int (cl.getD i 0))] [])) _
            exact X32.returnOut hx Bd.returns (hb hby d8_104) hr
          · show Q_rm_st Z a1 p4 a5 a6 kt ks ko cl i oo sp h0 n0 _ T32.heap _
            rw [e32]
            exact ⟨(2, Int32.ofNat i, sp.2.2), by rw [own_step, if_pos ((own_lt (show oo < 2147483648 by omega) (show i < 2147483648 by omega)).mp hc2), own_s1, if_neg hc10, if_neg hc23, if_neg hc65], rfl, N32, f40, V_a5_32, f37⟩
  · obtain ⟨fs, hr, hrun, hended, hW, hsame⟩ := X0.leave (v := none) (fun _ => rfl) (hlocks := Bd.notSynchronized)
    refine ⟨_, _, pre_1 _ ?_, hrun, hended, _, _, rfl, ?_, ⟨_, rfl⟩, hW, hsame.mono (by decide) (by decide)⟩
    · show Steps p.tables e below (s₁.setTop (mkF m 2 #[.val (.ref a1), .val (.int (Int32.ofNat i)), .val (.int (Int32.ofNat oo)), .val (.int p4), .val (.ref a5), .val (.ref a6), .unset] [(.int (Int32.ofNat oo)), (.int (Int32.ofNat i))])) _
      refine XS.icmpYes X0.here hx rfl (pc0 := 2) (pc' := 13) rfl (hb hby d8_2) rfl (flt hc2).2.2.2 (by decide) (by decide) ?_
      show Steps p.tables e below (s₁.setTop (mkF m 13 #[.val (.ref a1), .val (.int (Int32.ofNat i)), .val (.int (Int32.ofNat oo)), .val (.int p4), .val (.ref a5), .val (.ref a6), .unset] [])) _
      exact X0.returnOut hx Bd.returns (hb hby d8_13) hr
    · show Q_rm_st Z a1 p4 a5 a6 kt ks ko cl i oo sp h0 n0 _ s₁.heap _
      rw [e0]
      exact ⟨sp, by rw [own_step, if_neg (fun q => hc2 ((own_lt (show oo < 2147483648 by omega) (show i < 2147483648 by omega)).mpr q))], rfl, N0, (Keep.refl h0 [a5, a6]), V_a5, V_a6⟩
theorem pn_48 : plainName "com/example/purveyor/purveyor/sqlite/QuotedTextReadPinLaw" = true := by first | (simp [plainName, overriddenIn]; done) | decide +kernel
theorem ef_rm_sm (m : MethodId) (x0 : Addr) (x1 : Addr) (x2 : Int32) (x3 : Int32) : entryFrame m #[(.ref x0), (.ref x1), (.int x2), (.int x3)] 4 = mkF m 0 #[.val (.ref x0), .val (.ref x1), .val (.int x2), .val (.int x3)] [] := by first | (simp [entryFrame, mkF, argsToLocals, Value.category]; done) | rfl
def Q_rm_sm (Z : State) (a1 : Addr) (a2 : Addr) (t1 : Addr) (kb1 ko : ClassId) (ac : List Int32) (k : Nat) (cz : Int32) (fS : Value) (h0 : Heap) (n0 : Nat) (v : Option Value) (h : Heap) (L : List Loc) : Prop := v = some (.int (1 : Int32)) ∧ Fr n0 L ∧ h = h0
theorem d48_0 : decode method_4_code 0 = .ok (.iload_n 3, 1) := by decide +kernel
theorem d48_1 : decode method_4_code 1 = .ok (.iload_n 2, 1) := by decide +kernel
theorem d48_2 : decode method_4_code 2 = .ok (.if_icmp .ge 14, 3) := by decide +kernel
theorem d48_5 : decode method_4_code 5 = .ok (.aload_n 0, 1) := by decide +kernel
theorem d48_6 : decode method_4_code 6 = .ok (.iload_n 3, 1) := by decide +kernel
theorem d48_7 : decode method_4_code 7 = .ok (.invokevirtual 7, 3) := by decide +kernel
theorem d48_10 : decode method_4_code 10 = .ok (.aload_n 1, 1) := by decide +kernel
theorem d48_11 : decode method_4_code 11 = .ok (.iload_n 3, 1) := by decide +kernel
theorem d48_12 : decode method_4_code 12 = .ok (.caload, 1) := by decide +kernel
theorem d48_13 : decode method_4_code 13 = .ok (.if_icmp .ne 7, 3) := by decide +kernel
theorem d48_16 : decode method_4_code 16 = .ok (.iconst 1, 1) := by decide +kernel
theorem d48_17 : decode method_4_code 17 = .ok (.goto 4, 3) := by decide +kernel
theorem d48_21 : decode method_4_code 21 = .ok (.ireturn, 1) := by decide +kernel
set_option maxRecDepth 65536 in
set_option maxHeartbeats 40000000 in
theorem rm_sm (l : Launch) (Z : State) (a0 : Array Value) (hw : ∀ d ∈ tables_1, d.before a0 Z = true) (ws : List Jvm.Cond) (a1 : Addr) (a2 : Addr) (t1 : Addr) (kb1 ko : ClassId) (ac : List Int32) (k : Nat) (cz : Int32) (fS : Value) (h0 : Heap) (n0 : Nat) (Z0 : n0 ≤ h0.size) (E_a1 : Exa Z h0 a1 "java/lang/String") (F_coder_a1 : Fld Z h0 a1 "java/lang/String" "coder" "B" (.int (0 : Int32))) (F_value_a1 : Fld Z h0 a1 "java/lang/String" "value" "[B" (.ref t1)) (V_t1 : Arv Z h0 t1 kb1 .byte (Int32.ofNat ac.length) (own_by ac) (.int 0)) (V_a2 : Arv Z h0 a2 ko .char (6 : Int32) (ac.map Value.int) (.int 0)) (hk : k < 6) (hp : ∀ c ∈ ac, ¬ c < 0 ∧ ¬ (255 : Int32) < c) (hl : ac.length ≤ 4000) (S_CS : Sta Z h0 "java/lang/String" "COMPACT_STRINGS" "Z" (.int cz)) (hcs : ¬ cz = (0 : Int32)) (S_SI : Sta Z h0 "jdk/internal/util/Preconditions" "SIOOBE_FORMATTER" "Ljava/util/function/BiFunction;" fS) (hsi : fS.isRef = true) :
    MetFree l (⟨"com/example/purveyor/purveyor/sqlite/QuotedTextReadPinLaw", "same", "(Ljava/lang/String;[CII)Z"⟩ : MethodName) (head1 (Jvm.Cond.code (⟨"com/example/purveyor/purveyor/sqlite/QuotedTextReadPinLaw", "same", "(Ljava/lang/String;[CII)Z"⟩ : MethodName) method_4_code 4 (some .boolean) :: ws) ({ frames := 4, cells := 0, slots := 0, locals := 53 } : Room)) (fun a U => a = #[(.ref a1), (.ref a2), (.int (Int32.ofNat ac.length)), (.int (Int32.ofNat k))] ∧ Z.Warmed39 U.vm ∧ U.heap = h0) (fun _ _ _ _ _ => True) (fun _ U o U' => ∃ v L, o = .returned v ∧ Q_rm_sm Z a1 a2 t1 kb1 ko ac k cz fS h0 n0 v U'.heap L ∧ FrameEnd U o U' L ({ frames := 4, cells := 0, slots := 0, locals := 53 } : Room).cells ({ frames := 4, cells := 0, slots := 0, locals := 53 } : Room).slots) := by
  refine MetFree.of_bodySF (plainFor_of_name pn_48) hisR ?_
  intro p e s m args below meth c s₁ Bd hml0 hP hK
  obtain ⟨rfl, hZ, hh⟩ := hP
  have hx := Bd.exec
  have hby := Bd.bytes
  have hml : c.maxLocals = 4 := hml0
  have hown : s.vm.findClass "com/example/purveyor/purveyor/sqlite/QuotedTextReadPinLaw" = some m.cls := findClass_of_methodNamed Bd.named
  have hnm := (name_of_methodNamed Bd.named Bd.method).1
  have X0 : Stand p l e ({ frames := 4, cells := 0, slots := 0, locals := 53 } : Room) s m #[(.ref a1), (.ref a2), (.int (Int32.ofNat ac.length)), (.int (Int32.ofNat k))] below meth c s₁ [] 0 0 := Stand.of_body Bd
  have e0 : s₁.heap = h0 := by rw [← hh, Bd.state]; rfl
  have N0 := Fr.nil n0
  have pre0 : ∀ t, Steps p.tables e below (s₁.setTop (mkF m 0 #[.val (.ref a1), .val (.ref a2), .val (.int (Int32.ofNat ac.length)), .val (.int (Int32.ofNat k))] [])) t → Steps p.tables e below (s₁.setTop (entryFrame m #[(.ref a1), (.ref a2), (.int (Int32.ofNat ac.length)), (.int (Int32.ofNat k))] 4)) t := fun t kt => castTop (ef_rm_sm m a1 a2 (Int32.ofNat ac.length) (Int32.ofNat k)) kt
  have pre_1 : ∀ t, Steps p.tables e below (s₁.setTop (mkF m 2 #[.val (.ref a1), .val (.ref a2), .val (.int (Int32.ofNat ac.length)), .val (.int (Int32.ofNat k))] [(.int (Int32.ofNat ac.length)), (.int (Int32.ofNat k))])) t → Steps p.tables e below (s₁.setTop (entryFrame m #[(.ref a1), (.ref a2), (.int (Int32.ofNat ac.length)), (.int (Int32.ofNat k))] 4)) t := by
    intro t kt
    refine pre0 _ ?_
    show Steps p.tables e below (s₁.setTop (mkF m 0 #[.val (.ref a1), .val (.ref a2), .val (.int (Int32.ofNat ac.length)), .val (.int (Int32.ofNat k))] [])) _
    refine XS.iloadN X0.here hx rfl (hb hby d48_0) rfl ?_
    show Steps p.tables e below (s₁.setTop (mkF m 1 #[.val (.ref a1), .val (.ref a2), .val (.int (Int32.ofNat ac.length)), .val (.int (Int32.ofNat k))] [(.int (Int32.ofNat k))])) _
    refine XS.iloadN X0.here hx rfl (hb hby d48_1) rfl ?_
    exact kt
  by_cases hc2 : (Int32.ofNat k) < (Int32.ofNat ac.length)
  · obtain ⟨cq2, kq2, q2a, q2b, q2c⟩ := isOf hZ e0 E_a1
    obtain ⟨_, _, ⟨T2, L2, k2, n2⟩, -, X2, ⟨Lc2, hQ2, l2, y2, z2⟩, st2⟩ := X0.virtualBack hx (y := (⟨"java/lang/String", "charAt", "(I)C"⟩ : MethodName)) (z := (⟨"java/lang/String", "charAt", "(I)C"⟩ : MethodName)) hown (mvT hZ (hw _ (List.mem_of_getElem? (i := 245) rfl))) (mvT hZ (hw _ (List.mem_of_getElem? (i := 44) rfl))) (notFace_of_selects (args := #[]) (mvT hZ (hw _ (List.mem_of_getElem? (i := 46) rfl)))) (mvT hZ (hw _ (List.mem_of_getElem? (i := 46) rfl))) (mvT hZ (hw _ (List.mem_of_getElem? (i := 45) rfl))) (by decide) (StrChars.Road.chN (W := 0) hZ (fun d hd => hw d (own_wCh d hd)) (kI := 4) (hw _ (List.mem_of_getElem? (i := 7) rfl)) (cs := ac) (i := k) E_a1 F_value_a1 F_coder_a1 V_t1 (own_cod ac hp) (own_up _ hp) S_CS hcs S_SI hsi hl (own_lt_of hl (by omega) hc2) rfl (by decide) (by decide)) q2a q2c (g := (mkF m 7 #[.val (.ref a1), .val (.ref a2), .val (.int (Int32.ofNat ac.length)), .val (.int (Int32.ofNat k))] [(.int (Int32.ofNat k)), (.ref a1)])) rfl (by rw [hml]; rfl) (Steps.refl _) (argsL := [(.int (Int32.ofNat k))]) (rest := []) (lenOf pd__I_C_221 rfl) rfl (by show 2 * 0 + _ ≤ _; exact Nat.le_of_eq rfl) (hb hby d48_7) (fun _ _ => ⟨rfl, e0, (by decide : 0 + 0 ≤ _), (by decide : 0 + 0 ≤ _)⟩)
    dsimp only [Pt.U, Pt.locs, Pt.cells, Pt.slots] at X2 l2 y2 z2 st2 hQ2
    subst l2 y2 z2
    obtain ⟨rfl, rfl, e2⟩ := hQ2
    have N2q := Fr.nil n0
    have N2 := Fr.app N0 N2q
    obtain ⟨cl3, Ar3, aq3, aS3, aN3, aH3, aG3⟩ := id V_a2
    have hin3 : ¬ ((Int32.ofNat k) < 0 ∨ cl3.slots.size ≤ ((Int32.ofNat k)).toNatClampNeg) := inb_of aS3 ⟨own_nn (by omega), (own_lt (show k < 2147483648 by omega) (show 6 < 2147483648 by omega)).mpr hk⟩
    obtain ⟨fs, hr, hrun, hended, hW, hsame⟩ := X2.leave (v := some (.int (1 : Int32))) (fun h => by rw [Bd.returns] at h; cases h) (hlocks := Bd.notSynchronized)
    refine ⟨_, _, pre_1 _ ?_, hrun, hended, _, _, rfl, ?_, ⟨_, rfl⟩, hW, hsame.mono (by decide) (by decide)⟩
    · show Steps p.tables e below (s₁.setTop (mkF m 2 #[.val (.ref a1), .val (.ref a2), .val (.int (Int32.ofNat ac.length)), .val (.int (Int32.ofNat k))] [(.int (Int32.ofNat ac.length)), (.int (Int32.ofNat k))])) _
      refine XS.icmpNo X0.here hx rfl (hb hby d48_2) rfl (tlt hc2).2.1 ?_
      show Steps p.tables e below (s₁.setTop (mkF m 5 #[.val (.ref a1), .val (.ref a2), .val (.int (Int32.ofNat ac.length)), .val (.int (Int32.ofNat k))] [])) _
      refine XS.aloadN X0.here hx rfl (hb hby d48_5) rfl rfl ?_
      show Steps p.tables e below (s₁.setTop (mkF m 6 #[.val (.ref a1), .val (.ref a2), .val (.int (Int32.ofNat ac.length)), .val (.int (Int32.ofNat k))] [(.ref a1)])) _
      refine XS.iloadN X0.here hx rfl (hb hby d48_6) rfl ?_
      show Steps p.tables e below (s₁.setTop (mkF m 7 #[.val (.ref a1), .val (.ref a2), .val (.int (Int32.ofNat ac.length)), .val (.int (Int32.ofNat k))] [(.int (Int32.ofNat k)), (.ref a1)])) _
      refine st2.trans ?_
      show Steps p.tables e below (T2.setTop (mkF m 10 #[.val (.ref a1), .val (.ref a2), .val (.int (Int32.ofNat ac.length)), .val (.int (Int32.ofNat k))] [(.int (ac.getD k 0))])) _
      refine XS.aloadN X2.here hx rfl (hb hby d48_10) rfl rfl ?_
      show Steps p.tables e below (T2.setTop (mkF m 11 #[.val (.ref a1), .val (.ref a2), .val (.int (Int32.ofNat ac.length)), .val (.int (Int32.ofNat k))] [(.ref a2), (.int (ac.getD k 0))])) _
      refine XS.iloadN X2.here hx rfl (hb hby d48_11) rfl ?_
      show Steps p.tables e below (T2.setTop (mkF m 12 #[.val (.ref a1), .val (.ref a2), .val (.int (Int32.ofNat ac.length)), .val (.int (Int32.ofNat k))] [(.int (Int32.ofNat k)), (.ref a2), (.int (ac.getD k 0))])) _
      refine X2.caload hx (j := (Int32.ofNat k)) (v := (.int (ac.getD k 0))) (by rw [e2]; exact Ar3.1) (State.isArrayOf_alike hZ.alike Ar3.2.1) Ar3.2.2 hin3 (Has.at aH3 hin3 (own_mapAt ac (by omega))) (g := (mkF m 12 #[.val (.ref a1), .val (.ref a2), .val (.int (Int32.ofNat ac.length)), .val (.int (Int32.ofNat k))] [(.int (Int32.ofNat k)), (.ref a2), (.int (ac.getD k 0))])) rfl rfl (hb hby d48_12) _ ?_
      show Steps p.tables e below (T2.setTop (mkF m 13 #[.val (.ref a1), .val (.ref a2), .val (.int (Int32.ofNat ac.length)), .val (.int (Int32.ofNat k))] [(.int (ac.getD k 0)), (.int (ac.getD k 0))])) _
      refine XS.icmpNo X2.here hx rfl (hb hby d48_13) rfl (teq (rfl : (ac.getD k 0) = (ac.getD k 0))).2 ?_
      show Steps p.tables e below (T2.setTop (mkF m 16 #[.val (.ref a1), .val (.ref a2), .val (.int (Int32.ofNat ac.length)), .val (.int (Int32.ofNat k))] [])) _
      refine XS.iconst X2.here hx rfl (hb hby d48_16) ?_
      show Steps p.tables e below (T2.setTop (mkF m 17 #[.val (.ref a1), .val (.ref a2), .val (.int (Int32.ofNat ac.length)), .val (.int (Int32.ofNat k))] [(.int (1 : Int32))])) _
      refine XS.goto X2.here hx rfl (pc0 := 17) (pc' := 21) rfl (hb hby d48_17) (by decide) (by decide) ?_
      show Steps p.tables e below (T2.setTop (mkF m 21 #[.val (.ref a1), .val (.ref a2), .val (.int (Int32.ofNat ac.length)), .val (.int (Int32.ofNat k))] [(.int (1 : Int32))])) _
      exact retN X2 hx (t := .boolean) Bd.returns (by simp) (hb hby d48_21) hr
    · show Q_rm_sm Z a1 a2 t1 kb1 ko ac k cz fS h0 n0 _ T2.heap _
      rw [e2]
      exact ⟨rfl, N2, rfl⟩
  · obtain ⟨fs, hr, hrun, hended, hW, hsame⟩ := X0.leave (v := some (.int (1 : Int32))) (fun h => by rw [Bd.returns] at h; cases h) (hlocks := Bd.notSynchronized)
    refine ⟨_, _, pre_1 _ ?_, hrun, hended, _, _, rfl, ?_, ⟨_, rfl⟩, hW, hsame.mono (by decide) (by decide)⟩
    · show Steps p.tables e below (s₁.setTop (mkF m 2 #[.val (.ref a1), .val (.ref a2), .val (.int (Int32.ofNat ac.length)), .val (.int (Int32.ofNat k))] [(.int (Int32.ofNat ac.length)), (.int (Int32.ofNat k))])) _
      refine XS.icmpYes X0.here hx rfl (pc0 := 2) (pc' := 16) rfl (hb hby d48_2) rfl (flt hc2).2.1 (by decide) (by decide) ?_
      show Steps p.tables e below (s₁.setTop (mkF m 16 #[.val (.ref a1), .val (.ref a2), .val (.int (Int32.ofNat ac.length)), .val (.int (Int32.ofNat k))] [])) _
      refine XS.iconst X0.here hx rfl (hb hby d48_16) ?_
      show Steps p.tables e below (s₁.setTop (mkF m 17 #[.val (.ref a1), .val (.ref a2), .val (.int (Int32.ofNat ac.length)), .val (.int (Int32.ofNat k))] [(.int (1 : Int32))])) _
      refine XS.goto X0.here hx rfl (pc0 := 17) (pc' := 21) rfl (hb hby d48_17) (by decide) (by decide) ?_
      show Steps p.tables e below (s₁.setTop (mkF m 21 #[.val (.ref a1), .val (.ref a2), .val (.int (Int32.ofNat ac.length)), .val (.int (Int32.ofNat k))] [(.int (1 : Int32))])) _
      exact retN X0 hx (t := .boolean) Bd.returns (by simp) (hb hby d48_21) hr
    · show Q_rm_sm Z a1 a2 t1 kb1 ko ac k cz fS h0 n0 _ s₁.heap _
      rw [e0]
      exact ⟨rfl, N0, rfl⟩
theorem pn_0 : plainName "com/example/purveyor/purveyor/sqlite/QuotedTextReadPinLaw" = true := by first | (simp [plainName, overriddenIn]; done) | decide +kernel
theorem ef_rm0 (m : MethodId) (x0 : Int32) (x1 : Int32) (x2 : Int32) (x3 : Int32) : entryFrame m #[(.int x0), (.int x1), (.int x2), (.int x3)] maxLocals = mkF m 0 #[.val (.int x0), .val (.int x1), .val (.int x2), .val (.int x3), .unset, .unset, .unset, .unset, .unset, .unset, .unset, .unset, .unset] [] := by first | (simp [entryFrame, mkF, argsToLocals, Value.category, maxLocals]; done) | rfl
def Q_rm0 (Z : State) (p1 : Int32) (p2 : Int32) (p3 : Int32) (p4 : Int32) (cz : Int32) (fS fi : Value) (h0 : Heap) (n0 : Nat) (v : Option Value) (h : Heap) (L : List Loc) : Prop := v = some (.int 1) ∧ Fr n0 L
theorem pd__IICC_C_428 : parseMethodDescriptor "(IICC)C" = some ⟨[.int, .int, .char, .char], some .char⟩ := by decide +kernel
theorem pd___C_V_325 : parseMethodDescriptor "([C)V" = some ⟨[(.array .char)], none⟩ := by decide +kernel
theorem pd___CIIC_I_C_V_860 : parseMethodDescriptor "([CIIC[I[C)V" = some ⟨[(.array .char), .int, .int, .char, (.array .int), (.array .char)], none⟩ := by decide +kernel
theorem pd__Ljava_lang_String_I_Lcom_example_purveyor_purveyor_sqlite_Q_7153 : parseMethodDescriptor "(Ljava/lang/String;I)Lcom/example/purveyor/purveyor/sqlite/QuotedText$Run;" = some ⟨[(.object "java/lang/String"), .int], some (.object "com/example/purveyor/purveyor/sqlite/QuotedText$Run")⟩ := by decide +kernel
theorem pd__Ljava_lang_String__CII_Z_2171 : parseMethodDescriptor "(Ljava/lang/String;[CII)Z" = some ⟨[(.object "java/lang/String"), (.array .char), .int, .int], some .boolean⟩ := by decide +kernel
set_option maxRecDepth 65536 in
set_option maxHeartbeats 40000000 in
theorem rm0 (l : Launch) (Z : State) (a0 : Array Value) (hw : ∀ d ∈ tables_1, d.before a0 Z = true) (ws : List Jvm.Cond) (p1 : Int32) (p2 : Int32) (p3 : Int32) (p4 : Int32) (cz : Int32) (fS fi : Value) (h0 : Heap) (n0 : Nat) (Z0 : n0 ≤ h0.size) (S_CS : Sta Z h0 "java/lang/String" "COMPACT_STRINGS" "Z" (.int cz)) (hcs : ¬ cz = (0 : Int32)) (S_SI : Sta Z h0 "jdk/internal/util/Preconditions" "SIOOBE_FORMATTER" "Ljava/util/function/BiFunction;" fS) (hsi : fS.isRef = true) (S_IO : Sta Z h0 "jdk/internal/util/Preconditions" "IOOBE_FORMATTER" "Ljava/util/function/BiFunction;" fi) (hfi : fi.isRef = true) :
    MetFree l x (head1 (Jvm.Cond.code x code maxLocals ret :: ws) room_1) (fun a U => a = #[(.int p1), (.int p2), (.int p3), (.int p4)] ∧ Z.Warmed39 U.vm ∧ U.heap = h0) (fun _ _ _ _ _ => True) (fun _ U o U' => ∃ v L, o = .returned v ∧ Q_rm0 Z p1 p2 p3 p4 cz fS fi h0 n0 v U'.heap L ∧ FrameEnd U o U' L room_1.cells room_1.slots) := by
  refine MetFree.of_bodySF (plainFor_of_name pn_0) hisR ?_
  intro p e s m args below meth c s₁ Bd hml0 hP hK
  obtain ⟨rfl, hZ, hh⟩ := hP
  have hx := Bd.exec
  have hby := Bd.bytes
  have hml : c.maxLocals = 13 := hml0
  have hown : s.vm.findClass "com/example/purveyor/purveyor/sqlite/QuotedTextReadPinLaw" = some m.cls := findClass_of_methodNamed Bd.named
  have hnm := (name_of_methodNamed Bd.named Bd.method).1
  have X0 : Stand p l e room_1 s m #[(.int p1), (.int p2), (.int p3), (.int p4)] below meth c s₁ [] 0 0 := Stand.of_body Bd
  have e0 : s₁.heap = h0 := by rw [← hh, Bd.state]; rfl
  have N0 := Fr.nil n0
  have pre0 : ∀ t, Steps p.tables e below (s₁.setTop (mkF m 0 #[.val (.int p1), .val (.int p2), .val (.int p3), .val (.int p4), .unset, .unset, .unset, .unset, .unset, .unset, .unset, .unset, .unset] [])) t → Steps p.tables e below (s₁.setTop (entryFrame m #[(.int p1), (.int p2), (.int p3), (.int p4)] maxLocals)) t := fun t kt => castTop (ef_rm0 m p1 p2 p3 p4) kt
  obtain ⟨qc, eqc⟩ : ∃ z, z = ((p1 &&& (255 : Int32)).toUInt32.toUInt16.toUInt32.toInt32) := ⟨_, rfl⟩
  have hqc : own_in qc := by rw [eqc]; exact own_b8 _
  have pre_1 : ∀ t, Steps p.tables e below (s₁.setTop (mkF m 6 #[.val (.int p1), .val (.int p2), .val (.int p3), .val (.int p4), .unset, .unset, .unset, .unset, .unset, .unset, .unset, .unset, .unset] [(.int ((p1 &&& (255 : Int32)).toUInt32.toUInt16.toUInt32.toInt32))])) t → Steps p.tables e below (s₁.setTop (entryFrame m #[(.int p1), (.int p2), (.int p3), (.int p4)] maxLocals)) t := by
    intro t kt
    refine pre0 _ ?_
    show Steps p.tables e below (s₁.setTop (mkF m 0 #[.val (.int p1), .val (.int p2), .val (.int p3), .val (.int p4), .unset, .unset, .unset, .unset, .unset, .unset, .unset, .unset, .unset] [])) _
    refine XS.iloadN X0.here hx rfl (hb hby at_0) rfl ?_
    show Steps p.tables e below (s₁.setTop (mkF m 1 #[.val (.int p1), .val (.int p2), .val (.int p3), .val (.int p4), .unset, .unset, .unset, .unset, .unset, .unset, .unset, .unset, .unset] [(.int p1)])) _
    refine XS.sipush X0.here hx rfl (hb hby at_1) ?_
    show Steps p.tables e below (s₁.setTop (mkF m 4 #[.val (.int p1), .val (.int p2), .val (.int p3), .val (.int p4), .unset, .unset, .unset, .unset, .unset, .unset, .unset, .unset, .unset] [(.int (255 : Int32)), (.int p1)])) _
    refine XS.iand X0.here hx rfl (hb hby at_4) rfl ?_
    show Steps p.tables e below (s₁.setTop (mkF m 5 #[.val (.int p1), .val (.int p2), .val (.int p3), .val (.int p4), .unset, .unset, .unset, .unset, .unset, .unset, .unset, .unset, .unset] [(.int (p1 &&& (255 : Int32)))])) _
    refine XS.i2c X0.here hx rfl (hb hby at_5) rfl ?_
    exact kt
  have pre_2 : ∀ t, Steps p.tables e below (s₁.setTop (mkF m 6 #[.val (.int p1), .val (.int p2), .val (.int p3), .val (.int p4), .unset, .unset, .unset, .unset, .unset, .unset, .unset, .unset, .unset] [(.int qc)])) t → Steps p.tables e below (s₁.setTop (entryFrame m #[(.int p1), (.int p2), (.int p3), (.int p4)] maxLocals)) t := fun t kt => pre_1 t (by rw [← eqc]; exact kt)
  obtain ⟨oo, ho6, eoo⟩ := own_open ((p1.toUInt32 >>> ((8 : Int32) &&& 31).toUInt32).toInt32)
  have pre_3 : ∀ t, Steps p.tables e below (s₁.setTop (mkF m 18 #[.val (.int p1), .val (.int p2), .val (.int p3), .val (.int p4), .val (.int qc), .unset, .unset, .unset, .unset, .unset, .unset, .unset, .unset] [(.int ((((p1.toUInt32 >>> ((8 : Int32) &&& 31).toUInt32).toInt32) &&& (65535 : Int32)) - ((((p1.toUInt32 >>> ((8 : Int32) &&& 31).toUInt32).toInt32) &&& (65535 : Int32)) / (6 : Int32)) * (6 : Int32)))])) t → Steps p.tables e below (s₁.setTop (entryFrame m #[(.int p1), (.int p2), (.int p3), (.int p4)] maxLocals)) t := by
    intro t kt
    refine pre_2 _ ?_
    show Steps p.tables e below (s₁.setTop (mkF m 6 #[.val (.int p1), .val (.int p2), .val (.int p3), .val (.int p4), .unset, .unset, .unset, .unset, .unset, .unset, .unset, .unset, .unset] [(.int qc)])) _
    refine XS.istore X0.here hx rfl (hb hby at_6) rfl (l' := #[.val (.int p1), .val (.int p2), .val (.int p3), .val (.int p4), .val (.int qc), .unset, .unset, .unset, .unset, .unset, .unset, .unset, .unset]) rfl ?_
    show Steps p.tables e below (s₁.setTop (mkF m 8 #[.val (.int p1), .val (.int p2), .val (.int p3), .val (.int p4), .val (.int qc), .unset, .unset, .unset, .unset, .unset, .unset, .unset, .unset] [])) _
    refine XS.iloadN X0.here hx rfl (hb hby at_8) rfl ?_
    show Steps p.tables e below (s₁.setTop (mkF m 9 #[.val (.int p1), .val (.int p2), .val (.int p3), .val (.int p4), .val (.int qc), .unset, .unset, .unset, .unset, .unset, .unset, .unset, .unset] [(.int p1)])) _
    refine XS.bipush X0.here hx rfl (hb hby at_9) ?_
    show Steps p.tables e below (s₁.setTop (mkF m 11 #[.val (.int p1), .val (.int p2), .val (.int p3), .val (.int p4), .val (.int qc), .unset, .unset, .unset, .unset, .unset, .unset, .unset, .unset] [(.int (8 : Int32)), (.int p1)])) _
    refine XS.iushr X0.here hx rfl (hb hby at_11) rfl ?_
    show Steps p.tables e below (s₁.setTop (mkF m 12 #[.val (.int p1), .val (.int p2), .val (.int p3), .val (.int p4), .val (.int qc), .unset, .unset, .unset, .unset, .unset, .unset, .unset, .unset] [(.int ((p1.toUInt32 >>> ((8 : Int32) &&& 31).toUInt32).toInt32))])) _
    refine X0.ldcInt hx hown (mvT hZ (hw _ (List.mem_of_getElem? (i := 0) rfl))) (g := (mkF m 12 #[.val (.int p1), .val (.int p2), .val (.int p3), .val (.int p4), .val (.int qc), .unset, .unset, .unset, .unset, .unset, .unset, .unset, .unset] [(.int ((p1.toUInt32 >>> ((8 : Int32) &&& 31).toUInt32).toInt32))])) rfl (hb hby at_12) _ ?_
    show Steps p.tables e below (s₁.setTop (mkF m 14 #[.val (.int p1), .val (.int p2), .val (.int p3), .val (.int p4), .val (.int qc), .unset, .unset, .unset, .unset, .unset, .unset, .unset, .unset] [(.int (65535 : Int32)), (.int ((p1.toUInt32 >>> ((8 : Int32) &&& 31).toUInt32).toInt32))])) _
    refine XS.iand X0.here hx rfl (hb hby at_14) rfl ?_
    show Steps p.tables e below (s₁.setTop (mkF m 15 #[.val (.int p1), .val (.int p2), .val (.int p3), .val (.int p4), .val (.int qc), .unset, .unset, .unset, .unset, .unset, .unset, .unset, .unset] [(.int (((p1.toUInt32 >>> ((8 : Int32) &&& 31).toUInt32).toInt32) &&& (65535 : Int32)))])) _
    refine XS.bipush X0.here hx rfl (hb hby at_15) ?_
    show Steps p.tables e below (s₁.setTop (mkF m 17 #[.val (.int p1), .val (.int p2), .val (.int p3), .val (.int p4), .val (.int qc), .unset, .unset, .unset, .unset, .unset, .unset, .unset, .unset] [(.int (6 : Int32)), (.int (((p1.toUInt32 >>> ((8 : Int32) &&& 31).toUInt32).toInt32) &&& (65535 : Int32)))])) _
    refine XS.irem X0.here hx rfl (hb hby at_17) rfl (by decide) ?_
    exact kt
  have pre_4 : ∀ t, Steps p.tables e below (s₁.setTop (mkF m 18 #[.val (.int p1), .val (.int p2), .val (.int p3), .val (.int p4), .val (.int qc), .unset, .unset, .unset, .unset, .unset, .unset, .unset, .unset] [(.int (Int32.ofNat oo))])) t → Steps p.tables e below (s₁.setTop (entryFrame m #[(.int p1), (.int p2), (.int p3), (.int p4)] maxLocals)) t := fun t kt => pre_3 t (by rw [eoo]; exact kt)
  obtain ⟨T5, h5, k5, X5, e5, E5, A5, st5⟩ := newP X0 hx hZ (hw _ (List.mem_of_getElem? (i := 1) rfl)) e0 (g := (mkF m 22 #[.val (.int p1), .val (.int p2), .val (.int p3), .val (.int p4), .val (.int qc), .val (.int (Int32.ofNat oo)), .unset, .unset, .unset, .unset, .unset, .unset, .unset] [(.int (6 : Int32))])) rfl (hb hby at_22) rfl (by decide) (cap := 6) (by decide) (by decide) (by decide) (by decide)
  obtain ⟨b5, g5⟩ : ∃ z, z = h0.size := ⟨_, rfl⟩
  rw [← g5] at A5 st5
  have f1 : Sta Z h5 "java/lang/String" "COMPACT_STRINGS" "Z" (.int cz) := S_CS.ext E5
  have f2 : Sta Z h5 "jdk/internal/util/Preconditions" "SIOOBE_FORMATTER" "Ljava/util/function/BiFunction;" fS := S_SI.ext E5
  have f3 : Sta Z h5 "jdk/internal/util/Preconditions" "IOOBE_FORMATTER" "Ljava/util/function/BiFunction;" fi := S_IO.ext E5
  have g_b5 : n0 ≤ b5 := Nat.le_trans Z0 (Nat.le_of_eq g5.symm)
  have Z5 : n0 ≤ h5.size := Nat.le_trans Z0 E5.1
  have V_b5 : Arv Z h5 b5 k5 .char (6 : Int32) [(.int (0 : Int32)), (.int (0 : Int32)), (.int (0 : Int32)), (.int (0 : Int32)), (.int (0 : Int32)), (.int (0 : Int32))] (.int (0 : Int32)) := (Arv.new A5 (by decide)).pad (pad_rep [] (.int (0 : Int32)) 6)
  obtain ⟨_, _, ⟨T6, L6, k6, n6⟩, -, X6, ⟨Lc6, hQ6, l6, y6, z6⟩, st6⟩ := Jvm.LawKit.callS X5 hx (y := (⟨"com/example/purveyor/purveyor/sqlite/QuotedTextReadPinLaw", "pick", "(IICC)C"⟩ : MethodName)) hown (mvT hZ (hw _ (List.mem_of_getElem? (i := 2) rfl))) (mvT hZ (hw _ (List.mem_of_getElem? (i := 3) rfl))) (mvT hZ (hw _ (List.mem_of_getElem? (i := 4) rfl))) (mvT hZ (hw _ (List.mem_of_getElem? (i := 5) rfl))) (by decide) (backOf (W := 2) (rm_pk l Z a0 hw [] p2 (0 : Int32) qc ((p3 &&& (255 : Int32)).toUInt32.toUInt16.toUInt32.toInt32) h5 n0 Z5 hqc (own_b8 _)) hZ (hw _ (List.mem_of_getElem? (i := 5) rfl)) (hw _ (List.mem_of_getElem? (i := 4) rfl)) (by decide) (by decide)) (g := (mkF m 39 #[.val (.int p1), .val (.int p2), .val (.int p3), .val (.int p4), .val (.int qc), .val (.int (Int32.ofNat oo)), .val (.ref b5), .unset, .unset, .unset, .unset, .unset, .unset] [(.int ((p3 &&& (255 : Int32)).toUInt32.toUInt16.toUInt32.toInt32)), (.int qc), (.int (0 : Int32)), (.int p2), (.int (0 : Int32)), (.ref b5)])) rfl (by rw [hml]; rfl) (argsL := [(.int p2), (.int (0 : Int32)), (.int qc), (.int ((p3 &&& (255 : Int32)).toUInt32.toUInt16.toUInt32.toInt32))]) (rest := [(.int (0 : Int32)), (.ref b5)]) (lenOf pd__IICC_C_428 rfl) rfl (by show 2 * 0 + _ ≤ _; exact Nat.le_of_eq rfl) (hb hby at_39) (fun _ _ => ⟨rfl, e5, (by decide : 1 + 0 ≤ _), (by decide : 6 + 0 ≤ _)⟩)
  dsimp only [Pt.U, Pt.locs, Pt.cells, Pt.slots] at X6 l6 y6 z6 st6 hQ6
  rw [l6, y6, z6] at X6
  obtain ⟨w0, rfl, N6q, e6, hw0⟩ := hQ6
  have N6 := Fr.app N0 N6q
  obtain ⟨cl7, Ar7, aq7, aS7, aN7, aH7, aG7⟩ := V_b5
  have hin7 : ¬ ((0 : Int32) < 0 ∨ cl7.slots.size ≤ ((0 : Int32)).toNatClampNeg) := inb_of aS7 ⟨by decide, by decide⟩
  obtain ⟨T8, h8, X8, e8, W8, st8⟩ := stC X6 hx hZ e6 Ar7 (j := (0 : Int32)) hin7 (g := (mkF m 42 #[.val (.int p1), .val (.int p2), .val (.int p3), .val (.int p4), .val (.int qc), .val (.int (Int32.ofNat oo)), .val (.ref b5), .unset, .unset, .unset, .unset, .unset, .unset] [(.int w0), (.int (0 : Int32)), (.ref b5)])) rfl rfl (hb hby at_42)
  have V_b5_8 : Arv Z h8 b5 k5 .char (6 : Int32) [(.int (nar .char w0)), (.int (0 : Int32)), (.int (0 : Int32)), (.int (0 : Int32)), (.int (0 : Int32)), (.int (0 : Int32))] (.int (0 : Int32)) := Arv.set Ar7 aq7 aS7 aN7 aH7 aG7 (fits_nar_char _) W8 0 rfl (Nat.le_of_ble_eq_true rfl)
  have f4 : Sta Z h8 "java/lang/String" "COMPACT_STRINGS" "Z" (.int cz) := f1.wr W8
  have f5 : Sta Z h8 "jdk/internal/util/Preconditions" "SIOOBE_FORMATTER" "Ljava/util/function/BiFunction;" fS := f2.wr W8
  have f6 : Sta Z h8 "jdk/internal/util/Preconditions" "IOOBE_FORMATTER" "Ljava/util/function/BiFunction;" fi := f3.wr W8
  have f7 : n0 ≤ b5 := g_b5
  have N8 := Fr.snoc X8 N6 f7
  have Z8 : n0 ≤ h8.size := by rw [W8.size]; exact Z5
  obtain ⟨_, _, ⟨T9, L9, k9, n9⟩, -, X9, ⟨Lc9, hQ9, l9, y9, z9⟩, st9⟩ := Jvm.LawKit.callS X8 hx (y := (⟨"com/example/purveyor/purveyor/sqlite/QuotedTextReadPinLaw", "pick", "(IICC)C"⟩ : MethodName)) hown (mvT hZ (hw _ (List.mem_of_getElem? (i := 2) rfl))) (mvT hZ (hw _ (List.mem_of_getElem? (i := 3) rfl))) (mvT hZ (hw _ (List.mem_of_getElem? (i := 4) rfl))) (mvT hZ (hw _ (List.mem_of_getElem? (i := 5) rfl))) (by decide) (backOf (W := 2) (rm_pk l Z a0 hw [] p2 (1 : Int32) qc ((((p3.toUInt32 >>> ((8 : Int32) &&& 31).toUInt32).toInt32) &&& (255 : Int32)).toUInt32.toUInt16.toUInt32.toInt32) h8 n0 Z8 hqc (own_b8 _)) hZ (hw _ (List.mem_of_getElem? (i := 5) rfl)) (hw _ (List.mem_of_getElem? (i := 4) rfl)) (by decide) (by decide)) (g := (mkF m 59 #[.val (.int p1), .val (.int p2), .val (.int p3), .val (.int p4), .val (.int qc), .val (.int (Int32.ofNat oo)), .val (.ref b5), .unset, .unset, .unset, .unset, .unset, .unset] [(.int ((((p3.toUInt32 >>> ((8 : Int32) &&& 31).toUInt32).toInt32) &&& (255 : Int32)).toUInt32.toUInt16.toUInt32.toInt32)), (.int qc), (.int (1 : Int32)), (.int p2), (.int (1 : Int32)), (.ref b5)])) rfl (by rw [hml]; rfl) (argsL := [(.int p2), (.int (1 : Int32)), (.int qc), (.int ((((p3.toUInt32 >>> ((8 : Int32) &&& 31).toUInt32).toInt32) &&& (255 : Int32)).toUInt32.toUInt16.toUInt32.toInt32))]) (rest := [(.int (1 : Int32)), (.ref b5)]) (lenOf pd__IICC_C_428 rfl) rfl (by show 2 * 0 + _ ≤ _; exact Nat.le_of_eq rfl) (hb hby at_59) (fun _ _ => ⟨rfl, e8, (by decide : 1 + 0 ≤ _), (by decide : 6 + 0 ≤ _)⟩)
  dsimp only [Pt.U, Pt.locs, Pt.cells, Pt.slots] at X9 l9 y9 z9 st9 hQ9
  rw [l9, y9, z9] at X9
  obtain ⟨w1, rfl, N9q, e9, hw1⟩ := hQ9
  have N9 := Fr.app N8 N9q
  obtain ⟨cl10, Ar10, aq10, aS10, aN10, aH10, aG10⟩ := V_b5_8
  have hin10 : ¬ ((1 : Int32) < 0 ∨ cl10.slots.size ≤ ((1 : Int32)).toNatClampNeg) := inb_of aS10 ⟨by decide, by decide⟩
  obtain ⟨T11, h11, X11, e11, W11, st11⟩ := stC X9 hx hZ e9 Ar10 (j := (1 : Int32)) hin10 (g := (mkF m 62 #[.val (.int p1), .val (.int p2), .val (.int p3), .val (.int p4), .val (.int qc), .val (.int (Int32.ofNat oo)), .val (.ref b5), .unset, .unset, .unset, .unset, .unset, .unset] [(.int w1), (.int (1 : Int32)), (.ref b5)])) rfl rfl (hb hby at_62)
  have V_b5_11 : Arv Z h11 b5 k5 .char (6 : Int32) [(.int (nar .char w0)), (.int (nar .char w1)), (.int (0 : Int32)), (.int (0 : Int32)), (.int (0 : Int32)), (.int (0 : Int32))] (.int (0 : Int32)) := Arv.set Ar10 aq10 aS10 aN10 aH10 aG10 (fits_nar_char _) W11 1 rfl (Nat.le_of_ble_eq_true rfl)
  have f8 : Sta Z h11 "java/lang/String" "COMPACT_STRINGS" "Z" (.int cz) := f4.wr W11
  have f9 : Sta Z h11 "jdk/internal/util/Preconditions" "SIOOBE_FORMATTER" "Ljava/util/function/BiFunction;" fS := f5.wr W11
  have f10 : Sta Z h11 "jdk/internal/util/Preconditions" "IOOBE_FORMATTER" "Ljava/util/function/BiFunction;" fi := f6.wr W11
  have f11 : n0 ≤ b5 := f7
  have N11 := Fr.snoc X11 N9 f11
  have Z11 : n0 ≤ h11.size := by rw [W11.size]; exact Z8
  obtain ⟨_, _, ⟨T12, L12, k12, n12⟩, -, X12, ⟨Lc12, hQ12, l12, y12, z12⟩, st12⟩ := Jvm.LawKit.callS X11 hx (y := (⟨"com/example/purveyor/purveyor/sqlite/QuotedTextReadPinLaw", "pick", "(IICC)C"⟩ : MethodName)) hown (mvT hZ (hw _ (List.mem_of_getElem? (i := 2) rfl))) (mvT hZ (hw _ (List.mem_of_getElem? (i := 3) rfl))) (mvT hZ (hw _ (List.mem_of_getElem? (i := 4) rfl))) (mvT hZ (hw _ (List.mem_of_getElem? (i := 5) rfl))) (by decide) (backOf (W := 2) (rm_pk l Z a0 hw [] p2 (2 : Int32) qc ((((p3.toUInt32 >>> ((16 : Int32) &&& 31).toUInt32).toInt32) &&& (255 : Int32)).toUInt32.toUInt16.toUInt32.toInt32) h11 n0 Z11 hqc (own_b8 _)) hZ (hw _ (List.mem_of_getElem? (i := 5) rfl)) (hw _ (List.mem_of_getElem? (i := 4) rfl)) (by decide) (by decide)) (g := (mkF m 79 #[.val (.int p1), .val (.int p2), .val (.int p3), .val (.int p4), .val (.int qc), .val (.int (Int32.ofNat oo)), .val (.ref b5), .unset, .unset, .unset, .unset, .unset, .unset] [(.int ((((p3.toUInt32 >>> ((16 : Int32) &&& 31).toUInt32).toInt32) &&& (255 : Int32)).toUInt32.toUInt16.toUInt32.toInt32)), (.int qc), (.int (2 : Int32)), (.int p2), (.int (2 : Int32)), (.ref b5)])) rfl (by rw [hml]; rfl) (argsL := [(.int p2), (.int (2 : Int32)), (.int qc), (.int ((((p3.toUInt32 >>> ((16 : Int32) &&& 31).toUInt32).toInt32) &&& (255 : Int32)).toUInt32.toUInt16.toUInt32.toInt32))]) (rest := [(.int (2 : Int32)), (.ref b5)]) (lenOf pd__IICC_C_428 rfl) rfl (by show 2 * 0 + _ ≤ _; exact Nat.le_of_eq rfl) (hb hby at_79) (fun _ _ => ⟨rfl, e11, (by decide : 1 + 0 ≤ _), (by decide : 6 + 0 ≤ _)⟩)
  dsimp only [Pt.U, Pt.locs, Pt.cells, Pt.slots] at X12 l12 y12 z12 st12 hQ12
  rw [l12, y12, z12] at X12
  obtain ⟨w2, rfl, N12q, e12, hw2⟩ := hQ12
  have N12 := Fr.app N11 N12q
  obtain ⟨cl13, Ar13, aq13, aS13, aN13, aH13, aG13⟩ := V_b5_11
  have hin13 : ¬ ((2 : Int32) < 0 ∨ cl13.slots.size ≤ ((2 : Int32)).toNatClampNeg) := inb_of aS13 ⟨by decide, by decide⟩
  obtain ⟨T14, h14, X14, e14, W14, st14⟩ := stC X12 hx hZ e12 Ar13 (j := (2 : Int32)) hin13 (g := (mkF m 82 #[.val (.int p1), .val (.int p2), .val (.int p3), .val (.int p4), .val (.int qc), .val (.int (Int32.ofNat oo)), .val (.ref b5), .unset, .unset, .unset, .unset, .unset, .unset] [(.int w2), (.int (2 : Int32)), (.ref b5)])) rfl rfl (hb hby at_82)
  have V_b5_14 : Arv Z h14 b5 k5 .char (6 : Int32) [(.int (nar .char w0)), (.int (nar .char w1)), (.int (nar .char w2)), (.int (0 : Int32)), (.int (0 : Int32)), (.int (0 : Int32))] (.int (0 : Int32)) := Arv.set Ar13 aq13 aS13 aN13 aH13 aG13 (fits_nar_char _) W14 2 rfl (Nat.le_of_ble_eq_true rfl)
  have f12 : Sta Z h14 "java/lang/String" "COMPACT_STRINGS" "Z" (.int cz) := f8.wr W14
  have f13 : Sta Z h14 "jdk/internal/util/Preconditions" "SIOOBE_FORMATTER" "Ljava/util/function/BiFunction;" fS := f9.wr W14
  have f14 : Sta Z h14 "jdk/internal/util/Preconditions" "IOOBE_FORMATTER" "Ljava/util/function/BiFunction;" fi := f10.wr W14
  have f15 : n0 ≤ b5 := f11
  have N14 := Fr.snoc X14 N12 f15
  have Z14 : n0 ≤ h14.size := by rw [W14.size]; exact Z11
  obtain ⟨_, _, ⟨T15, L15, k15, n15⟩, -, X15, ⟨Lc15, hQ15, l15, y15, z15⟩, st15⟩ := Jvm.LawKit.callS X14 hx (y := (⟨"com/example/purveyor/purveyor/sqlite/QuotedTextReadPinLaw", "pick", "(IICC)C"⟩ : MethodName)) hown (mvT hZ (hw _ (List.mem_of_getElem? (i := 2) rfl))) (mvT hZ (hw _ (List.mem_of_getElem? (i := 3) rfl))) (mvT hZ (hw _ (List.mem_of_getElem? (i := 4) rfl))) (mvT hZ (hw _ (List.mem_of_getElem? (i := 5) rfl))) (by decide) (backOf (W := 2) (rm_pk l Z a0 hw [] p2 (3 : Int32) qc ((((p3.toUInt32 >>> ((24 : Int32) &&& 31).toUInt32).toInt32) &&& (255 : Int32)).toUInt32.toUInt16.toUInt32.toInt32) h14 n0 Z14 hqc (own_b8 _)) hZ (hw _ (List.mem_of_getElem? (i := 5) rfl)) (hw _ (List.mem_of_getElem? (i := 4) rfl)) (by decide) (by decide)) (g := (mkF m 99 #[.val (.int p1), .val (.int p2), .val (.int p3), .val (.int p4), .val (.int qc), .val (.int (Int32.ofNat oo)), .val (.ref b5), .unset, .unset, .unset, .unset, .unset, .unset] [(.int ((((p3.toUInt32 >>> ((24 : Int32) &&& 31).toUInt32).toInt32) &&& (255 : Int32)).toUInt32.toUInt16.toUInt32.toInt32)), (.int qc), (.int (3 : Int32)), (.int p2), (.int (3 : Int32)), (.ref b5)])) rfl (by rw [hml]; rfl) (argsL := [(.int p2), (.int (3 : Int32)), (.int qc), (.int ((((p3.toUInt32 >>> ((24 : Int32) &&& 31).toUInt32).toInt32) &&& (255 : Int32)).toUInt32.toUInt16.toUInt32.toInt32))]) (rest := [(.int (3 : Int32)), (.ref b5)]) (lenOf pd__IICC_C_428 rfl) rfl (by show 2 * 0 + _ ≤ _; exact Nat.le_of_eq rfl) (hb hby at_99) (fun _ _ => ⟨rfl, e14, (by decide : 1 + 0 ≤ _), (by decide : 6 + 0 ≤ _)⟩)
  dsimp only [Pt.U, Pt.locs, Pt.cells, Pt.slots] at X15 l15 y15 z15 st15 hQ15
  rw [l15, y15, z15] at X15
  obtain ⟨w3, rfl, N15q, e15, hw3⟩ := hQ15
  have N15 := Fr.app N14 N15q
  obtain ⟨cl16, Ar16, aq16, aS16, aN16, aH16, aG16⟩ := V_b5_14
  have hin16 : ¬ ((3 : Int32) < 0 ∨ cl16.slots.size ≤ ((3 : Int32)).toNatClampNeg) := inb_of aS16 ⟨by decide, by decide⟩
  obtain ⟨T17, h17, X17, e17, W17, st17⟩ := stC X15 hx hZ e15 Ar16 (j := (3 : Int32)) hin16 (g := (mkF m 102 #[.val (.int p1), .val (.int p2), .val (.int p3), .val (.int p4), .val (.int qc), .val (.int (Int32.ofNat oo)), .val (.ref b5), .unset, .unset, .unset, .unset, .unset, .unset] [(.int w3), (.int (3 : Int32)), (.ref b5)])) rfl rfl (hb hby at_102)
  have V_b5_17 : Arv Z h17 b5 k5 .char (6 : Int32) [(.int (nar .char w0)), (.int (nar .char w1)), (.int (nar .char w2)), (.int (nar .char w3)), (.int (0 : Int32)), (.int (0 : Int32))] (.int (0 : Int32)) := Arv.set Ar16 aq16 aS16 aN16 aH16 aG16 (fits_nar_char _) W17 3 rfl (Nat.le_of_ble_eq_true rfl)
  have f16 : Sta Z h17 "java/lang/String" "COMPACT_STRINGS" "Z" (.int cz) := f12.wr W17
  have f17 : Sta Z h17 "jdk/internal/util/Preconditions" "SIOOBE_FORMATTER" "Ljava/util/function/BiFunction;" fS := f13.wr W17
  have f18 : Sta Z h17 "jdk/internal/util/Preconditions" "IOOBE_FORMATTER" "Ljava/util/function/BiFunction;" fi := f14.wr W17
  have f19 : n0 ≤ b5 := f15
  have N17 := Fr.snoc X17 N15 f19
  have Z17 : n0 ≤ h17.size := by rw [W17.size]; exact Z14
  obtain ⟨_, _, ⟨T18, L18, k18, n18⟩, -, X18, ⟨Lc18, hQ18, l18, y18, z18⟩, st18⟩ := Jvm.LawKit.callS X17 hx (y := (⟨"com/example/purveyor/purveyor/sqlite/QuotedTextReadPinLaw", "pick", "(IICC)C"⟩ : MethodName)) hown (mvT hZ (hw _ (List.mem_of_getElem? (i := 2) rfl))) (mvT hZ (hw _ (List.mem_of_getElem? (i := 3) rfl))) (mvT hZ (hw _ (List.mem_of_getElem? (i := 4) rfl))) (mvT hZ (hw _ (List.mem_of_getElem? (i := 5) rfl))) (by decide) (backOf (W := 2) (rm_pk l Z a0 hw [] p2 (4 : Int32) qc ((p4 &&& (255 : Int32)).toUInt32.toUInt16.toUInt32.toInt32) h17 n0 Z17 hqc (own_b8 _)) hZ (hw _ (List.mem_of_getElem? (i := 5) rfl)) (hw _ (List.mem_of_getElem? (i := 4) rfl)) (by decide) (by decide)) (g := (mkF m 116 #[.val (.int p1), .val (.int p2), .val (.int p3), .val (.int p4), .val (.int qc), .val (.int (Int32.ofNat oo)), .val (.ref b5), .unset, .unset, .unset, .unset, .unset, .unset] [(.int ((p4 &&& (255 : Int32)).toUInt32.toUInt16.toUInt32.toInt32)), (.int qc), (.int (4 : Int32)), (.int p2), (.int (4 : Int32)), (.ref b5)])) rfl (by rw [hml]; rfl) (argsL := [(.int p2), (.int (4 : Int32)), (.int qc), (.int ((p4 &&& (255 : Int32)).toUInt32.toUInt16.toUInt32.toInt32))]) (rest := [(.int (4 : Int32)), (.ref b5)]) (lenOf pd__IICC_C_428 rfl) rfl (by show 2 * 0 + _ ≤ _; exact Nat.le_of_eq rfl) (hb hby at_116) (fun _ _ => ⟨rfl, e17, (by decide : 1 + 0 ≤ _), (by decide : 6 + 0 ≤ _)⟩)
  dsimp only [Pt.U, Pt.locs, Pt.cells, Pt.slots] at X18 l18 y18 z18 st18 hQ18
  rw [l18, y18, z18] at X18
  obtain ⟨w4, rfl, N18q, e18, hw4⟩ := hQ18
  have N18 := Fr.app N17 N18q
  obtain ⟨cl19, Ar19, aq19, aS19, aN19, aH19, aG19⟩ := V_b5_17
  have hin19 : ¬ ((4 : Int32) < 0 ∨ cl19.slots.size ≤ ((4 : Int32)).toNatClampNeg) := inb_of aS19 ⟨by decide, by decide⟩
  obtain ⟨T20, h20, X20, e20, W20, st20⟩ := stC X18 hx hZ e18 Ar19 (j := (4 : Int32)) hin19 (g := (mkF m 119 #[.val (.int p1), .val (.int p2), .val (.int p3), .val (.int p4), .val (.int qc), .val (.int (Int32.ofNat oo)), .val (.ref b5), .unset, .unset, .unset, .unset, .unset, .unset] [(.int w4), (.int (4 : Int32)), (.ref b5)])) rfl rfl (hb hby at_119)
  have V_b5_20 : Arv Z h20 b5 k5 .char (6 : Int32) [(.int (nar .char w0)), (.int (nar .char w1)), (.int (nar .char w2)), (.int (nar .char w3)), (.int (nar .char w4)), (.int (0 : Int32))] (.int (0 : Int32)) := Arv.set Ar19 aq19 aS19 aN19 aH19 aG19 (fits_nar_char _) W20 4 rfl (Nat.le_of_ble_eq_true rfl)
  have f20 : Sta Z h20 "java/lang/String" "COMPACT_STRINGS" "Z" (.int cz) := f16.wr W20
  have f21 : Sta Z h20 "jdk/internal/util/Preconditions" "SIOOBE_FORMATTER" "Ljava/util/function/BiFunction;" fS := f17.wr W20
  have f22 : Sta Z h20 "jdk/internal/util/Preconditions" "IOOBE_FORMATTER" "Ljava/util/function/BiFunction;" fi := f18.wr W20
  have f23 : n0 ≤ b5 := f19
  have N20 := Fr.snoc X20 N18 f23
  have Z20 : n0 ≤ h20.size := by rw [W20.size]; exact Z17
  obtain ⟨_, _, ⟨T21, L21, k21, n21⟩, -, X21, ⟨Lc21, hQ21, l21, y21, z21⟩, st21⟩ := Jvm.LawKit.callS X20 hx (y := (⟨"com/example/purveyor/purveyor/sqlite/QuotedTextReadPinLaw", "pick", "(IICC)C"⟩ : MethodName)) hown (mvT hZ (hw _ (List.mem_of_getElem? (i := 2) rfl))) (mvT hZ (hw _ (List.mem_of_getElem? (i := 3) rfl))) (mvT hZ (hw _ (List.mem_of_getElem? (i := 4) rfl))) (mvT hZ (hw _ (List.mem_of_getElem? (i := 5) rfl))) (by decide) (backOf (W := 2) (rm_pk l Z a0 hw [] p2 (5 : Int32) qc ((((p4.toUInt32 >>> ((8 : Int32) &&& 31).toUInt32).toInt32) &&& (255 : Int32)).toUInt32.toUInt16.toUInt32.toInt32) h20 n0 Z20 hqc (own_b8 _)) hZ (hw _ (List.mem_of_getElem? (i := 5) rfl)) (hw _ (List.mem_of_getElem? (i := 4) rfl)) (by decide) (by decide)) (g := (mkF m 136 #[.val (.int p1), .val (.int p2), .val (.int p3), .val (.int p4), .val (.int qc), .val (.int (Int32.ofNat oo)), .val (.ref b5), .unset, .unset, .unset, .unset, .unset, .unset] [(.int ((((p4.toUInt32 >>> ((8 : Int32) &&& 31).toUInt32).toInt32) &&& (255 : Int32)).toUInt32.toUInt16.toUInt32.toInt32)), (.int qc), (.int (5 : Int32)), (.int p2), (.int (5 : Int32)), (.ref b5)])) rfl (by rw [hml]; rfl) (argsL := [(.int p2), (.int (5 : Int32)), (.int qc), (.int ((((p4.toUInt32 >>> ((8 : Int32) &&& 31).toUInt32).toInt32) &&& (255 : Int32)).toUInt32.toUInt16.toUInt32.toInt32))]) (rest := [(.int (5 : Int32)), (.ref b5)]) (lenOf pd__IICC_C_428 rfl) rfl (by show 2 * 0 + _ ≤ _; exact Nat.le_of_eq rfl) (hb hby at_136) (fun _ _ => ⟨rfl, e20, (by decide : 1 + 0 ≤ _), (by decide : 6 + 0 ≤ _)⟩)
  dsimp only [Pt.U, Pt.locs, Pt.cells, Pt.slots] at X21 l21 y21 z21 st21 hQ21
  rw [l21, y21, z21] at X21
  obtain ⟨w5, rfl, N21q, e21, hw5⟩ := hQ21
  have N21 := Fr.app N20 N21q
  obtain ⟨cl22, Ar22, aq22, aS22, aN22, aH22, aG22⟩ := V_b5_20
  have hin22 : ¬ ((5 : Int32) < 0 ∨ cl22.slots.size ≤ ((5 : Int32)).toNatClampNeg) := inb_of aS22 ⟨by decide, by decide⟩
  obtain ⟨T23, h23, X23, e23, W23, st23⟩ := stC X21 hx hZ e21 Ar22 (j := (5 : Int32)) hin22 (g := (mkF m 139 #[.val (.int p1), .val (.int p2), .val (.int p3), .val (.int p4), .val (.int qc), .val (.int (Int32.ofNat oo)), .val (.ref b5), .unset, .unset, .unset, .unset, .unset, .unset] [(.int w5), (.int (5 : Int32)), (.ref b5)])) rfl rfl (hb hby at_139)
  have V_b5_23 : Arv Z h23 b5 k5 .char (6 : Int32) [(.int (nar .char w0)), (.int (nar .char w1)), (.int (nar .char w2)), (.int (nar .char w3)), (.int (nar .char w4)), (.int (nar .char w5))] (.int (0 : Int32)) := Arv.set Ar22 aq22 aS22 aN22 aH22 aG22 (fits_nar_char _) W23 5 rfl (Nat.le_of_ble_eq_true rfl)
  have f24 : Sta Z h23 "java/lang/String" "COMPACT_STRINGS" "Z" (.int cz) := f20.wr W23
  have f25 : Sta Z h23 "jdk/internal/util/Preconditions" "SIOOBE_FORMATTER" "Ljava/util/function/BiFunction;" fS := f21.wr W23
  have f26 : Sta Z h23 "jdk/internal/util/Preconditions" "IOOBE_FORMATTER" "Ljava/util/function/BiFunction;" fi := f22.wr W23
  have f27 : n0 ≤ b5 := f23
  have N23 := Fr.snoc X23 N21 f27
  have Z23 : n0 ≤ h23.size := by rw [W23.size]; exact Z20
  have V_b5_24 : Arv Z h23 b5 k5 .char (6 : Int32) [Value.int w0, Value.int w1, Value.int w2, Value.int w3, Value.int w4, Value.int w5] (.int (0 : Int32)) := by have q := V_b5_23; rw [own_nch hw0, own_nch hw1, own_nch hw2, own_nch hw3, own_nch hw4, own_nch hw5] at q; exact q
  obtain ⟨cl25, Ar25, aq25, aS25, aN25, aH25, aG25⟩ := id V_b5_24
  have hin25 : ¬ ((Int32.ofNat oo) < 0 ∨ cl25.slots.size ≤ ((Int32.ofNat oo)).toNatClampNeg) := inb_of aS25 ⟨own_nn (by omega), (own_lt (show oo < 2147483648 by omega) (show 6 < 2147483648 by omega)).mpr ho6⟩
  obtain ⟨T26, h26, X26, e26, W26, st26⟩ := stC X23 hx hZ e23 Ar25 (j := (Int32.ofNat oo)) hin25 (g := (mkF m 146 #[.val (.int p1), .val (.int p2), .val (.int p3), .val (.int p4), .val (.int qc), .val (.int (Int32.ofNat oo)), .val (.ref b5), .unset, .unset, .unset, .unset, .unset, .unset] [(.int qc), (.int (Int32.ofNat oo)), (.ref b5)])) rfl rfl (hb hby at_146)
  have V_b5_26 : Arv Z h26 b5 k5 .char (6 : Int32) ([Value.int w0, Value.int w1, Value.int w2, Value.int w3, Value.int w4, Value.int w5].set oo (.int (nar .char qc))) (.int (0 : Int32)) := Arv.set Ar25 aq25 aS25 aN25 aH25 aG25 (fits_nar_char _) W26 oo (own_tn (by omega)) ho6
  have f28 : Sta Z h26 "java/lang/String" "COMPACT_STRINGS" "Z" (.int cz) := f24.wr W26
  have f29 : Sta Z h26 "jdk/internal/util/Preconditions" "SIOOBE_FORMATTER" "Ljava/util/function/BiFunction;" fS := f25.wr W26
  have f30 : Sta Z h26 "jdk/internal/util/Preconditions" "IOOBE_FORMATTER" "Ljava/util/function/BiFunction;" fi := f26.wr W26
  have f31 : n0 ≤ b5 := f27
  have N26 := Fr.snoc X26 N23 f31
  have Z26 : n0 ≤ h26.size := by rw [W26.size]; exact Z23
  obtain ⟨cl, hcl, hclq, hp, ecl⟩ := own_text ho6 hqc hw0 hw1 hw2 hw3 hw4 hw5
  have V_b5_27 : Arv Z h26 b5 k5 .char (6 : Int32) (cl.map Value.int) (.int (0 : Int32)) := by rw [← ecl]; exact V_b5_26
  obtain ⟨T28, h28, X28, e28, E28, A28, D28, -, st28⟩ := newO X26 hx hZ hown (hw _ (List.mem_of_getElem? (i := 6) rfl)) (hw _ (List.mem_of_getElem? (i := 7) rfl)) (hw _ (List.mem_of_getElem? (i := 8) rfl)) e26 (g := (mkF m 147 #[.val (.int p1), .val (.int p2), .val (.int p3), .val (.int p4), .val (.int qc), .val (.int (Int32.ofNat oo)), .val (.ref b5), .unset, .unset, .unset, .unset, .unset, .unset] [])) rfl (hb hby at_147) (by decide) (by decide)
  obtain ⟨b28, g28⟩ : ∃ z, z = h26.size := ⟨_, rfl⟩
  rw [← g28] at A28 D28 st28
  have ne_b5_b28 : b5 ≠ b28 := Nat.ne_of_lt (Nat.lt_of_lt_of_le V_b5_27.lt (Nat.le_of_eq g28.symm))
  have f32 : Sta Z h28 "java/lang/String" "COMPACT_STRINGS" "Z" (.int cz) := f28.ext E28
  have f33 : Sta Z h28 "jdk/internal/util/Preconditions" "SIOOBE_FORMATTER" "Ljava/util/function/BiFunction;" fS := f29.ext E28
  have f34 : Sta Z h28 "jdk/internal/util/Preconditions" "IOOBE_FORMATTER" "Ljava/util/function/BiFunction;" fi := f30.ext E28
  have f35 : n0 ≤ b5 := f31
  have f36 : Arv Z h28 b5 k5 .char (6 : Int32) (cl.map Value.int) (.int (0 : Int32)) := V_b5_27.ext E28
  have g_b28 : n0 ≤ b28 := Nat.le_trans Z26 (Nat.le_of_eq g28.symm)
  have Z28 : n0 ≤ h28.size := Nat.le_trans Z26 E28.1
  have F_coder_b28 : Fld Z h28 b28 "java/lang/String" "coder" "B" (.int (0 : Int32)) := D28 (Or.inr (hw _ (List.mem_of_getElem? (i := 32) rfl))) (ty := .byte) (by decide)
  have F_value_b28 : Fld Z h28 b28 "java/lang/String" "value" "[B" .null := D28 (Or.inr (hw _ (List.mem_of_getElem? (i := 34) rfl))) (ty := (.array .byte)) (by decide)
  obtain ⟨_, _, ⟨T29, L29, k29, n29⟩, -, X29, ⟨Lc29, hQ29, l29, y29, z29⟩, st29⟩ := X28.specialBack hx (y := (⟨"java/lang/String", "<init>", "([C)V"⟩ : MethodName)) rfl hown (mvT hZ (hw _ (List.mem_of_getElem? (i := 9) rfl))) (mvT hZ (hw _ (List.mem_of_getElem? (i := 10) rfl))) (mvT hZ (hw _ (List.mem_of_getElem? (i := 11) rfl))) (by decide) (StrChars.Road.backV (W := 1) hZ (fun d hd => hw d (own_words d hd)) (kI := 4) (hw _ (List.mem_of_getElem? (i := 7) rfl)) (cs := cl) (bs := cl.map (fun c => c.toInt8.toInt32)) (n := 6) g_b28 Z28 A28 F_value_b28 F_coder_b28 f36 f32 hcs hcl rfl (by decide) (by decide) hp rfl (by decide) (by decide)) (g := (mkF m 153 #[.val (.int p1), .val (.int p2), .val (.int p3), .val (.int p4), .val (.int qc), .val (.int (Int32.ofNat oo)), .val (.ref b5), .unset, .unset, .unset, .unset, .unset, .unset] [(.ref b5), (.ref b28), (.ref b28)])) rfl (by rw [hml]; rfl) (Steps.refl _) (a := b28) (argsL := [(.ref b5)]) (rest := [(.ref b28)]) (lenOf pd___C_V_325 rfl) rfl (by show 2 * 0 + _ ≤ _; exact Nat.le_of_eq rfl) (hb hby at_153) (fun _ _ => ⟨rfl, e28, (by decide : 2 + 1 ≤ _), (by decide : 10 + 6 ≤ _)⟩)
  dsimp only [Pt.U, Pt.locs, Pt.cells, Pt.slots] at X29 l29 y29 z29 st29 hQ29
  rw [l29, y29, z29] at X29
  obtain ⟨rfl, N29q, K29, fk29_0, fk29_1, tt29, tk29, gg29_tt29, zz29_tt29, -, fk29_2, fk29_3⟩ := hQ29
  have f37 : Sta Z T29.heap "java/lang/String" "COMPACT_STRINGS" "Z" (.int cz) := own_staK f32 K29 (nsS A28.nostat ns0)
  have f38 : Sta Z T29.heap "jdk/internal/util/Preconditions" "SIOOBE_FORMATTER" "Ljava/util/function/BiFunction;" fS := own_staK f33 K29 (nsS A28.nostat ns0)
  have f39 : Sta Z T29.heap "jdk/internal/util/Preconditions" "IOOBE_FORMATTER" "Ljava/util/function/BiFunction;" fi := own_staK f34 K29 (nsS A28.nostat ns0)
  have f40 : n0 ≤ b5 := f35
  have f41 : Arv Z T29.heap b5 k5 .char (6 : Int32) (cl.map Value.int) (.int (0 : Int32)) := f36.keep K29 (by simp [ne_b5_b28])
  have f42 : n0 ≤ b28 := g_b28
  have Z29 : n0 ≤ T29.heap.size := Nat.le_trans Z28 K29.1
  have V_tt29 : Arv Z T29.heap tt29 tk29 .byte (Int32.ofNat cl.length) (own_by cl) (.int 0) := by rw [hcl]; exact fk29_3
  have ne_b5_tt29 : b5 ≠ tt29 := Nat.ne_of_lt (Nat.lt_of_lt_of_le f36.lt zz29_tt29)
  have ne_b28_tt29 : b28 ≠ tt29 := Nat.ne_of_lt (Nat.lt_of_lt_of_le F_value_b28.lt zz29_tt29)
  have N29 := Fr.app N26 N29q
  obtain ⟨T30, h30, k30, X30, e30, E30, A30, st30⟩ := newP X29 hx hZ (hw _ (List.mem_of_getElem? (i := 35) rfl)) rfl (g := (mkF m 159 #[.val (.int p1), .val (.int p2), .val (.int p3), .val (.int p4), .val (.int qc), .val (.int (Int32.ofNat oo)), .val (.ref b5), .val (.ref b28), .unset, .unset, .unset, .unset, .unset] [(.int (3 : Int32))])) rfl (hb hby at_159) rfl (by decide) (cap := 3) (by decide) (by decide) (by decide) (by decide)
  obtain ⟨b30, g30⟩ : ∃ z, z = T29.heap.size := ⟨_, rfl⟩
  rw [← g30] at A30 st30
  have ne_b28_b30 : b28 ≠ b30 := Nat.ne_of_lt (Nat.lt_of_lt_of_le fk29_0.lt (Nat.le_of_eq g30.symm))
  have ne_b5_b30 : b5 ≠ b30 := Nat.ne_of_lt (Nat.lt_of_lt_of_le f41.lt (Nat.le_of_eq g30.symm))
  have ne_tt29_b30 : tt29 ≠ b30 := Nat.ne_of_lt (Nat.lt_of_lt_of_le V_tt29.lt (Nat.le_of_eq g30.symm))
  have f43 : Sta Z h30 "java/lang/String" "COMPACT_STRINGS" "Z" (.int cz) := f37.ext E30
  have f44 : Sta Z h30 "jdk/internal/util/Preconditions" "SIOOBE_FORMATTER" "Ljava/util/function/BiFunction;" fS := f38.ext E30
  have f45 : Sta Z h30 "jdk/internal/util/Preconditions" "IOOBE_FORMATTER" "Ljava/util/function/BiFunction;" fi := f39.ext E30
  have f46 : n0 ≤ b5 := f40
  have f47 : Arv Z h30 b5 k5 .char (6 : Int32) (cl.map Value.int) (.int (0 : Int32)) := f41.ext E30
  have f48 : n0 ≤ b28 := f42
  have f49 : Exa Z h30 b28 "java/lang/String" := fk29_0.ext E30
  have f50 : Fld Z h30 b28 "java/lang/String" "coder" "B" (.int (0 : Int32)) := fk29_1.ext E30
  have f51 : Fld Z h30 b28 "java/lang/String" "value" "[B" (.ref tt29) := fk29_2.ext E30
  have f52 : Arv Z h30 tt29 tk29 .byte (Int32.ofNat cl.length) (own_by cl) (.int 0) := V_tt29.ext E30
  have f53 : n0 ≤ tt29 := gg29_tt29
  have g_b30 : n0 ≤ b30 := Nat.le_trans Z29 (Nat.le_of_eq g30.symm)
  have Z30 : n0 ≤ h30.size := Nat.le_trans Z29 E30.1
  have V_b30 : Arv Z h30 b30 k30 .int (3 : Int32) [(.int (0 : Int32)), (.int (0 : Int32)), (.int (0 : Int32))] (.int (0 : Int32)) := (Arv.new A30 (by decide)).pad (pad_rep [] (.int (0 : Int32)) 3)
  obtain ⟨T31, h31, k31, X31, e31, E31, A31, st31⟩ := newP X30 hx hZ (hw _ (List.mem_of_getElem? (i := 1) rfl)) e30 (g := (mkF m 165 #[.val (.int p1), .val (.int p2), .val (.int p3), .val (.int p4), .val (.int qc), .val (.int (Int32.ofNat oo)), .val (.ref b5), .val (.ref b28), .val (.ref b30), .unset, .unset, .unset, .unset] [(.int (6 : Int32))])) rfl (hb hby at_165) rfl (by decide) (cap := 6) (by decide) (by decide) (by decide) (by decide)
  obtain ⟨b31, g31⟩ : ∃ z, z = h30.size := ⟨_, rfl⟩
  rw [← g31] at A31 st31
  have ne_b28_b31 : b28 ≠ b31 := Nat.ne_of_lt (Nat.lt_of_lt_of_le f49.lt (Nat.le_of_eq g31.symm))
  have ne_b30_b31 : b30 ≠ b31 := Nat.ne_of_lt (Nat.lt_of_lt_of_le V_b30.lt (Nat.le_of_eq g31.symm))
  have ne_b5_b31 : b5 ≠ b31 := Nat.ne_of_lt (Nat.lt_of_lt_of_le f47.lt (Nat.le_of_eq g31.symm))
  have ne_tt29_b31 : tt29 ≠ b31 := Nat.ne_of_lt (Nat.lt_of_lt_of_le f52.lt (Nat.le_of_eq g31.symm))
  have f54 : Sta Z h31 "java/lang/String" "COMPACT_STRINGS" "Z" (.int cz) := f43.ext E31
  have f55 : Sta Z h31 "jdk/internal/util/Preconditions" "SIOOBE_FORMATTER" "Ljava/util/function/BiFunction;" fS := f44.ext E31
  have f56 : Sta Z h31 "jdk/internal/util/Preconditions" "IOOBE_FORMATTER" "Ljava/util/function/BiFunction;" fi := f45.ext E31
  have f57 : n0 ≤ b5 := f46
  have f58 : Arv Z h31 b5 k5 .char (6 : Int32) (cl.map Value.int) (.int (0 : Int32)) := f47.ext E31
  have f59 : n0 ≤ b28 := f48
  have f60 : Exa Z h31 b28 "java/lang/String" := f49.ext E31
  have f61 : Fld Z h31 b28 "java/lang/String" "coder" "B" (.int (0 : Int32)) := f50.ext E31
  have f62 : Fld Z h31 b28 "java/lang/String" "value" "[B" (.ref tt29) := f51.ext E31
  have f63 : Arv Z h31 tt29 tk29 .byte (Int32.ofNat cl.length) (own_by cl) (.int 0) := f52.ext E31
  have f64 : n0 ≤ tt29 := f53
  have f65 : n0 ≤ b30 := g_b30
  have f66 : Arv Z h31 b30 k30 .int (3 : Int32) [(.int (0 : Int32)), (.int (0 : Int32)), (.int (0 : Int32))] (.int (0 : Int32)) := V_b30.ext E31
  have g_b31 : n0 ≤ b31 := Nat.le_trans Z30 (Nat.le_of_eq g31.symm)
  have Z31 : n0 ≤ h31.size := Nat.le_trans Z30 E31.1
  have V_b31 : Arv Z h31 b31 k31 .char (6 : Int32) [(.int (0 : Int32)), (.int (0 : Int32)), (.int (0 : Int32)), (.int (0 : Int32)), (.int (0 : Int32)), (.int (0 : Int32))] (.int (0 : Int32)) := (Arv.new A31 (by decide)).pad (pad_rep [] (.int (0 : Int32)) 6)
  have V_b31_32 : Arv Z h31 b31 k31 .char (6 : Int32) (([] : List Int32).map Value.int) (.int (0 : Int32)) := V_b31.pad (fun i => (pad_rep [] (.int (0 : Int32)) 6 i).symm)
  obtain ⟨_, _, ⟨T33, L33, k33, n33⟩, -, X33, ⟨Lc33, hQ33, l33, y33, z33⟩, st33⟩ := Jvm.LawKit.callS X31 hx (y := (⟨"com/example/purveyor/purveyor/sqlite/QuotedTextReadPinLaw", "step", "([CIIC[I[C)V"⟩ : MethodName)) hown (mvT hZ (hw _ (List.mem_of_getElem? (i := 36) rfl))) (mvT hZ (hw _ (List.mem_of_getElem? (i := 37) rfl))) (mvT hZ (hw _ (List.mem_of_getElem? (i := 4) rfl))) (mvT hZ (hw _ (List.mem_of_getElem? (i := 38) rfl))) (by decide) (backOf (W := 0) (rm_st l Z a0 hw [] b5 qc b30 b31 k5 k30 k31 cl 1 oo ((0 : Int32), (0 : Int32), ([] : List Int32)) h31 n0 Z31 f58 f66 V_b31_32 ne_b5_b30 ne_b5_b31 ne_b30_b31 f65 g_b31 hcl (by decide) ho6 (by decide) hp hqc) hZ (hw _ (List.mem_of_getElem? (i := 38) rfl)) (hw _ (List.mem_of_getElem? (i := 4) rfl)) (by decide) (by decide)) (g := (mkF m 180 #[.val (.int p1), .val (.int p2), .val (.int p3), .val (.int p4), .val (.int qc), .val (.int (Int32.ofNat oo)), .val (.ref b5), .val (.ref b28), .val (.ref b30), .val (.ref b31), .unset, .unset, .unset] [(.ref b31), (.ref b30), (.int qc), (.int (Int32.ofNat oo)), (.int (1 : Int32)), (.ref b5)])) rfl (by rw [hml]; rfl) (argsL := [(.ref b5), (.int (1 : Int32)), (.int (Int32.ofNat oo)), (.int qc), (.ref b30), (.ref b31)]) (rest := []) (lenOf pd___CIIC_I_C_V_860 rfl) rfl (by show 2 * 0 + _ ≤ _; exact Nat.le_of_eq rfl) (hb hby at_180) (fun _ _ => ⟨rfl, e31, (by decide : 5 + 0 ≤ _), (by decide : 25 + 0 ≤ _)⟩)
  dsimp only [Pt.U, Pt.locs, Pt.cells, Pt.slots] at X33 l33 y33 z33 st33 hQ33
  rw [l33, y33, z33] at X33
  obtain ⟨s1, es1, rfl, N33q, K33, fk33_0, fk33_1⟩ := hQ33
  have f67 : Sta Z T33.heap "java/lang/String" "COMPACT_STRINGS" "Z" (.int cz) := own_staK f54 K33 (nsS f66.nostat (nsS V_b31_32.nostat ns0))
  have f68 : Sta Z T33.heap "jdk/internal/util/Preconditions" "SIOOBE_FORMATTER" "Ljava/util/function/BiFunction;" fS := own_staK f55 K33 (nsS f66.nostat (nsS V_b31_32.nostat ns0))
  have f69 : Sta Z T33.heap "jdk/internal/util/Preconditions" "IOOBE_FORMATTER" "Ljava/util/function/BiFunction;" fi := own_staK f56 K33 (nsS f66.nostat (nsS V_b31_32.nostat ns0))
  have f70 : n0 ≤ b5 := f57
  have f71 : Arv Z T33.heap b5 k5 .char (6 : Int32) (cl.map Value.int) (.int (0 : Int32)) := f58.keep K33 (by simp [ne_b5_b30, ne_b5_b31])
  have f72 : n0 ≤ b28 := f59
  have f73 : Exa Z T33.heap b28 "java/lang/String" := f60.keep K33
  have f74 : Fld Z T33.heap b28 "java/lang/String" "coder" "B" (.int (0 : Int32)) := f61.keep K33 (by simp [ne_b28_b30, ne_b28_b31])
  have f75 : Fld Z T33.heap b28 "java/lang/String" "value" "[B" (.ref tt29) := f62.keep K33 (by simp [ne_b28_b30, ne_b28_b31])
  have f76 : Arv Z T33.heap tt29 tk29 .byte (Int32.ofNat cl.length) (own_by cl) (.int 0) := f63.keep K33 (by simp [ne_tt29_b30, ne_tt29_b31])
  have f77 : n0 ≤ tt29 := f64
  have f78 : n0 ≤ b30 := f65
  have f79 : n0 ≤ b31 := g_b31
  have Z33 : n0 ≤ T33.heap.size := Nat.le_trans Z31 K33.1
  have hs1 : s1.2.2.length ≤ 1 := by rw [es1]; exact Nat.le_trans (own_stepL _ _ _ _ _) (Nat.le_refl _)
  have N33 := Fr.app N29 N33q
  obtain ⟨_, _, ⟨T34, L34, k34, n34⟩, -, X34, ⟨Lc34, hQ34, l34, y34, z34⟩, st34⟩ := Jvm.LawKit.callS X33 hx (y := (⟨"com/example/purveyor/purveyor/sqlite/QuotedTextReadPinLaw", "step", "([CIIC[I[C)V"⟩ : MethodName)) hown (mvT hZ (hw _ (List.mem_of_getElem? (i := 36) rfl))) (mvT hZ (hw _ (List.mem_of_getElem? (i := 37) rfl))) (mvT hZ (hw _ (List.mem_of_getElem? (i := 4) rfl))) (mvT hZ (hw _ (List.mem_of_getElem? (i := 38) rfl))) (by decide) (backOf (W := 0) (rm_st l Z a0 hw [] b5 qc b30 b31 k5 k30 k31 cl 2 oo s1 T33.heap n0 Z33 f71 fk33_0 fk33_1 ne_b5_b30 ne_b5_b31 ne_b30_b31 f78 f79 hcl (by decide) ho6 (by omega) hp hqc) hZ (hw _ (List.mem_of_getElem? (i := 38) rfl)) (hw _ (List.mem_of_getElem? (i := 4) rfl)) (by decide) (by decide)) (g := (mkF m 194 #[.val (.int p1), .val (.int p2), .val (.int p3), .val (.int p4), .val (.int qc), .val (.int (Int32.ofNat oo)), .val (.ref b5), .val (.ref b28), .val (.ref b30), .val (.ref b31), .unset, .unset, .unset] [(.ref b31), (.ref b30), (.int qc), (.int (Int32.ofNat oo)), (.int (2 : Int32)), (.ref b5)])) rfl (by rw [hml]; rfl) (argsL := [(.ref b5), (.int (2 : Int32)), (.int (Int32.ofNat oo)), (.int qc), (.ref b30), (.ref b31)]) (rest := []) (lenOf pd___CIIC_I_C_V_860 rfl) rfl (by show 2 * 0 + _ ≤ _; exact Nat.le_of_eq rfl) (hb hby at_194) (fun _ _ => ⟨rfl, rfl, (by decide : 5 + 0 ≤ _), (by decide : 25 + 0 ≤ _)⟩)
  dsimp only [Pt.U, Pt.locs, Pt.cells, Pt.slots] at X34 l34 y34 z34 st34 hQ34
  rw [l34, y34, z34] at X34
  obtain ⟨s2, es2, rfl, N34q, K34, fk34_0, fk34_1⟩ := hQ34
  have f80 : Sta Z T34.heap "java/lang/String" "COMPACT_STRINGS" "Z" (.int cz) := own_staK f67 K34 (nsS fk33_0.nostat (nsS fk33_1.nostat ns0))
  have f81 : Sta Z T34.heap "jdk/internal/util/Preconditions" "SIOOBE_FORMATTER" "Ljava/util/function/BiFunction;" fS := own_staK f68 K34 (nsS fk33_0.nostat (nsS fk33_1.nostat ns0))
  have f82 : Sta Z T34.heap "jdk/internal/util/Preconditions" "IOOBE_FORMATTER" "Ljava/util/function/BiFunction;" fi := own_staK f69 K34 (nsS fk33_0.nostat (nsS fk33_1.nostat ns0))
  have f83 : n0 ≤ b5 := f70
  have f84 : Arv Z T34.heap b5 k5 .char (6 : Int32) (cl.map Value.int) (.int (0 : Int32)) := f71.keep K34 (by simp [ne_b5_b30, ne_b5_b31])
  have f85 : n0 ≤ b28 := f72
  have f86 : Exa Z T34.heap b28 "java/lang/String" := f73.keep K34
  have f87 : Fld Z T34.heap b28 "java/lang/String" "coder" "B" (.int (0 : Int32)) := f74.keep K34 (by simp [ne_b28_b30, ne_b28_b31])
  have f88 : Fld Z T34.heap b28 "java/lang/String" "value" "[B" (.ref tt29) := f75.keep K34 (by simp [ne_b28_b30, ne_b28_b31])
  have f89 : Arv Z T34.heap tt29 tk29 .byte (Int32.ofNat cl.length) (own_by cl) (.int 0) := f76.keep K34 (by simp [ne_tt29_b30, ne_tt29_b31])
  have f90 : n0 ≤ tt29 := f77
  have f91 : n0 ≤ b30 := f78
  have f92 : n0 ≤ b31 := f79
  have Z34 : n0 ≤ T34.heap.size := Nat.le_trans Z33 K34.1
  have hs2 : s2.2.2.length ≤ 2 := by rw [es2]; exact Nat.le_trans (own_stepL _ _ _ _ _) (Nat.succ_le_succ hs1)
  have N34 := Fr.app N33 N34q
  obtain ⟨_, _, ⟨T35, L35, k35, n35⟩, -, X35, ⟨Lc35, hQ35, l35, y35, z35⟩, st35⟩ := Jvm.LawKit.callS X34 hx (y := (⟨"com/example/purveyor/purveyor/sqlite/QuotedTextReadPinLaw", "step", "([CIIC[I[C)V"⟩ : MethodName)) hown (mvT hZ (hw _ (List.mem_of_getElem? (i := 36) rfl))) (mvT hZ (hw _ (List.mem_of_getElem? (i := 37) rfl))) (mvT hZ (hw _ (List.mem_of_getElem? (i := 4) rfl))) (mvT hZ (hw _ (List.mem_of_getElem? (i := 38) rfl))) (by decide) (backOf (W := 0) (rm_st l Z a0 hw [] b5 qc b30 b31 k5 k30 k31 cl 3 oo s2 T34.heap n0 Z34 f84 fk34_0 fk34_1 ne_b5_b30 ne_b5_b31 ne_b30_b31 f91 f92 hcl (by decide) ho6 (by omega) hp hqc) hZ (hw _ (List.mem_of_getElem? (i := 38) rfl)) (hw _ (List.mem_of_getElem? (i := 4) rfl)) (by decide) (by decide)) (g := (mkF m 208 #[.val (.int p1), .val (.int p2), .val (.int p3), .val (.int p4), .val (.int qc), .val (.int (Int32.ofNat oo)), .val (.ref b5), .val (.ref b28), .val (.ref b30), .val (.ref b31), .unset, .unset, .unset] [(.ref b31), (.ref b30), (.int qc), (.int (Int32.ofNat oo)), (.int (3 : Int32)), (.ref b5)])) rfl (by rw [hml]; rfl) (argsL := [(.ref b5), (.int (3 : Int32)), (.int (Int32.ofNat oo)), (.int qc), (.ref b30), (.ref b31)]) (rest := []) (lenOf pd___CIIC_I_C_V_860 rfl) rfl (by show 2 * 0 + _ ≤ _; exact Nat.le_of_eq rfl) (hb hby at_208) (fun _ _ => ⟨rfl, rfl, (by decide : 5 + 0 ≤ _), (by decide : 25 + 0 ≤ _)⟩)
  dsimp only [Pt.U, Pt.locs, Pt.cells, Pt.slots] at X35 l35 y35 z35 st35 hQ35
  rw [l35, y35, z35] at X35
  obtain ⟨s3, es3, rfl, N35q, K35, fk35_0, fk35_1⟩ := hQ35
  have f93 : Sta Z T35.heap "java/lang/String" "COMPACT_STRINGS" "Z" (.int cz) := own_staK f80 K35 (nsS fk34_0.nostat (nsS fk34_1.nostat ns0))
  have f94 : Sta Z T35.heap "jdk/internal/util/Preconditions" "SIOOBE_FORMATTER" "Ljava/util/function/BiFunction;" fS := own_staK f81 K35 (nsS fk34_0.nostat (nsS fk34_1.nostat ns0))
  have f95 : Sta Z T35.heap "jdk/internal/util/Preconditions" "IOOBE_FORMATTER" "Ljava/util/function/BiFunction;" fi := own_staK f82 K35 (nsS fk34_0.nostat (nsS fk34_1.nostat ns0))
  have f96 : n0 ≤ b5 := f83
  have f97 : Arv Z T35.heap b5 k5 .char (6 : Int32) (cl.map Value.int) (.int (0 : Int32)) := f84.keep K35 (by simp [ne_b5_b30, ne_b5_b31])
  have f98 : n0 ≤ b28 := f85
  have f99 : Exa Z T35.heap b28 "java/lang/String" := f86.keep K35
  have f100 : Fld Z T35.heap b28 "java/lang/String" "coder" "B" (.int (0 : Int32)) := f87.keep K35 (by simp [ne_b28_b30, ne_b28_b31])
  have f101 : Fld Z T35.heap b28 "java/lang/String" "value" "[B" (.ref tt29) := f88.keep K35 (by simp [ne_b28_b30, ne_b28_b31])
  have f102 : Arv Z T35.heap tt29 tk29 .byte (Int32.ofNat cl.length) (own_by cl) (.int 0) := f89.keep K35 (by simp [ne_tt29_b30, ne_tt29_b31])
  have f103 : n0 ≤ tt29 := f90
  have f104 : n0 ≤ b30 := f91
  have f105 : n0 ≤ b31 := f92
  have Z35 : n0 ≤ T35.heap.size := Nat.le_trans Z34 K35.1
  have hs3 : s3.2.2.length ≤ 3 := by rw [es3]; exact Nat.le_trans (own_stepL _ _ _ _ _) (Nat.succ_le_succ hs2)
  have N35 := Fr.app N34 N35q
  obtain ⟨_, _, ⟨T36, L36, k36, n36⟩, -, X36, ⟨Lc36, hQ36, l36, y36, z36⟩, st36⟩ := Jvm.LawKit.callS X35 hx (y := (⟨"com/example/purveyor/purveyor/sqlite/QuotedTextReadPinLaw", "step", "([CIIC[I[C)V"⟩ : MethodName)) hown (mvT hZ (hw _ (List.mem_of_getElem? (i := 36) rfl))) (mvT hZ (hw _ (List.mem_of_getElem? (i := 37) rfl))) (mvT hZ (hw _ (List.mem_of_getElem? (i := 4) rfl))) (mvT hZ (hw _ (List.mem_of_getElem? (i := 38) rfl))) (by decide) (backOf (W := 0) (rm_st l Z a0 hw [] b5 qc b30 b31 k5 k30 k31 cl 4 oo s3 T35.heap n0 Z35 f97 fk35_0 fk35_1 ne_b5_b30 ne_b5_b31 ne_b30_b31 f104 f105 hcl (by decide) ho6 (by omega) hp hqc) hZ (hw _ (List.mem_of_getElem? (i := 38) rfl)) (hw _ (List.mem_of_getElem? (i := 4) rfl)) (by decide) (by decide)) (g := (mkF m 222 #[.val (.int p1), .val (.int p2), .val (.int p3), .val (.int p4), .val (.int qc), .val (.int (Int32.ofNat oo)), .val (.ref b5), .val (.ref b28), .val (.ref b30), .val (.ref b31), .unset, .unset, .unset] [(.ref b31), (.ref b30), (.int qc), (.int (Int32.ofNat oo)), (.int (4 : Int32)), (.ref b5)])) rfl (by rw [hml]; rfl) (argsL := [(.ref b5), (.int (4 : Int32)), (.int (Int32.ofNat oo)), (.int qc), (.ref b30), (.ref b31)]) (rest := []) (lenOf pd___CIIC_I_C_V_860 rfl) rfl (by show 2 * 0 + _ ≤ _; exact Nat.le_of_eq rfl) (hb hby at_222) (fun _ _ => ⟨rfl, rfl, (by decide : 5 + 0 ≤ _), (by decide : 25 + 0 ≤ _)⟩)
  dsimp only [Pt.U, Pt.locs, Pt.cells, Pt.slots] at X36 l36 y36 z36 st36 hQ36
  rw [l36, y36, z36] at X36
  obtain ⟨s4, es4, rfl, N36q, K36, fk36_0, fk36_1⟩ := hQ36
  have f106 : Sta Z T36.heap "java/lang/String" "COMPACT_STRINGS" "Z" (.int cz) := own_staK f93 K36 (nsS fk35_0.nostat (nsS fk35_1.nostat ns0))
  have f107 : Sta Z T36.heap "jdk/internal/util/Preconditions" "SIOOBE_FORMATTER" "Ljava/util/function/BiFunction;" fS := own_staK f94 K36 (nsS fk35_0.nostat (nsS fk35_1.nostat ns0))
  have f108 : Sta Z T36.heap "jdk/internal/util/Preconditions" "IOOBE_FORMATTER" "Ljava/util/function/BiFunction;" fi := own_staK f95 K36 (nsS fk35_0.nostat (nsS fk35_1.nostat ns0))
  have f109 : n0 ≤ b5 := f96
  have f110 : Arv Z T36.heap b5 k5 .char (6 : Int32) (cl.map Value.int) (.int (0 : Int32)) := f97.keep K36 (by simp [ne_b5_b30, ne_b5_b31])
  have f111 : n0 ≤ b28 := f98
  have f112 : Exa Z T36.heap b28 "java/lang/String" := f99.keep K36
  have f113 : Fld Z T36.heap b28 "java/lang/String" "coder" "B" (.int (0 : Int32)) := f100.keep K36 (by simp [ne_b28_b30, ne_b28_b31])
  have f114 : Fld Z T36.heap b28 "java/lang/String" "value" "[B" (.ref tt29) := f101.keep K36 (by simp [ne_b28_b30, ne_b28_b31])
  have f115 : Arv Z T36.heap tt29 tk29 .byte (Int32.ofNat cl.length) (own_by cl) (.int 0) := f102.keep K36 (by simp [ne_tt29_b30, ne_tt29_b31])
  have f116 : n0 ≤ tt29 := f103
  have f117 : n0 ≤ b30 := f104
  have f118 : n0 ≤ b31 := f105
  have Z36 : n0 ≤ T36.heap.size := Nat.le_trans Z35 K36.1
  have hs4 : s4.2.2.length ≤ 4 := by rw [es4]; exact Nat.le_trans (own_stepL _ _ _ _ _) (Nat.succ_le_succ hs3)
  have N36 := Fr.app N35 N36q
  obtain ⟨_, _, ⟨T37, L37, k37, n37⟩, -, X37, ⟨Lc37, hQ37, l37, y37, z37⟩, st37⟩ := Jvm.LawKit.callS X36 hx (y := (⟨"com/example/purveyor/purveyor/sqlite/QuotedTextReadPinLaw", "step", "([CIIC[I[C)V"⟩ : MethodName)) hown (mvT hZ (hw _ (List.mem_of_getElem? (i := 36) rfl))) (mvT hZ (hw _ (List.mem_of_getElem? (i := 37) rfl))) (mvT hZ (hw _ (List.mem_of_getElem? (i := 4) rfl))) (mvT hZ (hw _ (List.mem_of_getElem? (i := 38) rfl))) (by decide) (backOf (W := 0) (rm_st l Z a0 hw [] b5 qc b30 b31 k5 k30 k31 cl 5 oo s4 T36.heap n0 Z36 f110 fk36_0 fk36_1 ne_b5_b30 ne_b5_b31 ne_b30_b31 f117 f118 hcl (by decide) ho6 (by omega) hp hqc) hZ (hw _ (List.mem_of_getElem? (i := 38) rfl)) (hw _ (List.mem_of_getElem? (i := 4) rfl)) (by decide) (by decide)) (g := (mkF m 236 #[.val (.int p1), .val (.int p2), .val (.int p3), .val (.int p4), .val (.int qc), .val (.int (Int32.ofNat oo)), .val (.ref b5), .val (.ref b28), .val (.ref b30), .val (.ref b31), .unset, .unset, .unset] [(.ref b31), (.ref b30), (.int qc), (.int (Int32.ofNat oo)), (.int (5 : Int32)), (.ref b5)])) rfl (by rw [hml]; rfl) (argsL := [(.ref b5), (.int (5 : Int32)), (.int (Int32.ofNat oo)), (.int qc), (.ref b30), (.ref b31)]) (rest := []) (lenOf pd___CIIC_I_C_V_860 rfl) rfl (by show 2 * 0 + _ ≤ _; exact Nat.le_of_eq rfl) (hb hby at_236) (fun _ _ => ⟨rfl, rfl, (by decide : 5 + 0 ≤ _), (by decide : 25 + 0 ≤ _)⟩)
  dsimp only [Pt.U, Pt.locs, Pt.cells, Pt.slots] at X37 l37 y37 z37 st37 hQ37
  rw [l37, y37, z37] at X37
  obtain ⟨s5, es5, rfl, N37q, K37, fk37_0, fk37_1⟩ := hQ37
  have f119 : Sta Z T37.heap "java/lang/String" "COMPACT_STRINGS" "Z" (.int cz) := own_staK f106 K37 (nsS fk36_0.nostat (nsS fk36_1.nostat ns0))
  have f120 : Sta Z T37.heap "jdk/internal/util/Preconditions" "SIOOBE_FORMATTER" "Ljava/util/function/BiFunction;" fS := own_staK f107 K37 (nsS fk36_0.nostat (nsS fk36_1.nostat ns0))
  have f121 : Sta Z T37.heap "jdk/internal/util/Preconditions" "IOOBE_FORMATTER" "Ljava/util/function/BiFunction;" fi := own_staK f108 K37 (nsS fk36_0.nostat (nsS fk36_1.nostat ns0))
  have f122 : n0 ≤ b5 := f109
  have f123 : Arv Z T37.heap b5 k5 .char (6 : Int32) (cl.map Value.int) (.int (0 : Int32)) := f110.keep K37 (by simp [ne_b5_b30, ne_b5_b31])
  have f124 : n0 ≤ b28 := f111
  have f125 : Exa Z T37.heap b28 "java/lang/String" := f112.keep K37
  have f126 : Fld Z T37.heap b28 "java/lang/String" "coder" "B" (.int (0 : Int32)) := f113.keep K37 (by simp [ne_b28_b30, ne_b28_b31])
  have f127 : Fld Z T37.heap b28 "java/lang/String" "value" "[B" (.ref tt29) := f114.keep K37 (by simp [ne_b28_b30, ne_b28_b31])
  have f128 : Arv Z T37.heap tt29 tk29 .byte (Int32.ofNat cl.length) (own_by cl) (.int 0) := f115.keep K37 (by simp [ne_tt29_b30, ne_tt29_b31])
  have f129 : n0 ≤ tt29 := f116
  have f130 : n0 ≤ b30 := f117
  have f131 : n0 ≤ b31 := f118
  have Z37 : n0 ≤ T37.heap.size := Nat.le_trans Z36 K37.1
  have hs5 : s5.2.2.length ≤ 5 := by rw [es5]; exact Nat.le_trans (own_stepL _ _ _ _ _) (Nat.succ_le_succ hs4)
  have N37 := Fr.app N36 N37q
  have pre_38 : ∀ t, Steps p.tables e below (T37.setTop (mkF m 243 #[.val (.int p1), .val (.int p2), .val (.int p3), .val (.int p4), .val (.int qc), .val (.int (Int32.ofNat oo)), .val (.ref b5), .val (.ref b28), .val (.ref b30), .val (.ref b31), .unset, .unset, .unset] [(.int (Int32.ofNat oo)), (.ref b28)])) t → Steps p.tables e below (s₁.setTop (entryFrame m #[(.int p1), (.int p2), (.int p3), (.int p4)] maxLocals)) t := by
    intro t kt
    refine pre_4 _ ?_
    show Steps p.tables e below (s₁.setTop (mkF m 18 #[.val (.int p1), .val (.int p2), .val (.int p3), .val (.int p4), .val (.int qc), .unset, .unset, .unset, .unset, .unset, .unset, .unset, .unset] [(.int (Int32.ofNat oo))])) _
    refine XS.istore X0.here hx rfl (hb hby at_18) rfl (l' := #[.val (.int p1), .val (.int p2), .val (.int p3), .val (.int p4), .val (.int qc), .val (.int (Int32.ofNat oo)), .unset, .unset, .unset, .unset, .unset, .unset, .unset]) rfl ?_
    show Steps p.tables e below (s₁.setTop (mkF m 20 #[.val (.int p1), .val (.int p2), .val (.int p3), .val (.int p4), .val (.int qc), .val (.int (Int32.ofNat oo)), .unset, .unset, .unset, .unset, .unset, .unset, .unset] [])) _
    refine XS.bipush X0.here hx rfl (hb hby at_20) ?_
    show Steps p.tables e below (s₁.setTop (mkF m 22 #[.val (.int p1), .val (.int p2), .val (.int p3), .val (.int p4), .val (.int qc), .val (.int (Int32.ofNat oo)), .unset, .unset, .unset, .unset, .unset, .unset, .unset] [(.int (6 : Int32))])) _
    refine st5 _ ?_
    show Steps p.tables e below (T5.setTop (mkF m 24 #[.val (.int p1), .val (.int p2), .val (.int p3), .val (.int p4), .val (.int qc), .val (.int (Int32.ofNat oo)), .unset, .unset, .unset, .unset, .unset, .unset, .unset] [(.ref b5)])) _
    refine XS.astore X5.here hx rfl (hb hby at_24) rfl rfl (l' := #[.val (.int p1), .val (.int p2), .val (.int p3), .val (.int p4), .val (.int qc), .val (.int (Int32.ofNat oo)), .val (.ref b5), .unset, .unset, .unset, .unset, .unset, .unset]) rfl ?_
    show Steps p.tables e below (T5.setTop (mkF m 26 #[.val (.int p1), .val (.int p2), .val (.int p3), .val (.int p4), .val (.int qc), .val (.int (Int32.ofNat oo)), .val (.ref b5), .unset, .unset, .unset, .unset, .unset, .unset] [])) _
    refine XS.aload X5.here hx rfl (hb hby at_26) rfl rfl ?_
    show Steps p.tables e below (T5.setTop (mkF m 28 #[.val (.int p1), .val (.int p2), .val (.int p3), .val (.int p4), .val (.int qc), .val (.int (Int32.ofNat oo)), .val (.ref b5), .unset, .unset, .unset, .unset, .unset, .unset] [(.ref b5)])) _
    refine XS.iconst X5.here hx rfl (hb hby at_28) ?_
    show Steps p.tables e below (T5.setTop (mkF m 29 #[.val (.int p1), .val (.int p2), .val (.int p3), .val (.int p4), .val (.int qc), .val (.int (Int32.ofNat oo)), .val (.ref b5), .unset, .unset, .unset, .unset, .unset, .unset] [(.int (0 : Int32)), (.ref b5)])) _
    refine XS.iloadN X5.here hx rfl (hb hby at_29) rfl ?_
    show Steps p.tables e below (T5.setTop (mkF m 30 #[.val (.int p1), .val (.int p2), .val (.int p3), .val (.int p4), .val (.int qc), .val (.int (Int32.ofNat oo)), .val (.ref b5), .unset, .unset, .unset, .unset, .unset, .unset] [(.int p2), (.int (0 : Int32)), (.ref b5)])) _
    refine XS.iconst X5.here hx rfl (hb hby at_30) ?_
    show Steps p.tables e below (T5.setTop (mkF m 31 #[.val (.int p1), .val (.int p2), .val (.int p3), .val (.int p4), .val (.int qc), .val (.int (Int32.ofNat oo)), .val (.ref b5), .unset, .unset, .unset, .unset, .unset, .unset] [(.int (0 : Int32)), (.int p2), (.int (0 : Int32)), (.ref b5)])) _
    refine XS.iload X5.here hx rfl (hb hby at_31) rfl ?_
    show Steps p.tables e below (T5.setTop (mkF m 33 #[.val (.int p1), .val (.int p2), .val (.int p3), .val (.int p4), .val (.int qc), .val (.int (Int32.ofNat oo)), .val (.ref b5), .unset, .unset, .unset, .unset, .unset, .unset] [(.int qc), (.int (0 : Int32)), (.int p2), (.int (0 : Int32)), (.ref b5)])) _
    refine XS.iloadN X5.here hx rfl (hb hby at_33) rfl ?_
    show Steps p.tables e below (T5.setTop (mkF m 34 #[.val (.int p1), .val (.int p2), .val (.int p3), .val (.int p4), .val (.int qc), .val (.int (Int32.ofNat oo)), .val (.ref b5), .unset, .unset, .unset, .unset, .unset, .unset] [(.int p3), (.int qc), (.int (0 : Int32)), (.int p2), (.int (0 : Int32)), (.ref b5)])) _
    refine XS.sipush X5.here hx rfl (hb hby at_34) ?_
    show Steps p.tables e below (T5.setTop (mkF m 37 #[.val (.int p1), .val (.int p2), .val (.int p3), .val (.int p4), .val (.int qc), .val (.int (Int32.ofNat oo)), .val (.ref b5), .unset, .unset, .unset, .unset, .unset, .unset] [(.int (255 : Int32)), (.int p3), (.int qc), (.int (0 : Int32)), (.int p2), (.int (0 : Int32)), (.ref b5)])) _
    refine XS.iand X5.here hx rfl (hb hby at_37) rfl ?_
    show Steps p.tables e below (T5.setTop (mkF m 38 #[.val (.int p1), .val (.int p2), .val (.int p3), .val (.int p4), .val (.int qc), .val (.int (Int32.ofNat oo)), .val (.ref b5), .unset, .unset, .unset, .unset, .unset, .unset] [(.int (p3 &&& (255 : Int32))), (.int qc), (.int (0 : Int32)), (.int p2), (.int (0 : Int32)), (.ref b5)])) _
    refine XS.i2c X5.here hx rfl (hb hby at_38) rfl ?_
    show Steps p.tables e below (T5.setTop (mkF m 39 #[.val (.int p1), .val (.int p2), .val (.int p3), .val (.int p4), .val (.int qc), .val (.int (Int32.ofNat oo)), .val (.ref b5), .unset, .unset, .unset, .unset, .unset, .unset] [(.int ((p3 &&& (255 : Int32)).toUInt32.toUInt16.toUInt32.toInt32)), (.int qc), (.int (0 : Int32)), (.int p2), (.int (0 : Int32)), (.ref b5)])) _
    refine st6 _ ?_
    show Steps p.tables e below (T6.setTop (mkF m 42 #[.val (.int p1), .val (.int p2), .val (.int p3), .val (.int p4), .val (.int qc), .val (.int (Int32.ofNat oo)), .val (.ref b5), .unset, .unset, .unset, .unset, .unset, .unset] [(.int w0), (.int (0 : Int32)), (.ref b5)])) _
    refine st8 _ ?_
    show Steps p.tables e below (T8.setTop (mkF m 43 #[.val (.int p1), .val (.int p2), .val (.int p3), .val (.int p4), .val (.int qc), .val (.int (Int32.ofNat oo)), .val (.ref b5), .unset, .unset, .unset, .unset, .unset, .unset] [])) _
    refine XS.aload X8.here hx rfl (hb hby at_43) rfl rfl ?_
    show Steps p.tables e below (T8.setTop (mkF m 45 #[.val (.int p1), .val (.int p2), .val (.int p3), .val (.int p4), .val (.int qc), .val (.int (Int32.ofNat oo)), .val (.ref b5), .unset, .unset, .unset, .unset, .unset, .unset] [(.ref b5)])) _
    refine XS.iconst X8.here hx rfl (hb hby at_45) ?_
    show Steps p.tables e below (T8.setTop (mkF m 46 #[.val (.int p1), .val (.int p2), .val (.int p3), .val (.int p4), .val (.int qc), .val (.int (Int32.ofNat oo)), .val (.ref b5), .unset, .unset, .unset, .unset, .unset, .unset] [(.int (1 : Int32)), (.ref b5)])) _
    refine XS.iloadN X8.here hx rfl (hb hby at_46) rfl ?_
    show Steps p.tables e below (T8.setTop (mkF m 47 #[.val (.int p1), .val (.int p2), .val (.int p3), .val (.int p4), .val (.int qc), .val (.int (Int32.ofNat oo)), .val (.ref b5), .unset, .unset, .unset, .unset, .unset, .unset] [(.int p2), (.int (1 : Int32)), (.ref b5)])) _
    refine XS.iconst X8.here hx rfl (hb hby at_47) ?_
    show Steps p.tables e below (T8.setTop (mkF m 48 #[.val (.int p1), .val (.int p2), .val (.int p3), .val (.int p4), .val (.int qc), .val (.int (Int32.ofNat oo)), .val (.ref b5), .unset, .unset, .unset, .unset, .unset, .unset] [(.int (1 : Int32)), (.int p2), (.int (1 : Int32)), (.ref b5)])) _
    refine XS.iload X8.here hx rfl (hb hby at_48) rfl ?_
    show Steps p.tables e below (T8.setTop (mkF m 50 #[.val (.int p1), .val (.int p2), .val (.int p3), .val (.int p4), .val (.int qc), .val (.int (Int32.ofNat oo)), .val (.ref b5), .unset, .unset, .unset, .unset, .unset, .unset] [(.int qc), (.int (1 : Int32)), (.int p2), (.int (1 : Int32)), (.ref b5)])) _
    refine XS.iloadN X8.here hx rfl (hb hby at_50) rfl ?_
    show Steps p.tables e below (T8.setTop (mkF m 51 #[.val (.int p1), .val (.int p2), .val (.int p3), .val (.int p4), .val (.int qc), .val (.int (Int32.ofNat oo)), .val (.ref b5), .unset, .unset, .unset, .unset, .unset, .unset] [(.int p3), (.int qc), (.int (1 : Int32)), (.int p2), (.int (1 : Int32)), (.ref b5)])) _
    refine XS.bipush X8.here hx rfl (hb hby at_51) ?_
    show Steps p.tables e below (T8.setTop (mkF m 53 #[.val (.int p1), .val (.int p2), .val (.int p3), .val (.int p4), .val (.int qc), .val (.int (Int32.ofNat oo)), .val (.ref b5), .unset, .unset, .unset, .unset, .unset, .unset] [(.int (8 : Int32)), (.int p3), (.int qc), (.int (1 : Int32)), (.int p2), (.int (1 : Int32)), (.ref b5)])) _
    refine XS.iushr X8.here hx rfl (hb hby at_53) rfl ?_
    show Steps p.tables e below (T8.setTop (mkF m 54 #[.val (.int p1), .val (.int p2), .val (.int p3), .val (.int p4), .val (.int qc), .val (.int (Int32.ofNat oo)), .val (.ref b5), .unset, .unset, .unset, .unset, .unset, .unset] [(.int ((p3.toUInt32 >>> ((8 : Int32) &&& 31).toUInt32).toInt32)), (.int qc), (.int (1 : Int32)), (.int p2), (.int (1 : Int32)), (.ref b5)])) _
    refine XS.sipush X8.here hx rfl (hb hby at_54) ?_
    show Steps p.tables e below (T8.setTop (mkF m 57 #[.val (.int p1), .val (.int p2), .val (.int p3), .val (.int p4), .val (.int qc), .val (.int (Int32.ofNat oo)), .val (.ref b5), .unset, .unset, .unset, .unset, .unset, .unset] [(.int (255 : Int32)), (.int ((p3.toUInt32 >>> ((8 : Int32) &&& 31).toUInt32).toInt32)), (.int qc), (.int (1 : Int32)), (.int p2), (.int (1 : Int32)), (.ref b5)])) _
    refine XS.iand X8.here hx rfl (hb hby at_57) rfl ?_
    show Steps p.tables e below (T8.setTop (mkF m 58 #[.val (.int p1), .val (.int p2), .val (.int p3), .val (.int p4), .val (.int qc), .val (.int (Int32.ofNat oo)), .val (.ref b5), .unset, .unset, .unset, .unset, .unset, .unset] [(.int (((p3.toUInt32 >>> ((8 : Int32) &&& 31).toUInt32).toInt32) &&& (255 : Int32))), (.int qc), (.int (1 : Int32)), (.int p2), (.int (1 : Int32)), (.ref b5)])) _
    refine XS.i2c X8.here hx rfl (hb hby at_58) rfl ?_
    show Steps p.tables e below (T8.setTop (mkF m 59 #[.val (.int p1), .val (.int p2), .val (.int p3), .val (.int p4), .val (.int qc), .val (.int (Int32.ofNat oo)), .val (.ref b5), .unset, .unset, .unset, .unset, .unset, .unset] [(.int ((((p3.toUInt32 >>> ((8 : Int32) &&& 31).toUInt32).toInt32) &&& (255 : Int32)).toUInt32.toUInt16.toUInt32.toInt32)), (.int qc), (.int (1 : Int32)), (.int p2), (.int (1 : Int32)), (.ref b5)])) _
    refine st9 _ ?_
    show Steps p.tables e below (T9.setTop (mkF m 62 #[.val (.int p1), .val (.int p2), .val (.int p3), .val (.int p4), .val (.int qc), .val (.int (Int32.ofNat oo)), .val (.ref b5), .unset, .unset, .unset, .unset, .unset, .unset] [(.int w1), (.int (1 : Int32)), (.ref b5)])) _
    refine st11 _ ?_
    show Steps p.tables e below (T11.setTop (mkF m 63 #[.val (.int p1), .val (.int p2), .val (.int p3), .val (.int p4), .val (.int qc), .val (.int (Int32.ofNat oo)), .val (.ref b5), .unset, .unset, .unset, .unset, .unset, .unset] [])) _
    refine XS.aload X11.here hx rfl (hb hby at_63) rfl rfl ?_
    show Steps p.tables e below (T11.setTop (mkF m 65 #[.val (.int p1), .val (.int p2), .val (.int p3), .val (.int p4), .val (.int qc), .val (.int (Int32.ofNat oo)), .val (.ref b5), .unset, .unset, .unset, .unset, .unset, .unset] [(.ref b5)])) _
    refine XS.iconst X11.here hx rfl (hb hby at_65) ?_
    show Steps p.tables e below (T11.setTop (mkF m 66 #[.val (.int p1), .val (.int p2), .val (.int p3), .val (.int p4), .val (.int qc), .val (.int (Int32.ofNat oo)), .val (.ref b5), .unset, .unset, .unset, .unset, .unset, .unset] [(.int (2 : Int32)), (.ref b5)])) _
    refine XS.iloadN X11.here hx rfl (hb hby at_66) rfl ?_
    show Steps p.tables e below (T11.setTop (mkF m 67 #[.val (.int p1), .val (.int p2), .val (.int p3), .val (.int p4), .val (.int qc), .val (.int (Int32.ofNat oo)), .val (.ref b5), .unset, .unset, .unset, .unset, .unset, .unset] [(.int p2), (.int (2 : Int32)), (.ref b5)])) _
    refine XS.iconst X11.here hx rfl (hb hby at_67) ?_
    show Steps p.tables e below (T11.setTop (mkF m 68 #[.val (.int p1), .val (.int p2), .val (.int p3), .val (.int p4), .val (.int qc), .val (.int (Int32.ofNat oo)), .val (.ref b5), .unset, .unset, .unset, .unset, .unset, .unset] [(.int (2 : Int32)), (.int p2), (.int (2 : Int32)), (.ref b5)])) _
    refine XS.iload X11.here hx rfl (hb hby at_68) rfl ?_
    show Steps p.tables e below (T11.setTop (mkF m 70 #[.val (.int p1), .val (.int p2), .val (.int p3), .val (.int p4), .val (.int qc), .val (.int (Int32.ofNat oo)), .val (.ref b5), .unset, .unset, .unset, .unset, .unset, .unset] [(.int qc), (.int (2 : Int32)), (.int p2), (.int (2 : Int32)), (.ref b5)])) _
    refine XS.iloadN X11.here hx rfl (hb hby at_70) rfl ?_
    show Steps p.tables e below (T11.setTop (mkF m 71 #[.val (.int p1), .val (.int p2), .val (.int p3), .val (.int p4), .val (.int qc), .val (.int (Int32.ofNat oo)), .val (.ref b5), .unset, .unset, .unset, .unset, .unset, .unset] [(.int p3), (.int qc), (.int (2 : Int32)), (.int p2), (.int (2 : Int32)), (.ref b5)])) _
    refine XS.bipush X11.here hx rfl (hb hby at_71) ?_
    show Steps p.tables e below (T11.setTop (mkF m 73 #[.val (.int p1), .val (.int p2), .val (.int p3), .val (.int p4), .val (.int qc), .val (.int (Int32.ofNat oo)), .val (.ref b5), .unset, .unset, .unset, .unset, .unset, .unset] [(.int (16 : Int32)), (.int p3), (.int qc), (.int (2 : Int32)), (.int p2), (.int (2 : Int32)), (.ref b5)])) _
    refine XS.iushr X11.here hx rfl (hb hby at_73) rfl ?_
    show Steps p.tables e below (T11.setTop (mkF m 74 #[.val (.int p1), .val (.int p2), .val (.int p3), .val (.int p4), .val (.int qc), .val (.int (Int32.ofNat oo)), .val (.ref b5), .unset, .unset, .unset, .unset, .unset, .unset] [(.int ((p3.toUInt32 >>> ((16 : Int32) &&& 31).toUInt32).toInt32)), (.int qc), (.int (2 : Int32)), (.int p2), (.int (2 : Int32)), (.ref b5)])) _
    refine XS.sipush X11.here hx rfl (hb hby at_74) ?_
    show Steps p.tables e below (T11.setTop (mkF m 77 #[.val (.int p1), .val (.int p2), .val (.int p3), .val (.int p4), .val (.int qc), .val (.int (Int32.ofNat oo)), .val (.ref b5), .unset, .unset, .unset, .unset, .unset, .unset] [(.int (255 : Int32)), (.int ((p3.toUInt32 >>> ((16 : Int32) &&& 31).toUInt32).toInt32)), (.int qc), (.int (2 : Int32)), (.int p2), (.int (2 : Int32)), (.ref b5)])) _
    refine XS.iand X11.here hx rfl (hb hby at_77) rfl ?_
    show Steps p.tables e below (T11.setTop (mkF m 78 #[.val (.int p1), .val (.int p2), .val (.int p3), .val (.int p4), .val (.int qc), .val (.int (Int32.ofNat oo)), .val (.ref b5), .unset, .unset, .unset, .unset, .unset, .unset] [(.int (((p3.toUInt32 >>> ((16 : Int32) &&& 31).toUInt32).toInt32) &&& (255 : Int32))), (.int qc), (.int (2 : Int32)), (.int p2), (.int (2 : Int32)), (.ref b5)])) _
    refine XS.i2c X11.here hx rfl (hb hby at_78) rfl ?_
    show Steps p.tables e below (T11.setTop (mkF m 79 #[.val (.int p1), .val (.int p2), .val (.int p3), .val (.int p4), .val (.int qc), .val (.int (Int32.ofNat oo)), .val (.ref b5), .unset, .unset, .unset, .unset, .unset, .unset] [(.int ((((p3.toUInt32 >>> ((16 : Int32) &&& 31).toUInt32).toInt32) &&& (255 : Int32)).toUInt32.toUInt16.toUInt32.toInt32)), (.int qc), (.int (2 : Int32)), (.int p2), (.int (2 : Int32)), (.ref b5)])) _
    refine st12 _ ?_
    show Steps p.tables e below (T12.setTop (mkF m 82 #[.val (.int p1), .val (.int p2), .val (.int p3), .val (.int p4), .val (.int qc), .val (.int (Int32.ofNat oo)), .val (.ref b5), .unset, .unset, .unset, .unset, .unset, .unset] [(.int w2), (.int (2 : Int32)), (.ref b5)])) _
    refine st14 _ ?_
    show Steps p.tables e below (T14.setTop (mkF m 83 #[.val (.int p1), .val (.int p2), .val (.int p3), .val (.int p4), .val (.int qc), .val (.int (Int32.ofNat oo)), .val (.ref b5), .unset, .unset, .unset, .unset, .unset, .unset] [])) _
    refine XS.aload X14.here hx rfl (hb hby at_83) rfl rfl ?_
    show Steps p.tables e below (T14.setTop (mkF m 85 #[.val (.int p1), .val (.int p2), .val (.int p3), .val (.int p4), .val (.int qc), .val (.int (Int32.ofNat oo)), .val (.ref b5), .unset, .unset, .unset, .unset, .unset, .unset] [(.ref b5)])) _
    refine XS.iconst X14.here hx rfl (hb hby at_85) ?_
    show Steps p.tables e below (T14.setTop (mkF m 86 #[.val (.int p1), .val (.int p2), .val (.int p3), .val (.int p4), .val (.int qc), .val (.int (Int32.ofNat oo)), .val (.ref b5), .unset, .unset, .unset, .unset, .unset, .unset] [(.int (3 : Int32)), (.ref b5)])) _
    refine XS.iloadN X14.here hx rfl (hb hby at_86) rfl ?_
    show Steps p.tables e below (T14.setTop (mkF m 87 #[.val (.int p1), .val (.int p2), .val (.int p3), .val (.int p4), .val (.int qc), .val (.int (Int32.ofNat oo)), .val (.ref b5), .unset, .unset, .unset, .unset, .unset, .unset] [(.int p2), (.int (3 : Int32)), (.ref b5)])) _
    refine XS.iconst X14.here hx rfl (hb hby at_87) ?_
    show Steps p.tables e below (T14.setTop (mkF m 88 #[.val (.int p1), .val (.int p2), .val (.int p3), .val (.int p4), .val (.int qc), .val (.int (Int32.ofNat oo)), .val (.ref b5), .unset, .unset, .unset, .unset, .unset, .unset] [(.int (3 : Int32)), (.int p2), (.int (3 : Int32)), (.ref b5)])) _
    refine XS.iload X14.here hx rfl (hb hby at_88) rfl ?_
    show Steps p.tables e below (T14.setTop (mkF m 90 #[.val (.int p1), .val (.int p2), .val (.int p3), .val (.int p4), .val (.int qc), .val (.int (Int32.ofNat oo)), .val (.ref b5), .unset, .unset, .unset, .unset, .unset, .unset] [(.int qc), (.int (3 : Int32)), (.int p2), (.int (3 : Int32)), (.ref b5)])) _
    refine XS.iloadN X14.here hx rfl (hb hby at_90) rfl ?_
    show Steps p.tables e below (T14.setTop (mkF m 91 #[.val (.int p1), .val (.int p2), .val (.int p3), .val (.int p4), .val (.int qc), .val (.int (Int32.ofNat oo)), .val (.ref b5), .unset, .unset, .unset, .unset, .unset, .unset] [(.int p3), (.int qc), (.int (3 : Int32)), (.int p2), (.int (3 : Int32)), (.ref b5)])) _
    refine XS.bipush X14.here hx rfl (hb hby at_91) ?_
    show Steps p.tables e below (T14.setTop (mkF m 93 #[.val (.int p1), .val (.int p2), .val (.int p3), .val (.int p4), .val (.int qc), .val (.int (Int32.ofNat oo)), .val (.ref b5), .unset, .unset, .unset, .unset, .unset, .unset] [(.int (24 : Int32)), (.int p3), (.int qc), (.int (3 : Int32)), (.int p2), (.int (3 : Int32)), (.ref b5)])) _
    refine XS.iushr X14.here hx rfl (hb hby at_93) rfl ?_
    show Steps p.tables e below (T14.setTop (mkF m 94 #[.val (.int p1), .val (.int p2), .val (.int p3), .val (.int p4), .val (.int qc), .val (.int (Int32.ofNat oo)), .val (.ref b5), .unset, .unset, .unset, .unset, .unset, .unset] [(.int ((p3.toUInt32 >>> ((24 : Int32) &&& 31).toUInt32).toInt32)), (.int qc), (.int (3 : Int32)), (.int p2), (.int (3 : Int32)), (.ref b5)])) _
    refine XS.sipush X14.here hx rfl (hb hby at_94) ?_
    show Steps p.tables e below (T14.setTop (mkF m 97 #[.val (.int p1), .val (.int p2), .val (.int p3), .val (.int p4), .val (.int qc), .val (.int (Int32.ofNat oo)), .val (.ref b5), .unset, .unset, .unset, .unset, .unset, .unset] [(.int (255 : Int32)), (.int ((p3.toUInt32 >>> ((24 : Int32) &&& 31).toUInt32).toInt32)), (.int qc), (.int (3 : Int32)), (.int p2), (.int (3 : Int32)), (.ref b5)])) _
    refine XS.iand X14.here hx rfl (hb hby at_97) rfl ?_
    show Steps p.tables e below (T14.setTop (mkF m 98 #[.val (.int p1), .val (.int p2), .val (.int p3), .val (.int p4), .val (.int qc), .val (.int (Int32.ofNat oo)), .val (.ref b5), .unset, .unset, .unset, .unset, .unset, .unset] [(.int (((p3.toUInt32 >>> ((24 : Int32) &&& 31).toUInt32).toInt32) &&& (255 : Int32))), (.int qc), (.int (3 : Int32)), (.int p2), (.int (3 : Int32)), (.ref b5)])) _
    refine XS.i2c X14.here hx rfl (hb hby at_98) rfl ?_
    show Steps p.tables e below (T14.setTop (mkF m 99 #[.val (.int p1), .val (.int p2), .val (.int p3), .val (.int p4), .val (.int qc), .val (.int (Int32.ofNat oo)), .val (.ref b5), .unset, .unset, .unset, .unset, .unset, .unset] [(.int ((((p3.toUInt32 >>> ((24 : Int32) &&& 31).toUInt32).toInt32) &&& (255 : Int32)).toUInt32.toUInt16.toUInt32.toInt32)), (.int qc), (.int (3 : Int32)), (.int p2), (.int (3 : Int32)), (.ref b5)])) _
    refine st15 _ ?_
    show Steps p.tables e below (T15.setTop (mkF m 102 #[.val (.int p1), .val (.int p2), .val (.int p3), .val (.int p4), .val (.int qc), .val (.int (Int32.ofNat oo)), .val (.ref b5), .unset, .unset, .unset, .unset, .unset, .unset] [(.int w3), (.int (3 : Int32)), (.ref b5)])) _
    refine st17 _ ?_
    show Steps p.tables e below (T17.setTop (mkF m 103 #[.val (.int p1), .val (.int p2), .val (.int p3), .val (.int p4), .val (.int qc), .val (.int (Int32.ofNat oo)), .val (.ref b5), .unset, .unset, .unset, .unset, .unset, .unset] [])) _
    refine XS.aload X17.here hx rfl (hb hby at_103) rfl rfl ?_
    show Steps p.tables e below (T17.setTop (mkF m 105 #[.val (.int p1), .val (.int p2), .val (.int p3), .val (.int p4), .val (.int qc), .val (.int (Int32.ofNat oo)), .val (.ref b5), .unset, .unset, .unset, .unset, .unset, .unset] [(.ref b5)])) _
    refine XS.iconst X17.here hx rfl (hb hby at_105) ?_
    show Steps p.tables e below (T17.setTop (mkF m 106 #[.val (.int p1), .val (.int p2), .val (.int p3), .val (.int p4), .val (.int qc), .val (.int (Int32.ofNat oo)), .val (.ref b5), .unset, .unset, .unset, .unset, .unset, .unset] [(.int (4 : Int32)), (.ref b5)])) _
    refine XS.iloadN X17.here hx rfl (hb hby at_106) rfl ?_
    show Steps p.tables e below (T17.setTop (mkF m 107 #[.val (.int p1), .val (.int p2), .val (.int p3), .val (.int p4), .val (.int qc), .val (.int (Int32.ofNat oo)), .val (.ref b5), .unset, .unset, .unset, .unset, .unset, .unset] [(.int p2), (.int (4 : Int32)), (.ref b5)])) _
    refine XS.iconst X17.here hx rfl (hb hby at_107) ?_
    show Steps p.tables e below (T17.setTop (mkF m 108 #[.val (.int p1), .val (.int p2), .val (.int p3), .val (.int p4), .val (.int qc), .val (.int (Int32.ofNat oo)), .val (.ref b5), .unset, .unset, .unset, .unset, .unset, .unset] [(.int (4 : Int32)), (.int p2), (.int (4 : Int32)), (.ref b5)])) _
    refine XS.iload X17.here hx rfl (hb hby at_108) rfl ?_
    show Steps p.tables e below (T17.setTop (mkF m 110 #[.val (.int p1), .val (.int p2), .val (.int p3), .val (.int p4), .val (.int qc), .val (.int (Int32.ofNat oo)), .val (.ref b5), .unset, .unset, .unset, .unset, .unset, .unset] [(.int qc), (.int (4 : Int32)), (.int p2), (.int (4 : Int32)), (.ref b5)])) _
    refine XS.iloadN X17.here hx rfl (hb hby at_110) rfl ?_
    show Steps p.tables e below (T17.setTop (mkF m 111 #[.val (.int p1), .val (.int p2), .val (.int p3), .val (.int p4), .val (.int qc), .val (.int (Int32.ofNat oo)), .val (.ref b5), .unset, .unset, .unset, .unset, .unset, .unset] [(.int p4), (.int qc), (.int (4 : Int32)), (.int p2), (.int (4 : Int32)), (.ref b5)])) _
    refine XS.sipush X17.here hx rfl (hb hby at_111) ?_
    show Steps p.tables e below (T17.setTop (mkF m 114 #[.val (.int p1), .val (.int p2), .val (.int p3), .val (.int p4), .val (.int qc), .val (.int (Int32.ofNat oo)), .val (.ref b5), .unset, .unset, .unset, .unset, .unset, .unset] [(.int (255 : Int32)), (.int p4), (.int qc), (.int (4 : Int32)), (.int p2), (.int (4 : Int32)), (.ref b5)])) _
    refine XS.iand X17.here hx rfl (hb hby at_114) rfl ?_
    show Steps p.tables e below (T17.setTop (mkF m 115 #[.val (.int p1), .val (.int p2), .val (.int p3), .val (.int p4), .val (.int qc), .val (.int (Int32.ofNat oo)), .val (.ref b5), .unset, .unset, .unset, .unset, .unset, .unset] [(.int (p4 &&& (255 : Int32))), (.int qc), (.int (4 : Int32)), (.int p2), (.int (4 : Int32)), (.ref b5)])) _
    refine XS.i2c X17.here hx rfl (hb hby at_115) rfl ?_
    show Steps p.tables e below (T17.setTop (mkF m 116 #[.val (.int p1), .val (.int p2), .val (.int p3), .val (.int p4), .val (.int qc), .val (.int (Int32.ofNat oo)), .val (.ref b5), .unset, .unset, .unset, .unset, .unset, .unset] [(.int ((p4 &&& (255 : Int32)).toUInt32.toUInt16.toUInt32.toInt32)), (.int qc), (.int (4 : Int32)), (.int p2), (.int (4 : Int32)), (.ref b5)])) _
    refine st18 _ ?_
    show Steps p.tables e below (T18.setTop (mkF m 119 #[.val (.int p1), .val (.int p2), .val (.int p3), .val (.int p4), .val (.int qc), .val (.int (Int32.ofNat oo)), .val (.ref b5), .unset, .unset, .unset, .unset, .unset, .unset] [(.int w4), (.int (4 : Int32)), (.ref b5)])) _
    refine st20 _ ?_
    show Steps p.tables e below (T20.setTop (mkF m 120 #[.val (.int p1), .val (.int p2), .val (.int p3), .val (.int p4), .val (.int qc), .val (.int (Int32.ofNat oo)), .val (.ref b5), .unset, .unset, .unset, .unset, .unset, .unset] [])) _
    refine XS.aload X20.here hx rfl (hb hby at_120) rfl rfl ?_
    show Steps p.tables e below (T20.setTop (mkF m 122 #[.val (.int p1), .val (.int p2), .val (.int p3), .val (.int p4), .val (.int qc), .val (.int (Int32.ofNat oo)), .val (.ref b5), .unset, .unset, .unset, .unset, .unset, .unset] [(.ref b5)])) _
    refine XS.iconst X20.here hx rfl (hb hby at_122) ?_
    show Steps p.tables e below (T20.setTop (mkF m 123 #[.val (.int p1), .val (.int p2), .val (.int p3), .val (.int p4), .val (.int qc), .val (.int (Int32.ofNat oo)), .val (.ref b5), .unset, .unset, .unset, .unset, .unset, .unset] [(.int (5 : Int32)), (.ref b5)])) _
    refine XS.iloadN X20.here hx rfl (hb hby at_123) rfl ?_
    show Steps p.tables e below (T20.setTop (mkF m 124 #[.val (.int p1), .val (.int p2), .val (.int p3), .val (.int p4), .val (.int qc), .val (.int (Int32.ofNat oo)), .val (.ref b5), .unset, .unset, .unset, .unset, .unset, .unset] [(.int p2), (.int (5 : Int32)), (.ref b5)])) _
    refine XS.iconst X20.here hx rfl (hb hby at_124) ?_
    show Steps p.tables e below (T20.setTop (mkF m 125 #[.val (.int p1), .val (.int p2), .val (.int p3), .val (.int p4), .val (.int qc), .val (.int (Int32.ofNat oo)), .val (.ref b5), .unset, .unset, .unset, .unset, .unset, .unset] [(.int (5 : Int32)), (.int p2), (.int (5 : Int32)), (.ref b5)])) _
    refine XS.iload X20.here hx rfl (hb hby at_125) rfl ?_
    show Steps p.tables e below (T20.setTop (mkF m 127 #[.val (.int p1), .val (.int p2), .val (.int p3), .val (.int p4), .val (.int qc), .val (.int (Int32.ofNat oo)), .val (.ref b5), .unset, .unset, .unset, .unset, .unset, .unset] [(.int qc), (.int (5 : Int32)), (.int p2), (.int (5 : Int32)), (.ref b5)])) _
    refine XS.iloadN X20.here hx rfl (hb hby at_127) rfl ?_
    show Steps p.tables e below (T20.setTop (mkF m 128 #[.val (.int p1), .val (.int p2), .val (.int p3), .val (.int p4), .val (.int qc), .val (.int (Int32.ofNat oo)), .val (.ref b5), .unset, .unset, .unset, .unset, .unset, .unset] [(.int p4), (.int qc), (.int (5 : Int32)), (.int p2), (.int (5 : Int32)), (.ref b5)])) _
    refine XS.bipush X20.here hx rfl (hb hby at_128) ?_
    show Steps p.tables e below (T20.setTop (mkF m 130 #[.val (.int p1), .val (.int p2), .val (.int p3), .val (.int p4), .val (.int qc), .val (.int (Int32.ofNat oo)), .val (.ref b5), .unset, .unset, .unset, .unset, .unset, .unset] [(.int (8 : Int32)), (.int p4), (.int qc), (.int (5 : Int32)), (.int p2), (.int (5 : Int32)), (.ref b5)])) _
    refine XS.iushr X20.here hx rfl (hb hby at_130) rfl ?_
    show Steps p.tables e below (T20.setTop (mkF m 131 #[.val (.int p1), .val (.int p2), .val (.int p3), .val (.int p4), .val (.int qc), .val (.int (Int32.ofNat oo)), .val (.ref b5), .unset, .unset, .unset, .unset, .unset, .unset] [(.int ((p4.toUInt32 >>> ((8 : Int32) &&& 31).toUInt32).toInt32)), (.int qc), (.int (5 : Int32)), (.int p2), (.int (5 : Int32)), (.ref b5)])) _
    refine XS.sipush X20.here hx rfl (hb hby at_131) ?_
    show Steps p.tables e below (T20.setTop (mkF m 134 #[.val (.int p1), .val (.int p2), .val (.int p3), .val (.int p4), .val (.int qc), .val (.int (Int32.ofNat oo)), .val (.ref b5), .unset, .unset, .unset, .unset, .unset, .unset] [(.int (255 : Int32)), (.int ((p4.toUInt32 >>> ((8 : Int32) &&& 31).toUInt32).toInt32)), (.int qc), (.int (5 : Int32)), (.int p2), (.int (5 : Int32)), (.ref b5)])) _
    refine XS.iand X20.here hx rfl (hb hby at_134) rfl ?_
    show Steps p.tables e below (T20.setTop (mkF m 135 #[.val (.int p1), .val (.int p2), .val (.int p3), .val (.int p4), .val (.int qc), .val (.int (Int32.ofNat oo)), .val (.ref b5), .unset, .unset, .unset, .unset, .unset, .unset] [(.int (((p4.toUInt32 >>> ((8 : Int32) &&& 31).toUInt32).toInt32) &&& (255 : Int32))), (.int qc), (.int (5 : Int32)), (.int p2), (.int (5 : Int32)), (.ref b5)])) _
    refine XS.i2c X20.here hx rfl (hb hby at_135) rfl ?_
    show Steps p.tables e below (T20.setTop (mkF m 136 #[.val (.int p1), .val (.int p2), .val (.int p3), .val (.int p4), .val (.int qc), .val (.int (Int32.ofNat oo)), .val (.ref b5), .unset, .unset, .unset, .unset, .unset, .unset] [(.int ((((p4.toUInt32 >>> ((8 : Int32) &&& 31).toUInt32).toInt32) &&& (255 : Int32)).toUInt32.toUInt16.toUInt32.toInt32)), (.int qc), (.int (5 : Int32)), (.int p2), (.int (5 : Int32)), (.ref b5)])) _
    refine st21 _ ?_
    show Steps p.tables e below (T21.setTop (mkF m 139 #[.val (.int p1), .val (.int p2), .val (.int p3), .val (.int p4), .val (.int qc), .val (.int (Int32.ofNat oo)), .val (.ref b5), .unset, .unset, .unset, .unset, .unset, .unset] [(.int w5), (.int (5 : Int32)), (.ref b5)])) _
    refine st23 _ ?_
    show Steps p.tables e below (T23.setTop (mkF m 140 #[.val (.int p1), .val (.int p2), .val (.int p3), .val (.int p4), .val (.int qc), .val (.int (Int32.ofNat oo)), .val (.ref b5), .unset, .unset, .unset, .unset, .unset, .unset] [])) _
    refine XS.aload X23.here hx rfl (hb hby at_140) rfl rfl ?_
    show Steps p.tables e below (T23.setTop (mkF m 142 #[.val (.int p1), .val (.int p2), .val (.int p3), .val (.int p4), .val (.int qc), .val (.int (Int32.ofNat oo)), .val (.ref b5), .unset, .unset, .unset, .unset, .unset, .unset] [(.ref b5)])) _
    refine XS.iload X23.here hx rfl (hb hby at_142) rfl ?_
    show Steps p.tables e below (T23.setTop (mkF m 144 #[.val (.int p1), .val (.int p2), .val (.int p3), .val (.int p4), .val (.int qc), .val (.int (Int32.ofNat oo)), .val (.ref b5), .unset, .unset, .unset, .unset, .unset, .unset] [(.int (Int32.ofNat oo)), (.ref b5)])) _
    refine XS.iload X23.here hx rfl (hb hby at_144) rfl ?_
    show Steps p.tables e below (T23.setTop (mkF m 146 #[.val (.int p1), .val (.int p2), .val (.int p3), .val (.int p4), .val (.int qc), .val (.int (Int32.ofNat oo)), .val (.ref b5), .unset, .unset, .unset, .unset, .unset, .unset] [(.int qc), (.int (Int32.ofNat oo)), (.ref b5)])) _
    refine st26 _ ?_
    show Steps p.tables e below (T26.setTop (mkF m 147 #[.val (.int p1), .val (.int p2), .val (.int p3), .val (.int p4), .val (.int qc), .val (.int (Int32.ofNat oo)), .val (.ref b5), .unset, .unset, .unset, .unset, .unset, .unset] [])) _
    refine st28 _ ?_
    show Steps p.tables e below (T28.setTop (mkF m 150 #[.val (.int p1), .val (.int p2), .val (.int p3), .val (.int p4), .val (.int qc), .val (.int (Int32.ofNat oo)), .val (.ref b5), .unset, .unset, .unset, .unset, .unset, .unset] [(.ref b28)])) _
    refine XS.dup X28.here hx rfl (hb hby at_150) rfl rfl ?_
    show Steps p.tables e below (T28.setTop (mkF m 151 #[.val (.int p1), .val (.int p2), .val (.int p3), .val (.int p4), .val (.int qc), .val (.int (Int32.ofNat oo)), .val (.ref b5), .unset, .unset, .unset, .unset, .unset, .unset] [(.ref b28), (.ref b28)])) _
    refine XS.aload X28.here hx rfl (hb hby at_151) rfl rfl ?_
    show Steps p.tables e below (T28.setTop (mkF m 153 #[.val (.int p1), .val (.int p2), .val (.int p3), .val (.int p4), .val (.int qc), .val (.int (Int32.ofNat oo)), .val (.ref b5), .unset, .unset, .unset, .unset, .unset, .unset] [(.ref b5), (.ref b28), (.ref b28)])) _
    refine st29.trans ?_
    show Steps p.tables e below (T29.setTop (mkF m 156 #[.val (.int p1), .val (.int p2), .val (.int p3), .val (.int p4), .val (.int qc), .val (.int (Int32.ofNat oo)), .val (.ref b5), .unset, .unset, .unset, .unset, .unset, .unset] [(.ref b28)])) _
    refine XS.astore X29.here hx rfl (hb hby at_156) rfl rfl (l' := #[.val (.int p1), .val (.int p2), .val (.int p3), .val (.int p4), .val (.int qc), .val (.int (Int32.ofNat oo)), .val (.ref b5), .val (.ref b28), .unset, .unset, .unset, .unset, .unset]) rfl ?_
    show Steps p.tables e below (T29.setTop (mkF m 158 #[.val (.int p1), .val (.int p2), .val (.int p3), .val (.int p4), .val (.int qc), .val (.int (Int32.ofNat oo)), .val (.ref b5), .val (.ref b28), .unset, .unset, .unset, .unset, .unset] [])) _
    refine XS.iconst X29.here hx rfl (hb hby at_158) ?_
    show Steps p.tables e below (T29.setTop (mkF m 159 #[.val (.int p1), .val (.int p2), .val (.int p3), .val (.int p4), .val (.int qc), .val (.int (Int32.ofNat oo)), .val (.ref b5), .val (.ref b28), .unset, .unset, .unset, .unset, .unset] [(.int (3 : Int32))])) _
    refine st30 _ ?_
    show Steps p.tables e below (T30.setTop (mkF m 161 #[.val (.int p1), .val (.int p2), .val (.int p3), .val (.int p4), .val (.int qc), .val (.int (Int32.ofNat oo)), .val (.ref b5), .val (.ref b28), .unset, .unset, .unset, .unset, .unset] [(.ref b30)])) _
    refine XS.astore X30.here hx rfl (hb hby at_161) rfl rfl (l' := #[.val (.int p1), .val (.int p2), .val (.int p3), .val (.int p4), .val (.int qc), .val (.int (Int32.ofNat oo)), .val (.ref b5), .val (.ref b28), .val (.ref b30), .unset, .unset, .unset, .unset]) rfl ?_
    show Steps p.tables e below (T30.setTop (mkF m 163 #[.val (.int p1), .val (.int p2), .val (.int p3), .val (.int p4), .val (.int qc), .val (.int (Int32.ofNat oo)), .val (.ref b5), .val (.ref b28), .val (.ref b30), .unset, .unset, .unset, .unset] [])) _
    refine XS.bipush X30.here hx rfl (hb hby at_163) ?_
    show Steps p.tables e below (T30.setTop (mkF m 165 #[.val (.int p1), .val (.int p2), .val (.int p3), .val (.int p4), .val (.int qc), .val (.int (Int32.ofNat oo)), .val (.ref b5), .val (.ref b28), .val (.ref b30), .unset, .unset, .unset, .unset] [(.int (6 : Int32))])) _
    refine st31 _ ?_
    show Steps p.tables e below (T31.setTop (mkF m 167 #[.val (.int p1), .val (.int p2), .val (.int p3), .val (.int p4), .val (.int qc), .val (.int (Int32.ofNat oo)), .val (.ref b5), .val (.ref b28), .val (.ref b30), .unset, .unset, .unset, .unset] [(.ref b31)])) _
    refine XS.astore X31.here hx rfl (hb hby at_167) rfl rfl (l' := #[.val (.int p1), .val (.int p2), .val (.int p3), .val (.int p4), .val (.int qc), .val (.int (Int32.ofNat oo)), .val (.ref b5), .val (.ref b28), .val (.ref b30), .val (.ref b31), .unset, .unset, .unset]) rfl ?_
    show Steps p.tables e below (T31.setTop (mkF m 169 #[.val (.int p1), .val (.int p2), .val (.int p3), .val (.int p4), .val (.int qc), .val (.int (Int32.ofNat oo)), .val (.ref b5), .val (.ref b28), .val (.ref b30), .val (.ref b31), .unset, .unset, .unset] [])) _
    refine XS.aload X31.here hx rfl (hb hby at_169) rfl rfl ?_
    show Steps p.tables e below (T31.setTop (mkF m 171 #[.val (.int p1), .val (.int p2), .val (.int p3), .val (.int p4), .val (.int qc), .val (.int (Int32.ofNat oo)), .val (.ref b5), .val (.ref b28), .val (.ref b30), .val (.ref b31), .unset, .unset, .unset] [(.ref b5)])) _
    refine XS.iconst X31.here hx rfl (hb hby at_171) ?_
    show Steps p.tables e below (T31.setTop (mkF m 172 #[.val (.int p1), .val (.int p2), .val (.int p3), .val (.int p4), .val (.int qc), .val (.int (Int32.ofNat oo)), .val (.ref b5), .val (.ref b28), .val (.ref b30), .val (.ref b31), .unset, .unset, .unset] [(.int (1 : Int32)), (.ref b5)])) _
    refine XS.iload X31.here hx rfl (hb hby at_172) rfl ?_
    show Steps p.tables e below (T31.setTop (mkF m 174 #[.val (.int p1), .val (.int p2), .val (.int p3), .val (.int p4), .val (.int qc), .val (.int (Int32.ofNat oo)), .val (.ref b5), .val (.ref b28), .val (.ref b30), .val (.ref b31), .unset, .unset, .unset] [(.int (Int32.ofNat oo)), (.int (1 : Int32)), (.ref b5)])) _
    refine XS.iload X31.here hx rfl (hb hby at_174) rfl ?_
    show Steps p.tables e below (T31.setTop (mkF m 176 #[.val (.int p1), .val (.int p2), .val (.int p3), .val (.int p4), .val (.int qc), .val (.int (Int32.ofNat oo)), .val (.ref b5), .val (.ref b28), .val (.ref b30), .val (.ref b31), .unset, .unset, .unset] [(.int qc), (.int (Int32.ofNat oo)), (.int (1 : Int32)), (.ref b5)])) _
    refine XS.aload X31.here hx rfl (hb hby at_176) rfl rfl ?_
    show Steps p.tables e below (T31.setTop (mkF m 178 #[.val (.int p1), .val (.int p2), .val (.int p3), .val (.int p4), .val (.int qc), .val (.int (Int32.ofNat oo)), .val (.ref b5), .val (.ref b28), .val (.ref b30), .val (.ref b31), .unset, .unset, .unset] [(.ref b30), (.int qc), (.int (Int32.ofNat oo)), (.int (1 : Int32)), (.ref b5)])) _
    refine XS.aload X31.here hx rfl (hb hby at_178) rfl rfl ?_
    show Steps p.tables e below (T31.setTop (mkF m 180 #[.val (.int p1), .val (.int p2), .val (.int p3), .val (.int p4), .val (.int qc), .val (.int (Int32.ofNat oo)), .val (.ref b5), .val (.ref b28), .val (.ref b30), .val (.ref b31), .unset, .unset, .unset] [(.ref b31), (.ref b30), (.int qc), (.int (Int32.ofNat oo)), (.int (1 : Int32)), (.ref b5)])) _
    refine st33 _ ?_
    show Steps p.tables e below (T33.setTop (mkF m 183 #[.val (.int p1), .val (.int p2), .val (.int p3), .val (.int p4), .val (.int qc), .val (.int (Int32.ofNat oo)), .val (.ref b5), .val (.ref b28), .val (.ref b30), .val (.ref b31), .unset, .unset, .unset] [])) _
    refine XS.aload X33.here hx rfl (hb hby at_183) rfl rfl ?_
    show Steps p.tables e below (T33.setTop (mkF m 185 #[.val (.int p1), .val (.int p2), .val (.int p3), .val (.int p4), .val (.int qc), .val (.int (Int32.ofNat oo)), .val (.ref b5), .val (.ref b28), .val (.ref b30), .val (.ref b31), .unset, .unset, .unset] [(.ref b5)])) _
    refine XS.iconst X33.here hx rfl (hb hby at_185) ?_
    show Steps p.tables e below (T33.setTop (mkF m 186 #[.val (.int p1), .val (.int p2), .val (.int p3), .val (.int p4), .val (.int qc), .val (.int (Int32.ofNat oo)), .val (.ref b5), .val (.ref b28), .val (.ref b30), .val (.ref b31), .unset, .unset, .unset] [(.int (2 : Int32)), (.ref b5)])) _
    refine XS.iload X33.here hx rfl (hb hby at_186) rfl ?_
    show Steps p.tables e below (T33.setTop (mkF m 188 #[.val (.int p1), .val (.int p2), .val (.int p3), .val (.int p4), .val (.int qc), .val (.int (Int32.ofNat oo)), .val (.ref b5), .val (.ref b28), .val (.ref b30), .val (.ref b31), .unset, .unset, .unset] [(.int (Int32.ofNat oo)), (.int (2 : Int32)), (.ref b5)])) _
    refine XS.iload X33.here hx rfl (hb hby at_188) rfl ?_
    show Steps p.tables e below (T33.setTop (mkF m 190 #[.val (.int p1), .val (.int p2), .val (.int p3), .val (.int p4), .val (.int qc), .val (.int (Int32.ofNat oo)), .val (.ref b5), .val (.ref b28), .val (.ref b30), .val (.ref b31), .unset, .unset, .unset] [(.int qc), (.int (Int32.ofNat oo)), (.int (2 : Int32)), (.ref b5)])) _
    refine XS.aload X33.here hx rfl (hb hby at_190) rfl rfl ?_
    show Steps p.tables e below (T33.setTop (mkF m 192 #[.val (.int p1), .val (.int p2), .val (.int p3), .val (.int p4), .val (.int qc), .val (.int (Int32.ofNat oo)), .val (.ref b5), .val (.ref b28), .val (.ref b30), .val (.ref b31), .unset, .unset, .unset] [(.ref b30), (.int qc), (.int (Int32.ofNat oo)), (.int (2 : Int32)), (.ref b5)])) _
    refine XS.aload X33.here hx rfl (hb hby at_192) rfl rfl ?_
    show Steps p.tables e below (T33.setTop (mkF m 194 #[.val (.int p1), .val (.int p2), .val (.int p3), .val (.int p4), .val (.int qc), .val (.int (Int32.ofNat oo)), .val (.ref b5), .val (.ref b28), .val (.ref b30), .val (.ref b31), .unset, .unset, .unset] [(.ref b31), (.ref b30), (.int qc), (.int (Int32.ofNat oo)), (.int (2 : Int32)), (.ref b5)])) _
    refine st34 _ ?_
    show Steps p.tables e below (T34.setTop (mkF m 197 #[.val (.int p1), .val (.int p2), .val (.int p3), .val (.int p4), .val (.int qc), .val (.int (Int32.ofNat oo)), .val (.ref b5), .val (.ref b28), .val (.ref b30), .val (.ref b31), .unset, .unset, .unset] [])) _
    refine XS.aload X34.here hx rfl (hb hby at_197) rfl rfl ?_
    show Steps p.tables e below (T34.setTop (mkF m 199 #[.val (.int p1), .val (.int p2), .val (.int p3), .val (.int p4), .val (.int qc), .val (.int (Int32.ofNat oo)), .val (.ref b5), .val (.ref b28), .val (.ref b30), .val (.ref b31), .unset, .unset, .unset] [(.ref b5)])) _
    refine XS.iconst X34.here hx rfl (hb hby at_199) ?_
    show Steps p.tables e below (T34.setTop (mkF m 200 #[.val (.int p1), .val (.int p2), .val (.int p3), .val (.int p4), .val (.int qc), .val (.int (Int32.ofNat oo)), .val (.ref b5), .val (.ref b28), .val (.ref b30), .val (.ref b31), .unset, .unset, .unset] [(.int (3 : Int32)), (.ref b5)])) _
    refine XS.iload X34.here hx rfl (hb hby at_200) rfl ?_
    show Steps p.tables e below (T34.setTop (mkF m 202 #[.val (.int p1), .val (.int p2), .val (.int p3), .val (.int p4), .val (.int qc), .val (.int (Int32.ofNat oo)), .val (.ref b5), .val (.ref b28), .val (.ref b30), .val (.ref b31), .unset, .unset, .unset] [(.int (Int32.ofNat oo)), (.int (3 : Int32)), (.ref b5)])) _
    refine XS.iload X34.here hx rfl (hb hby at_202) rfl ?_
    show Steps p.tables e below (T34.setTop (mkF m 204 #[.val (.int p1), .val (.int p2), .val (.int p3), .val (.int p4), .val (.int qc), .val (.int (Int32.ofNat oo)), .val (.ref b5), .val (.ref b28), .val (.ref b30), .val (.ref b31), .unset, .unset, .unset] [(.int qc), (.int (Int32.ofNat oo)), (.int (3 : Int32)), (.ref b5)])) _
    refine XS.aload X34.here hx rfl (hb hby at_204) rfl rfl ?_
    show Steps p.tables e below (T34.setTop (mkF m 206 #[.val (.int p1), .val (.int p2), .val (.int p3), .val (.int p4), .val (.int qc), .val (.int (Int32.ofNat oo)), .val (.ref b5), .val (.ref b28), .val (.ref b30), .val (.ref b31), .unset, .unset, .unset] [(.ref b30), (.int qc), (.int (Int32.ofNat oo)), (.int (3 : Int32)), (.ref b5)])) _
    refine XS.aload X34.here hx rfl (hb hby at_206) rfl rfl ?_
    show Steps p.tables e below (T34.setTop (mkF m 208 #[.val (.int p1), .val (.int p2), .val (.int p3), .val (.int p4), .val (.int qc), .val (.int (Int32.ofNat oo)), .val (.ref b5), .val (.ref b28), .val (.ref b30), .val (.ref b31), .unset, .unset, .unset] [(.ref b31), (.ref b30), (.int qc), (.int (Int32.ofNat oo)), (.int (3 : Int32)), (.ref b5)])) _
    refine st35 _ ?_
    show Steps p.tables e below (T35.setTop (mkF m 211 #[.val (.int p1), .val (.int p2), .val (.int p3), .val (.int p4), .val (.int qc), .val (.int (Int32.ofNat oo)), .val (.ref b5), .val (.ref b28), .val (.ref b30), .val (.ref b31), .unset, .unset, .unset] [])) _
    refine XS.aload X35.here hx rfl (hb hby at_211) rfl rfl ?_
    show Steps p.tables e below (T35.setTop (mkF m 213 #[.val (.int p1), .val (.int p2), .val (.int p3), .val (.int p4), .val (.int qc), .val (.int (Int32.ofNat oo)), .val (.ref b5), .val (.ref b28), .val (.ref b30), .val (.ref b31), .unset, .unset, .unset] [(.ref b5)])) _
    refine XS.iconst X35.here hx rfl (hb hby at_213) ?_
    show Steps p.tables e below (T35.setTop (mkF m 214 #[.val (.int p1), .val (.int p2), .val (.int p3), .val (.int p4), .val (.int qc), .val (.int (Int32.ofNat oo)), .val (.ref b5), .val (.ref b28), .val (.ref b30), .val (.ref b31), .unset, .unset, .unset] [(.int (4 : Int32)), (.ref b5)])) _
    refine XS.iload X35.here hx rfl (hb hby at_214) rfl ?_
    show Steps p.tables e below (T35.setTop (mkF m 216 #[.val (.int p1), .val (.int p2), .val (.int p3), .val (.int p4), .val (.int qc), .val (.int (Int32.ofNat oo)), .val (.ref b5), .val (.ref b28), .val (.ref b30), .val (.ref b31), .unset, .unset, .unset] [(.int (Int32.ofNat oo)), (.int (4 : Int32)), (.ref b5)])) _
    refine XS.iload X35.here hx rfl (hb hby at_216) rfl ?_
    show Steps p.tables e below (T35.setTop (mkF m 218 #[.val (.int p1), .val (.int p2), .val (.int p3), .val (.int p4), .val (.int qc), .val (.int (Int32.ofNat oo)), .val (.ref b5), .val (.ref b28), .val (.ref b30), .val (.ref b31), .unset, .unset, .unset] [(.int qc), (.int (Int32.ofNat oo)), (.int (4 : Int32)), (.ref b5)])) _
    refine XS.aload X35.here hx rfl (hb hby at_218) rfl rfl ?_
    show Steps p.tables e below (T35.setTop (mkF m 220 #[.val (.int p1), .val (.int p2), .val (.int p3), .val (.int p4), .val (.int qc), .val (.int (Int32.ofNat oo)), .val (.ref b5), .val (.ref b28), .val (.ref b30), .val (.ref b31), .unset, .unset, .unset] [(.ref b30), (.int qc), (.int (Int32.ofNat oo)), (.int (4 : Int32)), (.ref b5)])) _
    refine XS.aload X35.here hx rfl (hb hby at_220) rfl rfl ?_
    show Steps p.tables e below (T35.setTop (mkF m 222 #[.val (.int p1), .val (.int p2), .val (.int p3), .val (.int p4), .val (.int qc), .val (.int (Int32.ofNat oo)), .val (.ref b5), .val (.ref b28), .val (.ref b30), .val (.ref b31), .unset, .unset, .unset] [(.ref b31), (.ref b30), (.int qc), (.int (Int32.ofNat oo)), (.int (4 : Int32)), (.ref b5)])) _
    refine st36 _ ?_
    show Steps p.tables e below (T36.setTop (mkF m 225 #[.val (.int p1), .val (.int p2), .val (.int p3), .val (.int p4), .val (.int qc), .val (.int (Int32.ofNat oo)), .val (.ref b5), .val (.ref b28), .val (.ref b30), .val (.ref b31), .unset, .unset, .unset] [])) _
    refine XS.aload X36.here hx rfl (hb hby at_225) rfl rfl ?_
    show Steps p.tables e below (T36.setTop (mkF m 227 #[.val (.int p1), .val (.int p2), .val (.int p3), .val (.int p4), .val (.int qc), .val (.int (Int32.ofNat oo)), .val (.ref b5), .val (.ref b28), .val (.ref b30), .val (.ref b31), .unset, .unset, .unset] [(.ref b5)])) _
    refine XS.iconst X36.here hx rfl (hb hby at_227) ?_
    show Steps p.tables e below (T36.setTop (mkF m 228 #[.val (.int p1), .val (.int p2), .val (.int p3), .val (.int p4), .val (.int qc), .val (.int (Int32.ofNat oo)), .val (.ref b5), .val (.ref b28), .val (.ref b30), .val (.ref b31), .unset, .unset, .unset] [(.int (5 : Int32)), (.ref b5)])) _
    refine XS.iload X36.here hx rfl (hb hby at_228) rfl ?_
    show Steps p.tables e below (T36.setTop (mkF m 230 #[.val (.int p1), .val (.int p2), .val (.int p3), .val (.int p4), .val (.int qc), .val (.int (Int32.ofNat oo)), .val (.ref b5), .val (.ref b28), .val (.ref b30), .val (.ref b31), .unset, .unset, .unset] [(.int (Int32.ofNat oo)), (.int (5 : Int32)), (.ref b5)])) _
    refine XS.iload X36.here hx rfl (hb hby at_230) rfl ?_
    show Steps p.tables e below (T36.setTop (mkF m 232 #[.val (.int p1), .val (.int p2), .val (.int p3), .val (.int p4), .val (.int qc), .val (.int (Int32.ofNat oo)), .val (.ref b5), .val (.ref b28), .val (.ref b30), .val (.ref b31), .unset, .unset, .unset] [(.int qc), (.int (Int32.ofNat oo)), (.int (5 : Int32)), (.ref b5)])) _
    refine XS.aload X36.here hx rfl (hb hby at_232) rfl rfl ?_
    show Steps p.tables e below (T36.setTop (mkF m 234 #[.val (.int p1), .val (.int p2), .val (.int p3), .val (.int p4), .val (.int qc), .val (.int (Int32.ofNat oo)), .val (.ref b5), .val (.ref b28), .val (.ref b30), .val (.ref b31), .unset, .unset, .unset] [(.ref b30), (.int qc), (.int (Int32.ofNat oo)), (.int (5 : Int32)), (.ref b5)])) _
    refine XS.aload X36.here hx rfl (hb hby at_234) rfl rfl ?_
    show Steps p.tables e below (T36.setTop (mkF m 236 #[.val (.int p1), .val (.int p2), .val (.int p3), .val (.int p4), .val (.int qc), .val (.int (Int32.ofNat oo)), .val (.ref b5), .val (.ref b28), .val (.ref b30), .val (.ref b31), .unset, .unset, .unset] [(.ref b31), (.ref b30), (.int qc), (.int (Int32.ofNat oo)), (.int (5 : Int32)), (.ref b5)])) _
    refine st37 _ ?_
    show Steps p.tables e below (T37.setTop (mkF m 239 #[.val (.int p1), .val (.int p2), .val (.int p3), .val (.int p4), .val (.int qc), .val (.int (Int32.ofNat oo)), .val (.ref b5), .val (.ref b28), .val (.ref b30), .val (.ref b31), .unset, .unset, .unset] [])) _
    refine XS.aload X37.here hx rfl (hb hby at_239) rfl rfl ?_
    show Steps p.tables e below (T37.setTop (mkF m 241 #[.val (.int p1), .val (.int p2), .val (.int p3), .val (.int p4), .val (.int qc), .val (.int (Int32.ofNat oo)), .val (.ref b5), .val (.ref b28), .val (.ref b30), .val (.ref b31), .unset, .unset, .unset] [(.ref b28)])) _
    refine XS.iload X37.here hx rfl (hb hby at_241) rfl ?_
    exact kt
  have hok := own_main ho6 hcl es1 es2 es3 es4 es5
  rcases hrd : own_rd cl qc 7 (oo + 1) [] with _ | ⟨ac, en⟩
  · rw [hrd] at hok
    have hm0 : s5.1 = 0 := hok
    obtain ⟨_, _, ⟨T39, L39, k39, n39⟩, -, X39, ⟨Lc39, hQ39, l39, y39, z39⟩, st39⟩ := Jvm.LawKit.callS X37 hx (y := (⟨"com/example/purveyor/purveyor/sqlite/QuotedText", "read", "(Ljava/lang/String;I)Lcom/example/purveyor/purveyor/sqlite/QuotedText$Run;"⟩ : MethodName)) hown (mvT hZ (hw _ (List.mem_of_getElem? (i := 39) rfl))) (mvT hZ (hw _ (List.mem_of_getElem? (i := 40) rfl))) (mvT hZ (hw _ (List.mem_of_getElem? (i := 41) rfl))) (mvT hZ (hw _ (List.mem_of_getElem? (i := 42) rfl))) (by decide) (backOf (W := 0) (rm_rd l Z a0 hw [] b28 tt29 tk29 cl oo cz fS fi none T37.heap n0 Z37 f125 f126 f127 f128 hp (by omega) (by omega) (by omega) (by rw [hclq, hcl]; exact hrd) f119 hcs f120 hsi f121 hfi) hZ (hw _ (List.mem_of_getElem? (i := 42) rfl)) (hw _ (List.mem_of_getElem? (i := 41) rfl)) (by decide) (by decide)) (g := (mkF m 243 #[.val (.int p1), .val (.int p2), .val (.int p3), .val (.int p4), .val (.int qc), .val (.int (Int32.ofNat oo)), .val (.ref b5), .val (.ref b28), .val (.ref b30), .val (.ref b31), .unset, .unset, .unset] [(.int (Int32.ofNat oo)), (.ref b28)])) rfl (by rw [hml]; rfl) (argsL := [(.ref b28), (.int (Int32.ofNat oo))]) (rest := []) (lenOf pd__Ljava_lang_String_I_Lcom_example_purveyor_purveyor_sqlite_Q_7153 rfl) rfl (by show 2 * 0 + _ ≤ _; exact Nat.le_of_eq rfl) (hb hby at_243) (fun _ _ => ⟨rfl, rfl, (by decide : 5 + 5 ≤ _), (by decide : 25 + 42 ≤ _)⟩)
    dsimp only [Pt.U, Pt.locs, Pt.cells, Pt.slots] at X39 l39 y39 z39 st39 hQ39
    rw [l39, y39, z39] at X39
    obtain ⟨rfl, N39q, K39⟩ := hQ39
    have f132 : Sta Z T39.heap "java/lang/String" "COMPACT_STRINGS" "Z" (.int cz) := own_sta f119 K39
    have f133 : Sta Z T39.heap "jdk/internal/util/Preconditions" "SIOOBE_FORMATTER" "Ljava/util/function/BiFunction;" fS := own_sta f120 K39
    have f134 : Sta Z T39.heap "jdk/internal/util/Preconditions" "IOOBE_FORMATTER" "Ljava/util/function/BiFunction;" fi := own_sta f121 K39
    have f135 : n0 ≤ b5 := f122
    have f136 : Arv Z T39.heap b5 k5 .char (6 : Int32) (cl.map Value.int) (.int (0 : Int32)) := f123.keep K39 (by simp)
    have f137 : n0 ≤ b28 := f124
    have f138 : Exa Z T39.heap b28 "java/lang/String" := f125.keep K39
    have f139 : Fld Z T39.heap b28 "java/lang/String" "coder" "B" (.int (0 : Int32)) := f126.keep K39 (by simp)
    have f140 : Fld Z T39.heap b28 "java/lang/String" "value" "[B" (.ref tt29) := f127.keep K39 (by simp)
    have f141 : Arv Z T39.heap tt29 tk29 .byte (Int32.ofNat cl.length) (own_by cl) (.int 0) := f128.keep K39 (by simp)
    have f142 : n0 ≤ tt29 := f129
    have f143 : n0 ≤ b30 := f130
    have f144 : n0 ≤ b31 := f131
    have f145 : Arv Z T39.heap b30 k30 .int (3 : Int32) [(.int s5.1), (.int (Int32.ofNat s5.2.2.length)), (.int s5.2.1)] (.int (0 : Int32)) := fk37_0.keep K39 (by simp)
    have f146 : Arv Z T39.heap b31 k31 .char (6 : Int32) (s5.2.2.map Value.int) (.int 0) := fk37_1.keep K39 (by simp)
    have Z39 : n0 ≤ T39.heap.size := Nat.le_trans Z37 K39.1
    have N39 := Fr.app N37 N39q
    obtain ⟨cl40, Ar40, aq40, aS40, aN40, aH40, aG40⟩ := id f145
    have hin40 : ¬ ((0 : Int32) < 0 ∨ cl40.slots.size ≤ ((0 : Int32)).toNatClampNeg) := inb_of aS40 ⟨by decide, by decide⟩
    obtain ⟨fs, hr, hrun, hended, hW, hsame⟩ := X39.leave (v := some (.int (1 : Int32))) (fun h => by rw [Bd.returns] at h; cases h) (hlocks := Bd.notSynchronized)
    refine ⟨_, _, pre_38 _ ?_, hrun, hended, _, _, rfl, ?_, ⟨_, rfl⟩, hW, hsame.mono (by decide) (by decide)⟩
    · show Steps p.tables e below (T37.setTop (mkF m 243 #[.val (.int p1), .val (.int p2), .val (.int p3), .val (.int p4), .val (.int qc), .val (.int (Int32.ofNat oo)), .val (.ref b5), .val (.ref b28), .val (.ref b30), .val (.ref b31), .unset, .unset, .unset] [(.int (Int32.ofNat oo)), (.ref b28)])) _
      refine st39 _ ?_
      show Steps p.tables e below (T39.setTop (mkF m 246 #[.val (.int p1), .val (.int p2), .val (.int p3), .val (.int p4), .val (.int qc), .val (.int (Int32.ofNat oo)), .val (.ref b5), .val (.ref b28), .val (.ref b30), .val (.ref b31), .unset, .unset, .unset] [.null])) _
      refine XS.astore X39.here hx rfl (hb hby at_246) rfl rfl (l' := #[.val (.int p1), .val (.int p2), .val (.int p3), .val (.int p4), .val (.int qc), .val (.int (Int32.ofNat oo)), .val (.ref b5), .val (.ref b28), .val (.ref b30), .val (.ref b31), .val .null, .unset, .unset]) rfl ?_
      show Steps p.tables e below (T39.setTop (mkF m 248 #[.val (.int p1), .val (.int p2), .val (.int p3), .val (.int p4), .val (.int qc), .val (.int (Int32.ofNat oo)), .val (.ref b5), .val (.ref b28), .val (.ref b30), .val (.ref b31), .val .null, .unset, .unset] [])) _
      refine XS.aload X39.here hx rfl (hb hby at_248) rfl rfl ?_
      show Steps p.tables e below (T39.setTop (mkF m 250 #[.val (.int p1), .val (.int p2), .val (.int p3), .val (.int p4), .val (.int qc), .val (.int (Int32.ofNat oo)), .val (.ref b5), .val (.ref b28), .val (.ref b30), .val (.ref b31), .val .null, .unset, .unset] [(.ref b30)])) _
      refine XS.iconst X39.here hx rfl (hb hby at_250) ?_
      show Steps p.tables e below (T39.setTop (mkF m 251 #[.val (.int p1), .val (.int p2), .val (.int p3), .val (.int p4), .val (.int qc), .val (.int (Int32.ofNat oo)), .val (.ref b5), .val (.ref b28), .val (.ref b30), .val (.ref b31), .val .null, .unset, .unset] [(.int (0 : Int32)), (.ref b30)])) _
      refine X39.iaload hx (j := (0 : Int32)) (v := (.int s5.1)) Ar40.1 (State.isArrayOf_alike hZ.alike Ar40.2.1) Ar40.2.2 hin40 (Has.at aH40 hin40 rfl) (g := (mkF m 251 #[.val (.int p1), .val (.int p2), .val (.int p3), .val (.int p4), .val (.int qc), .val (.int (Int32.ofNat oo)), .val (.ref b5), .val (.ref b28), .val (.ref b30), .val (.ref b31), .val .null, .unset, .unset] [(.int (0 : Int32)), (.ref b30)])) rfl rfl (hb hby at_251) _ ?_
      show Steps p.tables e below (T39.setTop (mkF m 252 #[.val (.int p1), .val (.int p2), .val (.int p3), .val (.int p4), .val (.int qc), .val (.int (Int32.ofNat oo)), .val (.ref b5), .val (.ref b28), .val (.ref b30), .val (.ref b31), .val .null, .unset, .unset] [(.int s5.1)])) _
      refine XS.ifNo X39.here hx rfl (hb hby at_252) rfl ((if0 _ _).trans (teq hm0).2) ?_
      show Steps p.tables e below (T39.setTop (mkF m 255 #[.val (.int p1), .val (.int p2), .val (.int p3), .val (.int p4), .val (.int qc), .val (.int (Int32.ofNat oo)), .val (.ref b5), .val (.ref b28), .val (.ref b30), .val (.ref b31), .val .null, .unset, .unset] [])) _
      refine XS.aload X39.here hx rfl (hb hby at_255) rfl rfl ?_
      show Steps p.tables e below (T39.setTop (mkF m 257 #[.val (.int p1), .val (.int p2), .val (.int p3), .val (.int p4), .val (.int qc), .val (.int (Int32.ofNat oo)), .val (.ref b5), .val (.ref b28), .val (.ref b30), .val (.ref b31), .val .null, .unset, .unset] [.null])) _
      refine XS.ifnonnullNo X39.here hx rfl (hb hby at_257) rfl ?_
      show Steps p.tables e below (T39.setTop (mkF m 260 #[.val (.int p1), .val (.int p2), .val (.int p3), .val (.int p4), .val (.int qc), .val (.int (Int32.ofNat oo)), .val (.ref b5), .val (.ref b28), .val (.ref b30), .val (.ref b31), .val .null, .unset, .unset] [])) _
      refine XS.iconst X39.here hx rfl (hb hby at_260) ?_
      show Steps p.tables e below (T39.setTop (mkF m 261 #[.val (.int p1), .val (.int p2), .val (.int p3), .val (.int p4), .val (.int qc), .val (.int (Int32.ofNat oo)), .val (.ref b5), .val (.ref b28), .val (.ref b30), .val (.ref b31), .val .null, .unset, .unset] [(.int (1 : Int32))])) _
      refine XS.goto X39.here hx rfl (pc0 := 261) (pc' := 265) rfl (hb hby at_261) (by decide) (by decide) ?_
      show Steps p.tables e below (T39.setTop (mkF m 265 #[.val (.int p1), .val (.int p2), .val (.int p3), .val (.int p4), .val (.int qc), .val (.int (Int32.ofNat oo)), .val (.ref b5), .val (.ref b28), .val (.ref b30), .val (.ref b31), .val .null, .unset, .unset] [(.int (1 : Int32))])) _
      exact retN X39 hx (t := .boolean) Bd.returns (by simp) (hb hby at_265) hr
    · show Q_rm0 Z p1 p2 p3 p4 cz fS fi h0 n0 _ T39.heap _
      exact ⟨rfl, N39⟩
  · rw [hrd] at hok
    obtain ⟨hE, hO⟩ : ((s5.1 = 1 ∧ en = cl.length) ∨ (s5.1 = 2 ∧ s5.2.1 = Int32.ofNat en)) ∧ s5.2.2 = ac := hok
    have hm1 : ¬ s5.1 = 0 := fun q => hE.elim (fun z => by rw [z.1] at q; exact absurd q (by decide)) (fun z => by rw [z.1] at q; exact absurd q (by decide))
    have hla : ac.length ≤ 5 := by rw [← hO]; exact hs5
    obtain ⟨_, _, ⟨T41, L41, k41, n41⟩, -, X41, ⟨Lc41, hQ41, l41, y41, z41⟩, st41⟩ := Jvm.LawKit.callS X37 hx (y := (⟨"com/example/purveyor/purveyor/sqlite/QuotedText", "read", "(Ljava/lang/String;I)Lcom/example/purveyor/purveyor/sqlite/QuotedText$Run;"⟩ : MethodName)) hown (mvT hZ (hw _ (List.mem_of_getElem? (i := 39) rfl))) (mvT hZ (hw _ (List.mem_of_getElem? (i := 40) rfl))) (mvT hZ (hw _ (List.mem_of_getElem? (i := 41) rfl))) (mvT hZ (hw _ (List.mem_of_getElem? (i := 42) rfl))) (by decide) (backOf (W := 0) (rm_rd l Z a0 hw [] b28 tt29 tk29 cl oo cz fS fi (some (ac, en)) T37.heap n0 Z37 f125 f126 f127 f128 hp (by omega) (by omega) (by omega) (by rw [hclq, hcl]; exact hrd) f119 hcs f120 hsi f121 hfi) hZ (hw _ (List.mem_of_getElem? (i := 42) rfl)) (hw _ (List.mem_of_getElem? (i := 41) rfl)) (by decide) (by decide)) (g := (mkF m 243 #[.val (.int p1), .val (.int p2), .val (.int p3), .val (.int p4), .val (.int qc), .val (.int (Int32.ofNat oo)), .val (.ref b5), .val (.ref b28), .val (.ref b30), .val (.ref b31), .unset, .unset, .unset] [(.int (Int32.ofNat oo)), (.ref b28)])) rfl (by rw [hml]; rfl) (argsL := [(.ref b28), (.int (Int32.ofNat oo))]) (rest := []) (lenOf pd__Ljava_lang_String_I_Lcom_example_purveyor_purveyor_sqlite_Q_7153 rfl) rfl (by show 2 * 0 + _ ≤ _; exact Nat.le_of_eq rfl) (hb hby at_243) (fun _ _ => ⟨rfl, rfl, (by decide : 5 + 5 ≤ _), (by decide : 25 + 42 ≤ _)⟩)
    dsimp only [Pt.U, Pt.locs, Pt.cells, Pt.slots] at X41 l41 y41 z41 st41 hQ41
    rw [l41, y41, z41] at X41
    obtain ⟨rx, rs, rt, rk, rfl, N41q, K41, fk41_0, fk41_1, fk41_2, fk41_3, fk41_4, fk41_5, fk41_6, hpac⟩ := hQ41
    have f147 : Sta Z T41.heap "java/lang/String" "COMPACT_STRINGS" "Z" (.int cz) := own_sta f119 K41
    have f148 : Sta Z T41.heap "jdk/internal/util/Preconditions" "SIOOBE_FORMATTER" "Ljava/util/function/BiFunction;" fS := own_sta f120 K41
    have f149 : Sta Z T41.heap "jdk/internal/util/Preconditions" "IOOBE_FORMATTER" "Ljava/util/function/BiFunction;" fi := own_sta f121 K41
    have f150 : n0 ≤ b5 := f122
    have f151 : Arv Z T41.heap b5 k5 .char (6 : Int32) (cl.map Value.int) (.int (0 : Int32)) := f123.keep K41 (by simp)
    have f152 : n0 ≤ b28 := f124
    have f153 : Exa Z T41.heap b28 "java/lang/String" := f125.keep K41
    have f154 : Fld Z T41.heap b28 "java/lang/String" "coder" "B" (.int (0 : Int32)) := f126.keep K41 (by simp)
    have f155 : Fld Z T41.heap b28 "java/lang/String" "value" "[B" (.ref tt29) := f127.keep K41 (by simp)
    have f156 : Arv Z T41.heap tt29 tk29 .byte (Int32.ofNat cl.length) (own_by cl) (.int 0) := f128.keep K41 (by simp)
    have f157 : n0 ≤ tt29 := f129
    have f158 : n0 ≤ b30 := f130
    have f159 : n0 ≤ b31 := f131
    have f160 : Arv Z T41.heap b30 k30 .int (3 : Int32) [(.int s5.1), (.int (Int32.ofNat s5.2.2.length)), (.int s5.2.1)] (.int (0 : Int32)) := fk37_0.keep K41 (by simp)
    have f161 : Arv Z T41.heap b31 k31 .char (6 : Int32) (s5.2.2.map Value.int) (.int 0) := fk37_1.keep K41 (by simp)
    have Z41 : n0 ≤ T41.heap.size := Nat.le_trans Z37 K41.1
    have N41 := Fr.app N37 N41q
    obtain ⟨cl42, Ar42, aq42, aS42, aN42, aH42, aG42⟩ := id f160
    have hin42 : ¬ ((0 : Int32) < 0 ∨ cl42.slots.size ≤ ((0 : Int32)).toNatClampNeg) := inb_of aS42 ⟨by decide, by decide⟩
    obtain ⟨cl43, Ar43, aq43, aS43, aN43, aH43, aG43⟩ := id f160
    have hin43 : ¬ ((0 : Int32) < 0 ∨ cl43.slots.size ≤ ((0 : Int32)).toNatClampNeg) := inb_of aS43 ⟨by decide, by decide⟩
    have pre_44 : ∀ t, Steps p.tables e below (T41.setTop (mkF m 278 #[.val (.int p1), .val (.int p2), .val (.int p3), .val (.int p4), .val (.int qc), .val (.int (Int32.ofNat oo)), .val (.ref b5), .val (.ref b28), .val (.ref b30), .val (.ref b31), .val (.ref rx), .unset, .unset] [(.int (1 : Int32)), (.int s5.1)])) t → Steps p.tables e below (s₁.setTop (entryFrame m #[(.int p1), (.int p2), (.int p3), (.int p4)] maxLocals)) t := by
      intro t kt
      refine pre_38 _ ?_
      show Steps p.tables e below (T37.setTop (mkF m 243 #[.val (.int p1), .val (.int p2), .val (.int p3), .val (.int p4), .val (.int qc), .val (.int (Int32.ofNat oo)), .val (.ref b5), .val (.ref b28), .val (.ref b30), .val (.ref b31), .unset, .unset, .unset] [(.int (Int32.ofNat oo)), (.ref b28)])) _
      refine st41 _ ?_
      show Steps p.tables e below (T41.setTop (mkF m 246 #[.val (.int p1), .val (.int p2), .val (.int p3), .val (.int p4), .val (.int qc), .val (.int (Int32.ofNat oo)), .val (.ref b5), .val (.ref b28), .val (.ref b30), .val (.ref b31), .unset, .unset, .unset] [(.ref rx)])) _
      refine XS.astore X41.here hx rfl (hb hby at_246) rfl rfl (l' := #[.val (.int p1), .val (.int p2), .val (.int p3), .val (.int p4), .val (.int qc), .val (.int (Int32.ofNat oo)), .val (.ref b5), .val (.ref b28), .val (.ref b30), .val (.ref b31), .val (.ref rx), .unset, .unset]) rfl ?_
      show Steps p.tables e below (T41.setTop (mkF m 248 #[.val (.int p1), .val (.int p2), .val (.int p3), .val (.int p4), .val (.int qc), .val (.int (Int32.ofNat oo)), .val (.ref b5), .val (.ref b28), .val (.ref b30), .val (.ref b31), .val (.ref rx), .unset, .unset] [])) _
      refine XS.aload X41.here hx rfl (hb hby at_248) rfl rfl ?_
      show Steps p.tables e below (T41.setTop (mkF m 250 #[.val (.int p1), .val (.int p2), .val (.int p3), .val (.int p4), .val (.int qc), .val (.int (Int32.ofNat oo)), .val (.ref b5), .val (.ref b28), .val (.ref b30), .val (.ref b31), .val (.ref rx), .unset, .unset] [(.ref b30)])) _
      refine XS.iconst X41.here hx rfl (hb hby at_250) ?_
      show Steps p.tables e below (T41.setTop (mkF m 251 #[.val (.int p1), .val (.int p2), .val (.int p3), .val (.int p4), .val (.int qc), .val (.int (Int32.ofNat oo)), .val (.ref b5), .val (.ref b28), .val (.ref b30), .val (.ref b31), .val (.ref rx), .unset, .unset] [(.int (0 : Int32)), (.ref b30)])) _
      refine X41.iaload hx (j := (0 : Int32)) (v := (.int s5.1)) Ar42.1 (State.isArrayOf_alike hZ.alike Ar42.2.1) Ar42.2.2 hin42 (Has.at aH42 hin42 rfl) (g := (mkF m 251 #[.val (.int p1), .val (.int p2), .val (.int p3), .val (.int p4), .val (.int qc), .val (.int (Int32.ofNat oo)), .val (.ref b5), .val (.ref b28), .val (.ref b30), .val (.ref b31), .val (.ref rx), .unset, .unset] [(.int (0 : Int32)), (.ref b30)])) rfl rfl (hb hby at_251) _ ?_
      show Steps p.tables e below (T41.setTop (mkF m 252 #[.val (.int p1), .val (.int p2), .val (.int p3), .val (.int p4), .val (.int qc), .val (.int (Int32.ofNat oo)), .val (.ref b5), .val (.ref b28), .val (.ref b30), .val (.ref b31), .val (.ref rx), .unset, .unset] [(.int s5.1)])) _
      refine XS.ifYes X41.here hx rfl (pc0 := 252) (pc' := 266) rfl (hb hby at_252) rfl ((if0 _ _).trans (feq hm1).2) (by decide) (by decide) ?_
      show Steps p.tables e below (T41.setTop (mkF m 266 #[.val (.int p1), .val (.int p2), .val (.int p3), .val (.int p4), .val (.int qc), .val (.int (Int32.ofNat oo)), .val (.ref b5), .val (.ref b28), .val (.ref b30), .val (.ref b31), .val (.ref rx), .unset, .unset] [])) _
      refine XS.aload X41.here hx rfl (hb hby at_266) rfl rfl ?_
      show Steps p.tables e below (T41.setTop (mkF m 268 #[.val (.int p1), .val (.int p2), .val (.int p3), .val (.int p4), .val (.int qc), .val (.int (Int32.ofNat oo)), .val (.ref b5), .val (.ref b28), .val (.ref b30), .val (.ref b31), .val (.ref rx), .unset, .unset] [(.ref rx)])) _
      refine XS.ifnonnullYes X41.here hx rfl (pc0 := 268) (pc' := 273) rfl (hb hby at_268) rfl (by decide) (by decide) ?_
      show Steps p.tables e below (T41.setTop (mkF m 273 #[.val (.int p1), .val (.int p2), .val (.int p3), .val (.int p4), .val (.int qc), .val (.int (Int32.ofNat oo)), .val (.ref b5), .val (.ref b28), .val (.ref b30), .val (.ref b31), .val (.ref rx), .unset, .unset] [])) _
      refine XS.aload X41.here hx rfl (hb hby at_273) rfl rfl ?_
      show Steps p.tables e below (T41.setTop (mkF m 275 #[.val (.int p1), .val (.int p2), .val (.int p3), .val (.int p4), .val (.int qc), .val (.int (Int32.ofNat oo)), .val (.ref b5), .val (.ref b28), .val (.ref b30), .val (.ref b31), .val (.ref rx), .unset, .unset] [(.ref b30)])) _
      refine XS.iconst X41.here hx rfl (hb hby at_275) ?_
      show Steps p.tables e below (T41.setTop (mkF m 276 #[.val (.int p1), .val (.int p2), .val (.int p3), .val (.int p4), .val (.int qc), .val (.int (Int32.ofNat oo)), .val (.ref b5), .val (.ref b28), .val (.ref b30), .val (.ref b31), .val (.ref rx), .unset, .unset] [(.int (0 : Int32)), (.ref b30)])) _
      refine X41.iaload hx (j := (0 : Int32)) (v := (.int s5.1)) Ar43.1 (State.isArrayOf_alike hZ.alike Ar43.2.1) Ar43.2.2 hin43 (Has.at aH43 hin43 rfl) (g := (mkF m 276 #[.val (.int p1), .val (.int p2), .val (.int p3), .val (.int p4), .val (.int qc), .val (.int (Int32.ofNat oo)), .val (.ref b5), .val (.ref b28), .val (.ref b30), .val (.ref b31), .val (.ref rx), .unset, .unset] [(.int (0 : Int32)), (.ref b30)])) rfl rfl (hb hby at_276) _ ?_
      show Steps p.tables e below (T41.setTop (mkF m 277 #[.val (.int p1), .val (.int p2), .val (.int p3), .val (.int p4), .val (.int qc), .val (.int (Int32.ofNat oo)), .val (.ref b5), .val (.ref b28), .val (.ref b30), .val (.ref b31), .val (.ref rx), .unset, .unset] [(.int s5.1)])) _
      refine XS.iconst X41.here hx rfl (hb hby at_277) ?_
      exact kt
    by_cases hc278 : s5.1 = (1 : Int32)
    · obtain ⟨cq45, kq45, q45a, q45b, q45c⟩ := isOf hZ (rfl : T41.heap = T41.heap) fk41_0
      obtain ⟨_, _, ⟨T45, L45, k45, n45⟩, -, X45, ⟨Lc45, hQ45, l45, y45, z45⟩, st45⟩ := X41.virtualBack hx (y := (⟨"com/example/purveyor/purveyor/sqlite/QuotedText$Run", "content", "()Ljava/lang/String;"⟩ : MethodName)) (z := (⟨"com/example/purveyor/purveyor/sqlite/QuotedText$Run", "content", "()Ljava/lang/String;"⟩ : MethodName)) hown (mvT hZ (hw _ (List.mem_of_getElem? (i := 231) rfl))) (mvT hZ (hw _ (List.mem_of_getElem? (i := 232) rfl))) (notFace_of_selects (args := #[]) (mvT hZ (hw _ (List.mem_of_getElem? (i := 234) rfl)))) (mvT hZ (hw _ (List.mem_of_getElem? (i := 234) rfl))) (mvT hZ (hw _ (List.mem_of_getElem? (i := 233) rfl))) (by decide) (backOf (W := 0) (rm_ct l Z a0 hw [] rx rs T41.heap n0 Z41 fk41_1) hZ (hw _ (List.mem_of_getElem? (i := 235) rfl)) (hw _ (List.mem_of_getElem? (i := 179) rfl)) (by decide) (by decide)) q45a q45c (g := (mkF m 294 #[.val (.int p1), .val (.int p2), .val (.int p3), .val (.int p4), .val (.int qc), .val (.int (Int32.ofNat oo)), .val (.ref b5), .val (.ref b28), .val (.ref b30), .val (.ref b31), .val (.ref rx), .val (.int (6 : Int32)), .unset] [(.ref rx)])) rfl (by rw [hml]; rfl) (Steps.refl _) (argsL := []) (rest := []) (lenOf pd___Ljava_lang_String__1777 rfl) rfl (by show 2 * 0 + _ ≤ _; exact Nat.le_of_eq rfl) (hb hby at_294) (fun _ _ => ⟨rfl, rfl, (by decide : 10 + 0 ≤ _), (by decide : 67 + 0 ≤ _)⟩)
      dsimp only [Pt.U, Pt.locs, Pt.cells, Pt.slots] at X45 l45 y45 z45 st45 hQ45
      rw [l45, y45, z45] at X45
      obtain ⟨rfl, N45q, e45⟩ := hQ45
      have N45 := Fr.app N41 N45q
      obtain ⟨cq46, kq46, q46a, q46b, q46c⟩ := isOf hZ e45 fk41_0
      obtain ⟨_, _, ⟨T46, L46, k46, n46⟩, -, X46, ⟨Lc46, hQ46, l46, y46, z46⟩, st46⟩ := X45.virtualBack hx (y := (⟨"com/example/purveyor/purveyor/sqlite/QuotedText$Run", "end", "()I"⟩ : MethodName)) (z := (⟨"com/example/purveyor/purveyor/sqlite/QuotedText$Run", "end", "()I"⟩ : MethodName)) hown (mvT hZ (hw _ (List.mem_of_getElem? (i := 236) rfl))) (mvT hZ (hw _ (List.mem_of_getElem? (i := 237) rfl))) (notFace_of_selects (args := #[]) (mvT hZ (hw _ (List.mem_of_getElem? (i := 239) rfl)))) (mvT hZ (hw _ (List.mem_of_getElem? (i := 239) rfl))) (mvT hZ (hw _ (List.mem_of_getElem? (i := 238) rfl))) (by decide) (backOf (W := 0) (rm_en l Z a0 hw [] rx (Int32.ofNat en) T41.heap n0 Z41 fk41_2) hZ (hw _ (List.mem_of_getElem? (i := 240) rfl)) (hw _ (List.mem_of_getElem? (i := 179) rfl)) (by decide) (by decide)) q46a q46c (g := (mkF m 301 #[.val (.int p1), .val (.int p2), .val (.int p3), .val (.int p4), .val (.int qc), .val (.int (Int32.ofNat oo)), .val (.ref b5), .val (.ref b28), .val (.ref b30), .val (.ref b31), .val (.ref rx), .val (.int (6 : Int32)), .val (.ref rs)] [(.ref rx)])) rfl (by rw [hml]; rfl) (Steps.refl _) (argsL := []) (rest := []) (lenOf pd___I_154 rfl) rfl (by show 2 * 0 + _ ≤ _; exact Nat.le_of_eq rfl) (hb hby at_301) (fun _ _ => ⟨rfl, e45, (by decide : 10 + 0 ≤ _), (by decide : 67 + 0 ≤ _)⟩)
      dsimp only [Pt.U, Pt.locs, Pt.cells, Pt.slots] at X46 l46 y46 z46 st46 hQ46
      rw [l46, y46, z46] at X46
      obtain ⟨rfl, N46q, e46⟩ := hQ46
      have N46 := Fr.app N45 N46q
      obtain ⟨cq47, kq47, q47a, q47b, q47c⟩ := isOf hZ e46 fk41_3
      obtain ⟨_, _, ⟨T47, L47, k47, n47⟩, -, X47, ⟨Lc47, hQ47, l47, y47, z47⟩, st47⟩ := X46.virtualBack hx (y := (⟨"java/lang/String", "length", "()I"⟩ : MethodName)) (z := (⟨"java/lang/String", "length", "()I"⟩ : MethodName)) hown (mvT hZ (hw _ (List.mem_of_getElem? (i := 241) rfl))) (mvT hZ (hw _ (List.mem_of_getElem? (i := 89) rfl))) (notFace_of_selects (args := #[]) (mvT hZ (hw _ (List.mem_of_getElem? (i := 91) rfl)))) (mvT hZ (hw _ (List.mem_of_getElem? (i := 91) rfl))) (mvT hZ (hw _ (List.mem_of_getElem? (i := 90) rfl))) (by decide) (StrChars.Road.lenW (W := 0) hZ (fun d hd => hw d (own_wLen d hd)) (kI := 4) (hw _ (List.mem_of_getElem? (i := 7) rfl)) (cs := ac) fk41_3 fk41_5 fk41_4 fk41_6 (own_cod ac hpac) (own_up _ hpac) f147 hcs (by omega) (by decide) (by decide)) q47a q47c (g := (mkF m 311 #[.val (.int p1), .val (.int p2), .val (.int p3), .val (.int p4), .val (.int qc), .val (.int (Int32.ofNat oo)), .val (.ref b5), .val (.ref b28), .val (.ref b30), .val (.ref b31), .val (.ref rx), .val (.int (6 : Int32)), .val (.ref rs)] [(.ref rs)])) rfl (by rw [hml]; rfl) (Steps.refl _) (argsL := []) (rest := []) (lenOf pd___I_154 rfl) rfl (by show 2 * 0 + _ ≤ _; exact Nat.le_of_eq rfl) (hb hby at_311) (fun _ _ => ⟨rfl, e46, (by decide : 10 + 0 ≤ _), (by decide : 67 + 0 ≤ _)⟩)
      dsimp only [Pt.U, Pt.locs, Pt.cells, Pt.slots] at X47 l47 y47 z47 st47 hQ47
      rw [l47, y47, z47] at X47
      obtain ⟨rfl, rfl, e47⟩ := hQ47
      have N47q := Fr.nil n0
      have N47 := Fr.app N46 N47q
      obtain ⟨cl48, Ar48, aq48, aS48, aN48, aH48, aG48⟩ := id f160
      have hin48 : ¬ ((1 : Int32) < 0 ∨ cl48.slots.size ≤ ((1 : Int32)).toNatClampNeg) := inb_of aS48 ⟨by decide, by decide⟩
      have V_b31_49 : Arv Z T41.heap b31 k31 .char (6 : Int32) (ac.map Value.int) (.int 0) := by rw [← hO]; exact f161
      obtain ⟨cl50, Ar50, aq50, aS50, aN50, aH50, aG50⟩ := id f160
      have hin50 : ¬ ((1 : Int32) < 0 ∨ cl50.slots.size ≤ ((1 : Int32)).toNatClampNeg) := inb_of aS50 ⟨by decide, by decide⟩
      obtain ⟨_, _, ⟨T51, L51, k51, n51⟩, -, X51, ⟨Lc51, hQ51, l51, y51, z51⟩, st51⟩ := Jvm.LawKit.callS X47 hx (y := (⟨"com/example/purveyor/purveyor/sqlite/QuotedTextReadPinLaw", "same", "(Ljava/lang/String;[CII)Z"⟩ : MethodName)) hown (mvT hZ (hw _ (List.mem_of_getElem? (i := 242) rfl))) (mvT hZ (hw _ (List.mem_of_getElem? (i := 243) rfl))) (mvT hZ (hw _ (List.mem_of_getElem? (i := 4) rfl))) (mvT hZ (hw _ (List.mem_of_getElem? (i := 244) rfl))) (by decide) (backOf (W := 0) (rm_sm l Z a0 hw [] rs b31 rt rk k31 ac 0 cz fS T41.heap n0 Z41 fk41_3 fk41_4 fk41_5 fk41_6 V_b31_49 (by decide) hpac (by omega) f147 hcs f148 hsi) hZ (hw _ (List.mem_of_getElem? (i := 244) rfl)) (hw _ (List.mem_of_getElem? (i := 4) rfl)) (by decide) (by decide)) (g := (mkF m 332 #[.val (.int p1), .val (.int p2), .val (.int p3), .val (.int p4), .val (.int qc), .val (.int (Int32.ofNat oo)), .val (.ref b5), .val (.ref b28), .val (.ref b30), .val (.ref b31), .val (.ref rx), .val (.int (6 : Int32)), .val (.ref rs)] [(.int (0 : Int32)), (.int (Int32.ofNat ac.length)), (.ref b31), (.ref rs)])) rfl (by rw [hml]; rfl) (argsL := [(.ref rs), (.ref b31), (.int (Int32.ofNat ac.length)), (.int (0 : Int32))]) (rest := []) (lenOf pd__Ljava_lang_String__CII_Z_2171 rfl) rfl (by show 2 * 0 + _ ≤ _; exact Nat.le_of_eq rfl) (hb hby at_332) (fun _ _ => ⟨rfl, e47, (by decide : 10 + 0 ≤ _), (by decide : 67 + 0 ≤ _)⟩)
      dsimp only [Pt.U, Pt.locs, Pt.cells, Pt.slots] at X51 l51 y51 z51 st51 hQ51
      rw [l51, y51, z51] at X51
      obtain ⟨rfl, N51q, e51⟩ := hQ51
      have N51 := Fr.app N47 N51q
      obtain ⟨cl52, Ar52, aq52, aS52, aN52, aH52, aG52⟩ := id f160
      have hin52 : ¬ ((1 : Int32) < 0 ∨ cl52.slots.size ≤ ((1 : Int32)).toNatClampNeg) := inb_of aS52 ⟨by decide, by decide⟩
      obtain ⟨_, _, ⟨T53, L53, k53, n53⟩, -, X53, ⟨Lc53, hQ53, l53, y53, z53⟩, st53⟩ := Jvm.LawKit.callS X51 hx (y := (⟨"com/example/purveyor/purveyor/sqlite/QuotedTextReadPinLaw", "same", "(Ljava/lang/String;[CII)Z"⟩ : MethodName)) hown (mvT hZ (hw _ (List.mem_of_getElem? (i := 242) rfl))) (mvT hZ (hw _ (List.mem_of_getElem? (i := 243) rfl))) (mvT hZ (hw _ (List.mem_of_getElem? (i := 4) rfl))) (mvT hZ (hw _ (List.mem_of_getElem? (i := 244) rfl))) (by decide) (backOf (W := 0) (rm_sm l Z a0 hw [] rs b31 rt rk k31 ac 1 cz fS T41.heap n0 Z41 fk41_3 fk41_4 fk41_5 fk41_6 V_b31_49 (by decide) hpac (by omega) f147 hcs f148 hsi) hZ (hw _ (List.mem_of_getElem? (i := 244) rfl)) (hw _ (List.mem_of_getElem? (i := 4) rfl)) (by decide) (by decide)) (g := (mkF m 347 #[.val (.int p1), .val (.int p2), .val (.int p3), .val (.int p4), .val (.int qc), .val (.int (Int32.ofNat oo)), .val (.ref b5), .val (.ref b28), .val (.ref b30), .val (.ref b31), .val (.ref rx), .val (.int (6 : Int32)), .val (.ref rs)] [(.int (1 : Int32)), (.int (Int32.ofNat ac.length)), (.ref b31), (.ref rs)])) rfl (by rw [hml]; rfl) (argsL := [(.ref rs), (.ref b31), (.int (Int32.ofNat ac.length)), (.int (1 : Int32))]) (rest := []) (lenOf pd__Ljava_lang_String__CII_Z_2171 rfl) rfl (by show 2 * 0 + _ ≤ _; exact Nat.le_of_eq rfl) (hb hby at_347) (fun _ _ => ⟨rfl, e51, (by decide : 10 + 0 ≤ _), (by decide : 67 + 0 ≤ _)⟩)
      dsimp only [Pt.U, Pt.locs, Pt.cells, Pt.slots] at X53 l53 y53 z53 st53 hQ53
      rw [l53, y53, z53] at X53
      obtain ⟨rfl, N53q, e53⟩ := hQ53
      have N53 := Fr.app N51 N53q
      obtain ⟨cl54, Ar54, aq54, aS54, aN54, aH54, aG54⟩ := id f160
      have hin54 : ¬ ((1 : Int32) < 0 ∨ cl54.slots.size ≤ ((1 : Int32)).toNatClampNeg) := inb_of aS54 ⟨by decide, by decide⟩
      obtain ⟨_, _, ⟨T55, L55, k55, n55⟩, -, X55, ⟨Lc55, hQ55, l55, y55, z55⟩, st55⟩ := Jvm.LawKit.callS X53 hx (y := (⟨"com/example/purveyor/purveyor/sqlite/QuotedTextReadPinLaw", "same", "(Ljava/lang/String;[CII)Z"⟩ : MethodName)) hown (mvT hZ (hw _ (List.mem_of_getElem? (i := 242) rfl))) (mvT hZ (hw _ (List.mem_of_getElem? (i := 243) rfl))) (mvT hZ (hw _ (List.mem_of_getElem? (i := 4) rfl))) (mvT hZ (hw _ (List.mem_of_getElem? (i := 244) rfl))) (by decide) (backOf (W := 0) (rm_sm l Z a0 hw [] rs b31 rt rk k31 ac 2 cz fS T41.heap n0 Z41 fk41_3 fk41_4 fk41_5 fk41_6 V_b31_49 (by decide) hpac (by omega) f147 hcs f148 hsi) hZ (hw _ (List.mem_of_getElem? (i := 244) rfl)) (hw _ (List.mem_of_getElem? (i := 4) rfl)) (by decide) (by decide)) (g := (mkF m 362 #[.val (.int p1), .val (.int p2), .val (.int p3), .val (.int p4), .val (.int qc), .val (.int (Int32.ofNat oo)), .val (.ref b5), .val (.ref b28), .val (.ref b30), .val (.ref b31), .val (.ref rx), .val (.int (6 : Int32)), .val (.ref rs)] [(.int (2 : Int32)), (.int (Int32.ofNat ac.length)), (.ref b31), (.ref rs)])) rfl (by rw [hml]; rfl) (argsL := [(.ref rs), (.ref b31), (.int (Int32.ofNat ac.length)), (.int (2 : Int32))]) (rest := []) (lenOf pd__Ljava_lang_String__CII_Z_2171 rfl) rfl (by show 2 * 0 + _ ≤ _; exact Nat.le_of_eq rfl) (hb hby at_362) (fun _ _ => ⟨rfl, e53, (by decide : 10 + 0 ≤ _), (by decide : 67 + 0 ≤ _)⟩)
      dsimp only [Pt.U, Pt.locs, Pt.cells, Pt.slots] at X55 l55 y55 z55 st55 hQ55
      rw [l55, y55, z55] at X55
      obtain ⟨rfl, N55q, e55⟩ := hQ55
      have N55 := Fr.app N53 N55q
      obtain ⟨cl56, Ar56, aq56, aS56, aN56, aH56, aG56⟩ := id f160
      have hin56 : ¬ ((1 : Int32) < 0 ∨ cl56.slots.size ≤ ((1 : Int32)).toNatClampNeg) := inb_of aS56 ⟨by decide, by decide⟩
      obtain ⟨_, _, ⟨T57, L57, k57, n57⟩, -, X57, ⟨Lc57, hQ57, l57, y57, z57⟩, st57⟩ := Jvm.LawKit.callS X55 hx (y := (⟨"com/example/purveyor/purveyor/sqlite/QuotedTextReadPinLaw", "same", "(Ljava/lang/String;[CII)Z"⟩ : MethodName)) hown (mvT hZ (hw _ (List.mem_of_getElem? (i := 242) rfl))) (mvT hZ (hw _ (List.mem_of_getElem? (i := 243) rfl))) (mvT hZ (hw _ (List.mem_of_getElem? (i := 4) rfl))) (mvT hZ (hw _ (List.mem_of_getElem? (i := 244) rfl))) (by decide) (backOf (W := 0) (rm_sm l Z a0 hw [] rs b31 rt rk k31 ac 3 cz fS T41.heap n0 Z41 fk41_3 fk41_4 fk41_5 fk41_6 V_b31_49 (by decide) hpac (by omega) f147 hcs f148 hsi) hZ (hw _ (List.mem_of_getElem? (i := 244) rfl)) (hw _ (List.mem_of_getElem? (i := 4) rfl)) (by decide) (by decide)) (g := (mkF m 377 #[.val (.int p1), .val (.int p2), .val (.int p3), .val (.int p4), .val (.int qc), .val (.int (Int32.ofNat oo)), .val (.ref b5), .val (.ref b28), .val (.ref b30), .val (.ref b31), .val (.ref rx), .val (.int (6 : Int32)), .val (.ref rs)] [(.int (3 : Int32)), (.int (Int32.ofNat ac.length)), (.ref b31), (.ref rs)])) rfl (by rw [hml]; rfl) (argsL := [(.ref rs), (.ref b31), (.int (Int32.ofNat ac.length)), (.int (3 : Int32))]) (rest := []) (lenOf pd__Ljava_lang_String__CII_Z_2171 rfl) rfl (by show 2 * 0 + _ ≤ _; exact Nat.le_of_eq rfl) (hb hby at_377) (fun _ _ => ⟨rfl, e55, (by decide : 10 + 0 ≤ _), (by decide : 67 + 0 ≤ _)⟩)
      dsimp only [Pt.U, Pt.locs, Pt.cells, Pt.slots] at X57 l57 y57 z57 st57 hQ57
      rw [l57, y57, z57] at X57
      obtain ⟨rfl, N57q, e57⟩ := hQ57
      have N57 := Fr.app N55 N57q
      obtain ⟨cl58, Ar58, aq58, aS58, aN58, aH58, aG58⟩ := id f160
      have hin58 : ¬ ((1 : Int32) < 0 ∨ cl58.slots.size ≤ ((1 : Int32)).toNatClampNeg) := inb_of aS58 ⟨by decide, by decide⟩
      obtain ⟨_, _, ⟨T59, L59, k59, n59⟩, -, X59, ⟨Lc59, hQ59, l59, y59, z59⟩, st59⟩ := Jvm.LawKit.callS X57 hx (y := (⟨"com/example/purveyor/purveyor/sqlite/QuotedTextReadPinLaw", "same", "(Ljava/lang/String;[CII)Z"⟩ : MethodName)) hown (mvT hZ (hw _ (List.mem_of_getElem? (i := 242) rfl))) (mvT hZ (hw _ (List.mem_of_getElem? (i := 243) rfl))) (mvT hZ (hw _ (List.mem_of_getElem? (i := 4) rfl))) (mvT hZ (hw _ (List.mem_of_getElem? (i := 244) rfl))) (by decide) (backOf (W := 0) (rm_sm l Z a0 hw [] rs b31 rt rk k31 ac 4 cz fS T41.heap n0 Z41 fk41_3 fk41_4 fk41_5 fk41_6 V_b31_49 (by decide) hpac (by omega) f147 hcs f148 hsi) hZ (hw _ (List.mem_of_getElem? (i := 244) rfl)) (hw _ (List.mem_of_getElem? (i := 4) rfl)) (by decide) (by decide)) (g := (mkF m 392 #[.val (.int p1), .val (.int p2), .val (.int p3), .val (.int p4), .val (.int qc), .val (.int (Int32.ofNat oo)), .val (.ref b5), .val (.ref b28), .val (.ref b30), .val (.ref b31), .val (.ref rx), .val (.int (6 : Int32)), .val (.ref rs)] [(.int (4 : Int32)), (.int (Int32.ofNat ac.length)), (.ref b31), (.ref rs)])) rfl (by rw [hml]; rfl) (argsL := [(.ref rs), (.ref b31), (.int (Int32.ofNat ac.length)), (.int (4 : Int32))]) (rest := []) (lenOf pd__Ljava_lang_String__CII_Z_2171 rfl) rfl (by show 2 * 0 + _ ≤ _; exact Nat.le_of_eq rfl) (hb hby at_392) (fun _ _ => ⟨rfl, e57, (by decide : 10 + 0 ≤ _), (by decide : 67 + 0 ≤ _)⟩)
      dsimp only [Pt.U, Pt.locs, Pt.cells, Pt.slots] at X59 l59 y59 z59 st59 hQ59
      rw [l59, y59, z59] at X59
      obtain ⟨rfl, N59q, e59⟩ := hQ59
      have N59 := Fr.app N57 N59q
      obtain ⟨fs, hr, hrun, hended, hW, hsame⟩ := X59.leave (v := some (.int (1 : Int32))) (fun h => by rw [Bd.returns] at h; cases h) (hlocks := Bd.notSynchronized)
      refine ⟨_, _, pre_44 _ ?_, hrun, hended, _, _, rfl, ?_, ⟨_, rfl⟩, hW, hsame.mono (by decide) (by decide)⟩
      · show Steps p.tables e below (T41.setTop (mkF m 278 #[.val (.int p1), .val (.int p2), .val (.int p3), .val (.int p4), .val (.int qc), .val (.int (Int32.ofNat oo)), .val (.ref b5), .val (.ref b28), .val (.ref b30), .val (.ref b31), .val (.ref rx), .unset, .unset] [(.int (1 : Int32)), (.int s5.1)])) _
        refine XS.icmpNo X41.here hx rfl (hb hby at_278) rfl (teq hc278).2 ?_
        show Steps p.tables e below (T41.setTop (mkF m 281 #[.val (.int p1), .val (.int p2), .val (.int p3), .val (.int p4), .val (.int qc), .val (.int (Int32.ofNat oo)), .val (.ref b5), .val (.ref b28), .val (.ref b30), .val (.ref b31), .val (.ref rx), .unset, .unset] [])) _
        refine XS.bipush X41.here hx rfl (hb hby at_281) ?_
        show Steps p.tables e below (T41.setTop (mkF m 283 #[.val (.int p1), .val (.int p2), .val (.int p3), .val (.int p4), .val (.int qc), .val (.int (Int32.ofNat oo)), .val (.ref b5), .val (.ref b28), .val (.ref b30), .val (.ref b31), .val (.ref rx), .unset, .unset] [(.int (6 : Int32))])) _
        refine XS.goto X41.here hx rfl (pc0 := 283) (pc' := 290) rfl (hb hby at_283) (by decide) (by decide) ?_
        show Steps p.tables e below (T41.setTop (mkF m 290 #[.val (.int p1), .val (.int p2), .val (.int p3), .val (.int p4), .val (.int qc), .val (.int (Int32.ofNat oo)), .val (.ref b5), .val (.ref b28), .val (.ref b30), .val (.ref b31), .val (.ref rx), .unset, .unset] [(.int (6 : Int32))])) _
        refine XS.istore X41.here hx rfl (hb hby at_290) rfl (l' := #[.val (.int p1), .val (.int p2), .val (.int p3), .val (.int p4), .val (.int qc), .val (.int (Int32.ofNat oo)), .val (.ref b5), .val (.ref b28), .val (.ref b30), .val (.ref b31), .val (.ref rx), .val (.int (6 : Int32)), .unset]) rfl ?_
        show Steps p.tables e below (T41.setTop (mkF m 292 #[.val (.int p1), .val (.int p2), .val (.int p3), .val (.int p4), .val (.int qc), .val (.int (Int32.ofNat oo)), .val (.ref b5), .val (.ref b28), .val (.ref b30), .val (.ref b31), .val (.ref rx), .val (.int (6 : Int32)), .unset] [])) _
        refine XS.aload X41.here hx rfl (hb hby at_292) rfl rfl ?_
        show Steps p.tables e below (T41.setTop (mkF m 294 #[.val (.int p1), .val (.int p2), .val (.int p3), .val (.int p4), .val (.int qc), .val (.int (Int32.ofNat oo)), .val (.ref b5), .val (.ref b28), .val (.ref b30), .val (.ref b31), .val (.ref rx), .val (.int (6 : Int32)), .unset] [(.ref rx)])) _
        refine st45.trans ?_
        show Steps p.tables e below (T45.setTop (mkF m 297 #[.val (.int p1), .val (.int p2), .val (.int p3), .val (.int p4), .val (.int qc), .val (.int (Int32.ofNat oo)), .val (.ref b5), .val (.ref b28), .val (.ref b30), .val (.ref b31), .val (.ref rx), .val (.int (6 : Int32)), .unset] [(.ref rs)])) _
        refine XS.astore X45.here hx rfl (hb hby at_297) rfl rfl (l' := #[.val (.int p1), .val (.int p2), .val (.int p3), .val (.int p4), .val (.int qc), .val (.int (Int32.ofNat oo)), .val (.ref b5), .val (.ref b28), .val (.ref b30), .val (.ref b31), .val (.ref rx), .val (.int (6 : Int32)), .val (.ref rs)]) rfl ?_
        show Steps p.tables e below (T45.setTop (mkF m 299 #[.val (.int p1), .val (.int p2), .val (.int p3), .val (.int p4), .val (.int qc), .val (.int (Int32.ofNat oo)), .val (.ref b5), .val (.ref b28), .val (.ref b30), .val (.ref b31), .val (.ref rx), .val (.int (6 : Int32)), .val (.ref rs)] [])) _
        refine XS.aload X45.here hx rfl (hb hby at_299) rfl rfl ?_
        show Steps p.tables e below (T45.setTop (mkF m 301 #[.val (.int p1), .val (.int p2), .val (.int p3), .val (.int p4), .val (.int qc), .val (.int (Int32.ofNat oo)), .val (.ref b5), .val (.ref b28), .val (.ref b30), .val (.ref b31), .val (.ref rx), .val (.int (6 : Int32)), .val (.ref rs)] [(.ref rx)])) _
        refine st46.trans ?_
        show Steps p.tables e below (T46.setTop (mkF m 304 #[.val (.int p1), .val (.int p2), .val (.int p3), .val (.int p4), .val (.int qc), .val (.int (Int32.ofNat oo)), .val (.ref b5), .val (.ref b28), .val (.ref b30), .val (.ref b31), .val (.ref rx), .val (.int (6 : Int32)), .val (.ref rs)] [(.int (Int32.ofNat en))])) _
        refine XS.iload X46.here hx rfl (hb hby at_304) rfl ?_
        show Steps p.tables e below (T46.setTop (mkF m 306 #[.val (.int p1), .val (.int p2), .val (.int p3), .val (.int p4), .val (.int qc), .val (.int (Int32.ofNat oo)), .val (.ref b5), .val (.ref b28), .val (.ref b30), .val (.ref b31), .val (.ref rx), .val (.int (6 : Int32)), .val (.ref rs)] [(.int (6 : Int32)), (.int (Int32.ofNat en))])) _
        refine XS.icmpNo X46.here hx rfl (hb hby at_306) rfl (teq (hE.elim (fun q => by rw [q.2, hcl]; rfl) (fun q => absurd (q.1.symm.trans hc278) (by decide)))).2 ?_
        show Steps p.tables e below (T46.setTop (mkF m 309 #[.val (.int p1), .val (.int p2), .val (.int p3), .val (.int p4), .val (.int qc), .val (.int (Int32.ofNat oo)), .val (.ref b5), .val (.ref b28), .val (.ref b30), .val (.ref b31), .val (.ref rx), .val (.int (6 : Int32)), .val (.ref rs)] [])) _
        refine XS.aload X46.here hx rfl (hb hby at_309) rfl rfl ?_
        show Steps p.tables e below (T46.setTop (mkF m 311 #[.val (.int p1), .val (.int p2), .val (.int p3), .val (.int p4), .val (.int qc), .val (.int (Int32.ofNat oo)), .val (.ref b5), .val (.ref b28), .val (.ref b30), .val (.ref b31), .val (.ref rx), .val (.int (6 : Int32)), .val (.ref rs)] [(.ref rs)])) _
        refine st47.trans ?_
        show Steps p.tables e below (T47.setTop (mkF m 314 #[.val (.int p1), .val (.int p2), .val (.int p3), .val (.int p4), .val (.int qc), .val (.int (Int32.ofNat oo)), .val (.ref b5), .val (.ref b28), .val (.ref b30), .val (.ref b31), .val (.ref rx), .val (.int (6 : Int32)), .val (.ref rs)] [(.int (Int32.ofNat ac.length))])) _
        refine XS.aload X47.here hx rfl (hb hby at_314) rfl rfl ?_
        show Steps p.tables e below (T47.setTop (mkF m 316 #[.val (.int p1), .val (.int p2), .val (.int p3), .val (.int p4), .val (.int qc), .val (.int (Int32.ofNat oo)), .val (.ref b5), .val (.ref b28), .val (.ref b30), .val (.ref b31), .val (.ref rx), .val (.int (6 : Int32)), .val (.ref rs)] [(.ref b30), (.int (Int32.ofNat ac.length))])) _
        refine XS.iconst X47.here hx rfl (hb hby at_316) ?_
        show Steps p.tables e below (T47.setTop (mkF m 317 #[.val (.int p1), .val (.int p2), .val (.int p3), .val (.int p4), .val (.int qc), .val (.int (Int32.ofNat oo)), .val (.ref b5), .val (.ref b28), .val (.ref b30), .val (.ref b31), .val (.ref rx), .val (.int (6 : Int32)), .val (.ref rs)] [(.int (1 : Int32)), (.ref b30), (.int (Int32.ofNat ac.length))])) _
        refine X47.iaload hx (j := (1 : Int32)) (v := (.int (Int32.ofNat ac.length))) (by rw [e47]; exact Ar48.1) (State.isArrayOf_alike hZ.alike Ar48.2.1) Ar48.2.2 hin48 (Has.at aH48 hin48 (by rw [← hO]; rfl)) (g := (mkF m 317 #[.val (.int p1), .val (.int p2), .val (.int p3), .val (.int p4), .val (.int qc), .val (.int (Int32.ofNat oo)), .val (.ref b5), .val (.ref b28), .val (.ref b30), .val (.ref b31), .val (.ref rx), .val (.int (6 : Int32)), .val (.ref rs)] [(.int (1 : Int32)), (.ref b30), (.int (Int32.ofNat ac.length))])) rfl rfl (hb hby at_317) _ ?_
        show Steps p.tables e below (T47.setTop (mkF m 318 #[.val (.int p1), .val (.int p2), .val (.int p3), .val (.int p4), .val (.int qc), .val (.int (Int32.ofNat oo)), .val (.ref b5), .val (.ref b28), .val (.ref b30), .val (.ref b31), .val (.ref rx), .val (.int (6 : Int32)), .val (.ref rs)] [(.int (Int32.ofNat ac.length)), (.int (Int32.ofNat ac.length))])) _
        refine XS.icmpYes X47.here hx rfl (pc0 := 318) (pc' := 323) rfl (hb hby at_318) rfl (teq (rfl : (Int32.ofNat ac.length) = (Int32.ofNat ac.length))).1 (by decide) (by decide) ?_
        show Steps p.tables e below (T47.setTop (mkF m 323 #[.val (.int p1), .val (.int p2), .val (.int p3), .val (.int p4), .val (.int qc), .val (.int (Int32.ofNat oo)), .val (.ref b5), .val (.ref b28), .val (.ref b30), .val (.ref b31), .val (.ref rx), .val (.int (6 : Int32)), .val (.ref rs)] [])) _
        refine XS.aload X47.here hx rfl (hb hby at_323) rfl rfl ?_
        show Steps p.tables e below (T47.setTop (mkF m 325 #[.val (.int p1), .val (.int p2), .val (.int p3), .val (.int p4), .val (.int qc), .val (.int (Int32.ofNat oo)), .val (.ref b5), .val (.ref b28), .val (.ref b30), .val (.ref b31), .val (.ref rx), .val (.int (6 : Int32)), .val (.ref rs)] [(.ref rs)])) _
        refine XS.aload X47.here hx rfl (hb hby at_325) rfl rfl ?_
        show Steps p.tables e below (T47.setTop (mkF m 327 #[.val (.int p1), .val (.int p2), .val (.int p3), .val (.int p4), .val (.int qc), .val (.int (Int32.ofNat oo)), .val (.ref b5), .val (.ref b28), .val (.ref b30), .val (.ref b31), .val (.ref rx), .val (.int (6 : Int32)), .val (.ref rs)] [(.ref b31), (.ref rs)])) _
        refine XS.aload X47.here hx rfl (hb hby at_327) rfl rfl ?_
        show Steps p.tables e below (T47.setTop (mkF m 329 #[.val (.int p1), .val (.int p2), .val (.int p3), .val (.int p4), .val (.int qc), .val (.int (Int32.ofNat oo)), .val (.ref b5), .val (.ref b28), .val (.ref b30), .val (.ref b31), .val (.ref rx), .val (.int (6 : Int32)), .val (.ref rs)] [(.ref b30), (.ref b31), (.ref rs)])) _
        refine XS.iconst X47.here hx rfl (hb hby at_329) ?_
        show Steps p.tables e below (T47.setTop (mkF m 330 #[.val (.int p1), .val (.int p2), .val (.int p3), .val (.int p4), .val (.int qc), .val (.int (Int32.ofNat oo)), .val (.ref b5), .val (.ref b28), .val (.ref b30), .val (.ref b31), .val (.ref rx), .val (.int (6 : Int32)), .val (.ref rs)] [(.int (1 : Int32)), (.ref b30), (.ref b31), (.ref rs)])) _
        refine X47.iaload hx (j := (1 : Int32)) (v := (.int (Int32.ofNat ac.length))) (by rw [e47]; exact Ar50.1) (State.isArrayOf_alike hZ.alike Ar50.2.1) Ar50.2.2 hin50 (Has.at aH50 hin50 (by rw [← hO]; rfl)) (g := (mkF m 330 #[.val (.int p1), .val (.int p2), .val (.int p3), .val (.int p4), .val (.int qc), .val (.int (Int32.ofNat oo)), .val (.ref b5), .val (.ref b28), .val (.ref b30), .val (.ref b31), .val (.ref rx), .val (.int (6 : Int32)), .val (.ref rs)] [(.int (1 : Int32)), (.ref b30), (.ref b31), (.ref rs)])) rfl rfl (hb hby at_330) _ ?_
        show Steps p.tables e below (T47.setTop (mkF m 331 #[.val (.int p1), .val (.int p2), .val (.int p3), .val (.int p4), .val (.int qc), .val (.int (Int32.ofNat oo)), .val (.ref b5), .val (.ref b28), .val (.ref b30), .val (.ref b31), .val (.ref rx), .val (.int (6 : Int32)), .val (.ref rs)] [(.int (Int32.ofNat ac.length)), (.ref b31), (.ref rs)])) _
        refine XS.iconst X47.here hx rfl (hb hby at_331) ?_
        show Steps p.tables e below (T47.setTop (mkF m 332 #[.val (.int p1), .val (.int p2), .val (.int p3), .val (.int p4), .val (.int qc), .val (.int (Int32.ofNat oo)), .val (.ref b5), .val (.ref b28), .val (.ref b30), .val (.ref b31), .val (.ref rx), .val (.int (6 : Int32)), .val (.ref rs)] [(.int (0 : Int32)), (.int (Int32.ofNat ac.length)), (.ref b31), (.ref rs)])) _
        refine st51 _ ?_
        show Steps p.tables e below (T51.setTop (mkF m 335 #[.val (.int p1), .val (.int p2), .val (.int p3), .val (.int p4), .val (.int qc), .val (.int (Int32.ofNat oo)), .val (.ref b5), .val (.ref b28), .val (.ref b30), .val (.ref b31), .val (.ref rx), .val (.int (6 : Int32)), .val (.ref rs)] [(.int (1 : Int32))])) _
        refine XS.ifNo X51.here hx rfl (hb hby at_335) rfl ((if0 _ _).trans (feq (by decide : ¬ ((1 : Int32) = (0 : Int32)))).1) ?_
        show Steps p.tables e below (T51.setTop (mkF m 338 #[.val (.int p1), .val (.int p2), .val (.int p3), .val (.int p4), .val (.int qc), .val (.int (Int32.ofNat oo)), .val (.ref b5), .val (.ref b28), .val (.ref b30), .val (.ref b31), .val (.ref rx), .val (.int (6 : Int32)), .val (.ref rs)] [])) _
        refine XS.aload X51.here hx rfl (hb hby at_338) rfl rfl ?_
        show Steps p.tables e below (T51.setTop (mkF m 340 #[.val (.int p1), .val (.int p2), .val (.int p3), .val (.int p4), .val (.int qc), .val (.int (Int32.ofNat oo)), .val (.ref b5), .val (.ref b28), .val (.ref b30), .val (.ref b31), .val (.ref rx), .val (.int (6 : Int32)), .val (.ref rs)] [(.ref rs)])) _
        refine XS.aload X51.here hx rfl (hb hby at_340) rfl rfl ?_
        show Steps p.tables e below (T51.setTop (mkF m 342 #[.val (.int p1), .val (.int p2), .val (.int p3), .val (.int p4), .val (.int qc), .val (.int (Int32.ofNat oo)), .val (.ref b5), .val (.ref b28), .val (.ref b30), .val (.ref b31), .val (.ref rx), .val (.int (6 : Int32)), .val (.ref rs)] [(.ref b31), (.ref rs)])) _
        refine XS.aload X51.here hx rfl (hb hby at_342) rfl rfl ?_
        show Steps p.tables e below (T51.setTop (mkF m 344 #[.val (.int p1), .val (.int p2), .val (.int p3), .val (.int p4), .val (.int qc), .val (.int (Int32.ofNat oo)), .val (.ref b5), .val (.ref b28), .val (.ref b30), .val (.ref b31), .val (.ref rx), .val (.int (6 : Int32)), .val (.ref rs)] [(.ref b30), (.ref b31), (.ref rs)])) _
        refine XS.iconst X51.here hx rfl (hb hby at_344) ?_
        show Steps p.tables e below (T51.setTop (mkF m 345 #[.val (.int p1), .val (.int p2), .val (.int p3), .val (.int p4), .val (.int qc), .val (.int (Int32.ofNat oo)), .val (.ref b5), .val (.ref b28), .val (.ref b30), .val (.ref b31), .val (.ref rx), .val (.int (6 : Int32)), .val (.ref rs)] [(.int (1 : Int32)), (.ref b30), (.ref b31), (.ref rs)])) _
        refine X51.iaload hx (j := (1 : Int32)) (v := (.int (Int32.ofNat ac.length))) (by rw [e51]; exact Ar52.1) (State.isArrayOf_alike hZ.alike Ar52.2.1) Ar52.2.2 hin52 (Has.at aH52 hin52 (by rw [← hO]; rfl)) (g := (mkF m 345 #[.val (.int p1), .val (.int p2), .val (.int p3), .val (.int p4), .val (.int qc), .val (.int (Int32.ofNat oo)), .val (.ref b5), .val (.ref b28), .val (.ref b30), .val (.ref b31), .val (.ref rx), .val (.int (6 : Int32)), .val (.ref rs)] [(.int (1 : Int32)), (.ref b30), (.ref b31), (.ref rs)])) rfl rfl (hb hby at_345) _ ?_
        show Steps p.tables e below (T51.setTop (mkF m 346 #[.val (.int p1), .val (.int p2), .val (.int p3), .val (.int p4), .val (.int qc), .val (.int (Int32.ofNat oo)), .val (.ref b5), .val (.ref b28), .val (.ref b30), .val (.ref b31), .val (.ref rx), .val (.int (6 : Int32)), .val (.ref rs)] [(.int (Int32.ofNat ac.length)), (.ref b31), (.ref rs)])) _
        refine XS.iconst X51.here hx rfl (hb hby at_346) ?_
        show Steps p.tables e below (T51.setTop (mkF m 347 #[.val (.int p1), .val (.int p2), .val (.int p3), .val (.int p4), .val (.int qc), .val (.int (Int32.ofNat oo)), .val (.ref b5), .val (.ref b28), .val (.ref b30), .val (.ref b31), .val (.ref rx), .val (.int (6 : Int32)), .val (.ref rs)] [(.int (1 : Int32)), (.int (Int32.ofNat ac.length)), (.ref b31), (.ref rs)])) _
        refine st53 _ ?_
        show Steps p.tables e below (T53.setTop (mkF m 350 #[.val (.int p1), .val (.int p2), .val (.int p3), .val (.int p4), .val (.int qc), .val (.int (Int32.ofNat oo)), .val (.ref b5), .val (.ref b28), .val (.ref b30), .val (.ref b31), .val (.ref rx), .val (.int (6 : Int32)), .val (.ref rs)] [(.int (1 : Int32))])) _
        refine XS.ifNo X53.here hx rfl (hb hby at_350) rfl ((if0 _ _).trans (feq (by decide : ¬ ((1 : Int32) = (0 : Int32)))).1) ?_
        show Steps p.tables e below (T53.setTop (mkF m 353 #[.val (.int p1), .val (.int p2), .val (.int p3), .val (.int p4), .val (.int qc), .val (.int (Int32.ofNat oo)), .val (.ref b5), .val (.ref b28), .val (.ref b30), .val (.ref b31), .val (.ref rx), .val (.int (6 : Int32)), .val (.ref rs)] [])) _
        refine XS.aload X53.here hx rfl (hb hby at_353) rfl rfl ?_
        show Steps p.tables e below (T53.setTop (mkF m 355 #[.val (.int p1), .val (.int p2), .val (.int p3), .val (.int p4), .val (.int qc), .val (.int (Int32.ofNat oo)), .val (.ref b5), .val (.ref b28), .val (.ref b30), .val (.ref b31), .val (.ref rx), .val (.int (6 : Int32)), .val (.ref rs)] [(.ref rs)])) _
        refine XS.aload X53.here hx rfl (hb hby at_355) rfl rfl ?_
        show Steps p.tables e below (T53.setTop (mkF m 357 #[.val (.int p1), .val (.int p2), .val (.int p3), .val (.int p4), .val (.int qc), .val (.int (Int32.ofNat oo)), .val (.ref b5), .val (.ref b28), .val (.ref b30), .val (.ref b31), .val (.ref rx), .val (.int (6 : Int32)), .val (.ref rs)] [(.ref b31), (.ref rs)])) _
        refine XS.aload X53.here hx rfl (hb hby at_357) rfl rfl ?_
        show Steps p.tables e below (T53.setTop (mkF m 359 #[.val (.int p1), .val (.int p2), .val (.int p3), .val (.int p4), .val (.int qc), .val (.int (Int32.ofNat oo)), .val (.ref b5), .val (.ref b28), .val (.ref b30), .val (.ref b31), .val (.ref rx), .val (.int (6 : Int32)), .val (.ref rs)] [(.ref b30), (.ref b31), (.ref rs)])) _
        refine XS.iconst X53.here hx rfl (hb hby at_359) ?_
        show Steps p.tables e below (T53.setTop (mkF m 360 #[.val (.int p1), .val (.int p2), .val (.int p3), .val (.int p4), .val (.int qc), .val (.int (Int32.ofNat oo)), .val (.ref b5), .val (.ref b28), .val (.ref b30), .val (.ref b31), .val (.ref rx), .val (.int (6 : Int32)), .val (.ref rs)] [(.int (1 : Int32)), (.ref b30), (.ref b31), (.ref rs)])) _
        refine X53.iaload hx (j := (1 : Int32)) (v := (.int (Int32.ofNat ac.length))) (by rw [e53]; exact Ar54.1) (State.isArrayOf_alike hZ.alike Ar54.2.1) Ar54.2.2 hin54 (Has.at aH54 hin54 (by rw [← hO]; rfl)) (g := (mkF m 360 #[.val (.int p1), .val (.int p2), .val (.int p3), .val (.int p4), .val (.int qc), .val (.int (Int32.ofNat oo)), .val (.ref b5), .val (.ref b28), .val (.ref b30), .val (.ref b31), .val (.ref rx), .val (.int (6 : Int32)), .val (.ref rs)] [(.int (1 : Int32)), (.ref b30), (.ref b31), (.ref rs)])) rfl rfl (hb hby at_360) _ ?_
        show Steps p.tables e below (T53.setTop (mkF m 361 #[.val (.int p1), .val (.int p2), .val (.int p3), .val (.int p4), .val (.int qc), .val (.int (Int32.ofNat oo)), .val (.ref b5), .val (.ref b28), .val (.ref b30), .val (.ref b31), .val (.ref rx), .val (.int (6 : Int32)), .val (.ref rs)] [(.int (Int32.ofNat ac.length)), (.ref b31), (.ref rs)])) _
        refine XS.iconst X53.here hx rfl (hb hby at_361) ?_
        show Steps p.tables e below (T53.setTop (mkF m 362 #[.val (.int p1), .val (.int p2), .val (.int p3), .val (.int p4), .val (.int qc), .val (.int (Int32.ofNat oo)), .val (.ref b5), .val (.ref b28), .val (.ref b30), .val (.ref b31), .val (.ref rx), .val (.int (6 : Int32)), .val (.ref rs)] [(.int (2 : Int32)), (.int (Int32.ofNat ac.length)), (.ref b31), (.ref rs)])) _
        refine st55 _ ?_
        show Steps p.tables e below (T55.setTop (mkF m 365 #[.val (.int p1), .val (.int p2), .val (.int p3), .val (.int p4), .val (.int qc), .val (.int (Int32.ofNat oo)), .val (.ref b5), .val (.ref b28), .val (.ref b30), .val (.ref b31), .val (.ref rx), .val (.int (6 : Int32)), .val (.ref rs)] [(.int (1 : Int32))])) _
        refine XS.ifNo X55.here hx rfl (hb hby at_365) rfl ((if0 _ _).trans (feq (by decide : ¬ ((1 : Int32) = (0 : Int32)))).1) ?_
        show Steps p.tables e below (T55.setTop (mkF m 368 #[.val (.int p1), .val (.int p2), .val (.int p3), .val (.int p4), .val (.int qc), .val (.int (Int32.ofNat oo)), .val (.ref b5), .val (.ref b28), .val (.ref b30), .val (.ref b31), .val (.ref rx), .val (.int (6 : Int32)), .val (.ref rs)] [])) _
        refine XS.aload X55.here hx rfl (hb hby at_368) rfl rfl ?_
        show Steps p.tables e below (T55.setTop (mkF m 370 #[.val (.int p1), .val (.int p2), .val (.int p3), .val (.int p4), .val (.int qc), .val (.int (Int32.ofNat oo)), .val (.ref b5), .val (.ref b28), .val (.ref b30), .val (.ref b31), .val (.ref rx), .val (.int (6 : Int32)), .val (.ref rs)] [(.ref rs)])) _
        refine XS.aload X55.here hx rfl (hb hby at_370) rfl rfl ?_
        show Steps p.tables e below (T55.setTop (mkF m 372 #[.val (.int p1), .val (.int p2), .val (.int p3), .val (.int p4), .val (.int qc), .val (.int (Int32.ofNat oo)), .val (.ref b5), .val (.ref b28), .val (.ref b30), .val (.ref b31), .val (.ref rx), .val (.int (6 : Int32)), .val (.ref rs)] [(.ref b31), (.ref rs)])) _
        refine XS.aload X55.here hx rfl (hb hby at_372) rfl rfl ?_
        show Steps p.tables e below (T55.setTop (mkF m 374 #[.val (.int p1), .val (.int p2), .val (.int p3), .val (.int p4), .val (.int qc), .val (.int (Int32.ofNat oo)), .val (.ref b5), .val (.ref b28), .val (.ref b30), .val (.ref b31), .val (.ref rx), .val (.int (6 : Int32)), .val (.ref rs)] [(.ref b30), (.ref b31), (.ref rs)])) _
        refine XS.iconst X55.here hx rfl (hb hby at_374) ?_
        show Steps p.tables e below (T55.setTop (mkF m 375 #[.val (.int p1), .val (.int p2), .val (.int p3), .val (.int p4), .val (.int qc), .val (.int (Int32.ofNat oo)), .val (.ref b5), .val (.ref b28), .val (.ref b30), .val (.ref b31), .val (.ref rx), .val (.int (6 : Int32)), .val (.ref rs)] [(.int (1 : Int32)), (.ref b30), (.ref b31), (.ref rs)])) _
        refine X55.iaload hx (j := (1 : Int32)) (v := (.int (Int32.ofNat ac.length))) (by rw [e55]; exact Ar56.1) (State.isArrayOf_alike hZ.alike Ar56.2.1) Ar56.2.2 hin56 (Has.at aH56 hin56 (by rw [← hO]; rfl)) (g := (mkF m 375 #[.val (.int p1), .val (.int p2), .val (.int p3), .val (.int p4), .val (.int qc), .val (.int (Int32.ofNat oo)), .val (.ref b5), .val (.ref b28), .val (.ref b30), .val (.ref b31), .val (.ref rx), .val (.int (6 : Int32)), .val (.ref rs)] [(.int (1 : Int32)), (.ref b30), (.ref b31), (.ref rs)])) rfl rfl (hb hby at_375) _ ?_
        show Steps p.tables e below (T55.setTop (mkF m 376 #[.val (.int p1), .val (.int p2), .val (.int p3), .val (.int p4), .val (.int qc), .val (.int (Int32.ofNat oo)), .val (.ref b5), .val (.ref b28), .val (.ref b30), .val (.ref b31), .val (.ref rx), .val (.int (6 : Int32)), .val (.ref rs)] [(.int (Int32.ofNat ac.length)), (.ref b31), (.ref rs)])) _
        refine XS.iconst X55.here hx rfl (hb hby at_376) ?_
        show Steps p.tables e below (T55.setTop (mkF m 377 #[.val (.int p1), .val (.int p2), .val (.int p3), .val (.int p4), .val (.int qc), .val (.int (Int32.ofNat oo)), .val (.ref b5), .val (.ref b28), .val (.ref b30), .val (.ref b31), .val (.ref rx), .val (.int (6 : Int32)), .val (.ref rs)] [(.int (3 : Int32)), (.int (Int32.ofNat ac.length)), (.ref b31), (.ref rs)])) _
        refine st57 _ ?_
        show Steps p.tables e below (T57.setTop (mkF m 380 #[.val (.int p1), .val (.int p2), .val (.int p3), .val (.int p4), .val (.int qc), .val (.int (Int32.ofNat oo)), .val (.ref b5), .val (.ref b28), .val (.ref b30), .val (.ref b31), .val (.ref rx), .val (.int (6 : Int32)), .val (.ref rs)] [(.int (1 : Int32))])) _
        refine XS.ifNo X57.here hx rfl (hb hby at_380) rfl ((if0 _ _).trans (feq (by decide : ¬ ((1 : Int32) = (0 : Int32)))).1) ?_
        show Steps p.tables e below (T57.setTop (mkF m 383 #[.val (.int p1), .val (.int p2), .val (.int p3), .val (.int p4), .val (.int qc), .val (.int (Int32.ofNat oo)), .val (.ref b5), .val (.ref b28), .val (.ref b30), .val (.ref b31), .val (.ref rx), .val (.int (6 : Int32)), .val (.ref rs)] [])) _
        refine XS.aload X57.here hx rfl (hb hby at_383) rfl rfl ?_
        show Steps p.tables e below (T57.setTop (mkF m 385 #[.val (.int p1), .val (.int p2), .val (.int p3), .val (.int p4), .val (.int qc), .val (.int (Int32.ofNat oo)), .val (.ref b5), .val (.ref b28), .val (.ref b30), .val (.ref b31), .val (.ref rx), .val (.int (6 : Int32)), .val (.ref rs)] [(.ref rs)])) _
        refine XS.aload X57.here hx rfl (hb hby at_385) rfl rfl ?_
        show Steps p.tables e below (T57.setTop (mkF m 387 #[.val (.int p1), .val (.int p2), .val (.int p3), .val (.int p4), .val (.int qc), .val (.int (Int32.ofNat oo)), .val (.ref b5), .val (.ref b28), .val (.ref b30), .val (.ref b31), .val (.ref rx), .val (.int (6 : Int32)), .val (.ref rs)] [(.ref b31), (.ref rs)])) _
        refine XS.aload X57.here hx rfl (hb hby at_387) rfl rfl ?_
        show Steps p.tables e below (T57.setTop (mkF m 389 #[.val (.int p1), .val (.int p2), .val (.int p3), .val (.int p4), .val (.int qc), .val (.int (Int32.ofNat oo)), .val (.ref b5), .val (.ref b28), .val (.ref b30), .val (.ref b31), .val (.ref rx), .val (.int (6 : Int32)), .val (.ref rs)] [(.ref b30), (.ref b31), (.ref rs)])) _
        refine XS.iconst X57.here hx rfl (hb hby at_389) ?_
        show Steps p.tables e below (T57.setTop (mkF m 390 #[.val (.int p1), .val (.int p2), .val (.int p3), .val (.int p4), .val (.int qc), .val (.int (Int32.ofNat oo)), .val (.ref b5), .val (.ref b28), .val (.ref b30), .val (.ref b31), .val (.ref rx), .val (.int (6 : Int32)), .val (.ref rs)] [(.int (1 : Int32)), (.ref b30), (.ref b31), (.ref rs)])) _
        refine X57.iaload hx (j := (1 : Int32)) (v := (.int (Int32.ofNat ac.length))) (by rw [e57]; exact Ar58.1) (State.isArrayOf_alike hZ.alike Ar58.2.1) Ar58.2.2 hin58 (Has.at aH58 hin58 (by rw [← hO]; rfl)) (g := (mkF m 390 #[.val (.int p1), .val (.int p2), .val (.int p3), .val (.int p4), .val (.int qc), .val (.int (Int32.ofNat oo)), .val (.ref b5), .val (.ref b28), .val (.ref b30), .val (.ref b31), .val (.ref rx), .val (.int (6 : Int32)), .val (.ref rs)] [(.int (1 : Int32)), (.ref b30), (.ref b31), (.ref rs)])) rfl rfl (hb hby at_390) _ ?_
        show Steps p.tables e below (T57.setTop (mkF m 391 #[.val (.int p1), .val (.int p2), .val (.int p3), .val (.int p4), .val (.int qc), .val (.int (Int32.ofNat oo)), .val (.ref b5), .val (.ref b28), .val (.ref b30), .val (.ref b31), .val (.ref rx), .val (.int (6 : Int32)), .val (.ref rs)] [(.int (Int32.ofNat ac.length)), (.ref b31), (.ref rs)])) _
        refine XS.iconst X57.here hx rfl (hb hby at_391) ?_
        show Steps p.tables e below (T57.setTop (mkF m 392 #[.val (.int p1), .val (.int p2), .val (.int p3), .val (.int p4), .val (.int qc), .val (.int (Int32.ofNat oo)), .val (.ref b5), .val (.ref b28), .val (.ref b30), .val (.ref b31), .val (.ref rx), .val (.int (6 : Int32)), .val (.ref rs)] [(.int (4 : Int32)), (.int (Int32.ofNat ac.length)), (.ref b31), (.ref rs)])) _
        refine st59 _ ?_
        show Steps p.tables e below (T59.setTop (mkF m 395 #[.val (.int p1), .val (.int p2), .val (.int p3), .val (.int p4), .val (.int qc), .val (.int (Int32.ofNat oo)), .val (.ref b5), .val (.ref b28), .val (.ref b30), .val (.ref b31), .val (.ref rx), .val (.int (6 : Int32)), .val (.ref rs)] [(.int (1 : Int32))])) _
        refine XS.ifNo X59.here hx rfl (hb hby at_395) rfl ((if0 _ _).trans (feq (by decide : ¬ ((1 : Int32) = (0 : Int32)))).1) ?_
        show Steps p.tables e below (T59.setTop (mkF m 398 #[.val (.int p1), .val (.int p2), .val (.int p3), .val (.int p4), .val (.int qc), .val (.int (Int32.ofNat oo)), .val (.ref b5), .val (.ref b28), .val (.ref b30), .val (.ref b31), .val (.ref rx), .val (.int (6 : Int32)), .val (.ref rs)] [])) _
        refine XS.iconst X59.here hx rfl (hb hby at_398) ?_
        show Steps p.tables e below (T59.setTop (mkF m 399 #[.val (.int p1), .val (.int p2), .val (.int p3), .val (.int p4), .val (.int qc), .val (.int (Int32.ofNat oo)), .val (.ref b5), .val (.ref b28), .val (.ref b30), .val (.ref b31), .val (.ref rx), .val (.int (6 : Int32)), .val (.ref rs)] [(.int (1 : Int32))])) _
        refine XS.goto X59.here hx rfl (pc0 := 399) (pc' := 403) rfl (hb hby at_399) (by decide) (by decide) ?_
        show Steps p.tables e below (T59.setTop (mkF m 403 #[.val (.int p1), .val (.int p2), .val (.int p3), .val (.int p4), .val (.int qc), .val (.int (Int32.ofNat oo)), .val (.ref b5), .val (.ref b28), .val (.ref b30), .val (.ref b31), .val (.ref rx), .val (.int (6 : Int32)), .val (.ref rs)] [(.int (1 : Int32))])) _
        exact retN X59 hx (t := .boolean) Bd.returns (by simp) (hb hby at_403) hr
      · show Q_rm0 Z p1 p2 p3 p4 cz fS fi h0 n0 _ T59.heap _
        rw [e59]
        exact ⟨rfl, N59⟩
    · obtain ⟨cl60, Ar60, aq60, aS60, aN60, aH60, aG60⟩ := id f160
      have hin60 : ¬ ((2 : Int32) < 0 ∨ cl60.slots.size ≤ ((2 : Int32)).toNatClampNeg) := inb_of aS60 ⟨by decide, by decide⟩
      obtain ⟨cq61, kq61, q61a, q61b, q61c⟩ := isOf hZ (rfl : T41.heap = T41.heap) fk41_0
      obtain ⟨_, _, ⟨T61, L61, k61, n61⟩, -, X61, ⟨Lc61, hQ61, l61, y61, z61⟩, st61⟩ := X41.virtualBack hx (y := (⟨"com/example/purveyor/purveyor/sqlite/QuotedText$Run", "content", "()Ljava/lang/String;"⟩ : MethodName)) (z := (⟨"com/example/purveyor/purveyor/sqlite/QuotedText$Run", "content", "()Ljava/lang/String;"⟩ : MethodName)) hown (mvT hZ (hw _ (List.mem_of_getElem? (i := 231) rfl))) (mvT hZ (hw _ (List.mem_of_getElem? (i := 232) rfl))) (notFace_of_selects (args := #[]) (mvT hZ (hw _ (List.mem_of_getElem? (i := 234) rfl)))) (mvT hZ (hw _ (List.mem_of_getElem? (i := 234) rfl))) (mvT hZ (hw _ (List.mem_of_getElem? (i := 233) rfl))) (by decide) (backOf (W := 0) (rm_ct l Z a0 hw [] rx rs T41.heap n0 Z41 fk41_1) hZ (hw _ (List.mem_of_getElem? (i := 235) rfl)) (hw _ (List.mem_of_getElem? (i := 179) rfl)) (by decide) (by decide)) q61a q61c (g := (mkF m 294 #[.val (.int p1), .val (.int p2), .val (.int p3), .val (.int p4), .val (.int qc), .val (.int (Int32.ofNat oo)), .val (.ref b5), .val (.ref b28), .val (.ref b30), .val (.ref b31), .val (.ref rx), .val (.int s5.2.1), .unset] [(.ref rx)])) rfl (by rw [hml]; rfl) (Steps.refl _) (argsL := []) (rest := []) (lenOf pd___Ljava_lang_String__1777 rfl) rfl (by show 2 * 0 + _ ≤ _; exact Nat.le_of_eq rfl) (hb hby at_294) (fun _ _ => ⟨rfl, rfl, (by decide : 10 + 0 ≤ _), (by decide : 67 + 0 ≤ _)⟩)
      dsimp only [Pt.U, Pt.locs, Pt.cells, Pt.slots] at X61 l61 y61 z61 st61 hQ61
      rw [l61, y61, z61] at X61
      obtain ⟨rfl, N61q, e61⟩ := hQ61
      have N61 := Fr.app N41 N61q
      obtain ⟨cq62, kq62, q62a, q62b, q62c⟩ := isOf hZ e61 fk41_0
      obtain ⟨_, _, ⟨T62, L62, k62, n62⟩, -, X62, ⟨Lc62, hQ62, l62, y62, z62⟩, st62⟩ := X61.virtualBack hx (y := (⟨"com/example/purveyor/purveyor/sqlite/QuotedText$Run", "end", "()I"⟩ : MethodName)) (z := (⟨"com/example/purveyor/purveyor/sqlite/QuotedText$Run", "end", "()I"⟩ : MethodName)) hown (mvT hZ (hw _ (List.mem_of_getElem? (i := 236) rfl))) (mvT hZ (hw _ (List.mem_of_getElem? (i := 237) rfl))) (notFace_of_selects (args := #[]) (mvT hZ (hw _ (List.mem_of_getElem? (i := 239) rfl)))) (mvT hZ (hw _ (List.mem_of_getElem? (i := 239) rfl))) (mvT hZ (hw _ (List.mem_of_getElem? (i := 238) rfl))) (by decide) (backOf (W := 0) (rm_en l Z a0 hw [] rx (Int32.ofNat en) T41.heap n0 Z41 fk41_2) hZ (hw _ (List.mem_of_getElem? (i := 240) rfl)) (hw _ (List.mem_of_getElem? (i := 179) rfl)) (by decide) (by decide)) q62a q62c (g := (mkF m 301 #[.val (.int p1), .val (.int p2), .val (.int p3), .val (.int p4), .val (.int qc), .val (.int (Int32.ofNat oo)), .val (.ref b5), .val (.ref b28), .val (.ref b30), .val (.ref b31), .val (.ref rx), .val (.int s5.2.1), .val (.ref rs)] [(.ref rx)])) rfl (by rw [hml]; rfl) (Steps.refl _) (argsL := []) (rest := []) (lenOf pd___I_154 rfl) rfl (by show 2 * 0 + _ ≤ _; exact Nat.le_of_eq rfl) (hb hby at_301) (fun _ _ => ⟨rfl, e61, (by decide : 10 + 0 ≤ _), (by decide : 67 + 0 ≤ _)⟩)
      dsimp only [Pt.U, Pt.locs, Pt.cells, Pt.slots] at X62 l62 y62 z62 st62 hQ62
      rw [l62, y62, z62] at X62
      obtain ⟨rfl, N62q, e62⟩ := hQ62
      have N62 := Fr.app N61 N62q
      obtain ⟨cq63, kq63, q63a, q63b, q63c⟩ := isOf hZ e62 fk41_3
      obtain ⟨_, _, ⟨T63, L63, k63, n63⟩, -, X63, ⟨Lc63, hQ63, l63, y63, z63⟩, st63⟩ := X62.virtualBack hx (y := (⟨"java/lang/String", "length", "()I"⟩ : MethodName)) (z := (⟨"java/lang/String", "length", "()I"⟩ : MethodName)) hown (mvT hZ (hw _ (List.mem_of_getElem? (i := 241) rfl))) (mvT hZ (hw _ (List.mem_of_getElem? (i := 89) rfl))) (notFace_of_selects (args := #[]) (mvT hZ (hw _ (List.mem_of_getElem? (i := 91) rfl)))) (mvT hZ (hw _ (List.mem_of_getElem? (i := 91) rfl))) (mvT hZ (hw _ (List.mem_of_getElem? (i := 90) rfl))) (by decide) (StrChars.Road.lenW (W := 0) hZ (fun d hd => hw d (own_wLen d hd)) (kI := 4) (hw _ (List.mem_of_getElem? (i := 7) rfl)) (cs := ac) fk41_3 fk41_5 fk41_4 fk41_6 (own_cod ac hpac) (own_up _ hpac) f147 hcs (by omega) (by decide) (by decide)) q63a q63c (g := (mkF m 311 #[.val (.int p1), .val (.int p2), .val (.int p3), .val (.int p4), .val (.int qc), .val (.int (Int32.ofNat oo)), .val (.ref b5), .val (.ref b28), .val (.ref b30), .val (.ref b31), .val (.ref rx), .val (.int s5.2.1), .val (.ref rs)] [(.ref rs)])) rfl (by rw [hml]; rfl) (Steps.refl _) (argsL := []) (rest := []) (lenOf pd___I_154 rfl) rfl (by show 2 * 0 + _ ≤ _; exact Nat.le_of_eq rfl) (hb hby at_311) (fun _ _ => ⟨rfl, e62, (by decide : 10 + 0 ≤ _), (by decide : 67 + 0 ≤ _)⟩)
      dsimp only [Pt.U, Pt.locs, Pt.cells, Pt.slots] at X63 l63 y63 z63 st63 hQ63
      rw [l63, y63, z63] at X63
      obtain ⟨rfl, rfl, e63⟩ := hQ63
      have N63q := Fr.nil n0
      have N63 := Fr.app N62 N63q
      obtain ⟨cl64, Ar64, aq64, aS64, aN64, aH64, aG64⟩ := id f160
      have hin64 : ¬ ((1 : Int32) < 0 ∨ cl64.slots.size ≤ ((1 : Int32)).toNatClampNeg) := inb_of aS64 ⟨by decide, by decide⟩
      have V_b31_65 : Arv Z T41.heap b31 k31 .char (6 : Int32) (ac.map Value.int) (.int 0) := by rw [← hO]; exact f161
      obtain ⟨cl66, Ar66, aq66, aS66, aN66, aH66, aG66⟩ := id f160
      have hin66 : ¬ ((1 : Int32) < 0 ∨ cl66.slots.size ≤ ((1 : Int32)).toNatClampNeg) := inb_of aS66 ⟨by decide, by decide⟩
      obtain ⟨_, _, ⟨T67, L67, k67, n67⟩, -, X67, ⟨Lc67, hQ67, l67, y67, z67⟩, st67⟩ := Jvm.LawKit.callS X63 hx (y := (⟨"com/example/purveyor/purveyor/sqlite/QuotedTextReadPinLaw", "same", "(Ljava/lang/String;[CII)Z"⟩ : MethodName)) hown (mvT hZ (hw _ (List.mem_of_getElem? (i := 242) rfl))) (mvT hZ (hw _ (List.mem_of_getElem? (i := 243) rfl))) (mvT hZ (hw _ (List.mem_of_getElem? (i := 4) rfl))) (mvT hZ (hw _ (List.mem_of_getElem? (i := 244) rfl))) (by decide) (backOf (W := 0) (rm_sm l Z a0 hw [] rs b31 rt rk k31 ac 0 cz fS T41.heap n0 Z41 fk41_3 fk41_4 fk41_5 fk41_6 V_b31_65 (by decide) hpac (by omega) f147 hcs f148 hsi) hZ (hw _ (List.mem_of_getElem? (i := 244) rfl)) (hw _ (List.mem_of_getElem? (i := 4) rfl)) (by decide) (by decide)) (g := (mkF m 332 #[.val (.int p1), .val (.int p2), .val (.int p3), .val (.int p4), .val (.int qc), .val (.int (Int32.ofNat oo)), .val (.ref b5), .val (.ref b28), .val (.ref b30), .val (.ref b31), .val (.ref rx), .val (.int s5.2.1), .val (.ref rs)] [(.int (0 : Int32)), (.int (Int32.ofNat ac.length)), (.ref b31), (.ref rs)])) rfl (by rw [hml]; rfl) (argsL := [(.ref rs), (.ref b31), (.int (Int32.ofNat ac.length)), (.int (0 : Int32))]) (rest := []) (lenOf pd__Ljava_lang_String__CII_Z_2171 rfl) rfl (by show 2 * 0 + _ ≤ _; exact Nat.le_of_eq rfl) (hb hby at_332) (fun _ _ => ⟨rfl, e63, (by decide : 10 + 0 ≤ _), (by decide : 67 + 0 ≤ _)⟩)
      dsimp only [Pt.U, Pt.locs, Pt.cells, Pt.slots] at X67 l67 y67 z67 st67 hQ67
      rw [l67, y67, z67] at X67
      obtain ⟨rfl, N67q, e67⟩ := hQ67
      have N67 := Fr.app N63 N67q
      obtain ⟨cl68, Ar68, aq68, aS68, aN68, aH68, aG68⟩ := id f160
      have hin68 : ¬ ((1 : Int32) < 0 ∨ cl68.slots.size ≤ ((1 : Int32)).toNatClampNeg) := inb_of aS68 ⟨by decide, by decide⟩
      obtain ⟨_, _, ⟨T69, L69, k69, n69⟩, -, X69, ⟨Lc69, hQ69, l69, y69, z69⟩, st69⟩ := Jvm.LawKit.callS X67 hx (y := (⟨"com/example/purveyor/purveyor/sqlite/QuotedTextReadPinLaw", "same", "(Ljava/lang/String;[CII)Z"⟩ : MethodName)) hown (mvT hZ (hw _ (List.mem_of_getElem? (i := 242) rfl))) (mvT hZ (hw _ (List.mem_of_getElem? (i := 243) rfl))) (mvT hZ (hw _ (List.mem_of_getElem? (i := 4) rfl))) (mvT hZ (hw _ (List.mem_of_getElem? (i := 244) rfl))) (by decide) (backOf (W := 0) (rm_sm l Z a0 hw [] rs b31 rt rk k31 ac 1 cz fS T41.heap n0 Z41 fk41_3 fk41_4 fk41_5 fk41_6 V_b31_65 (by decide) hpac (by omega) f147 hcs f148 hsi) hZ (hw _ (List.mem_of_getElem? (i := 244) rfl)) (hw _ (List.mem_of_getElem? (i := 4) rfl)) (by decide) (by decide)) (g := (mkF m 347 #[.val (.int p1), .val (.int p2), .val (.int p3), .val (.int p4), .val (.int qc), .val (.int (Int32.ofNat oo)), .val (.ref b5), .val (.ref b28), .val (.ref b30), .val (.ref b31), .val (.ref rx), .val (.int s5.2.1), .val (.ref rs)] [(.int (1 : Int32)), (.int (Int32.ofNat ac.length)), (.ref b31), (.ref rs)])) rfl (by rw [hml]; rfl) (argsL := [(.ref rs), (.ref b31), (.int (Int32.ofNat ac.length)), (.int (1 : Int32))]) (rest := []) (lenOf pd__Ljava_lang_String__CII_Z_2171 rfl) rfl (by show 2 * 0 + _ ≤ _; exact Nat.le_of_eq rfl) (hb hby at_347) (fun _ _ => ⟨rfl, e67, (by decide : 10 + 0 ≤ _), (by decide : 67 + 0 ≤ _)⟩)
      dsimp only [Pt.U, Pt.locs, Pt.cells, Pt.slots] at X69 l69 y69 z69 st69 hQ69
      rw [l69, y69, z69] at X69
      obtain ⟨rfl, N69q, e69⟩ := hQ69
      have N69 := Fr.app N67 N69q
      obtain ⟨cl70, Ar70, aq70, aS70, aN70, aH70, aG70⟩ := id f160
      have hin70 : ¬ ((1 : Int32) < 0 ∨ cl70.slots.size ≤ ((1 : Int32)).toNatClampNeg) := inb_of aS70 ⟨by decide, by decide⟩
      obtain ⟨_, _, ⟨T71, L71, k71, n71⟩, -, X71, ⟨Lc71, hQ71, l71, y71, z71⟩, st71⟩ := Jvm.LawKit.callS X69 hx (y := (⟨"com/example/purveyor/purveyor/sqlite/QuotedTextReadPinLaw", "same", "(Ljava/lang/String;[CII)Z"⟩ : MethodName)) hown (mvT hZ (hw _ (List.mem_of_getElem? (i := 242) rfl))) (mvT hZ (hw _ (List.mem_of_getElem? (i := 243) rfl))) (mvT hZ (hw _ (List.mem_of_getElem? (i := 4) rfl))) (mvT hZ (hw _ (List.mem_of_getElem? (i := 244) rfl))) (by decide) (backOf (W := 0) (rm_sm l Z a0 hw [] rs b31 rt rk k31 ac 2 cz fS T41.heap n0 Z41 fk41_3 fk41_4 fk41_5 fk41_6 V_b31_65 (by decide) hpac (by omega) f147 hcs f148 hsi) hZ (hw _ (List.mem_of_getElem? (i := 244) rfl)) (hw _ (List.mem_of_getElem? (i := 4) rfl)) (by decide) (by decide)) (g := (mkF m 362 #[.val (.int p1), .val (.int p2), .val (.int p3), .val (.int p4), .val (.int qc), .val (.int (Int32.ofNat oo)), .val (.ref b5), .val (.ref b28), .val (.ref b30), .val (.ref b31), .val (.ref rx), .val (.int s5.2.1), .val (.ref rs)] [(.int (2 : Int32)), (.int (Int32.ofNat ac.length)), (.ref b31), (.ref rs)])) rfl (by rw [hml]; rfl) (argsL := [(.ref rs), (.ref b31), (.int (Int32.ofNat ac.length)), (.int (2 : Int32))]) (rest := []) (lenOf pd__Ljava_lang_String__CII_Z_2171 rfl) rfl (by show 2 * 0 + _ ≤ _; exact Nat.le_of_eq rfl) (hb hby at_362) (fun _ _ => ⟨rfl, e69, (by decide : 10 + 0 ≤ _), (by decide : 67 + 0 ≤ _)⟩)
      dsimp only [Pt.U, Pt.locs, Pt.cells, Pt.slots] at X71 l71 y71 z71 st71 hQ71
      rw [l71, y71, z71] at X71
      obtain ⟨rfl, N71q, e71⟩ := hQ71
      have N71 := Fr.app N69 N71q
      obtain ⟨cl72, Ar72, aq72, aS72, aN72, aH72, aG72⟩ := id f160
      have hin72 : ¬ ((1 : Int32) < 0 ∨ cl72.slots.size ≤ ((1 : Int32)).toNatClampNeg) := inb_of aS72 ⟨by decide, by decide⟩
      obtain ⟨_, _, ⟨T73, L73, k73, n73⟩, -, X73, ⟨Lc73, hQ73, l73, y73, z73⟩, st73⟩ := Jvm.LawKit.callS X71 hx (y := (⟨"com/example/purveyor/purveyor/sqlite/QuotedTextReadPinLaw", "same", "(Ljava/lang/String;[CII)Z"⟩ : MethodName)) hown (mvT hZ (hw _ (List.mem_of_getElem? (i := 242) rfl))) (mvT hZ (hw _ (List.mem_of_getElem? (i := 243) rfl))) (mvT hZ (hw _ (List.mem_of_getElem? (i := 4) rfl))) (mvT hZ (hw _ (List.mem_of_getElem? (i := 244) rfl))) (by decide) (backOf (W := 0) (rm_sm l Z a0 hw [] rs b31 rt rk k31 ac 3 cz fS T41.heap n0 Z41 fk41_3 fk41_4 fk41_5 fk41_6 V_b31_65 (by decide) hpac (by omega) f147 hcs f148 hsi) hZ (hw _ (List.mem_of_getElem? (i := 244) rfl)) (hw _ (List.mem_of_getElem? (i := 4) rfl)) (by decide) (by decide)) (g := (mkF m 377 #[.val (.int p1), .val (.int p2), .val (.int p3), .val (.int p4), .val (.int qc), .val (.int (Int32.ofNat oo)), .val (.ref b5), .val (.ref b28), .val (.ref b30), .val (.ref b31), .val (.ref rx), .val (.int s5.2.1), .val (.ref rs)] [(.int (3 : Int32)), (.int (Int32.ofNat ac.length)), (.ref b31), (.ref rs)])) rfl (by rw [hml]; rfl) (argsL := [(.ref rs), (.ref b31), (.int (Int32.ofNat ac.length)), (.int (3 : Int32))]) (rest := []) (lenOf pd__Ljava_lang_String__CII_Z_2171 rfl) rfl (by show 2 * 0 + _ ≤ _; exact Nat.le_of_eq rfl) (hb hby at_377) (fun _ _ => ⟨rfl, e71, (by decide : 10 + 0 ≤ _), (by decide : 67 + 0 ≤ _)⟩)
      dsimp only [Pt.U, Pt.locs, Pt.cells, Pt.slots] at X73 l73 y73 z73 st73 hQ73
      rw [l73, y73, z73] at X73
      obtain ⟨rfl, N73q, e73⟩ := hQ73
      have N73 := Fr.app N71 N73q
      obtain ⟨cl74, Ar74, aq74, aS74, aN74, aH74, aG74⟩ := id f160
      have hin74 : ¬ ((1 : Int32) < 0 ∨ cl74.slots.size ≤ ((1 : Int32)).toNatClampNeg) := inb_of aS74 ⟨by decide, by decide⟩
      obtain ⟨_, _, ⟨T75, L75, k75, n75⟩, -, X75, ⟨Lc75, hQ75, l75, y75, z75⟩, st75⟩ := Jvm.LawKit.callS X73 hx (y := (⟨"com/example/purveyor/purveyor/sqlite/QuotedTextReadPinLaw", "same", "(Ljava/lang/String;[CII)Z"⟩ : MethodName)) hown (mvT hZ (hw _ (List.mem_of_getElem? (i := 242) rfl))) (mvT hZ (hw _ (List.mem_of_getElem? (i := 243) rfl))) (mvT hZ (hw _ (List.mem_of_getElem? (i := 4) rfl))) (mvT hZ (hw _ (List.mem_of_getElem? (i := 244) rfl))) (by decide) (backOf (W := 0) (rm_sm l Z a0 hw [] rs b31 rt rk k31 ac 4 cz fS T41.heap n0 Z41 fk41_3 fk41_4 fk41_5 fk41_6 V_b31_65 (by decide) hpac (by omega) f147 hcs f148 hsi) hZ (hw _ (List.mem_of_getElem? (i := 244) rfl)) (hw _ (List.mem_of_getElem? (i := 4) rfl)) (by decide) (by decide)) (g := (mkF m 392 #[.val (.int p1), .val (.int p2), .val (.int p3), .val (.int p4), .val (.int qc), .val (.int (Int32.ofNat oo)), .val (.ref b5), .val (.ref b28), .val (.ref b30), .val (.ref b31), .val (.ref rx), .val (.int s5.2.1), .val (.ref rs)] [(.int (4 : Int32)), (.int (Int32.ofNat ac.length)), (.ref b31), (.ref rs)])) rfl (by rw [hml]; rfl) (argsL := [(.ref rs), (.ref b31), (.int (Int32.ofNat ac.length)), (.int (4 : Int32))]) (rest := []) (lenOf pd__Ljava_lang_String__CII_Z_2171 rfl) rfl (by show 2 * 0 + _ ≤ _; exact Nat.le_of_eq rfl) (hb hby at_392) (fun _ _ => ⟨rfl, e73, (by decide : 10 + 0 ≤ _), (by decide : 67 + 0 ≤ _)⟩)
      dsimp only [Pt.U, Pt.locs, Pt.cells, Pt.slots] at X75 l75 y75 z75 st75 hQ75
      rw [l75, y75, z75] at X75
      obtain ⟨rfl, N75q, e75⟩ := hQ75
      have N75 := Fr.app N73 N75q
      obtain ⟨fs, hr, hrun, hended, hW, hsame⟩ := X75.leave (v := some (.int (1 : Int32))) (fun h => by rw [Bd.returns] at h; cases h) (hlocks := Bd.notSynchronized)
      refine ⟨_, _, pre_44 _ ?_, hrun, hended, _, _, rfl, ?_, ⟨_, rfl⟩, hW, hsame.mono (by decide) (by decide)⟩
      · show Steps p.tables e below (T41.setTop (mkF m 278 #[.val (.int p1), .val (.int p2), .val (.int p3), .val (.int p4), .val (.int qc), .val (.int (Int32.ofNat oo)), .val (.ref b5), .val (.ref b28), .val (.ref b30), .val (.ref b31), .val (.ref rx), .unset, .unset] [(.int (1 : Int32)), (.int s5.1)])) _
        refine XS.icmpYes X41.here hx rfl (pc0 := 278) (pc' := 286) rfl (hb hby at_278) rfl (feq hc278).2 (by decide) (by decide) ?_
        show Steps p.tables e below (T41.setTop (mkF m 286 #[.val (.int p1), .val (.int p2), .val (.int p3), .val (.int p4), .val (.int qc), .val (.int (Int32.ofNat oo)), .val (.ref b5), .val (.ref b28), .val (.ref b30), .val (.ref b31), .val (.ref rx), .unset, .unset] [])) _
        refine XS.aload X41.here hx rfl (hb hby at_286) rfl rfl ?_
        show Steps p.tables e below (T41.setTop (mkF m 288 #[.val (.int p1), .val (.int p2), .val (.int p3), .val (.int p4), .val (.int qc), .val (.int (Int32.ofNat oo)), .val (.ref b5), .val (.ref b28), .val (.ref b30), .val (.ref b31), .val (.ref rx), .unset, .unset] [(.ref b30)])) _
        refine XS.iconst X41.here hx rfl (hb hby at_288) ?_
        show Steps p.tables e below (T41.setTop (mkF m 289 #[.val (.int p1), .val (.int p2), .val (.int p3), .val (.int p4), .val (.int qc), .val (.int (Int32.ofNat oo)), .val (.ref b5), .val (.ref b28), .val (.ref b30), .val (.ref b31), .val (.ref rx), .unset, .unset] [(.int (2 : Int32)), (.ref b30)])) _
        refine X41.iaload hx (j := (2 : Int32)) (v := (.int s5.2.1)) Ar60.1 (State.isArrayOf_alike hZ.alike Ar60.2.1) Ar60.2.2 hin60 (Has.at aH60 hin60 rfl) (g := (mkF m 289 #[.val (.int p1), .val (.int p2), .val (.int p3), .val (.int p4), .val (.int qc), .val (.int (Int32.ofNat oo)), .val (.ref b5), .val (.ref b28), .val (.ref b30), .val (.ref b31), .val (.ref rx), .unset, .unset] [(.int (2 : Int32)), (.ref b30)])) rfl rfl (hb hby at_289) _ ?_
        show Steps p.tables e below (T41.setTop (mkF m 290 #[.val (.int p1), .val (.int p2), .val (.int p3), .val (.int p4), .val (.int qc), .val (.int (Int32.ofNat oo)), .val (.ref b5), .val (.ref b28), .val (.ref b30), .val (.ref b31), .val (.ref rx), .unset, .unset] [(.int s5.2.1)])) _
        refine XS.istore X41.here hx rfl (hb hby at_290) rfl (l' := #[.val (.int p1), .val (.int p2), .val (.int p3), .val (.int p4), .val (.int qc), .val (.int (Int32.ofNat oo)), .val (.ref b5), .val (.ref b28), .val (.ref b30), .val (.ref b31), .val (.ref rx), .val (.int s5.2.1), .unset]) rfl ?_
        show Steps p.tables e below (T41.setTop (mkF m 292 #[.val (.int p1), .val (.int p2), .val (.int p3), .val (.int p4), .val (.int qc), .val (.int (Int32.ofNat oo)), .val (.ref b5), .val (.ref b28), .val (.ref b30), .val (.ref b31), .val (.ref rx), .val (.int s5.2.1), .unset] [])) _
        refine XS.aload X41.here hx rfl (hb hby at_292) rfl rfl ?_
        show Steps p.tables e below (T41.setTop (mkF m 294 #[.val (.int p1), .val (.int p2), .val (.int p3), .val (.int p4), .val (.int qc), .val (.int (Int32.ofNat oo)), .val (.ref b5), .val (.ref b28), .val (.ref b30), .val (.ref b31), .val (.ref rx), .val (.int s5.2.1), .unset] [(.ref rx)])) _
        refine st61.trans ?_
        show Steps p.tables e below (T61.setTop (mkF m 297 #[.val (.int p1), .val (.int p2), .val (.int p3), .val (.int p4), .val (.int qc), .val (.int (Int32.ofNat oo)), .val (.ref b5), .val (.ref b28), .val (.ref b30), .val (.ref b31), .val (.ref rx), .val (.int s5.2.1), .unset] [(.ref rs)])) _
        refine XS.astore X61.here hx rfl (hb hby at_297) rfl rfl (l' := #[.val (.int p1), .val (.int p2), .val (.int p3), .val (.int p4), .val (.int qc), .val (.int (Int32.ofNat oo)), .val (.ref b5), .val (.ref b28), .val (.ref b30), .val (.ref b31), .val (.ref rx), .val (.int s5.2.1), .val (.ref rs)]) rfl ?_
        show Steps p.tables e below (T61.setTop (mkF m 299 #[.val (.int p1), .val (.int p2), .val (.int p3), .val (.int p4), .val (.int qc), .val (.int (Int32.ofNat oo)), .val (.ref b5), .val (.ref b28), .val (.ref b30), .val (.ref b31), .val (.ref rx), .val (.int s5.2.1), .val (.ref rs)] [])) _
        refine XS.aload X61.here hx rfl (hb hby at_299) rfl rfl ?_
        show Steps p.tables e below (T61.setTop (mkF m 301 #[.val (.int p1), .val (.int p2), .val (.int p3), .val (.int p4), .val (.int qc), .val (.int (Int32.ofNat oo)), .val (.ref b5), .val (.ref b28), .val (.ref b30), .val (.ref b31), .val (.ref rx), .val (.int s5.2.1), .val (.ref rs)] [(.ref rx)])) _
        refine st62.trans ?_
        show Steps p.tables e below (T62.setTop (mkF m 304 #[.val (.int p1), .val (.int p2), .val (.int p3), .val (.int p4), .val (.int qc), .val (.int (Int32.ofNat oo)), .val (.ref b5), .val (.ref b28), .val (.ref b30), .val (.ref b31), .val (.ref rx), .val (.int s5.2.1), .val (.ref rs)] [(.int (Int32.ofNat en))])) _
        refine XS.iload X62.here hx rfl (hb hby at_304) rfl ?_
        show Steps p.tables e below (T62.setTop (mkF m 306 #[.val (.int p1), .val (.int p2), .val (.int p3), .val (.int p4), .val (.int qc), .val (.int (Int32.ofNat oo)), .val (.ref b5), .val (.ref b28), .val (.ref b30), .val (.ref b31), .val (.ref rx), .val (.int s5.2.1), .val (.ref rs)] [(.int s5.2.1), (.int (Int32.ofNat en))])) _
        refine XS.icmpNo X62.here hx rfl (hb hby at_306) rfl (teq (hE.elim (fun q => absurd q.1 hc278) (fun q => q.2.symm))).2 ?_
        show Steps p.tables e below (T62.setTop (mkF m 309 #[.val (.int p1), .val (.int p2), .val (.int p3), .val (.int p4), .val (.int qc), .val (.int (Int32.ofNat oo)), .val (.ref b5), .val (.ref b28), .val (.ref b30), .val (.ref b31), .val (.ref rx), .val (.int s5.2.1), .val (.ref rs)] [])) _
        refine XS.aload X62.here hx rfl (hb hby at_309) rfl rfl ?_
        show Steps p.tables e below (T62.setTop (mkF m 311 #[.val (.int p1), .val (.int p2), .val (.int p3), .val (.int p4), .val (.int qc), .val (.int (Int32.ofNat oo)), .val (.ref b5), .val (.ref b28), .val (.ref b30), .val (.ref b31), .val (.ref rx), .val (.int s5.2.1), .val (.ref rs)] [(.ref rs)])) _
        refine st63.trans ?_
        show Steps p.tables e below (T63.setTop (mkF m 314 #[.val (.int p1), .val (.int p2), .val (.int p3), .val (.int p4), .val (.int qc), .val (.int (Int32.ofNat oo)), .val (.ref b5), .val (.ref b28), .val (.ref b30), .val (.ref b31), .val (.ref rx), .val (.int s5.2.1), .val (.ref rs)] [(.int (Int32.ofNat ac.length))])) _
        refine XS.aload X63.here hx rfl (hb hby at_314) rfl rfl ?_
        show Steps p.tables e below (T63.setTop (mkF m 316 #[.val (.int p1), .val (.int p2), .val (.int p3), .val (.int p4), .val (.int qc), .val (.int (Int32.ofNat oo)), .val (.ref b5), .val (.ref b28), .val (.ref b30), .val (.ref b31), .val (.ref rx), .val (.int s5.2.1), .val (.ref rs)] [(.ref b30), (.int (Int32.ofNat ac.length))])) _
        refine XS.iconst X63.here hx rfl (hb hby at_316) ?_
        show Steps p.tables e below (T63.setTop (mkF m 317 #[.val (.int p1), .val (.int p2), .val (.int p3), .val (.int p4), .val (.int qc), .val (.int (Int32.ofNat oo)), .val (.ref b5), .val (.ref b28), .val (.ref b30), .val (.ref b31), .val (.ref rx), .val (.int s5.2.1), .val (.ref rs)] [(.int (1 : Int32)), (.ref b30), (.int (Int32.ofNat ac.length))])) _
        refine X63.iaload hx (j := (1 : Int32)) (v := (.int (Int32.ofNat ac.length))) (by rw [e63]; exact Ar64.1) (State.isArrayOf_alike hZ.alike Ar64.2.1) Ar64.2.2 hin64 (Has.at aH64 hin64 (by rw [← hO]; rfl)) (g := (mkF m 317 #[.val (.int p1), .val (.int p2), .val (.int p3), .val (.int p4), .val (.int qc), .val (.int (Int32.ofNat oo)), .val (.ref b5), .val (.ref b28), .val (.ref b30), .val (.ref b31), .val (.ref rx), .val (.int s5.2.1), .val (.ref rs)] [(.int (1 : Int32)), (.ref b30), (.int (Int32.ofNat ac.length))])) rfl rfl (hb hby at_317) _ ?_
        show Steps p.tables e below (T63.setTop (mkF m 318 #[.val (.int p1), .val (.int p2), .val (.int p3), .val (.int p4), .val (.int qc), .val (.int (Int32.ofNat oo)), .val (.ref b5), .val (.ref b28), .val (.ref b30), .val (.ref b31), .val (.ref rx), .val (.int s5.2.1), .val (.ref rs)] [(.int (Int32.ofNat ac.length)), (.int (Int32.ofNat ac.length))])) _
        refine XS.icmpYes X63.here hx rfl (pc0 := 318) (pc' := 323) rfl (hb hby at_318) rfl (teq (rfl : (Int32.ofNat ac.length) = (Int32.ofNat ac.length))).1 (by decide) (by decide) ?_
        show Steps p.tables e below (T63.setTop (mkF m 323 #[.val (.int p1), .val (.int p2), .val (.int p3), .val (.int p4), .val (.int qc), .val (.int (Int32.ofNat oo)), .val (.ref b5), .val (.ref b28), .val (.ref b30), .val (.ref b31), .val (.ref rx), .val (.int s5.2.1), .val (.ref rs)] [])) _
        refine XS.aload X63.here hx rfl (hb hby at_323) rfl rfl ?_
        show Steps p.tables e below (T63.setTop (mkF m 325 #[.val (.int p1), .val (.int p2), .val (.int p3), .val (.int p4), .val (.int qc), .val (.int (Int32.ofNat oo)), .val (.ref b5), .val (.ref b28), .val (.ref b30), .val (.ref b31), .val (.ref rx), .val (.int s5.2.1), .val (.ref rs)] [(.ref rs)])) _
        refine XS.aload X63.here hx rfl (hb hby at_325) rfl rfl ?_
        show Steps p.tables e below (T63.setTop (mkF m 327 #[.val (.int p1), .val (.int p2), .val (.int p3), .val (.int p4), .val (.int qc), .val (.int (Int32.ofNat oo)), .val (.ref b5), .val (.ref b28), .val (.ref b30), .val (.ref b31), .val (.ref rx), .val (.int s5.2.1), .val (.ref rs)] [(.ref b31), (.ref rs)])) _
        refine XS.aload X63.here hx rfl (hb hby at_327) rfl rfl ?_
        show Steps p.tables e below (T63.setTop (mkF m 329 #[.val (.int p1), .val (.int p2), .val (.int p3), .val (.int p4), .val (.int qc), .val (.int (Int32.ofNat oo)), .val (.ref b5), .val (.ref b28), .val (.ref b30), .val (.ref b31), .val (.ref rx), .val (.int s5.2.1), .val (.ref rs)] [(.ref b30), (.ref b31), (.ref rs)])) _
        refine XS.iconst X63.here hx rfl (hb hby at_329) ?_
        show Steps p.tables e below (T63.setTop (mkF m 330 #[.val (.int p1), .val (.int p2), .val (.int p3), .val (.int p4), .val (.int qc), .val (.int (Int32.ofNat oo)), .val (.ref b5), .val (.ref b28), .val (.ref b30), .val (.ref b31), .val (.ref rx), .val (.int s5.2.1), .val (.ref rs)] [(.int (1 : Int32)), (.ref b30), (.ref b31), (.ref rs)])) _
        refine X63.iaload hx (j := (1 : Int32)) (v := (.int (Int32.ofNat ac.length))) (by rw [e63]; exact Ar66.1) (State.isArrayOf_alike hZ.alike Ar66.2.1) Ar66.2.2 hin66 (Has.at aH66 hin66 (by rw [← hO]; rfl)) (g := (mkF m 330 #[.val (.int p1), .val (.int p2), .val (.int p3), .val (.int p4), .val (.int qc), .val (.int (Int32.ofNat oo)), .val (.ref b5), .val (.ref b28), .val (.ref b30), .val (.ref b31), .val (.ref rx), .val (.int s5.2.1), .val (.ref rs)] [(.int (1 : Int32)), (.ref b30), (.ref b31), (.ref rs)])) rfl rfl (hb hby at_330) _ ?_
        show Steps p.tables e below (T63.setTop (mkF m 331 #[.val (.int p1), .val (.int p2), .val (.int p3), .val (.int p4), .val (.int qc), .val (.int (Int32.ofNat oo)), .val (.ref b5), .val (.ref b28), .val (.ref b30), .val (.ref b31), .val (.ref rx), .val (.int s5.2.1), .val (.ref rs)] [(.int (Int32.ofNat ac.length)), (.ref b31), (.ref rs)])) _
        refine XS.iconst X63.here hx rfl (hb hby at_331) ?_
        show Steps p.tables e below (T63.setTop (mkF m 332 #[.val (.int p1), .val (.int p2), .val (.int p3), .val (.int p4), .val (.int qc), .val (.int (Int32.ofNat oo)), .val (.ref b5), .val (.ref b28), .val (.ref b30), .val (.ref b31), .val (.ref rx), .val (.int s5.2.1), .val (.ref rs)] [(.int (0 : Int32)), (.int (Int32.ofNat ac.length)), (.ref b31), (.ref rs)])) _
        refine st67 _ ?_
        show Steps p.tables e below (T67.setTop (mkF m 335 #[.val (.int p1), .val (.int p2), .val (.int p3), .val (.int p4), .val (.int qc), .val (.int (Int32.ofNat oo)), .val (.ref b5), .val (.ref b28), .val (.ref b30), .val (.ref b31), .val (.ref rx), .val (.int s5.2.1), .val (.ref rs)] [(.int (1 : Int32))])) _
        refine XS.ifNo X67.here hx rfl (hb hby at_335) rfl ((if0 _ _).trans (feq (by decide : ¬ ((1 : Int32) = (0 : Int32)))).1) ?_
        show Steps p.tables e below (T67.setTop (mkF m 338 #[.val (.int p1), .val (.int p2), .val (.int p3), .val (.int p4), .val (.int qc), .val (.int (Int32.ofNat oo)), .val (.ref b5), .val (.ref b28), .val (.ref b30), .val (.ref b31), .val (.ref rx), .val (.int s5.2.1), .val (.ref rs)] [])) _
        refine XS.aload X67.here hx rfl (hb hby at_338) rfl rfl ?_
        show Steps p.tables e below (T67.setTop (mkF m 340 #[.val (.int p1), .val (.int p2), .val (.int p3), .val (.int p4), .val (.int qc), .val (.int (Int32.ofNat oo)), .val (.ref b5), .val (.ref b28), .val (.ref b30), .val (.ref b31), .val (.ref rx), .val (.int s5.2.1), .val (.ref rs)] [(.ref rs)])) _
        refine XS.aload X67.here hx rfl (hb hby at_340) rfl rfl ?_
        show Steps p.tables e below (T67.setTop (mkF m 342 #[.val (.int p1), .val (.int p2), .val (.int p3), .val (.int p4), .val (.int qc), .val (.int (Int32.ofNat oo)), .val (.ref b5), .val (.ref b28), .val (.ref b30), .val (.ref b31), .val (.ref rx), .val (.int s5.2.1), .val (.ref rs)] [(.ref b31), (.ref rs)])) _
        refine XS.aload X67.here hx rfl (hb hby at_342) rfl rfl ?_
        show Steps p.tables e below (T67.setTop (mkF m 344 #[.val (.int p1), .val (.int p2), .val (.int p3), .val (.int p4), .val (.int qc), .val (.int (Int32.ofNat oo)), .val (.ref b5), .val (.ref b28), .val (.ref b30), .val (.ref b31), .val (.ref rx), .val (.int s5.2.1), .val (.ref rs)] [(.ref b30), (.ref b31), (.ref rs)])) _
        refine XS.iconst X67.here hx rfl (hb hby at_344) ?_
        show Steps p.tables e below (T67.setTop (mkF m 345 #[.val (.int p1), .val (.int p2), .val (.int p3), .val (.int p4), .val (.int qc), .val (.int (Int32.ofNat oo)), .val (.ref b5), .val (.ref b28), .val (.ref b30), .val (.ref b31), .val (.ref rx), .val (.int s5.2.1), .val (.ref rs)] [(.int (1 : Int32)), (.ref b30), (.ref b31), (.ref rs)])) _
        refine X67.iaload hx (j := (1 : Int32)) (v := (.int (Int32.ofNat ac.length))) (by rw [e67]; exact Ar68.1) (State.isArrayOf_alike hZ.alike Ar68.2.1) Ar68.2.2 hin68 (Has.at aH68 hin68 (by rw [← hO]; rfl)) (g := (mkF m 345 #[.val (.int p1), .val (.int p2), .val (.int p3), .val (.int p4), .val (.int qc), .val (.int (Int32.ofNat oo)), .val (.ref b5), .val (.ref b28), .val (.ref b30), .val (.ref b31), .val (.ref rx), .val (.int s5.2.1), .val (.ref rs)] [(.int (1 : Int32)), (.ref b30), (.ref b31), (.ref rs)])) rfl rfl (hb hby at_345) _ ?_
        show Steps p.tables e below (T67.setTop (mkF m 346 #[.val (.int p1), .val (.int p2), .val (.int p3), .val (.int p4), .val (.int qc), .val (.int (Int32.ofNat oo)), .val (.ref b5), .val (.ref b28), .val (.ref b30), .val (.ref b31), .val (.ref rx), .val (.int s5.2.1), .val (.ref rs)] [(.int (Int32.ofNat ac.length)), (.ref b31), (.ref rs)])) _
        refine XS.iconst X67.here hx rfl (hb hby at_346) ?_
        show Steps p.tables e below (T67.setTop (mkF m 347 #[.val (.int p1), .val (.int p2), .val (.int p3), .val (.int p4), .val (.int qc), .val (.int (Int32.ofNat oo)), .val (.ref b5), .val (.ref b28), .val (.ref b30), .val (.ref b31), .val (.ref rx), .val (.int s5.2.1), .val (.ref rs)] [(.int (1 : Int32)), (.int (Int32.ofNat ac.length)), (.ref b31), (.ref rs)])) _
        refine st69 _ ?_
        show Steps p.tables e below (T69.setTop (mkF m 350 #[.val (.int p1), .val (.int p2), .val (.int p3), .val (.int p4), .val (.int qc), .val (.int (Int32.ofNat oo)), .val (.ref b5), .val (.ref b28), .val (.ref b30), .val (.ref b31), .val (.ref rx), .val (.int s5.2.1), .val (.ref rs)] [(.int (1 : Int32))])) _
        refine XS.ifNo X69.here hx rfl (hb hby at_350) rfl ((if0 _ _).trans (feq (by decide : ¬ ((1 : Int32) = (0 : Int32)))).1) ?_
        show Steps p.tables e below (T69.setTop (mkF m 353 #[.val (.int p1), .val (.int p2), .val (.int p3), .val (.int p4), .val (.int qc), .val (.int (Int32.ofNat oo)), .val (.ref b5), .val (.ref b28), .val (.ref b30), .val (.ref b31), .val (.ref rx), .val (.int s5.2.1), .val (.ref rs)] [])) _
        refine XS.aload X69.here hx rfl (hb hby at_353) rfl rfl ?_
        show Steps p.tables e below (T69.setTop (mkF m 355 #[.val (.int p1), .val (.int p2), .val (.int p3), .val (.int p4), .val (.int qc), .val (.int (Int32.ofNat oo)), .val (.ref b5), .val (.ref b28), .val (.ref b30), .val (.ref b31), .val (.ref rx), .val (.int s5.2.1), .val (.ref rs)] [(.ref rs)])) _
        refine XS.aload X69.here hx rfl (hb hby at_355) rfl rfl ?_
        show Steps p.tables e below (T69.setTop (mkF m 357 #[.val (.int p1), .val (.int p2), .val (.int p3), .val (.int p4), .val (.int qc), .val (.int (Int32.ofNat oo)), .val (.ref b5), .val (.ref b28), .val (.ref b30), .val (.ref b31), .val (.ref rx), .val (.int s5.2.1), .val (.ref rs)] [(.ref b31), (.ref rs)])) _
        refine XS.aload X69.here hx rfl (hb hby at_357) rfl rfl ?_
        show Steps p.tables e below (T69.setTop (mkF m 359 #[.val (.int p1), .val (.int p2), .val (.int p3), .val (.int p4), .val (.int qc), .val (.int (Int32.ofNat oo)), .val (.ref b5), .val (.ref b28), .val (.ref b30), .val (.ref b31), .val (.ref rx), .val (.int s5.2.1), .val (.ref rs)] [(.ref b30), (.ref b31), (.ref rs)])) _
        refine XS.iconst X69.here hx rfl (hb hby at_359) ?_
        show Steps p.tables e below (T69.setTop (mkF m 360 #[.val (.int p1), .val (.int p2), .val (.int p3), .val (.int p4), .val (.int qc), .val (.int (Int32.ofNat oo)), .val (.ref b5), .val (.ref b28), .val (.ref b30), .val (.ref b31), .val (.ref rx), .val (.int s5.2.1), .val (.ref rs)] [(.int (1 : Int32)), (.ref b30), (.ref b31), (.ref rs)])) _
        refine X69.iaload hx (j := (1 : Int32)) (v := (.int (Int32.ofNat ac.length))) (by rw [e69]; exact Ar70.1) (State.isArrayOf_alike hZ.alike Ar70.2.1) Ar70.2.2 hin70 (Has.at aH70 hin70 (by rw [← hO]; rfl)) (g := (mkF m 360 #[.val (.int p1), .val (.int p2), .val (.int p3), .val (.int p4), .val (.int qc), .val (.int (Int32.ofNat oo)), .val (.ref b5), .val (.ref b28), .val (.ref b30), .val (.ref b31), .val (.ref rx), .val (.int s5.2.1), .val (.ref rs)] [(.int (1 : Int32)), (.ref b30), (.ref b31), (.ref rs)])) rfl rfl (hb hby at_360) _ ?_
        show Steps p.tables e below (T69.setTop (mkF m 361 #[.val (.int p1), .val (.int p2), .val (.int p3), .val (.int p4), .val (.int qc), .val (.int (Int32.ofNat oo)), .val (.ref b5), .val (.ref b28), .val (.ref b30), .val (.ref b31), .val (.ref rx), .val (.int s5.2.1), .val (.ref rs)] [(.int (Int32.ofNat ac.length)), (.ref b31), (.ref rs)])) _
        refine XS.iconst X69.here hx rfl (hb hby at_361) ?_
        show Steps p.tables e below (T69.setTop (mkF m 362 #[.val (.int p1), .val (.int p2), .val (.int p3), .val (.int p4), .val (.int qc), .val (.int (Int32.ofNat oo)), .val (.ref b5), .val (.ref b28), .val (.ref b30), .val (.ref b31), .val (.ref rx), .val (.int s5.2.1), .val (.ref rs)] [(.int (2 : Int32)), (.int (Int32.ofNat ac.length)), (.ref b31), (.ref rs)])) _
        refine st71 _ ?_
        show Steps p.tables e below (T71.setTop (mkF m 365 #[.val (.int p1), .val (.int p2), .val (.int p3), .val (.int p4), .val (.int qc), .val (.int (Int32.ofNat oo)), .val (.ref b5), .val (.ref b28), .val (.ref b30), .val (.ref b31), .val (.ref rx), .val (.int s5.2.1), .val (.ref rs)] [(.int (1 : Int32))])) _
        refine XS.ifNo X71.here hx rfl (hb hby at_365) rfl ((if0 _ _).trans (feq (by decide : ¬ ((1 : Int32) = (0 : Int32)))).1) ?_
        show Steps p.tables e below (T71.setTop (mkF m 368 #[.val (.int p1), .val (.int p2), .val (.int p3), .val (.int p4), .val (.int qc), .val (.int (Int32.ofNat oo)), .val (.ref b5), .val (.ref b28), .val (.ref b30), .val (.ref b31), .val (.ref rx), .val (.int s5.2.1), .val (.ref rs)] [])) _
        refine XS.aload X71.here hx rfl (hb hby at_368) rfl rfl ?_
        show Steps p.tables e below (T71.setTop (mkF m 370 #[.val (.int p1), .val (.int p2), .val (.int p3), .val (.int p4), .val (.int qc), .val (.int (Int32.ofNat oo)), .val (.ref b5), .val (.ref b28), .val (.ref b30), .val (.ref b31), .val (.ref rx), .val (.int s5.2.1), .val (.ref rs)] [(.ref rs)])) _
        refine XS.aload X71.here hx rfl (hb hby at_370) rfl rfl ?_
        show Steps p.tables e below (T71.setTop (mkF m 372 #[.val (.int p1), .val (.int p2), .val (.int p3), .val (.int p4), .val (.int qc), .val (.int (Int32.ofNat oo)), .val (.ref b5), .val (.ref b28), .val (.ref b30), .val (.ref b31), .val (.ref rx), .val (.int s5.2.1), .val (.ref rs)] [(.ref b31), (.ref rs)])) _
        refine XS.aload X71.here hx rfl (hb hby at_372) rfl rfl ?_
        show Steps p.tables e below (T71.setTop (mkF m 374 #[.val (.int p1), .val (.int p2), .val (.int p3), .val (.int p4), .val (.int qc), .val (.int (Int32.ofNat oo)), .val (.ref b5), .val (.ref b28), .val (.ref b30), .val (.ref b31), .val (.ref rx), .val (.int s5.2.1), .val (.ref rs)] [(.ref b30), (.ref b31), (.ref rs)])) _
        refine XS.iconst X71.here hx rfl (hb hby at_374) ?_
        show Steps p.tables e below (T71.setTop (mkF m 375 #[.val (.int p1), .val (.int p2), .val (.int p3), .val (.int p4), .val (.int qc), .val (.int (Int32.ofNat oo)), .val (.ref b5), .val (.ref b28), .val (.ref b30), .val (.ref b31), .val (.ref rx), .val (.int s5.2.1), .val (.ref rs)] [(.int (1 : Int32)), (.ref b30), (.ref b31), (.ref rs)])) _
        refine X71.iaload hx (j := (1 : Int32)) (v := (.int (Int32.ofNat ac.length))) (by rw [e71]; exact Ar72.1) (State.isArrayOf_alike hZ.alike Ar72.2.1) Ar72.2.2 hin72 (Has.at aH72 hin72 (by rw [← hO]; rfl)) (g := (mkF m 375 #[.val (.int p1), .val (.int p2), .val (.int p3), .val (.int p4), .val (.int qc), .val (.int (Int32.ofNat oo)), .val (.ref b5), .val (.ref b28), .val (.ref b30), .val (.ref b31), .val (.ref rx), .val (.int s5.2.1), .val (.ref rs)] [(.int (1 : Int32)), (.ref b30), (.ref b31), (.ref rs)])) rfl rfl (hb hby at_375) _ ?_
        show Steps p.tables e below (T71.setTop (mkF m 376 #[.val (.int p1), .val (.int p2), .val (.int p3), .val (.int p4), .val (.int qc), .val (.int (Int32.ofNat oo)), .val (.ref b5), .val (.ref b28), .val (.ref b30), .val (.ref b31), .val (.ref rx), .val (.int s5.2.1), .val (.ref rs)] [(.int (Int32.ofNat ac.length)), (.ref b31), (.ref rs)])) _
        refine XS.iconst X71.here hx rfl (hb hby at_376) ?_
        show Steps p.tables e below (T71.setTop (mkF m 377 #[.val (.int p1), .val (.int p2), .val (.int p3), .val (.int p4), .val (.int qc), .val (.int (Int32.ofNat oo)), .val (.ref b5), .val (.ref b28), .val (.ref b30), .val (.ref b31), .val (.ref rx), .val (.int s5.2.1), .val (.ref rs)] [(.int (3 : Int32)), (.int (Int32.ofNat ac.length)), (.ref b31), (.ref rs)])) _
        refine st73 _ ?_
        show Steps p.tables e below (T73.setTop (mkF m 380 #[.val (.int p1), .val (.int p2), .val (.int p3), .val (.int p4), .val (.int qc), .val (.int (Int32.ofNat oo)), .val (.ref b5), .val (.ref b28), .val (.ref b30), .val (.ref b31), .val (.ref rx), .val (.int s5.2.1), .val (.ref rs)] [(.int (1 : Int32))])) _
        refine XS.ifNo X73.here hx rfl (hb hby at_380) rfl ((if0 _ _).trans (feq (by decide : ¬ ((1 : Int32) = (0 : Int32)))).1) ?_
        show Steps p.tables e below (T73.setTop (mkF m 383 #[.val (.int p1), .val (.int p2), .val (.int p3), .val (.int p4), .val (.int qc), .val (.int (Int32.ofNat oo)), .val (.ref b5), .val (.ref b28), .val (.ref b30), .val (.ref b31), .val (.ref rx), .val (.int s5.2.1), .val (.ref rs)] [])) _
        refine XS.aload X73.here hx rfl (hb hby at_383) rfl rfl ?_
        show Steps p.tables e below (T73.setTop (mkF m 385 #[.val (.int p1), .val (.int p2), .val (.int p3), .val (.int p4), .val (.int qc), .val (.int (Int32.ofNat oo)), .val (.ref b5), .val (.ref b28), .val (.ref b30), .val (.ref b31), .val (.ref rx), .val (.int s5.2.1), .val (.ref rs)] [(.ref rs)])) _
        refine XS.aload X73.here hx rfl (hb hby at_385) rfl rfl ?_
        show Steps p.tables e below (T73.setTop (mkF m 387 #[.val (.int p1), .val (.int p2), .val (.int p3), .val (.int p4), .val (.int qc), .val (.int (Int32.ofNat oo)), .val (.ref b5), .val (.ref b28), .val (.ref b30), .val (.ref b31), .val (.ref rx), .val (.int s5.2.1), .val (.ref rs)] [(.ref b31), (.ref rs)])) _
        refine XS.aload X73.here hx rfl (hb hby at_387) rfl rfl ?_
        show Steps p.tables e below (T73.setTop (mkF m 389 #[.val (.int p1), .val (.int p2), .val (.int p3), .val (.int p4), .val (.int qc), .val (.int (Int32.ofNat oo)), .val (.ref b5), .val (.ref b28), .val (.ref b30), .val (.ref b31), .val (.ref rx), .val (.int s5.2.1), .val (.ref rs)] [(.ref b30), (.ref b31), (.ref rs)])) _
        refine XS.iconst X73.here hx rfl (hb hby at_389) ?_
        show Steps p.tables e below (T73.setTop (mkF m 390 #[.val (.int p1), .val (.int p2), .val (.int p3), .val (.int p4), .val (.int qc), .val (.int (Int32.ofNat oo)), .val (.ref b5), .val (.ref b28), .val (.ref b30), .val (.ref b31), .val (.ref rx), .val (.int s5.2.1), .val (.ref rs)] [(.int (1 : Int32)), (.ref b30), (.ref b31), (.ref rs)])) _
        refine X73.iaload hx (j := (1 : Int32)) (v := (.int (Int32.ofNat ac.length))) (by rw [e73]; exact Ar74.1) (State.isArrayOf_alike hZ.alike Ar74.2.1) Ar74.2.2 hin74 (Has.at aH74 hin74 (by rw [← hO]; rfl)) (g := (mkF m 390 #[.val (.int p1), .val (.int p2), .val (.int p3), .val (.int p4), .val (.int qc), .val (.int (Int32.ofNat oo)), .val (.ref b5), .val (.ref b28), .val (.ref b30), .val (.ref b31), .val (.ref rx), .val (.int s5.2.1), .val (.ref rs)] [(.int (1 : Int32)), (.ref b30), (.ref b31), (.ref rs)])) rfl rfl (hb hby at_390) _ ?_
        show Steps p.tables e below (T73.setTop (mkF m 391 #[.val (.int p1), .val (.int p2), .val (.int p3), .val (.int p4), .val (.int qc), .val (.int (Int32.ofNat oo)), .val (.ref b5), .val (.ref b28), .val (.ref b30), .val (.ref b31), .val (.ref rx), .val (.int s5.2.1), .val (.ref rs)] [(.int (Int32.ofNat ac.length)), (.ref b31), (.ref rs)])) _
        refine XS.iconst X73.here hx rfl (hb hby at_391) ?_
        show Steps p.tables e below (T73.setTop (mkF m 392 #[.val (.int p1), .val (.int p2), .val (.int p3), .val (.int p4), .val (.int qc), .val (.int (Int32.ofNat oo)), .val (.ref b5), .val (.ref b28), .val (.ref b30), .val (.ref b31), .val (.ref rx), .val (.int s5.2.1), .val (.ref rs)] [(.int (4 : Int32)), (.int (Int32.ofNat ac.length)), (.ref b31), (.ref rs)])) _
        refine st75 _ ?_
        show Steps p.tables e below (T75.setTop (mkF m 395 #[.val (.int p1), .val (.int p2), .val (.int p3), .val (.int p4), .val (.int qc), .val (.int (Int32.ofNat oo)), .val (.ref b5), .val (.ref b28), .val (.ref b30), .val (.ref b31), .val (.ref rx), .val (.int s5.2.1), .val (.ref rs)] [(.int (1 : Int32))])) _
        refine XS.ifNo X75.here hx rfl (hb hby at_395) rfl ((if0 _ _).trans (feq (by decide : ¬ ((1 : Int32) = (0 : Int32)))).1) ?_
        show Steps p.tables e below (T75.setTop (mkF m 398 #[.val (.int p1), .val (.int p2), .val (.int p3), .val (.int p4), .val (.int qc), .val (.int (Int32.ofNat oo)), .val (.ref b5), .val (.ref b28), .val (.ref b30), .val (.ref b31), .val (.ref rx), .val (.int s5.2.1), .val (.ref rs)] [])) _
        refine XS.iconst X75.here hx rfl (hb hby at_398) ?_
        show Steps p.tables e below (T75.setTop (mkF m 399 #[.val (.int p1), .val (.int p2), .val (.int p3), .val (.int p4), .val (.int qc), .val (.int (Int32.ofNat oo)), .val (.ref b5), .val (.ref b28), .val (.ref b30), .val (.ref b31), .val (.ref rx), .val (.int s5.2.1), .val (.ref rs)] [(.int (1 : Int32))])) _
        refine XS.goto X75.here hx rfl (pc0 := 399) (pc' := 403) rfl (hb hby at_399) (by decide) (by decide) ?_
        show Steps p.tables e below (T75.setTop (mkF m 403 #[.val (.int p1), .val (.int p2), .val (.int p3), .val (.int p4), .val (.int qc), .val (.int (Int32.ofNat oo)), .val (.ref b5), .val (.ref b28), .val (.ref b30), .val (.ref b31), .val (.ref rx), .val (.int s5.2.1), .val (.ref rs)] [(.int (1 : Int32))])) _
        exact retN X75 hx (t := .boolean) Bd.returns (by simp) (hb hby at_403) hr
      · show Q_rm0 Z p1 p2 p3 p4 cz fS fi h0 n0 _ T75.heap _
        rw [e75]
        exact ⟨rfl, N75⟩
set_option maxRecDepth 65536 in
set_option maxHeartbeats 40000000 in
theorem comes_1 {Post : Tables → Env → Array Value → State → Outcome → State → Prop} (hpost : ∀ tb e args s v u, (limb_1_1.after args s (.returned v) u = true ∧ limb_1_2.after args s (.returned v) u = true ∧ True) → FrameEnd s (.returned v) u (Jvm.fieldLocs frame_1_writes args s ++ Jvm.arrayLocs frame_1_arrays args s ++ Jvm.staticLocs frame_1_statics s) 32 192 → Post tb e args s (.returned v) u) :
    ArmFor flags0 classFile x code maxLocals ret World_1 tables_1 room_1 Calls_1 rest_1 Pre_1 Post := by
  intro l hfl _ _ p e ha hc hk s m args below hf hA hF happ hP
  obtain ⟨hcalls, hrest, hpre⟩ := hP
  obtain ⟨-, -, -, hnamed, -, -, -, hat⟩ := (Spec.applies_iff hf).mp happ
  obtain ⟨hg, hn⟩ := and_e (Cond.before_iff.mp (show (Jvm.Cond.and given_1 narrow_1).before args s = true from hpre))
  obtain ⟨hcount, hga0⟩ := and_e hg
  obtain ⟨hi0, hga1⟩ := and_e hga0
  obtain ⟨hi1, hga2⟩ := and_e hga1
  obtain ⟨hi2, hga3⟩ := and_e hga2
  have hi3 := hga3
  obtain ⟨w0, w1, w2, w3, rfl⟩ : ∃ w0 w1 w2 w3 : Value, args = #[w0, w1, w2, w3] := by
    have hs : args.size = 4 := by simpa [Cond.value, given_1] using hcount
    obtain ⟨L⟩ := args
    match L, hs with
    | [w0, w1, w2, w3], _ => exact ⟨w0, w1, w2, w3, rfl⟩
  have hw := fun d (hd : d ∈ tables_1) => atoms_spec (ws := Jvm.Cond.code x code maxLocals ret :: tables_1) hat d (List.mem_cons_of_mem _ hd)
  obtain ⟨hsets, hown0⟩ := atoms_of _ (rest_1_c_eq ▸ (show rest_1_c.before _ s = true from hrest))
  obtain ⟨i0, ei0⟩ := is_v hi0
  obtain rfl : w0 = (.int i0) := Option.some.inj ei0
  obtain ⟨i1, ei1⟩ := is_v hi1
  obtain rfl : w1 = (.int i1) := Option.some.inj ei1
  obtain ⟨i2, ei2⟩ := is_v hi2
  obtain rfl : w2 = (.int i2) := Option.some.inj ei2
  obtain ⟨i3, ei3⟩ := is_v hi3
  obtain rfl : w3 = (.int i3) := Option.some.inj ei3
  obtain ⟨cz, evcs⟩ := is_v (Cond.before_iff.mp (hsets _ (List.mem_of_getElem? (i := 1) rfl)))
  have S_CS : Sta s s.heap "java/lang/String" "COMPACT_STRINGS" "Z" (.int cz) := Sta.start evcs (Or.inl (hsets _ (List.mem_of_getElem? (i := 0) rfl)))
  have hcs : ¬ cz = (0 : Int32) := by
    have q2 := not_v (Cond.before_iff.mp (hsets _ (List.mem_of_getElem? (i := 2) rfl)))
    rw [Cond.eq_ints evcs (Term.int_eval 0)] at q2
    simpa using q2
  obtain ⟨fS, evsi, hsi⟩ := isR_v (Cond.before_iff.mp (hsets _ (List.mem_of_getElem? (i := 8) rfl)))
  have S_SI : Sta s s.heap "jdk/internal/util/Preconditions" "SIOOBE_FORMATTER" "Ljava/util/function/BiFunction;" fS := Sta.start evsi (Or.inl (hsets _ (List.mem_of_getElem? (i := 7) rfl)))
  have hfit : Fit s := fun {y c} hc i hi => by
    obtain ⟨ha, rfl⟩ := Array.getElem?_eq_some_iff.mp hc
    have q := List.all_eq_true.mp ((Array.all_eq_true_iff_forall_mem.mp hF) _ (Array.getElem_mem ha)) i (List.mem_range.mpr hi)
    simpa [Array.getElem?_eq_getElem hi] using q
  obtain ⟨fi, evio, ffi⟩ := static_fit (ty := (.object "java/util/function/BiFunction")) hfit (hw _ (List.mem_of_getElem? (i := 132) rfl)) (by decide +kernel)
  have hfi : fi.isRef = true := fit_R ffi rfl
  have S_IO : Sta s s.heap "jdk/internal/util/Preconditions" "IOOBE_FORMATTER" "Ljava/util/function/BiFunction;" fi := Sta.start evio (Or.inr ⟨(hw _ (List.mem_of_getElem? (i := 61) rfl)), (hw _ (List.mem_of_getElem? (i := 132) rfl))⟩)
  obtain ⟨n, o, h1, h2, h3, _, L, rfl, ⟨rfl, N⟩, hq⟩ := rm0 l s _ hw tables_1 i0 i1 i2 i3 cz fS fi s.heap s.heap.size (Nat.le_refl _) S_CS hcs S_SI hsi S_IO hfi p e ha hc hk s m _ below hf ((Spec.applies_iff_loose hf).mp happ).1 ⟨rfl, State.Warmed39.refl s, rfl⟩ trivial
  refine ⟨n, _, h1, h2, h3, hpost _ _ _ _ _ _ ⟨Cond.after_iff.mpr rfl, Cond.after_iff.mpr (eq_i res_at (Term.int_eval (1)) rfl), trivial⟩ ⟨hq.1, hq.2.1, (hq.2.2.sift fun y hy => Or.inr (N y hy)).mono (by decide) (by decide)⟩⟩
theorem main_1_1 : Claimed_1_1 := comes_1 fun _ _ _ _ _ _ h hF => ⟨h.1, hF⟩
theorem main_1_2 : Claimed_1_2 := comes_1 fun _ _ _ _ _ _ h hF => ⟨h.2.1, hF⟩
end Jvm.Pilot.@@N@@
namespace Jvm.Pilot.@@N@@
open Jvm Jvm.ClassFile Sem Op Lib Jvm.Free Jvm.Stand Jvm.Pilot.@@N@@.Jvm.D
/-! MADE BY PROGRAM (witnessworld.py) out of the Statement's table words and the real class files: 28 classes; the members and pool entries that the words name. The judged class is class 1, her method 4. -/
namespace start1
open Jvm.ClassFile
def u (s : String) : CpInfo := .utf8 (stringToUtf16 s)
/-- a pool by its gaps: so many unusable entries, then the entry; so many at the end -/
def gap : Nat → List CpInfo → List CpInfo
  | 0, r => r
  | n + 1, r => .unusable :: gap n r
def poolList (es : List (Nat × CpInfo)) (last : Nat) : List CpInfo := es.foldr (fun e r => gap e.1 (e.2 :: r)) (gap last [])
def pool (es : List (Nat × CpInfo)) (last : Nat) : Array CpInfo := ⟨poolList es last⟩
def fileOf (pool : Array CpInfo) (this : Nat) (attrs : Array Attribute := #[]) (ms : Array MethodInfo := #[]) (fl : Nat := 33) (sup : Nat := 0) (ifs : Array Nat := #[]) (fds : Array FieldInfo := #[]) : ClassFile where
  minorVersion := 0
  majorVersion := 65
  constantPool := pool
  accessFlags := fl
  thisClass := this
  superClass := sup
  interfaces := ifs
  fields := fds
  methods := ms
  attributes := attrs
def plain (name : String) (sup : Option ClassId) : Class where
  name := name
  kind := .ordinary
  loader := none
  accessFlags := 33
  super := sup
  interfaces := #[]
  cf := none
  fields := #[]
  methods := #[]
  instanceTypes := #[]
  staticTypes := #[]
  resolved := #[]
  callSites := []
  init := .initialized
  statics := none
  mirror := none

def pool0 : Array CpInfo := pool [(5, u "<init>"), (0, u "()V"), (1, .class_ 10), (1, u "java/lang/Object")] 113

def k0c0 : Code := { maxStack := 0, maxLocals := 1, code := object_method_1_code, exceptionTable := #[], attributes := #[] }
def k0m0 : Method := { name := "<init>", desc := "()V", sig := { parameters := [], returnType := none }, accessFlags := 1, code := some k0c0 }
/-- java/lang/Object -/
def k0 : Class := { plain "java/lang/Object" none with
  accessFlags := 33
  interfaces := #[]
  cf := some (fileOf pool0 8 #[] #[{ accessFlags := 1, nameIndex := 5, descriptorIndex := 6, attributes := #[] }] 33 0 #[] #[])
  fields := #[]
  methods := #[k0m0]
  instanceTypes := #[]
  staticTypes := #[]
  resolved := Array.replicate 124 none
  statics := none }

def pool1 : Array CpInfo := pool [(2, .class_ 4), (1, u "java/lang/Object"), (0, u "<init>"), (0, u "()V"), (0, .methodref 8 9), (0, .class_ 10), (0, .nameAndType 11 12), (0, u "java/lang/String"), (0, u "charAt"), (0, u "(I)C"), (0, .integer 65535), (0, .methodref 15 16), (0, .class_ 17), (0, .nameAndType 18 19), (0, u "com/example/purveyor/purveyor/sqlite/QuotedTextReadPinLaw"), (0, u "pick"), (0, u "(IICC)C"), (0, .methodref 8 21), (0, .nameAndType 5 22), (0, u "([C)V"), (0, .methodref 15 24), (0, .nameAndType 25 26), (0, u "step"), (0, u "([CIIC[I[C)V"), (0, .methodref 28 29), (0, .class_ 30), (0, .nameAndType 31 32), (0, u "com/example/purveyor/purveyor/sqlite/QuotedText"), (0, u "read"), (0, u "(Ljava/lang/String;I)Lcom/example/purveyor/purveyor/sqlite/QuotedText$Run;"), (0, .methodref 34 35), (0, .class_ 36), (0, .nameAndType 37 38), (0, u "com/example/purveyor/purveyor/sqlite/QuotedText$Run"), (0, u "content"), (0, u "()Ljava/lang/String;"), (0, .methodref 34 40), (0, .nameAndType 41 42), (0, u "end"), (0, u "()I"), (0, .methodref 8 44), (0, .nameAndType 45 42), (0, u "length"), (0, .methodref 15 47), (0, .nameAndType 48 49), (0, u "same"), (0, u "(Ljava/lang/String;[CII)Z"), (3, u "law"), (0, u "(IIII)Z")] 8

def k1m0 : Method := { name := "<init>", desc := "()V", sig := { parameters := [], returnType := none }, accessFlags := 2, code := none }
def k1c1 : Code := { maxStack := 2, maxLocals := 4, code := method_2_code, exceptionTable := #[], attributes := #[] }
def k1m1 : Method := { name := "pick", desc := "(IICC)C", sig := { parameters := [.int, .int, .char, .char], returnType := some .char }, accessFlags := 10, code := some k1c1 }
def k1c2 : Code := { maxStack := 4, maxLocals := 7, code := method_3_code, exceptionTable := #[], attributes := #[] }
def k1m2 : Method := { name := "step", desc := "([CIIC[I[C)V", sig := { parameters := [(.array .char), .int, .int, .char, (.array .int), (.array .char)], returnType := none }, accessFlags := 10, code := some k1c2 }
def k1c3 : Code := { maxStack := 3, maxLocals := 4, code := method_4_code, exceptionTable := #[], attributes := #[] }
def k1m3 : Method := { name := "same", desc := "(Ljava/lang/String;[CII)Z", sig := { parameters := [(.object "java/lang/String"), (.array .char), .int, .int], returnType := some .boolean }, accessFlags := 10, code := some k1c3 }
def k1c4 : Code := { maxStack := 7, maxLocals := 13, code := code, exceptionTable := #[], attributes := #[] }
def k1m4 : Method := { name := "law", desc := "(IIII)Z", sig := { parameters := [.int, .int, .int, .int], returnType := some .boolean }, accessFlags := 9, code := some k1c4 }
/-- com/example/purveyor/purveyor/sqlite/QuotedTextReadPinLaw -/
def k1 : Class := { plain "com/example/purveyor/purveyor/sqlite/QuotedTextReadPinLaw" (some 0) with
  accessFlags := 49
  interfaces := #[]
  cf := some (fileOf pool1 15 #[] #[{ accessFlags := 2, nameIndex := 5, descriptorIndex := 6, attributes := #[] }, { accessFlags := 10, nameIndex := 18, descriptorIndex := 19, attributes := #[] }, { accessFlags := 10, nameIndex := 25, descriptorIndex := 26, attributes := #[] }, { accessFlags := 10, nameIndex := 48, descriptorIndex := 49, attributes := #[] }, { accessFlags := 9, nameIndex := 53, descriptorIndex := 54, attributes := #[] }] 49 2 #[] #[])
  fields := #[]
  methods := #[k1m0, k1m1, k1m2, k1m3, k1m4]
  instanceTypes := #[]
  staticTypes := #[]
  resolved := Array.replicate 63 none
  statics := none }

def pool2 : Array CpInfo := pool [(1, .class_ 2), (0, u "java/io/Serializable"), (0, .class_ 4), (0, u "java/lang/Object")] 2

/-- java/io/Serializable -/
def k2 : Class := { plain "java/io/Serializable" (some 0) with
  accessFlags := 1537
  interfaces := #[]
  cf := some (fileOf pool2 1 #[] #[] 1537 3 #[] #[])
  fields := #[]
  methods := #[]
  instanceTypes := #[]
  staticTypes := #[]
  resolved := Array.replicate 7 none
  statics := none }

def pool3 : Array CpInfo := pool [(1, .class_ 2), (0, u "java/lang/Comparable"), (0, .class_ 4), (0, u "java/lang/Object")] 7

/-- java/lang/Comparable -/
def k3 : Class := { plain "java/lang/Comparable" (some 0) with
  accessFlags := 1537
  interfaces := #[]
  cf := some (fileOf pool3 1 #[] #[] 1537 3 #[] #[])
  fields := #[]
  methods := #[]
  instanceTypes := #[]
  staticTypes := #[]
  resolved := Array.replicate 12 none
  statics := none }

def pool4 : Array CpInfo := pool [(2, .class_ 4), (1, u "java/lang/CharSequence"), (0, u "length"), (0, u "()I"), (40, .class_ 48), (0, u "java/lang/CharSequence$1CodePointIterator"), (10, .class_ 60), (0, u "java/lang/CharSequence$1CharIterator"), (5, .class_ 67), (0, u "java/lang/Object")] 63

def k4m0 : Method := { name := "length", desc := "()I", sig := { parameters := [], returnType := some .int }, accessFlags := 1025, code := none }
/-- java/lang/CharSequence -/
def k4 : Class := { plain "java/lang/CharSequence" (some 0) with
  accessFlags := 1537
  interfaces := #[]
  cf := some (fileOf pool4 2 #[.nestMembers #[47, 59]] #[{ accessFlags := 1025, nameIndex := 5, descriptorIndex := 6, attributes := #[] }] 1537 66 #[] #[])
  fields := #[]
  methods := #[k4m0]
  instanceTypes := #[]
  staticTypes := #[]
  resolved := Array.replicate 131 none
  statics := none }

def pool5 : Array CpInfo := pool [(1, .class_ 2), (0, u "java/lang/constant/Constable"), (0, .class_ 4), (0, u "java/lang/Object")] 6

/-- java/lang/constant/Constable -/
def k5 : Class := { plain "java/lang/constant/Constable" (some 0) with
  accessFlags := 1537
  interfaces := #[]
  cf := some (fileOf pool5 1 #[] #[] 1537 3 #[] #[])
  fields := #[]
  methods := #[]
  instanceTypes := #[]
  staticTypes := #[]
  resolved := Array.replicate 11 none
  statics := none }

def pool6 : Array CpInfo := pool [(1, .class_ 2), (0, u "java/lang/constant/ConstantDesc"), (0, .class_ 4), (0, u "java/lang/Object")] 32

/-- java/lang/constant/ConstantDesc -/
def k6 : Class := { plain "java/lang/constant/ConstantDesc" (some 0) with
  accessFlags := 1537
  interfaces := #[]
  cf := some (fileOf pool6 1 #[] #[] 1537 3 #[] #[])
  fields := #[]
  methods := #[]
  instanceTypes := #[]
  staticTypes := #[]
  resolved := Array.replicate 37 none
  statics := none }

def pool7 : Array CpInfo := pool [(1, .methodref 2 3), (0, .class_ 4), (0, .nameAndType 5 6), (0, u "java/lang/Object"), (0, u "<init>"), (0, u "()V"), (2, .fieldref 10 11), (0, .class_ 12), (0, .nameAndType 13 14), (0, u "java/lang/String"), (0, u "value"), (0, u "[B"), (0, .fieldref 10 16), (0, .nameAndType 17 18), (0, u "coder"), (0, u "B"), (2, u "hash"), (0, u "I"), (2, u "hashIsZero"), (0, u "Z"), (0, .methodref 10 28), (0, .nameAndType 5 29), (0, u "([CIILjava/lang/Void;)V"), (8, .fieldref 10 39), (0, .nameAndType 40 26), (0, u "COMPACT_STRINGS"), (1, .class_ 44), (1, u "java/lang/StringUTF16"), (0, u "compress"), (1, .methodref 42 48), (0, .nameAndType 49 50), (0, u "coderFromArrayLen"), (0, u "([BI)B"), (3, .methodref 55 56), (0, .class_ 57), (0, .nameAndType 58 59), (0, u "java/util/Arrays"), (0, u "copyOfRange"), (0, u "([BII)[B"), (47, .class_ 109), (1, u "java/lang/StringLatin1"), (32, u "()Z"), (34, .methodref 42 178), (0, .nameAndType 45 179), (0, u "([CII)[B"), (154, u "()I"), (0, .methodref 10 336), (0, .nameAndType 17 337), (0, u "()B"), (2, u "()[B"), (22, u "([BI)C"), (27, u "(II)V"), (35, u "(I)C"), (61, .methodref 10 490), (0, .nameAndType 5 491), (0, u "(Ljava/lang/AbstractStringBuilder;Ljava/lang/Void;)V"), (0, .methodref 10 493), (0, .nameAndType 494 142), (0, u "isLatin1"), (0, .methodref 107 496), (0, .nameAndType 497 363), (0, u "charAt"), (3, u "checkIndex"), (3, .methodref 10 506), (0, .nameAndType 507 334), (0, u "length"), (41, .methodref 550 506), (0, .class_ 551), (0, u "java/lang/AbstractStringBuilder"), (0, .methodref 550 553), (0, .nameAndType 554 340), (0, u "getValue"), (20, .class_ 576), (0, u "java/lang/CharSequence"), (22, u "CASE_INSENSITIVE_ORDER"), (0, u "Ljava/util/Comparator;"), (34, u "indexOf"), (0, u "(II)I"), (0, .methodref 107 638), (0, .nameAndType 635 639), (0, u "([BIII)I"), (370, u "([C)V"), (36, .methodref 550 493), (5, .fieldref 1054 1055), (0, .class_ 1056), (0, .nameAndType 1057 1058), (0, u "jdk/internal/util/Preconditions"), (0, u "SIOOBE_FORMATTER"), (0, u "Ljava/util/function/BiFunction;"), (0, .methodref 1054 1060), (0, .nameAndType 501 1061), (0, u "(IILjava/util/function/BiFunction;)I"), (39, u "serialPersistentFields"), (0, u "[Ljava/io/ObjectStreamField;"), (0, .class_ 1104), (0, u "java/lang/String$CaseInsensitiveComparator"), (1, .class_ 1107), (0, u "java/io/Serializable"), (0, .class_ 1109), (0, u "java/lang/Comparable"), (0, .class_ 1111), (0, u "java/lang/constant/Constable"), (0, .class_ 1113), (0, u "java/lang/constant/ConstantDesc"), (2, u "serialVersionUID"), (0, u "J"), (3, u "REPL"), (0, u "C"), (2, u "LATIN1"), (1, u "UTF16"), (105, u "(Ljava/lang/StringBuilder;)V")] 217

def k7m0 : Method := { name := "<init>", desc := "()V", sig := { parameters := [], returnType := none }, accessFlags := 1, code := none }
def k7c1 : Code := { maxStack := 5, maxLocals := 2, code := jdk_42_method_3_code, exceptionTable := #[], attributes := #[] }
def k7m1 : Method := { name := "<init>", desc := "([C)V", sig := { parameters := [(.array .char)], returnType := none }, accessFlags := 1, code := some k7c1 }
def k7c2 : Code := { maxStack := 3, maxLocals := 2, code := jdk_42_method_53_code, exceptionTable := #[], attributes := #[] }
def k7m2 : Method := { name := "<init>", desc := "(Ljava/lang/StringBuilder;)V", sig := { parameters := [(.object "java/lang/StringBuilder")], returnType := none }, accessFlags := 1, code := some k7c2 }
def k7c3 : Code := { maxStack := 2, maxLocals := 1, code := jdk_42_method_54_code, exceptionTable := #[], attributes := #[] }
def k7m3 : Method := { name := "length", desc := "()I", sig := { parameters := [], returnType := some .int }, accessFlags := 1, code := some k7c3 }
def k7c4 : Code := { maxStack := 2, maxLocals := 2, code := jdk_42_method_56_code, exceptionTable := #[], attributes := #[] }
def k7m4 : Method := { name := "charAt", desc := "(I)C", sig := { parameters := [.int], returnType := some .char }, accessFlags := 1, code := some k7c4 }
def k7c5 : Code := { maxStack := 4, maxLocals := 3, code := jdk_42_method_80_code, exceptionTable := #[], attributes := #[] }
def k7m5 : Method := { name := "indexOf", desc := "(II)I", sig := { parameters := [.int, .int], returnType := some .int }, accessFlags := 1, code := some k7c5 }
def k7c6 : Code := { maxStack := 4, maxLocals := 6, code := jdk_42_method_149_code, exceptionTable := #[], attributes := #[] }
def k7m6 : Method := { name := "<init>", desc := "([CIILjava/lang/Void;)V", sig := { parameters := [(.array .char), .int, .int, (.object "java/lang/Void")], returnType := none }, accessFlags := 2, code := some k7c6 }
def k7c7 : Code := { maxStack := 5, maxLocals := 5, code := jdk_42_method_150_code, exceptionTable := #[], attributes := #[] }
def k7m7 : Method := { name := "<init>", desc := "(Ljava/lang/AbstractStringBuilder;Ljava/lang/Void;)V", sig := { parameters := [(.object "java/lang/AbstractStringBuilder"), (.object "java/lang/Void")], returnType := none }, accessFlags := 0, code := some k7c7 }
def k7c8 : Code := { maxStack := 1, maxLocals := 1, code := jdk_42_method_152_code, exceptionTable := #[], attributes := #[] }
def k7m8 : Method := { name := "coder", desc := "()B", sig := { parameters := [], returnType := some .byte }, accessFlags := 0, code := some k7c8 }
def k7c9 : Code := { maxStack := 1, maxLocals := 1, code := jdk_42_method_153_code, exceptionTable := #[], attributes := #[] }
def k7m9 : Method := { name := "value", desc := "()[B", sig := { parameters := [], returnType := some (.array .byte) }, accessFlags := 0, code := some k7c9 }
def k7c10 : Code := { maxStack := 1, maxLocals := 1, code := jdk_42_method_154_code, exceptionTable := #[], attributes := #[] }
def k7m10 : Method := { name := "isLatin1", desc := "()Z", sig := { parameters := [], returnType := some .boolean }, accessFlags := 0, code := some k7c10 }
def k7c11 : Code := { maxStack := 3, maxLocals := 2, code := jdk_42_method_155_code, exceptionTable := #[], attributes := #[] }
def k7m11 : Method := { name := "checkIndex", desc := "(II)V", sig := { parameters := [.int, .int], returnType := none }, accessFlags := 8, code := some k7c11 }
/-- java/lang/String -/
def k7 : Class := { plain "java/lang/String" (some 0) with
  accessFlags := 49
  interfaces := #[2, 3, 4, 5, 6]
  cf := some (fileOf pool7 10 #[.nestMembers #[1103]] #[{ accessFlags := 1, nameIndex := 5, descriptorIndex := 6, attributes := #[] }, { accessFlags := 1, nameIndex := 5, descriptorIndex := 1010, attributes := #[] }, { accessFlags := 1, nameIndex := 5, descriptorIndex := 1233, attributes := #[] }, { accessFlags := 1, nameIndex := 507, descriptorIndex := 334, attributes := #[] }, { accessFlags := 1, nameIndex := 497, descriptorIndex := 427, attributes := #[] }, { accessFlags := 1, nameIndex := 635, descriptorIndex := 636, attributes := #[] }, { accessFlags := 2, nameIndex := 5, descriptorIndex := 29, attributes := #[] }, { accessFlags := 0, nameIndex := 5, descriptorIndex := 491, attributes := #[] }, { accessFlags := 0, nameIndex := 17, descriptorIndex := 337, attributes := #[] }, { accessFlags := 0, nameIndex := 13, descriptorIndex := 340, attributes := #[] }, { accessFlags := 0, nameIndex := 494, descriptorIndex := 142, attributes := #[] }, { accessFlags := 8, nameIndex := 501, descriptorIndex := 391, attributes := #[] }] 49 2 #[1106, 1108, 575, 1110, 1112] #[{ accessFlags := 18, nameIndex := 13, descriptorIndex := 14, attributes := #[] }, { accessFlags := 18, nameIndex := 17, descriptorIndex := 18, attributes := #[] }, { accessFlags := 2, nameIndex := 21, descriptorIndex := 22, attributes := #[] }, { accessFlags := 2, nameIndex := 25, descriptorIndex := 26, attributes := #[] }, { accessFlags := 26, nameIndex := 1116, descriptorIndex := 1117, attributes := #[] }, { accessFlags := 24, nameIndex := 40, descriptorIndex := 26, attributes := #[] }, { accessFlags := 26, nameIndex := 1101, descriptorIndex := 1102, attributes := #[] }, { accessFlags := 26, nameIndex := 1121, descriptorIndex := 1122, attributes := #[] }, { accessFlags := 25, nameIndex := 599, descriptorIndex := 600, attributes := #[] }, { accessFlags := 24, nameIndex := 1125, descriptorIndex := 18, attributes := #[] }, { accessFlags := 24, nameIndex := 1127, descriptorIndex := 18, attributes := #[] }])
  fields := #[{ name := "value", type := (.array .byte), accessFlags := 18, slot := 0, constantValue := 0 }, { name := "coder", type := .byte, accessFlags := 18, slot := 1, constantValue := 0 }, { name := "hash", type := .int, accessFlags := 2, slot := 2, constantValue := 0 }, { name := "hashIsZero", type := .boolean, accessFlags := 2, slot := 3, constantValue := 0 }, { name := "serialVersionUID", type := .long, accessFlags := 26, slot := 0, constantValue := 0 }, { name := "COMPACT_STRINGS", type := .boolean, accessFlags := 24, slot := 1, constantValue := 0 }, { name := "serialPersistentFields", type := (.array (.object "java/io/ObjectStreamField")), accessFlags := 26, slot := 2, constantValue := 0 }, { name := "REPL", type := .char, accessFlags := 26, slot := 3, constantValue := 0 }, { name := "CASE_INSENSITIVE_ORDER", type := (.object "java/util/Comparator"), accessFlags := 25, slot := 4, constantValue := 0 }, { name := "LATIN1", type := .byte, accessFlags := 24, slot := 5, constantValue := 0 }, { name := "UTF16", type := .byte, accessFlags := 24, slot := 6, constantValue := 0 }]
  methods := #[k7m0, k7m1, k7m2, k7m3, k7m4, k7m5, k7m6, k7m7, k7m8, k7m9, k7m10, k7m11]
  instanceTypes := #[(.array .byte), .byte, .int, .boolean]
  staticTypes := #[.long, .boolean, (.array (.object "java/io/ObjectStreamField")), .char, (.object "java/util/Comparator"), .byte, .byte]
  resolved := Array.replicate 1451 none
  statics := some 0 }

def pool8 : Array CpInfo := pool [(6, .class_ 8), (1, u "java/lang/Object"), (0, u "<init>"), (0, u "()V"), (1, .class_ 14), (1, u "java/lang/StringUTF16"), (31, u "$assertionsDisabled"), (0, u "Z"), (13, u "HI_BYTE_SHIFT"), (0, u "I"), (2, u "LO_BYTE_SHIFT"), (49, .methodref 12 116), (0, .nameAndType 117 118), (0, u "compress"), (0, u "([CI[BII)I"), (3, u "([CII)[B"), (138, u "coderFromArrayLen"), (0, u "([BI)B"), (106, .class_ 371), (1, u "java/lang/StringUTF16$LinesSpliterator"), (58, u "MAX_LENGTH"), (196, .class_ 628), (0, u "java/lang/StringUTF16$CodePointsSpliterator"), (0, .class_ 630), (0, u "java/lang/StringUTF16$CharsSpliterator")] 4

def k8m0 : Method := { name := "<init>", desc := "()V", sig := { parameters := [], returnType := none }, accessFlags := 0, code := none }
def k8c1 : Code := { maxStack := 2, maxLocals := 2, code := jdk_52_method_15_code, exceptionTable := #[], attributes := #[] }
def k8m1 : Method := { name := "coderFromArrayLen", desc := "([BI)B", sig := { parameters := [(.array .byte), .int], returnType := some .byte }, accessFlags := 8, code := some k8c1 }
def k8c2 : Code := { maxStack := 5, maxLocals := 6, code := jdk_52_method_16_code, exceptionTable := #[], attributes := #[] }
def k8m2 : Method := { name := "compress", desc := "([CII)[B", sig := { parameters := [(.array .char), .int, .int], returnType := some (.array .byte) }, accessFlags := 9, code := some k8c2 }
def k8c3 : Code := { maxStack := 3, maxLocals := 7, code := jdk_52_method_21_code, exceptionTable := #[], attributes := #[] }
def k8m3 : Method := { name := "compress", desc := "([CI[BII)I", sig := { parameters := [(.array .char), .int, (.array .byte), .int, .int], returnType := some .int }, accessFlags := 9, code := some k8c3 }
/-- java/lang/StringUTF16 -/
def k8 : Class := { plain "java/lang/StringUTF16" (some 0) with
  accessFlags := 48
  interfaces := #[]
  cf := some (fileOf pool8 12 #[.nestMembers #[627, 629, 369]] #[{ accessFlags := 0, nameIndex := 9, descriptorIndex := 10, attributes := #[] }, { accessFlags := 8, nameIndex := 261, descriptorIndex := 262, attributes := #[] }, { accessFlags := 9, nameIndex := 117, descriptorIndex := 122, attributes := #[] }, { accessFlags := 9, nameIndex := 117, descriptorIndex := 118, attributes := #[] }] 48 6 #[] #[{ accessFlags := 26, nameIndex := 61, descriptorIndex := 62, attributes := #[] }, { accessFlags := 26, nameIndex := 65, descriptorIndex := 62, attributes := #[] }, { accessFlags := 24, nameIndex := 430, descriptorIndex := 62, attributes := #[] }, { accessFlags := 4120, nameIndex := 46, descriptorIndex := 47, attributes := #[] }])
  fields := #[{ name := "HI_BYTE_SHIFT", type := .int, accessFlags := 26, slot := 0, constantValue := 0 }, { name := "LO_BYTE_SHIFT", type := .int, accessFlags := 26, slot := 1, constantValue := 0 }, { name := "MAX_LENGTH", type := .int, accessFlags := 24, slot := 2, constantValue := 0 }, { name := "$assertionsDisabled", type := .boolean, accessFlags := 4120, slot := 3, constantValue := 0 }]
  methods := #[k8m0, k8m1, k8m2, k8m3]
  instanceTypes := #[]
  staticTypes := #[.int, .int, .int, .boolean]
  resolved := Array.replicate 635 none
  statics := none }

def pool9 : Array CpInfo := pool [(2, .class_ 4), (0, .nameAndType 5 6), (0, u "java/lang/Object"), (0, u "<init>"), (0, u "()V"), (0, .methodref 8 9), (0, .class_ 10), (0, .nameAndType 11 12), (0, u "java/lang/String"), (0, u "charAt"), (0, u "(I)C"), (0, .class_ 14), (0, u "java/lang/StringBuilder"), (0, .methodref 13 3), (0, .methodref 8 17), (0, .nameAndType 18 19), (0, u "indexOf"), (0, u "(II)I"), (0, .methodref 13 21), (0, .nameAndType 22 23), (0, u "append"), (0, u "(Ljava/lang/CharSequence;II)Ljava/lang/StringBuilder;"), (0, .methodref 8 25), (0, .nameAndType 26 27), (0, u "length"), (0, u "()I"), (0, .class_ 29), (0, u "com/example/purveyor/purveyor/sqlite/QuotedText$Run"), (0, .methodref 13 31), (0, .nameAndType 32 33), (0, u "toString"), (0, u "()Ljava/lang/String;"), (0, .methodref 28 35), (0, .nameAndType 5 36), (0, u "(Ljava/lang/String;I)V"), (0, .methodref 13 38), (0, .nameAndType 22 39), (0, u "(C)Ljava/lang/StringBuilder;"), (12, .class_ 53), (0, u "com/example/purveyor/purveyor/sqlite/QuotedText"), (2, u "read"), (0, u "(Ljava/lang/String;I)Lcom/example/purveyor/purveyor/sqlite/QuotedText$Run;")] 21

def k9m0 : Method := { name := "<init>", desc := "()V", sig := { parameters := [], returnType := none }, accessFlags := 2, code := none }
def k9c1 : Code := { maxStack := 4, maxLocals := 6, code := prog_31_method_2_code, exceptionTable := #[], attributes := #[] }
def k9m1 : Method := { name := "read", desc := "(Ljava/lang/String;I)Lcom/example/purveyor/purveyor/sqlite/QuotedText$Run;", sig := { parameters := [(.object "java/lang/String"), .int], returnType := some (.object "com/example/purveyor/purveyor/sqlite/QuotedText$Run") }, accessFlags := 8, code := some k9c1 }
/-- com/example/purveyor/purveyor/sqlite/QuotedText -/
def k9 : Class := { plain "com/example/purveyor/purveyor/sqlite/QuotedText" (some 0) with
  accessFlags := 48
  interfaces := #[]
  cf := some (fileOf pool9 52 #[.nestMembers #[28]] #[{ accessFlags := 2, nameIndex := 5, descriptorIndex := 6, attributes := #[] }, { accessFlags := 8, nameIndex := 56, descriptorIndex := 57, attributes := #[] }] 48 2 #[] #[])
  fields := #[]
  methods := #[k9m0, k9m1]
  instanceTypes := #[]
  staticTypes := #[]
  resolved := Array.replicate 79 none
  statics := none }

def pool10 : Array CpInfo := pool [(1, .class_ 2), (0, u "java/lang/String"), (1, .class_ 6), (1, u "java/lang/Object"), (0, u "<init>"), (0, u "()V"), (0, .methodref 1 10), (0, .nameAndType 11 12), (0, u "checkIndex"), (0, u "(II)V"), (1, .class_ 16), (1, u "java/lang/StringLatin1"), (21, .methodref 39 40), (0, .class_ 41), (0, .nameAndType 42 43), (0, u "java/lang/Math"), (0, u "min"), (0, u "(II)I"), (9, u "([BI)C"), (34, .methodref 14 89), (0, .nameAndType 90 91), (0, u "canEncode"), (0, u "(I)Z"), (0, .methodref 39 93), (0, .nameAndType 94 43), (0, u "max"), (0, .methodref 14 96), (0, .nameAndType 97 98), (0, u "indexOfChar"), (0, u "([BIII)I"), (2, u "indexOf"), (3, u "(C)Z"), (15, u "$assertionsDisabled"), (0, u "Z"), (98, .class_ 223), (1, u "java/lang/StringLatin1$LinesSpliterator"), (28, u "charAt"), (137, .class_ 391), (0, u "java/lang/StringLatin1$CharsSpliterator")] 3

def k10m0 : Method := { name := "<init>", desc := "()V", sig := { parameters := [], returnType := none }, accessFlags := 0, code := none }
def k10c1 : Code := { maxStack := 2, maxLocals := 2, code := jdk_43_method_2_code, exceptionTable := #[], attributes := #[] }
def k10m1 : Method := { name := "charAt", desc := "([BI)C", sig := { parameters := [(.array .byte), .int], returnType := some .char }, accessFlags := 9, code := some k10c1 }
def k10c2 : Code := { maxStack := 2, maxLocals := 1, code := jdk_43_method_3_code, exceptionTable := #[], attributes := #[] }
def k10m2 : Method := { name := "canEncode", desc := "(C)Z", sig := { parameters := [.char], returnType := some .boolean }, accessFlags := 9, code := some k10c2 }
def k10c3 : Code := { maxStack := 2, maxLocals := 1, code := jdk_43_method_4_code, exceptionTable := #[], attributes := #[] }
def k10m3 : Method := { name := "canEncode", desc := "(I)Z", sig := { parameters := [.int], returnType := some .boolean }, accessFlags := 9, code := some k10c3 }
def k10c4 : Code := { maxStack := 4, maxLocals := 4, code := jdk_43_method_22_code, exceptionTable := #[], attributes := #[] }
def k10m4 : Method := { name := "indexOf", desc := "([BIII)I", sig := { parameters := [(.array .byte), .int, .int, .int], returnType := some .int }, accessFlags := 9, code := some k10c4 }
def k10c5 : Code := { maxStack := 2, maxLocals := 6, code := jdk_43_method_23_code, exceptionTable := #[], attributes := #[] }
def k10m5 : Method := { name := "indexOfChar", desc := "([BIII)I", sig := { parameters := [(.array .byte), .int, .int, .int], returnType := some .int }, accessFlags := 10, code := some k10c5 }
/-- java/lang/StringLatin1 -/
def k10 : Class := { plain "java/lang/StringLatin1" (some 0) with
  accessFlags := 48
  interfaces := #[]
  cf := some (fileOf pool10 14 #[.nestMembers #[390, 221]] #[{ accessFlags := 0, nameIndex := 7, descriptorIndex := 8, attributes := #[] }, { accessFlags := 9, nameIndex := 252, descriptorIndex := 53, attributes := #[] }, { accessFlags := 9, nameIndex := 90, descriptorIndex := 105, attributes := #[] }, { accessFlags := 9, nameIndex := 90, descriptorIndex := 91, attributes := #[] }, { accessFlags := 9, nameIndex := 101, descriptorIndex := 98, attributes := #[] }, { accessFlags := 10, nameIndex := 97, descriptorIndex := 98, attributes := #[] }] 48 4 #[] #[{ accessFlags := 4120, nameIndex := 121, descriptorIndex := 122, attributes := #[] }])
  fields := #[{ name := "$assertionsDisabled", type := .boolean, accessFlags := 4120, slot := 0, constantValue := 0 }]
  methods := #[k10m0, k10m1, k10m2, k10m3, k10m4, k10m5]
  instanceTypes := #[]
  staticTypes := #[.boolean]
  resolved := Array.replicate 395 none
  statics := none }

def pool11 : Array CpInfo := pool [(2, .class_ 4), (1, u "java/lang/Object"), (0, u "<init>"), (0, u "()V"), (17, .class_ 26), (1, u "jdk/internal/util/Preconditions"), (6, u "checkIndex"), (13, u "checkFromToIndex"), (7, .class_ 56), (0, u "jdk/internal/util/Preconditions$4"), (57, .class_ 115), (0, u "jdk/internal/util/Preconditions$1"), (7, u "SIOOBE_FORMATTER"), (0, u "Ljava/util/function/BiFunction;"), (0, .class_ 126), (0, u "jdk/internal/util/Preconditions$2"), (3, u "AIOOBE_FORMATTER"), (0, .class_ 132), (0, u "jdk/internal/util/Preconditions$3"), (3, u "IOOBE_FORMATTER"), (41, u "(IILjava/util/function/BiFunction;)I"), (4, u "(IIILjava/util/function/BiFunction;)I")] 10

def k11m0 : Method := { name := "<init>", desc := "()V", sig := { parameters := [], returnType := none }, accessFlags := 1, code := none }
def k11c1 : Code := { maxStack := 3, maxLocals := 3, code := jdk_41_method_11_code, exceptionTable := #[], attributes := #[] }
def k11m1 : Method := { name := "checkIndex", desc := "(IILjava/util/function/BiFunction;)I", sig := { parameters := [.int, .int, (.object "java/util/function/BiFunction")], returnType := some .int }, accessFlags := 9, code := some k11c1 }
def k11c2 : Code := { maxStack := 4, maxLocals := 4, code := jdk_41_method_12_code, exceptionTable := #[], attributes := #[] }
def k11m2 : Method := { name := "checkFromToIndex", desc := "(IIILjava/util/function/BiFunction;)I", sig := { parameters := [.int, .int, .int, (.object "java/util/function/BiFunction")], returnType := some .int }, accessFlags := 9, code := some k11c2 }
/-- jdk/internal/util/Preconditions -/
def k11 : Class := { plain "jdk/internal/util/Preconditions" (some 0) with
  accessFlags := 33
  interfaces := #[]
  cf := some (fileOf pool11 24 #[.nestMembers #[55, 131, 125, 114]] #[{ accessFlags := 1, nameIndex := 5, descriptorIndex := 6, attributes := #[] }, { accessFlags := 9, nameIndex := 33, descriptorIndex := 178, attributes := #[] }, { accessFlags := 9, nameIndex := 47, descriptorIndex := 183, attributes := #[] }] 33 2 #[] #[{ accessFlags := 25, nameIndex := 123, descriptorIndex := 124, attributes := #[] }, { accessFlags := 25, nameIndex := 130, descriptorIndex := 124, attributes := #[] }, { accessFlags := 25, nameIndex := 136, descriptorIndex := 124, attributes := #[] }])
  fields := #[{ name := "SIOOBE_FORMATTER", type := (.object "java/util/function/BiFunction"), accessFlags := 25, slot := 0, constantValue := 0 }, { name := "AIOOBE_FORMATTER", type := (.object "java/util/function/BiFunction"), accessFlags := 25, slot := 1, constantValue := 0 }, { name := "IOOBE_FORMATTER", type := (.object "java/util/function/BiFunction"), accessFlags := 25, slot := 2, constantValue := 0 }]
  methods := #[k11m0, k11m1, k11m2]
  instanceTypes := #[]
  staticTypes := #[(.object "java/util/function/BiFunction"), (.object "java/util/function/BiFunction"), (.object "java/util/function/BiFunction")]
  resolved := Array.replicate 194 none
  statics := some 1 }

def pool12 : Array CpInfo := pool [(1, .class_ 2), (0, u "java/lang/Appendable"), (0, .class_ 4), (0, u "java/lang/Object")] 9

/-- java/lang/Appendable -/
def k12 : Class := { plain "java/lang/Appendable" (some 0) with
  accessFlags := 1537
  interfaces := #[]
  cf := some (fileOf pool12 1 #[] #[] 1537 3 #[] #[])
  fields := #[]
  methods := #[]
  instanceTypes := #[]
  staticTypes := #[]
  resolved := Array.replicate 14 none
  statics := none }

def pool13 : Array CpInfo := pool [(1, .class_ 2), (0, u "java/lang/String"), (0, .methodref 4 5), (0, .class_ 6), (0, .nameAndType 7 8), (0, u "java/lang/Object"), (0, u "<init>"), (0, u "()V"), (1, .class_ 12), (1, u "java/lang/AbstractStringBuilder"), (0, u "EMPTYVALUE"), (0, u "[B"), (0, .fieldref 10 16), (0, .nameAndType 17 14), (0, u "value"), (0, .fieldref 1 19), (0, .nameAndType 20 21), (0, u "COMPACT_STRINGS"), (0, u "Z"), (0, .fieldref 10 23), (0, .nameAndType 24 25), (0, u "coder"), (0, u "B"), (7, .nameAndType 34 35), (0, u "length"), (0, u "()I"), (9, u "append"), (1, .interfaceMethodref 48 33), (0, .class_ 49), (0, u "java/lang/CharSequence"), (25, u "maybeLatin1"), (3, .fieldref 10 80), (0, .nameAndType 81 82), (0, u "count"), (0, u "I"), (0, .methodref 10 84), (0, .nameAndType 85 86), (0, u "isLatin1"), (0, u "()Z"), (1, .class_ 90), (1, u "java/lang/StringLatin1"), (9, .methodref 10 101), (0, .nameAndType 102 103), (0, u "ensureCapacityInternal"), (0, u "(I)V"), (57, .methodref 162 163), (0, .class_ 164), (0, .nameAndType 165 166), (0, u "jdk/internal/util/Preconditions"), (0, u "checkFromToIndex"), (0, u "(IIILjava/util/function/BiFunction;)I"), (15, u "Ljava/util/function/BiFunction;"), (0, .fieldref 162 184), (0, .nameAndType 185 182), (0, u "IOOBE_FORMATTER"), (5, .methodref 88 192), (0, .nameAndType 193 194), (0, u "canEncode"), (0, u "(C)Z"), (30, u "(Ljava/lang/CharSequence;II)Ljava/lang/AbstractStringBuilder;"), (6, .methodref 10 233), (0, .nameAndType 234 235), (0, u "appendChars"), (0, u "(Ljava/lang/String;II)V"), (56, u "(C)Ljava/lang/AbstractStringBuilder;"), (16, .methodref 310 311), (0, .class_ 312), (0, .nameAndType 313 314), (0, u "java/lang/System"), (0, u "arraycopy"), (0, u "(Ljava/lang/Object;ILjava/lang/Object;II)V"), (85, .methodref 1 84), (0, .methodref 1 402), (0, .nameAndType 17 403), (0, u "()[B"), (40, .class_ 445), (0, u "java/lang/Appendable"), (106, u "getValue")] 56

def k13m0 : Method := { name := "<init>", desc := "()V", sig := { parameters := [], returnType := none }, accessFlags := 0, code := none }
def k13c1 : Code := { maxStack := 2, maxLocals := 2, code := jdk_68_method_2_code, exceptionTable := #[], attributes := #[] }
def k13m1 : Method := { name := "<init>", desc := "(I)V", sig := { parameters := [.int], returnType := none }, accessFlags := 0, code := some k13c1 }
def k13c2 : Code := { maxStack := 1, maxLocals := 1, code := jdk_68_method_6_code, exceptionTable := #[], attributes := #[] }
def k13m2 : Method := { name := "length", desc := "()I", sig := { parameters := [], returnType := some .int }, accessFlags := 1, code := some k13c2 }
def k13c3 : Code := { maxStack := 4, maxLocals := 3, code := jdk_68_method_9_code, exceptionTable := #[], attributes := #[] }
def k13m3 : Method := { name := "ensureCapacityInternal", desc := "(I)V", sig := { parameters := [.int], returnType := none }, accessFlags := 2, code := some k13c3 }
def k13c4 : Code := { maxStack := 4, maxLocals := 5, code := jdk_68_method_27_code, exceptionTable := #[], attributes := #[] }
def k13m4 : Method := { name := "append", desc := "(Ljava/lang/CharSequence;II)Ljava/lang/AbstractStringBuilder;", sig := { parameters := [(.object "java/lang/CharSequence"), .int, .int], returnType := some (.object "java/lang/AbstractStringBuilder") }, accessFlags := 1, code := some k13c4 }
def k13c5 : Code := { maxStack := 5, maxLocals := 2, code := jdk_68_method_31_code, exceptionTable := #[], attributes := #[] }
def k13m5 : Method := { name := "append", desc := "(C)Ljava/lang/AbstractStringBuilder;", sig := { parameters := [.char], returnType := some (.object "java/lang/AbstractStringBuilder") }, accessFlags := 1, code := some k13c5 }
def k13c6 : Code := { maxStack := 1, maxLocals := 1, code := jdk_68_method_64_code, exceptionTable := #[], attributes := #[] }
def k13m6 : Method := { name := "getValue", desc := "()[B", sig := { parameters := [], returnType := some (.array .byte) }, accessFlags := 16, code := some k13c6 }
def k13c7 : Code := { maxStack := 1, maxLocals := 1, code := jdk_68_method_68_code, exceptionTable := #[], attributes := #[] }
def k13m7 : Method := { name := "isLatin1", desc := "()Z", sig := { parameters := [], returnType := some .boolean }, accessFlags := 16, code := some k13c7 }
def k13c8 : Code := { maxStack := 6, maxLocals := 8, code := jdk_68_method_75_code, exceptionTable := #[], attributes := #[] }
def k13m8 : Method := { name := "appendChars", desc := "(Ljava/lang/String;II)V", sig := { parameters := [(.object "java/lang/String"), .int, .int], returnType := none }, accessFlags := 18, code := some k13c8 }
/-- java/lang/AbstractStringBuilder -/
def k13 : Class := { plain "java/lang/AbstractStringBuilder" (some 0) with
  accessFlags := 1056
  interfaces := #[12, 4]
  cf := some (fileOf pool13 10 #[] #[{ accessFlags := 0, nameIndex := 7, descriptorIndex := 8, attributes := #[] }, { accessFlags := 0, nameIndex := 7, descriptorIndex := 103, attributes := #[] }, { accessFlags := 1, nameIndex := 34, descriptorIndex := 35, attributes := #[] }, { accessFlags := 2, nameIndex := 102, descriptorIndex := 103, attributes := #[] }, { accessFlags := 1, nameIndex := 45, descriptorIndex := 225, attributes := #[] }, { accessFlags := 1, nameIndex := 45, descriptorIndex := 292, attributes := #[] }, { accessFlags := 16, nameIndex := 552, descriptorIndex := 403, attributes := #[] }, { accessFlags := 16, nameIndex := 85, descriptorIndex := 86, attributes := #[] }, { accessFlags := 18, nameIndex := 234, descriptorIndex := 235, attributes := #[] }] 1056 4 #[444, 48] #[{ accessFlags := 0, nameIndex := 17, descriptorIndex := 14, attributes := #[] }, { accessFlags := 0, nameIndex := 24, descriptorIndex := 25, attributes := #[] }, { accessFlags := 0, nameIndex := 75, descriptorIndex := 21, attributes := #[] }, { accessFlags := 0, nameIndex := 81, descriptorIndex := 82, attributes := #[] }, { accessFlags := 26, nameIndex := 13, descriptorIndex := 14, attributes := #[] }])
  fields := #[{ name := "value", type := (.array .byte), accessFlags := 0, slot := 0, constantValue := 0 }, { name := "coder", type := .byte, accessFlags := 0, slot := 1, constantValue := 0 }, { name := "maybeLatin1", type := .boolean, accessFlags := 0, slot := 2, constantValue := 0 }, { name := "count", type := .int, accessFlags := 0, slot := 3, constantValue := 0 }, { name := "EMPTYVALUE", type := (.array .byte), accessFlags := 26, slot := 0, constantValue := 0 }]
  methods := #[k13m0, k13m1, k13m2, k13m3, k13m4, k13m5, k13m6, k13m7, k13m8]
  instanceTypes := #[(.array .byte), .byte, .boolean, .int]
  staticTypes := #[(.array .byte)]
  resolved := Array.replicate 609 none
  statics := none }

def pool14 : Array CpInfo := pool [(1, .methodref 2 3), (0, .class_ 4), (0, .nameAndType 5 6), (0, u "java/lang/AbstractStringBuilder"), (0, u "<init>"), (0, u "(I)V"), (11, .class_ 20), (1, u "java/lang/String"), (3, .class_ 26), (1, u "java/lang/StringBuilder"), (0, u "append"), (10, .methodref 2 39), (0, .nameAndType 27 40), (0, u "(Ljava/lang/CharSequence;II)Ljava/lang/AbstractStringBuilder;"), (9, .methodref 2 51), (0, .nameAndType 27 52), (0, u "(C)Ljava/lang/AbstractStringBuilder;"), (84, .methodref 18 138), (0, .nameAndType 5 139), (0, u "(Ljava/lang/StringBuilder;)V"), (5, u "()V"), (10, u "()I"), (129, u "(C)Ljava/lang/StringBuilder;"), (11, u "(Ljava/lang/CharSequence;II)Ljava/lang/StringBuilder;"), (44, .methodref 2 344), (0, .nameAndType 345 156), (0, u "length"), (3, .class_ 350), (0, u "java/lang/Appendable"), (0, .class_ 352), (0, u "java/io/Serializable"), (0, .class_ 354), (0, u "java/lang/Comparable"), (0, .class_ 356), (0, u "java/lang/CharSequence"), (0, u "serialVersionUID"), (0, u "J"), (40, u "toString"), (0, u "()Ljava/lang/String;")] 21

def k14c0 : Code := { maxStack := 2, maxLocals := 1, code := jdk_67_method_1_code, exceptionTable := #[], attributes := #[] }
def k14m0 : Method := { name := "<init>", desc := "()V", sig := { parameters := [], returnType := none }, accessFlags := 1, code := some k14c0 }
def k14c1 : Code := { maxStack := 4, maxLocals := 4, code := jdk_67_method_10_code, exceptionTable := #[], attributes := #[] }
def k14m1 : Method := { name := "append", desc := "(Ljava/lang/CharSequence;II)Ljava/lang/StringBuilder;", sig := { parameters := [(.object "java/lang/CharSequence"), .int, .int], returnType := some (.object "java/lang/StringBuilder") }, accessFlags := 1, code := some k14c1 }
def k14c2 : Code := { maxStack := 2, maxLocals := 2, code := jdk_67_method_14_code, exceptionTable := #[], attributes := #[] }
def k14m2 : Method := { name := "append", desc := "(C)Ljava/lang/StringBuilder;", sig := { parameters := [.char], returnType := some (.object "java/lang/StringBuilder") }, accessFlags := 1, code := some k14c2 }
def k14c3 : Code := { maxStack := 3, maxLocals := 1, code := jdk_67_method_42_code, exceptionTable := #[], attributes := #[] }
def k14m3 : Method := { name := "toString", desc := "()Ljava/lang/String;", sig := { parameters := [], returnType := some (.object "java/lang/String") }, accessFlags := 1, code := some k14c3 }
def k14c4 : Code := { maxStack := 1, maxLocals := 1, code := jdk_67_method_93_code, exceptionTable := #[], attributes := #[] }
def k14m4 : Method := { name := "length", desc := "()I", sig := { parameters := [], returnType := some .int }, accessFlags := 4161, code := some k14c4 }
/-- java/lang/StringBuilder -/
def k14 : Class := { plain "java/lang/StringBuilder" (some 13) with
  accessFlags := 49
  interfaces := #[12, 2, 3, 4]
  cf := some (fileOf pool14 24 #[] #[{ accessFlags := 1, nameIndex := 5, descriptorIndex := 145, attributes := #[] }, { accessFlags := 1, nameIndex := 27, descriptorIndex := 298, attributes := #[] }, { accessFlags := 1, nameIndex := 27, descriptorIndex := 286, attributes := #[] }, { accessFlags := 1, nameIndex := 399, descriptorIndex := 400, attributes := #[] }, { accessFlags := 4161, nameIndex := 345, descriptorIndex := 156, attributes := #[] }] 49 2 #[349, 351, 353, 355] #[{ accessFlags := 24, nameIndex := 357, descriptorIndex := 358, attributes := #[] }])
  fields := #[{ name := "serialVersionUID", type := .long, accessFlags := 24, slot := 0, constantValue := 0 }]
  methods := #[k14m0, k14m1, k14m2, k14m3, k14m4]
  instanceTypes := #[(.array .byte), .byte, .boolean, .int]
  staticTypes := #[.long]
  resolved := Array.replicate 422 none
  statics := none }

def pool15 : Array CpInfo := pool [(1, .class_ 2), (0, u "java/lang/Math"), (1, .class_ 6), (1, u "java/lang/Object"), (0, u "<init>"), (0, u "()V"), (89, .class_ 100), (1, u "java/lang/Math$RandomNumberGeneratorHolder"), (71, u "negativeZeroFloatBits"), (0, u "J"), (2, u "negativeZeroDoubleBits"), (21, u "max"), (2, u "min"), (43, u "$assertionsDisabled"), (0, u "Z"), (88, u "(II)I"), (2, u "twoToTheDoubleScaleDown"), (0, u "D"), (4, u "twoToTheDoubleScaleUp"), (9, u "E"), (3, u "PI"), (2, u "TAU"), (2, u "DEGREES_TO_RADIANS"), (0, u "RADIANS_TO_DEGREES")] 94

def k15m0 : Method := { name := "<init>", desc := "()V", sig := { parameters := [], returnType := none }, accessFlags := 2, code := none }
def k15c1 : Code := { maxStack := 2, maxLocals := 2, code := jdk_29_method_65_code, exceptionTable := #[], attributes := #[] }
def k15m1 : Method := { name := "max", desc := "(II)I", sig := { parameters := [.int, .int], returnType := some .int }, accessFlags := 9, code := some k15c1 }
def k15c2 : Code := { maxStack := 2, maxLocals := 2, code := jdk_29_method_69_code, exceptionTable := #[], attributes := #[] }
def k15m2 : Method := { name := "min", desc := "(II)I", sig := { parameters := [.int, .int], returnType := some .int }, accessFlags := 9, code := some k15c2 }
/-- java/lang/Math -/
def k15 : Class := { plain "java/lang/Math" (some 0) with
  accessFlags := 49
  interfaces := #[]
  cf := some (fileOf pool15 1 #[.nestMembers #[98]] #[{ accessFlags := 2, nameIndex := 7, descriptorIndex := 8, attributes := #[] }, { accessFlags := 9, nameIndex := 198, descriptorIndex := 335, attributes := #[] }, { accessFlags := 9, nameIndex := 201, descriptorIndex := 335, attributes := #[] }] 49 4 #[] #[{ accessFlags := 25, nameIndex := 354, descriptorIndex := 339, attributes := #[] }, { accessFlags := 25, nameIndex := 358, descriptorIndex := 339, attributes := #[] }, { accessFlags := 25, nameIndex := 361, descriptorIndex := 339, attributes := #[] }, { accessFlags := 26, nameIndex := 364, descriptorIndex := 339, attributes := #[] }, { accessFlags := 26, nameIndex := 365, descriptorIndex := 339, attributes := #[] }, { accessFlags := 26, nameIndex := 172, descriptorIndex := 173, attributes := #[] }, { accessFlags := 26, nameIndex := 176, descriptorIndex := 173, attributes := #[] }, { accessFlags := 8, nameIndex := 344, descriptorIndex := 339, attributes := #[] }, { accessFlags := 8, nameIndex := 338, descriptorIndex := 339, attributes := #[] }, { accessFlags := 4120, nameIndex := 245, descriptorIndex := 246, attributes := #[] }])
  fields := #[{ name := "E", type := .double, accessFlags := 25, slot := 0, constantValue := 0 }, { name := "PI", type := .double, accessFlags := 25, slot := 1, constantValue := 0 }, { name := "TAU", type := .double, accessFlags := 25, slot := 2, constantValue := 0 }, { name := "DEGREES_TO_RADIANS", type := .double, accessFlags := 26, slot := 3, constantValue := 0 }, { name := "RADIANS_TO_DEGREES", type := .double, accessFlags := 26, slot := 4, constantValue := 0 }, { name := "negativeZeroFloatBits", type := .long, accessFlags := 26, slot := 5, constantValue := 0 }, { name := "negativeZeroDoubleBits", type := .long, accessFlags := 26, slot := 6, constantValue := 0 }, { name := "twoToTheDoubleScaleUp", type := .double, accessFlags := 8, slot := 7, constantValue := 0 }, { name := "twoToTheDoubleScaleDown", type := .double, accessFlags := 8, slot := 8, constantValue := 0 }, { name := "$assertionsDisabled", type := .boolean, accessFlags := 4120, slot := 9, constantValue := 0 }]
  methods := #[k15m0, k15m1, k15m2]
  instanceTypes := #[]
  staticTypes := #[.double, .double, .double, .double, .double, .long, .long, .double, .double, .boolean]
  resolved := Array.replicate 460 none
  statics := none }

def pool16 : Array CpInfo := pool [(2, .class_ 4), (1, u "java/lang/Object"), (0, u "<init>"), (0, u "()V"), (1, .class_ 10), (1, u "java/lang/System"), (0, u "allowSecurityManager"), (0, u "I"), (16, u "cons"), (0, u "Ljava/io/Console;"), (77, .class_ 110), (1, u "java/lang/System$CallersHolder"), (43, u "initialErrStream"), (0, u "Ljava/io/PrintStream;"), (19, u "security"), (0, u "Ljava/lang/SecurityManager;"), (31, .class_ 209), (0, u "java/lang/System$1"), (7, u "props"), (0, u "Ljava/util/Properties;"), (2, u "lineSeparator"), (0, u "Ljava/lang/String;"), (96, .class_ 321), (1, u "java/lang/System$LoggerFinder"), (5, .class_ 328), (0, u "java/lang/System$Logger"), (67, u "err"), (2, u "out"), (91, u "notSupportedJnuEncoding"), (15, u "in"), (17, u "initialIn"), (0, u "Ljava/io/InputStream;"), (35, u "bootLayer"), (0, u "Ljava/lang/ModuleLayer;"), (99, .class_ 664), (0, u "java/lang/System$2"), (9, u "NEVER"), (2, u "MAYBE"), (49, u "arraycopy"), (0, u "(Ljava/lang/Object;ILjava/lang/Object;II)V"), (72, .class_ 802), (0, u "java/lang/System$Logger$Level")] 31

def k16m0 : Method := { name := "<init>", desc := "()V", sig := { parameters := [], returnType := none }, accessFlags := 2, code := none }
def k16m1 : Method := { name := "arraycopy", desc := "(Ljava/lang/Object;ILjava/lang/Object;II)V", sig := { parameters := [(.object "java/lang/Object"), .int, (.object "java/lang/Object"), .int, .int], returnType := none }, accessFlags := 265, code := none }
/-- java/lang/System -/
def k16 : Class := { plain "java/lang/System" (some 0) with
  accessFlags := 49
  interfaces := #[]
  cf := some (fileOf pool16 8 #[.nestMembers #[319, 327, 801, 108, 663, 208]] #[{ accessFlags := 2, nameIndex := 5, descriptorIndex := 6, attributes := #[] }, { accessFlags := 265, nameIndex := 727, descriptorIndex := 728, attributes := #[] }] 49 2 #[] #[{ accessFlags := 25, nameIndex := 507, descriptorIndex := 526, attributes := #[] }, { accessFlags := 25, nameIndex := 399, descriptorIndex := 155, attributes := #[] }, { accessFlags := 25, nameIndex := 396, descriptorIndex := 155, attributes := #[] }, { accessFlags := 10, nameIndex := 525, descriptorIndex := 526, attributes := #[] }, { accessFlags := 26, nameIndex := 674, descriptorIndex := 12, attributes := #[] }, { accessFlags := 26, nameIndex := 677, descriptorIndex := 12, attributes := #[] }, { accessFlags := 10, nameIndex := 11, descriptorIndex := 12, attributes := #[] }, { accessFlags := 74, nameIndex := 175, descriptorIndex := 176, attributes := #[] }, { accessFlags := 10, nameIndex := 491, descriptorIndex := 222, attributes := #[] }, { accessFlags := 74, nameIndex := 29, descriptorIndex := 30, attributes := #[] }, { accessFlags := 74, nameIndex := 154, descriptorIndex := 155, attributes := #[] }, { accessFlags := 10, nameIndex := 217, descriptorIndex := 218, attributes := #[] }, { accessFlags := 10, nameIndex := 221, descriptorIndex := 222, attributes := #[] }, { accessFlags := 8, nameIndex := 562, descriptorIndex := 563, attributes := #[] }])
  fields := #[{ name := "in", type := (.object "java/io/InputStream"), accessFlags := 25, slot := 0, constantValue := 0 }, { name := "out", type := (.object "java/io/PrintStream"), accessFlags := 25, slot := 1, constantValue := 0 }, { name := "err", type := (.object "java/io/PrintStream"), accessFlags := 25, slot := 2, constantValue := 0 }, { name := "initialIn", type := (.object "java/io/InputStream"), accessFlags := 10, slot := 3, constantValue := 0 }, { name := "NEVER", type := .int, accessFlags := 26, slot := 4, constantValue := 0 }, { name := "MAYBE", type := .int, accessFlags := 26, slot := 5, constantValue := 0 }, { name := "allowSecurityManager", type := .int, accessFlags := 10, slot := 6, constantValue := 0 }, { name := "security", type := (.object "java/lang/SecurityManager"), accessFlags := 74, slot := 7, constantValue := 0 }, { name := "notSupportedJnuEncoding", type := (.object "java/lang/String"), accessFlags := 10, slot := 8, constantValue := 0 }, { name := "cons", type := (.object "java/io/Console"), accessFlags := 74, slot := 9, constantValue := 0 }, { name := "initialErrStream", type := (.object "java/io/PrintStream"), accessFlags := 74, slot := 10, constantValue := 0 }, { name := "props", type := (.object "java/util/Properties"), accessFlags := 10, slot := 11, constantValue := 0 }, { name := "lineSeparator", type := (.object "java/lang/String"), accessFlags := 10, slot := 12, constantValue := 0 }, { name := "bootLayer", type := (.object "java/lang/ModuleLayer"), accessFlags := 8, slot := 13, constantValue := 0 }]
  methods := #[k16m0, k16m1]
  instanceTypes := #[]
  staticTypes := #[(.object "java/io/InputStream"), (.object "java/io/PrintStream"), (.object "java/io/PrintStream"), (.object "java/io/InputStream"), .int, .int, .int, (.object "java/lang/SecurityManager"), (.object "java/lang/String"), (.object "java/io/Console"), (.object "java/io/PrintStream"), (.object "java/util/Properties"), (.object "java/lang/String"), (.object "java/lang/ModuleLayer")]
  resolved := Array.replicate 834 none
  statics := none }

def pool17 : Array CpInfo := pool [(1, .methodref 2 3), (0, .class_ 4), (0, .nameAndType 5 6), (0, u "java/lang/Object"), (0, u "<init>"), (0, u "()V"), (0, .class_ 8), (0, u "java/lang/Record")] 13

def k17c0 : Code := { maxStack := 1, maxLocals := 1, code := jdk_30_method_1_code, exceptionTable := #[], attributes := #[] }
def k17m0 : Method := { name := "<init>", desc := "()V", sig := { parameters := [], returnType := none }, accessFlags := 4, code := some k17c0 }
/-- java/lang/Record -/
def k17 : Class := { plain "java/lang/Record" (some 0) with
  accessFlags := 1057
  interfaces := #[]
  cf := some (fileOf pool17 7 #[] #[{ accessFlags := 4, nameIndex := 5, descriptorIndex := 6, attributes := #[] }] 1057 2 #[] #[])
  fields := #[]
  methods := #[k17m0]
  instanceTypes := #[]
  staticTypes := #[]
  resolved := Array.replicate 22 none
  statics := none }

def pool18 : Array CpInfo := pool [(1, .methodref 2 3), (0, .class_ 4), (0, .nameAndType 5 6), (0, u "java/lang/Record"), (0, u "<init>"), (0, u "()V"), (0, .fieldref 8 9), (0, .class_ 10), (0, .nameAndType 11 12), (0, u "com/example/purveyor/purveyor/sqlite/QuotedText$Run"), (0, u "content"), (0, u "Ljava/lang/String;"), (0, .fieldref 8 14), (0, .nameAndType 15 16), (0, u "end"), (0, u "I"), (12, u "(Ljava/lang/String;I)V"), (3, u "()Ljava/lang/String;"), (0, u "()I"), (4, .class_ 40), (0, u "com/example/purveyor/purveyor/sqlite/QuotedText")] 20

def k18c0 : Code := { maxStack := 2, maxLocals := 3, code := prog_32_method_1_code, exceptionTable := #[], attributes := #[] }
def k18m0 : Method := { name := "<init>", desc := "(Ljava/lang/String;I)V", sig := { parameters := [(.object "java/lang/String"), .int], returnType := none }, accessFlags := 0, code := some k18c0 }
def k18c1 : Code := { maxStack := 1, maxLocals := 1, code := prog_32_method_5_code, exceptionTable := #[], attributes := #[] }
def k18m1 : Method := { name := "content", desc := "()Ljava/lang/String;", sig := { parameters := [], returnType := some (.object "java/lang/String") }, accessFlags := 1, code := some k18c1 }
def k18c2 : Code := { maxStack := 1, maxLocals := 1, code := prog_32_method_6_code, exceptionTable := #[], attributes := #[] }
def k18m2 : Method := { name := "end", desc := "()I", sig := { parameters := [], returnType := some .int }, accessFlags := 1, code := some k18c2 }
/-- com/example/purveyor/purveyor/sqlite/QuotedText$Run -/
def k18 : Class := { plain "com/example/purveyor/purveyor/sqlite/QuotedText$Run" (some 17) with
  accessFlags := 48
  interfaces := #[]
  cf := some (fileOf pool18 8 #[.nestHost 39] #[{ accessFlags := 0, nameIndex := 5, descriptorIndex := 29, attributes := #[] }, { accessFlags := 1, nameIndex := 11, descriptorIndex := 33, attributes := #[] }, { accessFlags := 1, nameIndex := 15, descriptorIndex := 34, attributes := #[] }] 48 2 #[] #[{ accessFlags := 18, nameIndex := 11, descriptorIndex := 12, attributes := #[] }, { accessFlags := 18, nameIndex := 15, descriptorIndex := 16, attributes := #[] }])
  fields := #[{ name := "content", type := (.object "java/lang/String"), accessFlags := 18, slot := 0, constantValue := 0 }, { name := "end", type := .int, accessFlags := 18, slot := 1, constantValue := 0 }]
  methods := #[k18m0, k18m1, k18m2]
  instanceTypes := #[(.object "java/lang/String"), .int]
  staticTypes := #[]
  resolved := Array.replicate 61 none
  statics := none }

def pool19 : Array CpInfo := pool [(2, .class_ 4), (1, u "java/lang/Object"), (0, u "<init>"), (0, u "()V"), (7, .class_ 16), (1, u "java/util/Arrays"), (57, .class_ 76), (1, u "java/util/Arrays$NaturalOrder"), (36, .class_ 115), (1, u "java/util/Arrays$LegacyMergeSort"), (1, u "Z"), (21, u "copyOfRange"), (10, .methodref 151 152), (0, .class_ 153), (0, .nameAndType 154 155), (0, u "java/lang/System"), (0, u "arraycopy"), (0, u "(Ljava/lang/Object;ILjava/lang/Object;II)V"), (148, .methodref 305 306), (0, .class_ 307), (0, .nameAndType 308 309), (0, u "java/lang/Math"), (0, u "min"), (0, u "(II)I"), (29, .methodref 14 340), (0, .nameAndType 341 342), (0, u "copyOfRangeByte"), (0, u "([BII)[B"), (0, .methodref 14 344), (0, .nameAndType 345 346), (0, u "checkLength"), (0, u "(II)V"), (28, .class_ 376), (0, u "java/util/Arrays$ArrayList"), (68, u "$assertionsDisabled"), (269, u "MIN_ARRAY_SORT_GRAN"), (0, u "I"), (2, u "INSERTIONSORT_THRESHOLD"), (255, .class_ 976), (0, u "java/util/Arrays$ArrayItr")] 52

def k19m0 : Method := { name := "<init>", desc := "()V", sig := { parameters := [], returnType := none }, accessFlags := 2, code := none }
def k19c1 : Code := { maxStack := 4, maxLocals := 2, code := jdk_65_method_131_code, exceptionTable := #[], attributes := #[] }
def k19m1 : Method := { name := "checkLength", desc := "(II)V", sig := { parameters := [.int, .int], returnType := none }, accessFlags := 10, code := some k19c1 }
def k19c2 : Code := { maxStack := 3, maxLocals := 3, code := jdk_65_method_132_code, exceptionTable := #[], attributes := #[] }
def k19m2 : Method := { name := "copyOfRange", desc := "([BII)[B", sig := { parameters := [(.array .byte), .int, .int], returnType := some (.array .byte) }, accessFlags := 9, code := some k19c2 }
def k19c3 : Code := { maxStack := 6, maxLocals := 5, code := jdk_65_method_133_code, exceptionTable := #[], attributes := #[] }
def k19m3 : Method := { name := "copyOfRangeByte", desc := "([BII)[B", sig := { parameters := [(.array .byte), .int, .int], returnType := some (.array .byte) }, accessFlags := 10, code := some k19c3 }
/-- java/util/Arrays -/
def k19 : Class := { plain "java/util/Arrays" (some 0) with
  accessFlags := 49
  interfaces := #[]
  cf := some (fileOf pool19 14 #[.nestMembers #[975, 375, 113, 74]] #[{ accessFlags := 2, nameIndex := 5, descriptorIndex := 6, attributes := #[] }, { accessFlags := 10, nameIndex := 345, descriptorIndex := 346, attributes := #[] }, { accessFlags := 9, nameIndex := 139, descriptorIndex := 342, attributes := #[] }, { accessFlags := 10, nameIndex := 341, descriptorIndex := 342, attributes := #[] }] 49 2 #[] #[{ accessFlags := 26, nameIndex := 715, descriptorIndex := 716, attributes := #[] }, { accessFlags := 26, nameIndex := 719, descriptorIndex := 716, attributes := #[] }, { accessFlags := 4120, nameIndex := 445, descriptorIndex := 117, attributes := #[] }])
  fields := #[{ name := "MIN_ARRAY_SORT_GRAN", type := .int, accessFlags := 26, slot := 0, constantValue := 0 }, { name := "INSERTIONSORT_THRESHOLD", type := .int, accessFlags := 26, slot := 1, constantValue := 0 }, { name := "$assertionsDisabled", type := .boolean, accessFlags := 4120, slot := 2, constantValue := 0 }]
  methods := #[k19m0, k19m1, k19m2, k19m3]
  instanceTypes := #[]
  staticTypes := #[.int, .int, .boolean]
  resolved := Array.replicate 1029 none
  statics := none }

def pool20 : Array CpInfo := pool [(9, u "<init>"), (6, .class_ 18), (1, u "java/lang/Object"), (0, u "()V"), (1, .class_ 23), (1, u "jdk/internal/util/ArraysSupport"), (0, u "LOG2_ARRAY_LONG_INDEX_SCALE"), (0, u "I"), (2, u "U"), (0, u "Ljdk/internal/misc/Unsafe;"), (8, u "BIG_ENDIAN"), (0, u "Z"), (8, u "LOG2_BYTE_BIT_SIZE"), (4, u "LOG2_ARRAY_INT_INDEX_SCALE"), (54, u "JLA"), (0, u "Ljdk/internal/access/JavaLangAccess;"), (11, u "LOG2_ARRAY_BOOLEAN_INDEX_SCALE"), (9, u "LOG2_ARRAY_BYTE_INDEX_SCALE"), (5, u "LOG2_ARRAY_CHAR_INDEX_SCALE"), (5, u "LOG2_ARRAY_SHORT_INDEX_SCALE"), (18, u "LOG2_ARRAY_FLOAT_INDEX_SCALE"), (24, u "LOG2_ARRAY_DOUBLE_INDEX_SCALE"), (89, u "T_BOOLEAN"), (2, u "T_CHAR"), (1, u "T_FLOAT"), (1, u "T_DOUBLE"), (1, u "T_BYTE"), (1, u "T_SHORT"), (1, u "T_INT"), (1, u "T_LONG"), (1, u "SOFT_MAX_ARRAY_LENGTH")] 83

def k20m0 : Method := { name := "<init>", desc := "()V", sig := { parameters := [], returnType := none }, accessFlags := 2, code := none }
/-- jdk/internal/util/ArraysSupport -/
def k20 : Class := { plain "jdk/internal/util/ArraysSupport" (some 0) with
  accessFlags := 33
  interfaces := #[]
  cf := some (fileOf pool20 21 #[] #[{ accessFlags := 2, nameIndex := 9, descriptorIndex := 19, attributes := #[] }] 33 16 #[] #[{ accessFlags := 24, nameIndex := 28, descriptorIndex := 29, attributes := #[] }, { accessFlags := 26, nameIndex := 38, descriptorIndex := 39, attributes := #[] }, { accessFlags := 25, nameIndex := 121, descriptorIndex := 25, attributes := #[] }, { accessFlags := 25, nameIndex := 131, descriptorIndex := 25, attributes := #[] }, { accessFlags := 25, nameIndex := 137, descriptorIndex := 25, attributes := #[] }, { accessFlags := 25, nameIndex := 143, descriptorIndex := 25, attributes := #[] }, { accessFlags := 25, nameIndex := 53, descriptorIndex := 25, attributes := #[] }, { accessFlags := 25, nameIndex := 24, descriptorIndex := 25, attributes := #[] }, { accessFlags := 25, nameIndex := 162, descriptorIndex := 25, attributes := #[] }, { accessFlags := 25, nameIndex := 187, descriptorIndex := 25, attributes := #[] }, { accessFlags := 26, nameIndex := 48, descriptorIndex := 25, attributes := #[] }, { accessFlags := 25, nameIndex := 277, descriptorIndex := 25, attributes := #[] }, { accessFlags := 25, nameIndex := 280, descriptorIndex := 25, attributes := #[] }, { accessFlags := 25, nameIndex := 282, descriptorIndex := 25, attributes := #[] }, { accessFlags := 25, nameIndex := 284, descriptorIndex := 25, attributes := #[] }, { accessFlags := 25, nameIndex := 286, descriptorIndex := 25, attributes := #[] }, { accessFlags := 25, nameIndex := 288, descriptorIndex := 25, attributes := #[] }, { accessFlags := 25, nameIndex := 290, descriptorIndex := 25, attributes := #[] }, { accessFlags := 25, nameIndex := 292, descriptorIndex := 25, attributes := #[] }, { accessFlags := 26, nameIndex := 108, descriptorIndex := 109, attributes := #[] }, { accessFlags := 25, nameIndex := 294, descriptorIndex := 25, attributes := #[] }])
  fields := #[{ name := "U", type := (.object "jdk/internal/misc/Unsafe"), accessFlags := 24, slot := 0, constantValue := 0 }, { name := "BIG_ENDIAN", type := .boolean, accessFlags := 26, slot := 1, constantValue := 0 }, { name := "LOG2_ARRAY_BOOLEAN_INDEX_SCALE", type := .int, accessFlags := 25, slot := 2, constantValue := 0 }, { name := "LOG2_ARRAY_BYTE_INDEX_SCALE", type := .int, accessFlags := 25, slot := 3, constantValue := 0 }, { name := "LOG2_ARRAY_CHAR_INDEX_SCALE", type := .int, accessFlags := 25, slot := 4, constantValue := 0 }, { name := "LOG2_ARRAY_SHORT_INDEX_SCALE", type := .int, accessFlags := 25, slot := 5, constantValue := 0 }, { name := "LOG2_ARRAY_INT_INDEX_SCALE", type := .int, accessFlags := 25, slot := 6, constantValue := 0 }, { name := "LOG2_ARRAY_LONG_INDEX_SCALE", type := .int, accessFlags := 25, slot := 7, constantValue := 0 }, { name := "LOG2_ARRAY_FLOAT_INDEX_SCALE", type := .int, accessFlags := 25, slot := 8, constantValue := 0 }, { name := "LOG2_ARRAY_DOUBLE_INDEX_SCALE", type := .int, accessFlags := 25, slot := 9, constantValue := 0 }, { name := "LOG2_BYTE_BIT_SIZE", type := .int, accessFlags := 26, slot := 10, constantValue := 0 }, { name := "T_BOOLEAN", type := .int, accessFlags := 25, slot := 11, constantValue := 0 }, { name := "T_CHAR", type := .int, accessFlags := 25, slot := 12, constantValue := 0 }, { name := "T_FLOAT", type := .int, accessFlags := 25, slot := 13, constantValue := 0 }, { name := "T_DOUBLE", type := .int, accessFlags := 25, slot := 14, constantValue := 0 }, { name := "T_BYTE", type := .int, accessFlags := 25, slot := 15, constantValue := 0 }, { name := "T_SHORT", type := .int, accessFlags := 25, slot := 16, constantValue := 0 }, { name := "T_INT", type := .int, accessFlags := 25, slot := 17, constantValue := 0 }, { name := "T_LONG", type := .int, accessFlags := 25, slot := 18, constantValue := 0 }, { name := "JLA", type := (.object "jdk/internal/access/JavaLangAccess"), accessFlags := 26, slot := 19, constantValue := 0 }, { name := "SOFT_MAX_ARRAY_LENGTH", type := .int, accessFlags := 25, slot := 20, constantValue := 0 }]
  methods := #[k20m0]
  instanceTypes := #[]
  staticTypes := #[(.object "jdk/internal/misc/Unsafe"), .boolean, .int, .int, .int, .int, .int, .int, .int, .int, .int, .int, .int, .int, .int, .int, .int, .int, .int, (.object "jdk/internal/access/JavaLangAccess"), .int]
  resolved := Array.replicate 378 none
  statics := none }

def pool21 : Array CpInfo := pool [(1, u "java/lang/Cloneable"), (0, .class_ 1), (0, u "java/lang/Object"), (0, .class_ 3)] 3

/-- java/lang/Cloneable -/
def k21 : Class := { plain "java/lang/Cloneable" (some 0) with
  accessFlags := 1537
  interfaces := #[]
  cf := some (fileOf pool21 2 #[] #[] 1537 4 #[] #[])
  fields := #[]
  methods := #[]
  instanceTypes := #[]
  staticTypes := #[]
  resolved := Array.replicate 8 none
  statics := none }

/-- the primitive byte -/
def k22 : Class := { plain "byte" none with kind := .primitive 'B', accessFlags := 0x411 }
/-- [B -/
def k23 : Class := { plain "[B" (some 0) with kind := .array 22 .byte, interfaces := #[21, 2], accessFlags := 1041 }

/-- the primitive char -/
def k24 : Class := { plain "char" none with kind := .primitive 'C', accessFlags := 0x411 }
/-- [C -/
def k25 : Class := { plain "[C" (some 0) with kind := .array 24 .char, interfaces := #[21, 2], accessFlags := 1041 }

/-- the primitive int -/
def k26 : Class := { plain "int" none with kind := .primitive 'I', accessFlags := 0x411 }
/-- [I -/
def k27 : Class := { plain "[I" (some 0) with kind := .array 26 .int, interfaces := #[21, 2], accessFlags := 1041 }

def heap : Heap := #[{ cls := 7, slots := #[.long 0, .int 1, .null, .int 0, .null, .int 0, .int 0], vm := .statics 7 },
  { cls := 11, slots := #[.null, .null, .null], vm := .statics 11 }]
def classes : Array Class := #[k0, k1, k2, k3, k4, k5, k6, k7, k8, k9, k10, k11, k12, k13, k14, k15, k16, k17, k18, k19, k20, k21, k22, k23, k24, k25, k26, k27]
def interned : List (Array UInt16 × Addr) := []
def slotsUsed : Nat := 10
def theMethod : MethodId := ⟨1, 4⟩
def args0 : Array Value := #[.int 0, .int 0, .int 0, .int 0]
def aboutOver (below : List Frame) : State where
  vm := { classes := classes, interned := interned.toArray }
  heap := heap
  slotsUsed := slotsUsed
  threads := #[{ frames := .invoking theMethod args0 :: below }]
def below0 : List Frame := [.native { method := ⟨0, 0⟩, args := #[] }]
def about1 : State := aboutOver below0
def p0 : Program := .bare "" "" ""
def e0 : Env := launch0.env 0 0 0
theorem w_frames : about1.frames = Frame.invoking theMethod args0 :: below0 := rfl
set_option maxRecDepth 65536 in
theorem w_args : argsFit about1.vm theMethod args0 = true := by decide +kernel
set_option maxRecDepth 65536 in
theorem w_heap : heapFits about1 = true := by decide +kernel
set_option maxRecDepth 65536 in
theorem w_runnable : about1.curStatus? = some .runnable := by decide +kernel
set_option maxRecDepth 65536 in
theorem w_alone : about1.alone = true := by decide +kernel
set_option maxRecDepth 65536 in
theorem w_named : about1.methodNamed? x = some theMethod := by decide +kernel
set_option maxRecDepth 65536 in
theorem w_hears : about1.hears theMethod below0 = true := by decide +kernel
set_option maxRecDepth 65536 in
theorem w_ripe : about1.ripe theMethod args0 below0 = true := by decide +kernel
theorem w_running : about1.status = .running := rfl
set_option maxRecDepth 65536 in
theorem w_room : about1.hasRoom e0.platform room_1 = true :=
  launch0.hasRoom_least _ room_1 (by decide +kernel) (by decide +kernel) (by decide +kernel) (by decide +kernel) (by decide +kernel) (by decide +kernel)
theorem allAtoms_all (ts : List Jvm.Cond) (a : Array Jvm.Value) (st : Jvm.State) : (allAtoms ts).before a st = ts.all (fun c => c.before a st) := by
  induction ts with
  | nil => rfl
  | cons c t ih =>
    show (Jvm.Cond.and c (allAtoms t)).before a st = _
    rw [Jvm.Cond.before_and, ih, List.all_cons]
def words1 : List Jvm.Cond := Jvm.Cond.code x code maxLocals ret :: tables_1
/-- a 'code' word, met by the world's own term for the bytes: nothing is compared byte by byte -/
theorem code_word {y : MethodName} {bytes : ByteArray} {mx : Nat} {rt : Option FieldType} {a : Array Value} {s : State} {m : MethodId} {meth : Method} {c : Code} (h1 : s.methodNamed? y = some m) (h2 : s.vm.method? m = some meth) (h3 : meth.code = some c) (h4 : c.code = bytes)
    (h5 : (c.maxLocals == mx && c.exceptionTable.isEmpty && decide (c.maxStack ≤ mostOperands) && decide (meth.sig.returnType = rt) && !meth.locks && decide (parseMethodDescriptor y.desc = some meth.sig)) = true) : (Jvm.Cond.code y bytes mx rt).before a s = true := by
  simp only [Bool.and_eq_true, beq_iff_eq, Bool.not_eq_true', decide_eq_true_eq] at h5
  obtain ⟨⟨⟨⟨⟨g1, g2⟩, g3⟩, g4⟩, g5⟩, g6⟩ := h5
  simp [Cond.before, Cond.holds, Cond.value, h1, h2, h3, h4, g1, g2, g3, g4, g5, g6]
def isCode : Jvm.Cond → Bool
  | .code _ _ _ _ => true
  | _ => false
theorem all_split {L : List Jvm.Cond} {P : Jvm.Cond → Bool} (h1 : L.all (fun c => isCode c || P c) = true) (h2 : ∀ c ∈ L.filter isCode, P c = true) : L.all P = true := by
  refine List.all_eq_true.mpr fun c hc => ?_
  have h := List.all_eq_true.mp h1 c hc
  rcases Bool.eq_false_or_eq_true (isCode c) with hi | hi
  · exact h2 c (List.mem_filter.mpr ⟨hc, hi⟩)
  · simpa [hi] using h
set_option maxRecDepth 65536 in
theorem w_c0 : (Jvm.Cond.code x code maxLocals ret).before args0 about1 = true := code_word (m := ⟨1, 4⟩) (meth := k1m4) (c := k1c4) (by decide +kernel) rfl rfl rfl (by decide +kernel)
set_option maxRecDepth 65536 in
theorem w_c1 : (Jvm.Cond.code ({ cls := "com/example/purveyor/purveyor/sqlite/QuotedTextReadPinLaw", name := "pick", desc := "(IICC)C" } : Jvm.MethodName) method_2_code (4 : Nat) (Option.some Jvm.ClassFile.FieldType.char)).before args0 about1 = true := code_word (m := ⟨1, 1⟩) (meth := k1m1) (c := k1c1) (by decide +kernel) rfl rfl rfl (by decide +kernel)
set_option maxRecDepth 65536 in
theorem w_c2 : (Jvm.Cond.code ({ cls := "java/lang/String", name := "<init>", desc := "([C)V" } : Jvm.MethodName) jdk_42_method_3_code (2 : Nat) (Option.none : Option Jvm.ClassFile.FieldType)).before args0 about1 = true := code_word (m := ⟨7, 1⟩) (meth := k7m1) (c := k7c1) (by decide +kernel) rfl rfl rfl (by decide +kernel)
set_option maxRecDepth 65536 in
theorem w_c3 : (Jvm.Cond.code ({ cls := "java/lang/String", name := "<init>", desc := "([CIILjava/lang/Void;)V" } : Jvm.MethodName) jdk_42_method_149_code (6 : Nat) (Option.none : Option Jvm.ClassFile.FieldType)).before args0 about1 = true := code_word (m := ⟨7, 6⟩) (meth := k7m6) (c := k7c6) (by decide +kernel) rfl rfl rfl (by decide +kernel)
set_option maxRecDepth 65536 in
theorem w_c4 : (Jvm.Cond.code ({ cls := "java/lang/Object", name := "<init>", desc := "()V" } : Jvm.MethodName) object_method_1_code (1 : Nat) (Option.none : Option Jvm.ClassFile.FieldType)).before args0 about1 = true := code_word (m := ⟨0, 0⟩) (meth := k0m0) (c := k0c0) (by decide +kernel) rfl rfl rfl (by decide +kernel)
set_option maxRecDepth 65536 in
theorem w_c5 : (Jvm.Cond.code ({ cls := "java/lang/StringUTF16", name := "compress", desc := "([CII)[B" } : Jvm.MethodName) jdk_52_method_16_code (6 : Nat) (Option.some (Jvm.ClassFile.FieldType.array Jvm.ClassFile.FieldType.byte))).before args0 about1 = true := code_word (m := ⟨8, 2⟩) (meth := k8m2) (c := k8c2) (by decide +kernel) rfl rfl rfl (by decide +kernel)
set_option maxRecDepth 65536 in
theorem w_c6 : (Jvm.Cond.code ({ cls := "java/lang/StringUTF16", name := "compress", desc := "([CI[BII)I" } : Jvm.MethodName) jdk_52_method_21_code (7 : Nat) (Option.some Jvm.ClassFile.FieldType.int)).before args0 about1 = true := code_word (m := ⟨8, 3⟩) (meth := k8m3) (c := k8c3) (by decide +kernel) rfl rfl rfl (by decide +kernel)
set_option maxRecDepth 65536 in
theorem w_c7 : (Jvm.Cond.code ({ cls := "java/lang/StringUTF16", name := "coderFromArrayLen", desc := "([BI)B" } : Jvm.MethodName) jdk_52_method_15_code (2 : Nat) (Option.some Jvm.ClassFile.FieldType.byte)).before args0 about1 = true := code_word (m := ⟨8, 1⟩) (meth := k8m1) (c := k8c1) (by decide +kernel) rfl rfl rfl (by decide +kernel)
set_option maxRecDepth 65536 in
theorem w_c8 : (Jvm.Cond.code ({ cls := "com/example/purveyor/purveyor/sqlite/QuotedTextReadPinLaw", name := "step", desc := "([CIIC[I[C)V" } : Jvm.MethodName) method_3_code (7 : Nat) (Option.none : Option Jvm.ClassFile.FieldType)).before args0 about1 = true := code_word (m := ⟨1, 2⟩) (meth := k1m2) (c := k1c2) (by decide +kernel) rfl rfl rfl (by decide +kernel)
set_option maxRecDepth 65536 in
theorem w_c9 : (Jvm.Cond.code ({ cls := "com/example/purveyor/purveyor/sqlite/QuotedText", name := "read", desc := "(Ljava/lang/String;I)Lcom/example/purveyor/purveyor/sqlite/QuotedText$Run;" } : Jvm.MethodName) prog_31_method_2_code (6 : Nat) (Option.some (Jvm.ClassFile.FieldType.object "com/example/purveyor/purveyor/sqlite/QuotedText$Run"))).before args0 about1 = true := code_word (m := ⟨9, 1⟩) (meth := k9m1) (c := k9c1) (by decide +kernel) rfl rfl rfl (by decide +kernel)
set_option maxRecDepth 65536 in
theorem w_c10 : (Jvm.Cond.code ({ cls := "java/lang/String", name := "charAt", desc := "(I)C" } : Jvm.MethodName) jdk_42_method_56_code (2 : Nat) (Option.some Jvm.ClassFile.FieldType.char)).before args0 about1 = true := code_word (m := ⟨7, 4⟩) (meth := k7m4) (c := k7c4) (by decide +kernel) rfl rfl rfl (by decide +kernel)
set_option maxRecDepth 65536 in
theorem w_c11 : (Jvm.Cond.code ({ cls := "java/lang/String", name := "isLatin1", desc := "()Z" } : Jvm.MethodName) jdk_42_method_154_code (1 : Nat) (Option.some Jvm.ClassFile.FieldType.boolean)).before args0 about1 = true := code_word (m := ⟨7, 10⟩) (meth := k7m10) (c := k7c10) (by decide +kernel) rfl rfl rfl (by decide +kernel)
set_option maxRecDepth 65536 in
theorem w_c12 : (Jvm.Cond.code ({ cls := "java/lang/StringLatin1", name := "charAt", desc := "([BI)C" } : Jvm.MethodName) jdk_43_method_2_code (2 : Nat) (Option.some Jvm.ClassFile.FieldType.char)).before args0 about1 = true := code_word (m := ⟨10, 1⟩) (meth := k10m1) (c := k10c1) (by decide +kernel) rfl rfl rfl (by decide +kernel)
set_option maxRecDepth 65536 in
theorem w_c13 : (Jvm.Cond.code ({ cls := "java/lang/String", name := "checkIndex", desc := "(II)V" } : Jvm.MethodName) jdk_42_method_155_code (2 : Nat) (Option.none : Option Jvm.ClassFile.FieldType)).before args0 about1 = true := code_word (m := ⟨7, 11⟩) (meth := k7m11) (c := k7c11) (by decide +kernel) rfl rfl rfl (by decide +kernel)
set_option maxRecDepth 65536 in
theorem w_c14 : (Jvm.Cond.code ({ cls := "jdk/internal/util/Preconditions", name := "checkIndex", desc := "(IILjava/util/function/BiFunction;)I" } : Jvm.MethodName) jdk_41_method_11_code (3 : Nat) (Option.some Jvm.ClassFile.FieldType.int)).before args0 about1 = true := code_word (m := ⟨11, 1⟩) (meth := k11m1) (c := k11c1) (by decide +kernel) rfl rfl rfl (by decide +kernel)
set_option maxRecDepth 65536 in
theorem w_c15 : (Jvm.Cond.code ({ cls := "java/lang/StringBuilder", name := "<init>", desc := "()V" } : Jvm.MethodName) jdk_67_method_1_code (1 : Nat) (Option.none : Option Jvm.ClassFile.FieldType)).before args0 about1 = true := code_word (m := ⟨14, 0⟩) (meth := k14m0) (c := k14c0) (by decide +kernel) rfl rfl rfl (by decide +kernel)
set_option maxRecDepth 65536 in
theorem w_c16 : (Jvm.Cond.code ({ cls := "java/lang/AbstractStringBuilder", name := "<init>", desc := "(I)V" } : Jvm.MethodName) jdk_68_method_2_code (2 : Nat) (Option.none : Option Jvm.ClassFile.FieldType)).before args0 about1 = true := code_word (m := ⟨13, 1⟩) (meth := k13m1) (c := k13c1) (by decide +kernel) rfl rfl rfl (by decide +kernel)
set_option maxRecDepth 65536 in
theorem w_c17 : (Jvm.Cond.code ({ cls := "java/lang/String", name := "indexOf", desc := "(II)I" } : Jvm.MethodName) jdk_42_method_80_code (3 : Nat) (Option.some Jvm.ClassFile.FieldType.int)).before args0 about1 = true := code_word (m := ⟨7, 5⟩) (meth := k7m5) (c := k7c5) (by decide +kernel) rfl rfl rfl (by decide +kernel)
set_option maxRecDepth 65536 in
theorem w_c18 : (Jvm.Cond.code ({ cls := "java/lang/String", name := "length", desc := "()I" } : Jvm.MethodName) jdk_42_method_54_code (1 : Nat) (Option.some Jvm.ClassFile.FieldType.int)).before args0 about1 = true := code_word (m := ⟨7, 3⟩) (meth := k7m3) (c := k7c3) (by decide +kernel) rfl rfl rfl (by decide +kernel)
set_option maxRecDepth 65536 in
theorem w_c19 : (Jvm.Cond.code ({ cls := "java/lang/String", name := "coder", desc := "()B" } : Jvm.MethodName) jdk_42_method_152_code (1 : Nat) (Option.some Jvm.ClassFile.FieldType.byte)).before args0 about1 = true := code_word (m := ⟨7, 8⟩) (meth := k7m8) (c := k7c8) (by decide +kernel) rfl rfl rfl (by decide +kernel)
set_option maxRecDepth 65536 in
theorem w_c20 : (Jvm.Cond.code ({ cls := "java/lang/StringLatin1", name := "indexOf", desc := "([BIII)I" } : Jvm.MethodName) jdk_43_method_22_code (4 : Nat) (Option.some Jvm.ClassFile.FieldType.int)).before args0 about1 = true := code_word (m := ⟨10, 4⟩) (meth := k10m4) (c := k10c4) (by decide +kernel) rfl rfl rfl (by decide +kernel)
set_option maxRecDepth 65536 in
theorem w_c21 : (Jvm.Cond.code ({ cls := "java/lang/StringLatin1", name := "canEncode", desc := "(I)Z" } : Jvm.MethodName) jdk_43_method_4_code (1 : Nat) (Option.some Jvm.ClassFile.FieldType.boolean)).before args0 about1 = true := code_word (m := ⟨10, 3⟩) (meth := k10m3) (c := k10c3) (by decide +kernel) rfl rfl rfl (by decide +kernel)
set_option maxRecDepth 65536 in
theorem w_c22 : (Jvm.Cond.code ({ cls := "java/lang/Math", name := "max", desc := "(II)I" } : Jvm.MethodName) jdk_29_method_65_code (2 : Nat) (Option.some Jvm.ClassFile.FieldType.int)).before args0 about1 = true := code_word (m := ⟨15, 1⟩) (meth := k15m1) (c := k15c1) (by decide +kernel) rfl rfl rfl (by decide +kernel)
set_option maxRecDepth 65536 in
theorem w_c23 : (Jvm.Cond.code ({ cls := "java/lang/Math", name := "min", desc := "(II)I" } : Jvm.MethodName) jdk_29_method_69_code (2 : Nat) (Option.some Jvm.ClassFile.FieldType.int)).before args0 about1 = true := code_word (m := ⟨15, 2⟩) (meth := k15m2) (c := k15c2) (by decide +kernel) rfl rfl rfl (by decide +kernel)
set_option maxRecDepth 65536 in
theorem w_c24 : (Jvm.Cond.code ({ cls := "java/lang/StringLatin1", name := "indexOfChar", desc := "([BIII)I" } : Jvm.MethodName) jdk_43_method_23_code (6 : Nat) (Option.some Jvm.ClassFile.FieldType.int)).before args0 about1 = true := code_word (m := ⟨10, 5⟩) (meth := k10m5) (c := k10c5) (by decide +kernel) rfl rfl rfl (by decide +kernel)
set_option maxRecDepth 65536 in
theorem w_c25 : (Jvm.Cond.code ({ cls := "java/lang/StringBuilder", name := "append", desc := "(Ljava/lang/CharSequence;II)Ljava/lang/StringBuilder;" } : Jvm.MethodName) jdk_67_method_10_code (4 : Nat) (Option.some (Jvm.ClassFile.FieldType.object "java/lang/StringBuilder"))).before args0 about1 = true := code_word (m := ⟨14, 1⟩) (meth := k14m1) (c := k14c1) (by decide +kernel) rfl rfl rfl (by decide +kernel)
set_option maxRecDepth 65536 in
theorem w_c26 : (Jvm.Cond.code ({ cls := "java/lang/AbstractStringBuilder", name := "append", desc := "(Ljava/lang/CharSequence;II)Ljava/lang/AbstractStringBuilder;" } : Jvm.MethodName) jdk_68_method_27_code (5 : Nat) (Option.some (Jvm.ClassFile.FieldType.object "java/lang/AbstractStringBuilder"))).before args0 about1 = true := code_word (m := ⟨13, 4⟩) (meth := k13m4) (c := k13c4) (by decide +kernel) rfl rfl rfl (by decide +kernel)
set_option maxRecDepth 65536 in
theorem w_c27 : (Jvm.Cond.code ({ cls := "jdk/internal/util/Preconditions", name := "checkFromToIndex", desc := "(IIILjava/util/function/BiFunction;)I" } : Jvm.MethodName) jdk_41_method_12_code (4 : Nat) (Option.some Jvm.ClassFile.FieldType.int)).before args0 about1 = true := code_word (m := ⟨11, 2⟩) (meth := k11m2) (c := k11c2) (by decide +kernel) rfl rfl rfl (by decide +kernel)
set_option maxRecDepth 65536 in
theorem w_c28 : (Jvm.Cond.code ({ cls := "java/lang/AbstractStringBuilder", name := "ensureCapacityInternal", desc := "(I)V" } : Jvm.MethodName) jdk_68_method_9_code (3 : Nat) (Option.none : Option Jvm.ClassFile.FieldType)).before args0 about1 = true := code_word (m := ⟨13, 3⟩) (meth := k13m3) (c := k13c3) (by decide +kernel) rfl rfl rfl (by decide +kernel)
set_option maxRecDepth 65536 in
theorem w_c29 : (Jvm.Cond.code ({ cls := "java/lang/AbstractStringBuilder", name := "appendChars", desc := "(Ljava/lang/String;II)V" } : Jvm.MethodName) jdk_68_method_75_code (8 : Nat) (Option.none : Option Jvm.ClassFile.FieldType)).before args0 about1 = true := code_word (m := ⟨13, 8⟩) (meth := k13m8) (c := k13c8) (by decide +kernel) rfl rfl rfl (by decide +kernel)
set_option maxRecDepth 65536 in
theorem w_c30 : (Jvm.Cond.code ({ cls := "java/lang/AbstractStringBuilder", name := "isLatin1", desc := "()Z" } : Jvm.MethodName) jdk_68_method_68_code (1 : Nat) (Option.some Jvm.ClassFile.FieldType.boolean)).before args0 about1 = true := code_word (m := ⟨13, 7⟩) (meth := k13m7) (c := k13c7) (by decide +kernel) rfl rfl rfl (by decide +kernel)
set_option maxRecDepth 65536 in
theorem w_c31 : (Jvm.Cond.code ({ cls := "java/lang/String", name := "value", desc := "()[B" } : Jvm.MethodName) jdk_42_method_153_code (1 : Nat) (Option.some (Jvm.ClassFile.FieldType.array Jvm.ClassFile.FieldType.byte))).before args0 about1 = true := code_word (m := ⟨7, 9⟩) (meth := k7m9) (c := k7c9) (by decide +kernel) rfl rfl rfl (by decide +kernel)
set_option maxRecDepth 65536 in
theorem w_c32 : (Jvm.Cond.code ({ cls := "java/lang/StringBuilder", name := "append", desc := "(C)Ljava/lang/StringBuilder;" } : Jvm.MethodName) jdk_67_method_14_code (2 : Nat) (Option.some (Jvm.ClassFile.FieldType.object "java/lang/StringBuilder"))).before args0 about1 = true := code_word (m := ⟨14, 2⟩) (meth := k14m2) (c := k14c2) (by decide +kernel) rfl rfl rfl (by decide +kernel)
set_option maxRecDepth 65536 in
theorem w_c33 : (Jvm.Cond.code ({ cls := "java/lang/AbstractStringBuilder", name := "append", desc := "(C)Ljava/lang/AbstractStringBuilder;" } : Jvm.MethodName) jdk_68_method_31_code (2 : Nat) (Option.some (Jvm.ClassFile.FieldType.object "java/lang/AbstractStringBuilder"))).before args0 about1 = true := code_word (m := ⟨13, 5⟩) (meth := k13m5) (c := k13c5) (by decide +kernel) rfl rfl rfl (by decide +kernel)
set_option maxRecDepth 65536 in
theorem w_c34 : (Jvm.Cond.code ({ cls := "java/lang/StringLatin1", name := "canEncode", desc := "(C)Z" } : Jvm.MethodName) jdk_43_method_3_code (1 : Nat) (Option.some Jvm.ClassFile.FieldType.boolean)).before args0 about1 = true := code_word (m := ⟨10, 2⟩) (meth := k10m2) (c := k10c2) (by decide +kernel) rfl rfl rfl (by decide +kernel)
set_option maxRecDepth 65536 in
theorem w_c35 : (Jvm.Cond.code ({ cls := "java/lang/StringBuilder", name := "toString", desc := "()Ljava/lang/String;" } : Jvm.MethodName) jdk_67_method_42_code (1 : Nat) (Option.some (Jvm.ClassFile.FieldType.object "java/lang/String"))).before args0 about1 = true := code_word (m := ⟨14, 3⟩) (meth := k14m3) (c := k14c3) (by decide +kernel) rfl rfl rfl (by decide +kernel)
set_option maxRecDepth 65536 in
theorem w_c36 : (Jvm.Cond.code ({ cls := "java/lang/String", name := "<init>", desc := "(Ljava/lang/StringBuilder;)V" } : Jvm.MethodName) jdk_42_method_53_code (2 : Nat) (Option.none : Option Jvm.ClassFile.FieldType)).before args0 about1 = true := code_word (m := ⟨7, 2⟩) (meth := k7m2) (c := k7c2) (by decide +kernel) rfl rfl rfl (by decide +kernel)
set_option maxRecDepth 65536 in
theorem w_c37 : (Jvm.Cond.code ({ cls := "java/lang/String", name := "<init>", desc := "(Ljava/lang/AbstractStringBuilder;Ljava/lang/Void;)V" } : Jvm.MethodName) jdk_42_method_150_code (5 : Nat) (Option.none : Option Jvm.ClassFile.FieldType)).before args0 about1 = true := code_word (m := ⟨7, 7⟩) (meth := k7m7) (c := k7c7) (by decide +kernel) rfl rfl rfl (by decide +kernel)
set_option maxRecDepth 65536 in
theorem w_c38 : (Jvm.Cond.code ({ cls := "java/lang/AbstractStringBuilder", name := "getValue", desc := "()[B" } : Jvm.MethodName) jdk_68_method_64_code (1 : Nat) (Option.some (Jvm.ClassFile.FieldType.array Jvm.ClassFile.FieldType.byte))).before args0 about1 = true := code_word (m := ⟨13, 6⟩) (meth := k13m6) (c := k13c6) (by decide +kernel) rfl rfl rfl (by decide +kernel)
set_option maxRecDepth 65536 in
theorem w_c39 : (Jvm.Cond.code ({ cls := "java/lang/StringBuilder", name := "length", desc := "()I" } : Jvm.MethodName) jdk_67_method_93_code (1 : Nat) (Option.some Jvm.ClassFile.FieldType.int)).before args0 about1 = true := code_word (m := ⟨14, 4⟩) (meth := k14m4) (c := k14c4) (by decide +kernel) rfl rfl rfl (by decide +kernel)
set_option maxRecDepth 65536 in
theorem w_c40 : (Jvm.Cond.code ({ cls := "java/lang/AbstractStringBuilder", name := "length", desc := "()I" } : Jvm.MethodName) jdk_68_method_6_code (1 : Nat) (Option.some Jvm.ClassFile.FieldType.int)).before args0 about1 = true := code_word (m := ⟨13, 2⟩) (meth := k13m2) (c := k13c2) (by decide +kernel) rfl rfl rfl (by decide +kernel)
set_option maxRecDepth 65536 in
theorem w_c41 : (Jvm.Cond.code ({ cls := "java/util/Arrays", name := "copyOfRange", desc := "([BII)[B" } : Jvm.MethodName) jdk_65_method_132_code (3 : Nat) (Option.some (Jvm.ClassFile.FieldType.array Jvm.ClassFile.FieldType.byte))).before args0 about1 = true := code_word (m := ⟨19, 2⟩) (meth := k19m2) (c := k19c2) (by decide +kernel) rfl rfl rfl (by decide +kernel)
set_option maxRecDepth 65536 in
theorem w_c42 : (Jvm.Cond.code ({ cls := "java/util/Arrays", name := "copyOfRangeByte", desc := "([BII)[B" } : Jvm.MethodName) jdk_65_method_133_code (5 : Nat) (Option.some (Jvm.ClassFile.FieldType.array Jvm.ClassFile.FieldType.byte))).before args0 about1 = true := code_word (m := ⟨19, 3⟩) (meth := k19m3) (c := k19c3) (by decide +kernel) rfl rfl rfl (by decide +kernel)
set_option maxRecDepth 65536 in
theorem w_c43 : (Jvm.Cond.code ({ cls := "java/util/Arrays", name := "checkLength", desc := "(II)V" } : Jvm.MethodName) jdk_65_method_131_code (2 : Nat) (Option.none : Option Jvm.ClassFile.FieldType)).before args0 about1 = true := code_word (m := ⟨19, 1⟩) (meth := k19m1) (c := k19c1) (by decide +kernel) rfl rfl rfl (by decide +kernel)
set_option maxRecDepth 65536 in
theorem w_c44 : (Jvm.Cond.code ({ cls := "com/example/purveyor/purveyor/sqlite/QuotedText$Run", name := "<init>", desc := "(Ljava/lang/String;I)V" } : Jvm.MethodName) prog_32_method_1_code (3 : Nat) (Option.none : Option Jvm.ClassFile.FieldType)).before args0 about1 = true := code_word (m := ⟨18, 0⟩) (meth := k18m0) (c := k18c0) (by decide +kernel) rfl rfl rfl (by decide +kernel)
set_option maxRecDepth 65536 in
theorem w_c45 : (Jvm.Cond.code ({ cls := "java/lang/Record", name := "<init>", desc := "()V" } : Jvm.MethodName) jdk_30_method_1_code (1 : Nat) (Option.none : Option Jvm.ClassFile.FieldType)).before args0 about1 = true := code_word (m := ⟨17, 0⟩) (meth := k17m0) (c := k17c0) (by decide +kernel) rfl rfl rfl (by decide +kernel)
set_option maxRecDepth 65536 in
theorem w_c46 : (Jvm.Cond.code ({ cls := "com/example/purveyor/purveyor/sqlite/QuotedText$Run", name := "content", desc := "()Ljava/lang/String;" } : Jvm.MethodName) prog_32_method_5_code (1 : Nat) (Option.some (Jvm.ClassFile.FieldType.object "java/lang/String"))).before args0 about1 = true := code_word (m := ⟨18, 1⟩) (meth := k18m1) (c := k18c1) (by decide +kernel) rfl rfl rfl (by decide +kernel)
set_option maxRecDepth 65536 in
theorem w_c47 : (Jvm.Cond.code ({ cls := "com/example/purveyor/purveyor/sqlite/QuotedText$Run", name := "end", desc := "()I" } : Jvm.MethodName) prog_32_method_6_code (1 : Nat) (Option.some Jvm.ClassFile.FieldType.int)).before args0 about1 = true := code_word (m := ⟨18, 2⟩) (meth := k18m2) (c := k18c2) (by decide +kernel) rfl rfl rfl (by decide +kernel)
set_option maxRecDepth 65536 in
theorem w_c48 : (Jvm.Cond.code ({ cls := "com/example/purveyor/purveyor/sqlite/QuotedTextReadPinLaw", name := "same", desc := "(Ljava/lang/String;[CII)Z" } : Jvm.MethodName) method_4_code (4 : Nat) (Option.some Jvm.ClassFile.FieldType.boolean)).before args0 about1 = true := code_word (m := ⟨1, 3⟩) (meth := k1m3) (c := k1c3) (by decide +kernel) rfl rfl rfl (by decide +kernel)
def codes1 : List Jvm.Cond := [Jvm.Cond.code x code maxLocals ret, Jvm.Cond.code ({ cls := "com/example/purveyor/purveyor/sqlite/QuotedTextReadPinLaw", name := "pick", desc := "(IICC)C" } : Jvm.MethodName) method_2_code (4 : Nat) (Option.some Jvm.ClassFile.FieldType.char), Jvm.Cond.code ({ cls := "java/lang/String", name := "<init>", desc := "([C)V" } : Jvm.MethodName) jdk_42_method_3_code (2 : Nat) (Option.none : Option Jvm.ClassFile.FieldType), Jvm.Cond.code ({ cls := "java/lang/String", name := "<init>", desc := "([CIILjava/lang/Void;)V" } : Jvm.MethodName) jdk_42_method_149_code (6 : Nat) (Option.none : Option Jvm.ClassFile.FieldType), Jvm.Cond.code ({ cls := "java/lang/Object", name := "<init>", desc := "()V" } : Jvm.MethodName) object_method_1_code (1 : Nat) (Option.none : Option Jvm.ClassFile.FieldType), Jvm.Cond.code ({ cls := "java/lang/StringUTF16", name := "compress", desc := "([CII)[B" } : Jvm.MethodName) jdk_52_method_16_code (6 : Nat) (Option.some (Jvm.ClassFile.FieldType.array Jvm.ClassFile.FieldType.byte)), Jvm.Cond.code ({ cls := "java/lang/StringUTF16", name := "compress", desc := "([CI[BII)I" } : Jvm.MethodName) jdk_52_method_21_code (7 : Nat) (Option.some Jvm.ClassFile.FieldType.int), Jvm.Cond.code ({ cls := "java/lang/StringUTF16", name := "coderFromArrayLen", desc := "([BI)B" } : Jvm.MethodName) jdk_52_method_15_code (2 : Nat) (Option.some Jvm.ClassFile.FieldType.byte), Jvm.Cond.code ({ cls := "com/example/purveyor/purveyor/sqlite/QuotedTextReadPinLaw", name := "step", desc := "([CIIC[I[C)V" } : Jvm.MethodName) method_3_code (7 : Nat) (Option.none : Option Jvm.ClassFile.FieldType), Jvm.Cond.code ({ cls := "com/example/purveyor/purveyor/sqlite/QuotedText", name := "read", desc := "(Ljava/lang/String;I)Lcom/example/purveyor/purveyor/sqlite/QuotedText$Run;" } : Jvm.MethodName) prog_31_method_2_code (6 : Nat) (Option.some (Jvm.ClassFile.FieldType.object "com/example/purveyor/purveyor/sqlite/QuotedText$Run")), Jvm.Cond.code ({ cls := "java/lang/String", name := "charAt", desc := "(I)C" } : Jvm.MethodName) jdk_42_method_56_code (2 : Nat) (Option.some Jvm.ClassFile.FieldType.char), Jvm.Cond.code ({ cls := "java/lang/String", name := "isLatin1", desc := "()Z" } : Jvm.MethodName) jdk_42_method_154_code (1 : Nat) (Option.some Jvm.ClassFile.FieldType.boolean), Jvm.Cond.code ({ cls := "java/lang/StringLatin1", name := "charAt", desc := "([BI)C" } : Jvm.MethodName) jdk_43_method_2_code (2 : Nat) (Option.some Jvm.ClassFile.FieldType.char), Jvm.Cond.code ({ cls := "java/lang/String", name := "checkIndex", desc := "(II)V" } : Jvm.MethodName) jdk_42_method_155_code (2 : Nat) (Option.none : Option Jvm.ClassFile.FieldType), Jvm.Cond.code ({ cls := "jdk/internal/util/Preconditions", name := "checkIndex", desc := "(IILjava/util/function/BiFunction;)I" } : Jvm.MethodName) jdk_41_method_11_code (3 : Nat) (Option.some Jvm.ClassFile.FieldType.int), Jvm.Cond.code ({ cls := "java/lang/StringBuilder", name := "<init>", desc := "()V" } : Jvm.MethodName) jdk_67_method_1_code (1 : Nat) (Option.none : Option Jvm.ClassFile.FieldType), Jvm.Cond.code ({ cls := "java/lang/AbstractStringBuilder", name := "<init>", desc := "(I)V" } : Jvm.MethodName) jdk_68_method_2_code (2 : Nat) (Option.none : Option Jvm.ClassFile.FieldType), Jvm.Cond.code ({ cls := "java/lang/String", name := "indexOf", desc := "(II)I" } : Jvm.MethodName) jdk_42_method_80_code (3 : Nat) (Option.some Jvm.ClassFile.FieldType.int), Jvm.Cond.code ({ cls := "java/lang/String", name := "length", desc := "()I" } : Jvm.MethodName) jdk_42_method_54_code (1 : Nat) (Option.some Jvm.ClassFile.FieldType.int), Jvm.Cond.code ({ cls := "java/lang/String", name := "coder", desc := "()B" } : Jvm.MethodName) jdk_42_method_152_code (1 : Nat) (Option.some Jvm.ClassFile.FieldType.byte), Jvm.Cond.code ({ cls := "java/lang/StringLatin1", name := "indexOf", desc := "([BIII)I" } : Jvm.MethodName) jdk_43_method_22_code (4 : Nat) (Option.some Jvm.ClassFile.FieldType.int), Jvm.Cond.code ({ cls := "java/lang/StringLatin1", name := "canEncode", desc := "(I)Z" } : Jvm.MethodName) jdk_43_method_4_code (1 : Nat) (Option.some Jvm.ClassFile.FieldType.boolean), Jvm.Cond.code ({ cls := "java/lang/Math", name := "max", desc := "(II)I" } : Jvm.MethodName) jdk_29_method_65_code (2 : Nat) (Option.some Jvm.ClassFile.FieldType.int), Jvm.Cond.code ({ cls := "java/lang/Math", name := "min", desc := "(II)I" } : Jvm.MethodName) jdk_29_method_69_code (2 : Nat) (Option.some Jvm.ClassFile.FieldType.int), Jvm.Cond.code ({ cls := "java/lang/StringLatin1", name := "indexOfChar", desc := "([BIII)I" } : Jvm.MethodName) jdk_43_method_23_code (6 : Nat) (Option.some Jvm.ClassFile.FieldType.int), Jvm.Cond.code ({ cls := "java/lang/StringBuilder", name := "append", desc := "(Ljava/lang/CharSequence;II)Ljava/lang/StringBuilder;" } : Jvm.MethodName) jdk_67_method_10_code (4 : Nat) (Option.some (Jvm.ClassFile.FieldType.object "java/lang/StringBuilder")), Jvm.Cond.code ({ cls := "java/lang/AbstractStringBuilder", name := "append", desc := "(Ljava/lang/CharSequence;II)Ljava/lang/AbstractStringBuilder;" } : Jvm.MethodName) jdk_68_method_27_code (5 : Nat) (Option.some (Jvm.ClassFile.FieldType.object "java/lang/AbstractStringBuilder")), Jvm.Cond.code ({ cls := "jdk/internal/util/Preconditions", name := "checkFromToIndex", desc := "(IIILjava/util/function/BiFunction;)I" } : Jvm.MethodName) jdk_41_method_12_code (4 : Nat) (Option.some Jvm.ClassFile.FieldType.int), Jvm.Cond.code ({ cls := "java/lang/AbstractStringBuilder", name := "ensureCapacityInternal", desc := "(I)V" } : Jvm.MethodName) jdk_68_method_9_code (3 : Nat) (Option.none : Option Jvm.ClassFile.FieldType), Jvm.Cond.code ({ cls := "java/lang/AbstractStringBuilder", name := "appendChars", desc := "(Ljava/lang/String;II)V" } : Jvm.MethodName) jdk_68_method_75_code (8 : Nat) (Option.none : Option Jvm.ClassFile.FieldType), Jvm.Cond.code ({ cls := "java/lang/AbstractStringBuilder", name := "isLatin1", desc := "()Z" } : Jvm.MethodName) jdk_68_method_68_code (1 : Nat) (Option.some Jvm.ClassFile.FieldType.boolean), Jvm.Cond.code ({ cls := "java/lang/String", name := "value", desc := "()[B" } : Jvm.MethodName) jdk_42_method_153_code (1 : Nat) (Option.some (Jvm.ClassFile.FieldType.array Jvm.ClassFile.FieldType.byte)), Jvm.Cond.code ({ cls := "java/lang/StringBuilder", name := "append", desc := "(C)Ljava/lang/StringBuilder;" } : Jvm.MethodName) jdk_67_method_14_code (2 : Nat) (Option.some (Jvm.ClassFile.FieldType.object "java/lang/StringBuilder")), Jvm.Cond.code ({ cls := "java/lang/AbstractStringBuilder", name := "append", desc := "(C)Ljava/lang/AbstractStringBuilder;" } : Jvm.MethodName) jdk_68_method_31_code (2 : Nat) (Option.some (Jvm.ClassFile.FieldType.object "java/lang/AbstractStringBuilder")), Jvm.Cond.code ({ cls := "java/lang/StringLatin1", name := "canEncode", desc := "(C)Z" } : Jvm.MethodName) jdk_43_method_3_code (1 : Nat) (Option.some Jvm.ClassFile.FieldType.boolean), Jvm.Cond.code ({ cls := "java/lang/StringBuilder", name := "toString", desc := "()Ljava/lang/String;" } : Jvm.MethodName) jdk_67_method_42_code (1 : Nat) (Option.some (Jvm.ClassFile.FieldType.object "java/lang/String")), Jvm.Cond.code ({ cls := "java/lang/String", name := "<init>", desc := "(Ljava/lang/StringBuilder;)V" } : Jvm.MethodName) jdk_42_method_53_code (2 : Nat) (Option.none : Option Jvm.ClassFile.FieldType), Jvm.Cond.code ({ cls := "java/lang/String", name := "<init>", desc := "(Ljava/lang/AbstractStringBuilder;Ljava/lang/Void;)V" } : Jvm.MethodName) jdk_42_method_150_code (5 : Nat) (Option.none : Option Jvm.ClassFile.FieldType), Jvm.Cond.code ({ cls := "java/lang/AbstractStringBuilder", name := "getValue", desc := "()[B" } : Jvm.MethodName) jdk_68_method_64_code (1 : Nat) (Option.some (Jvm.ClassFile.FieldType.array Jvm.ClassFile.FieldType.byte)), Jvm.Cond.code ({ cls := "java/lang/StringBuilder", name := "length", desc := "()I" } : Jvm.MethodName) jdk_67_method_93_code (1 : Nat) (Option.some Jvm.ClassFile.FieldType.int), Jvm.Cond.code ({ cls := "java/lang/AbstractStringBuilder", name := "length", desc := "()I" } : Jvm.MethodName) jdk_68_method_6_code (1 : Nat) (Option.some Jvm.ClassFile.FieldType.int), Jvm.Cond.code ({ cls := "java/util/Arrays", name := "copyOfRange", desc := "([BII)[B" } : Jvm.MethodName) jdk_65_method_132_code (3 : Nat) (Option.some (Jvm.ClassFile.FieldType.array Jvm.ClassFile.FieldType.byte)), Jvm.Cond.code ({ cls := "java/util/Arrays", name := "copyOfRangeByte", desc := "([BII)[B" } : Jvm.MethodName) jdk_65_method_133_code (5 : Nat) (Option.some (Jvm.ClassFile.FieldType.array Jvm.ClassFile.FieldType.byte)), Jvm.Cond.code ({ cls := "java/util/Arrays", name := "checkLength", desc := "(II)V" } : Jvm.MethodName) jdk_65_method_131_code (2 : Nat) (Option.none : Option Jvm.ClassFile.FieldType), Jvm.Cond.code ({ cls := "com/example/purveyor/purveyor/sqlite/QuotedText$Run", name := "<init>", desc := "(Ljava/lang/String;I)V" } : Jvm.MethodName) prog_32_method_1_code (3 : Nat) (Option.none : Option Jvm.ClassFile.FieldType), Jvm.Cond.code ({ cls := "java/lang/Record", name := "<init>", desc := "()V" } : Jvm.MethodName) jdk_30_method_1_code (1 : Nat) (Option.none : Option Jvm.ClassFile.FieldType), Jvm.Cond.code ({ cls := "com/example/purveyor/purveyor/sqlite/QuotedText$Run", name := "content", desc := "()Ljava/lang/String;" } : Jvm.MethodName) prog_32_method_5_code (1 : Nat) (Option.some (Jvm.ClassFile.FieldType.object "java/lang/String")), Jvm.Cond.code ({ cls := "com/example/purveyor/purveyor/sqlite/QuotedText$Run", name := "end", desc := "()I" } : Jvm.MethodName) prog_32_method_6_code (1 : Nat) (Option.some Jvm.ClassFile.FieldType.int), Jvm.Cond.code ({ cls := "com/example/purveyor/purveyor/sqlite/QuotedTextReadPinLaw", name := "same", desc := "(Ljava/lang/String;[CII)Z" } : Jvm.MethodName) method_4_code (4 : Nat) (Option.some Jvm.ClassFile.FieldType.boolean)]
set_option maxRecDepth 65536 in
theorem codes_eq : words1.filter isCode = codes1 := rfl
theorem w_codes : ∀ c ∈ words1.filter isCode, c.before args0 about1 = true := by
  rw [codes_eq]
  intro c hc
  simp only [codes1, List.mem_cons, List.not_mem_nil, or_false] at hc
  rcases hc with rfl | rfl | rfl | rfl | rfl | rfl | rfl | rfl | rfl | rfl | rfl | rfl | rfl | rfl | rfl | rfl | rfl | rfl | rfl | rfl | rfl | rfl | rfl | rfl | rfl | rfl | rfl | rfl | rfl | rfl | rfl | rfl | rfl | rfl | rfl | rfl | rfl | rfl | rfl | rfl | rfl | rfl | rfl | rfl | rfl | rfl | rfl | rfl | rfl
  · exact w_c0
  · exact w_c1
  · exact w_c2
  · exact w_c3
  · exact w_c4
  · exact w_c5
  · exact w_c6
  · exact w_c7
  · exact w_c8
  · exact w_c9
  · exact w_c10
  · exact w_c11
  · exact w_c12
  · exact w_c13
  · exact w_c14
  · exact w_c15
  · exact w_c16
  · exact w_c17
  · exact w_c18
  · exact w_c19
  · exact w_c20
  · exact w_c21
  · exact w_c22
  · exact w_c23
  · exact w_c24
  · exact w_c25
  · exact w_c26
  · exact w_c27
  · exact w_c28
  · exact w_c29
  · exact w_c30
  · exact w_c31
  · exact w_c32
  · exact w_c33
  · exact w_c34
  · exact w_c35
  · exact w_c36
  · exact w_c37
  · exact w_c38
  · exact w_c39
  · exact w_c40
  · exact w_c41
  · exact w_c42
  · exact w_c43
  · exact w_c44
  · exact w_c45
  · exact w_c46
  · exact w_c47
  · exact w_c48
set_option maxRecDepth 65536 in
theorem w_t1 : (words1.take 24).all (fun c => isCode c || c.before args0 about1) = true := by decide +kernel
set_option maxRecDepth 65536 in
theorem w_t2 : ((words1.drop 24).take 24).all (fun c => isCode c || c.before args0 about1) = true := by decide +kernel
set_option maxRecDepth 65536 in
theorem w_t3 : (((words1.drop 24).drop 24).take 24).all (fun c => isCode c || c.before args0 about1) = true := by decide +kernel
set_option maxRecDepth 65536 in
theorem w_t4 : ((((words1.drop 24).drop 24).drop 24).take 24).all (fun c => isCode c || c.before args0 about1) = true := by decide +kernel
set_option maxRecDepth 65536 in
theorem w_t5 : (((((words1.drop 24).drop 24).drop 24).drop 24).take 24).all (fun c => isCode c || c.before args0 about1) = true := by decide +kernel
set_option maxRecDepth 65536 in
theorem w_t6 : ((((((words1.drop 24).drop 24).drop 24).drop 24).drop 24).take 24).all (fun c => isCode c || c.before args0 about1) = true := by decide +kernel
set_option maxRecDepth 65536 in
theorem w_t7 : (((((((words1.drop 24).drop 24).drop 24).drop 24).drop 24).drop 24).take 24).all (fun c => isCode c || c.before args0 about1) = true := by decide +kernel
set_option maxRecDepth 65536 in
theorem w_t8 : ((((((((words1.drop 24).drop 24).drop 24).drop 24).drop 24).drop 24).drop 24).take 24).all (fun c => isCode c || c.before args0 about1) = true := by decide +kernel
set_option maxRecDepth 65536 in
theorem w_t9 : (((((((((words1.drop 24).drop 24).drop 24).drop 24).drop 24).drop 24).drop 24).drop 24).take 24).all (fun c => isCode c || c.before args0 about1) = true := by decide +kernel
set_option maxRecDepth 65536 in
theorem w_t10 : ((((((((((words1.drop 24).drop 24).drop 24).drop 24).drop 24).drop 24).drop 24).drop 24).drop 24).take 24).all (fun c => isCode c || c.before args0 about1) = true := by decide +kernel
set_option maxRecDepth 65536 in
theorem w_t11 : ((((((((((words1.drop 24).drop 24).drop 24).drop 24).drop 24).drop 24).drop 24).drop 24).drop 24).drop 24).all (fun c => isCode c || c.before args0 about1) = true := by decide +kernel
theorem w_tables : (allAtoms (Jvm.Cond.code x code maxLocals ret :: tables_1)).before args0 about1 = true := by
  rw [allAtoms_all]
  show words1.all (fun c => c.before args0 about1) = true
  refine all_split ?_ w_codes
  rw [← List.take_append_drop 24 words1, List.all_append, w_t1, ← List.take_append_drop 24 (words1.drop 24), List.all_append, w_t2, ← List.take_append_drop 24 ((words1.drop 24).drop 24), List.all_append, w_t3, ← List.take_append_drop 24 (((words1.drop 24).drop 24).drop 24), List.all_append, w_t4, ← List.take_append_drop 24 ((((words1.drop 24).drop 24).drop 24).drop 24), List.all_append, w_t5, ← List.take_append_drop 24 (((((words1.drop 24).drop 24).drop 24).drop 24).drop 24), List.all_append, w_t6, ← List.take_append_drop 24 ((((((words1.drop 24).drop 24).drop 24).drop 24).drop 24).drop 24), List.all_append, w_t7, ← List.take_append_drop 24 (((((((words1.drop 24).drop 24).drop 24).drop 24).drop 24).drop 24).drop 24), List.all_append, w_t8, ← List.take_append_drop 24 ((((((((words1.drop 24).drop 24).drop 24).drop 24).drop 24).drop 24).drop 24).drop 24), List.all_append, w_t9, ← List.take_append_drop 24 (((((((((words1.drop 24).drop 24).drop 24).drop 24).drop 24).drop 24).drop 24).drop 24).drop 24), List.all_append, w_t10, w_t11]
  rfl
set_option maxRecDepth 65536 in
theorem w_rest : rest_1_c.before args0 about1 = true := by decide +kernel
set_option maxRecDepth 65536 in
theorem w_case : (Jvm.Cond.and given_1 narrow_1).before args0 about1 = true := by decide +kernel
theorem w_applies : (headSpec (Jvm.Cond.code x code maxLocals ret :: tables_1) room_1).applies x e0.platform about1 = true :=
  (Spec.applies_iff w_frames).mpr ⟨w_running, w_runnable, w_alone, w_named, w_hears, w_ripe, w_room, w_tables⟩
theorem atStart : AtStart classFile x code maxLocals ret World_1 tables_1 room_1 Calls_1 rest_1 Pre_1 launch0 p0 e0 about1 theMethod args0 below0 :=
  ⟨lists_1, trivial, launch0.admits_env _ _ _, launch0.least_env, fairChoices_fair.cas, fairChoices_fair.clock, w_frames, w_args, w_heap, w_applies, trivial, w_rest, w_case⟩
end start1
theorem witness_1 : WitnessClaimed_1 := ⟨start1.p0, start1.e0, start1.about1, start1.theMethod, start1.args0, start1.below0, start1.atStart⟩
end Jvm.Pilot.@@N@@
