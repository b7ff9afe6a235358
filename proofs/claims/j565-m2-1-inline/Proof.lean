import JvmDerived
import JvmDerived.Pilot.@@N@@Statement
import JvmDerived.Pilot.@@N@@Code
set_option linter.unusedVariables false
set_option linter.unusedSimpArgs false
/- laws to paste: Road.backV, Road.codOf, Road.lenW, Road.chN (cut by pick.py; bodies as the Statement names them) -/
namespace Jvm.Pilot.@@N@@
namespace StrChars
open Jvm Sem ClassFile Op Lib Jvm.Stand Jvm.Free.XT Jvm.Free.ALB Jvm.Free.JM Jvm.Free
open Jvm.Lib.Cold (StaticIs)
/-- a char array whose places are chars -/
def Ch (a : Addr) (A : Cell) (U : State) : Prop := Arr .char a A U ∧ Typed .char A
theorem Ch.mv {a : Addr} {A : Cell} {U U' : State} (h : Ch a A U) (hal : U.vm.Alike U'.vm) (hh : U'.heap = U.heap) : Ch a A U' := ⟨h.1.mv hal hh, h.2⟩
theorem Ch.keep {a : Addr} {A : Cell} {U U' : State} (h : Ch a A U) (hal : U.vm.Alike U'.vm) (hk : U'.heap[a]? = some A) : Ch a A U' := ⟨h.1.keep hal hk, h.2⟩
/-- what place i of a char[]'s cell holds -/
def cv (A : Cell) (i : Nat) : Int32 := match A.slots[i]? with | some (.int x) => x | _ => 0
theorem Ch.get {a : Addr} {A : Cell} {U : State} (h : Ch a A U) {i : Nat} (hi : i < A.slots.size) : A.slots[i]? = some (.int (cv A i)) := by
  have e := Array.getElem?_eq_getElem hi
  have f := h.2 i _ e
  unfold cv; rw [e]
  generalize A.slots[i] = v at f
  cases v <;> simp [fits] at f ⊢
/-- the byte that i2b leaves of a char -/
def lo8 (x : Int32) : Int32 := x.toInt8.toInt32
theorem fits_lo8 (y : Int32) : fits .byte (.int (lo8 y)) = true := by
  have h1 := y.toInt8.le_toInt
  have h2 := y.toInt8.toInt_lt
  simp only [lo8, fits, Bool.and_eq_true, decide_eq_true_eq, Int32.le_iff_toInt_le, Int8.toInt_toInt32, show (-128 : Int32).toInt = -128 from by decide, show (127 : Int32).toInt = 127 from by decide]
  omega
/-- A' is A but that each place j of lo .. hi - 1 holds f j -/
def Laid (A A' : Cell) (lo hi : Nat) (f : Nat → Value) : Prop := A'.cls = A.cls ∧ A'.vm = A.vm ∧ A'.slots.size = A.slots.size ∧ ∀ i, A'.slots[i]? = if lo ≤ i ∧ i < hi then some (f i) else A.slots[i]?
theorem Laid.zero (A : Cell) (lo : Nat) (f : Nat → Value) : Laid A A lo (lo + 0) f := ⟨rfl, rfl, rfl, fun i => by rw [if_neg (by omega)]⟩
theorem Laid.step {A Ak : Cell} {lo k : Nat} {f : Nat → Value} {v : Value} (h : Laid A Ak lo k f) (hlo : lo ≤ k) (hk : k < Ak.slots.size) (hv : v = f k) : Laid A (Ak.setSlot k v) lo (k + 1) f := by
  refine ⟨h.1, h.2.1, by simpa [Cell.setSlot] using h.2.2.1, fun i => ?_⟩
  by_cases e : k = i
  · subst e; rw [Cell.slots_setSlot_self v hk, if_pos (by omega), hv]
  · rw [Cell.slots_setSlot_ne v e, h.2.2.2 i]
    by_cases q : lo ≤ i ∧ i < k
    · rw [if_pos q, if_pos (by omega)]
    · rw [if_neg q, if_neg (by omega)]
def U16 : String := "java/lang/StringUTF16"
namespace Cmp5
def yN : MethodName := ⟨"java/lang/StringUTF16", "compress", "([CI[BII)I"⟩
abbrev yB : ByteArray := jdk_52_method_21_code
theorem d0 : decode yB 0 = .ok (.iconst 0, 1) := by decide +kernel
theorem d1 : decode yB 1 = .ok (.istore 5, 2) := by decide +kernel
theorem d3 : decode yB 3 = .ok (.iload 5, 2) := by decide +kernel
theorem d5 : decode yB 5 = .ok (.iload 4, 2) := by decide +kernel
theorem d7 : decode yB 7 = .ok (.if_icmp (.ge) 37, 3) := by decide +kernel
theorem d10 : decode yB 10 = .ok (.aload_n 0, 1) := by decide +kernel
theorem d11 : decode yB 11 = .ok (.iload_n 1, 1) := by decide +kernel
theorem d12 : decode yB 12 = .ok (.caload, 1) := by decide +kernel
theorem d13 : decode yB 13 = .ok (.istore 6, 2) := by decide +kernel
theorem d15 : decode yB 15 = .ok (.iload 6, 2) := by decide +kernel
theorem d17 : decode yB 17 = .ok (.sipush 255, 3) := by decide +kernel
theorem d20 : decode yB 20 = .ok (.if_icmp (.le) 6, 3) := by decide +kernel
theorem d26 : decode yB 26 = .ok (.aload_n 2, 1) := by decide +kernel
theorem d27 : decode yB 27 = .ok (.iload_n 3, 1) := by decide +kernel
theorem d28 : decode yB 28 = .ok (.iload 6, 2) := by decide +kernel
theorem d30 : decode yB 30 = .ok (.i2b, 1) := by decide +kernel
theorem d31 : decode yB 31 = .ok (.bastore, 1) := by decide +kernel
theorem d32 : decode yB 32 = .ok (.iinc 1 1, 3) := by decide +kernel
theorem d35 : decode yB 35 = .ok (.iinc 3 1, 3) := by decide +kernel
theorem d38 : decode yB 38 = .ok (.iinc 5 1, 3) := by decide +kernel
theorem d41 : decode yB 41 = .ok (.goto (-38), 3) := by decide +kernel
theorem d44 : decode yB 44 = .ok (.iload 4, 2) := by decide +kernel
theorem d46 : decode yB 46 = .ok (.ireturn, 1) := by decide +kernel
def site : List Cond := []
def tab : Cond := tabOf yN yB 7 (some .int) site
def P (b : Addr) (A : Cell) (d : Addr) (B : Cell) (o q len : Nat) (args : Array Value) (s : State) : Prop := args = #[.ref b, .int (Int32.ofNat o), .ref d, .int (Int32.ofNat q), .int (Int32.ofNat len)] ∧ Ch b A s ∧ Arr .byte d B s ∧ b ≠ d ∧ o + len ≤ A.slots.size ∧ q + len ≤ B.slots.size ∧ ∀ i, i < len → ¬ 255 < cv A (o + i)
def E (b : Addr) (A : Cell) (d : Addr) (B : Cell) (o q len : Nat) (r : Option Value) (s u : State) : Prop := r = some (.int (Int32.ofNat len)) ∧ ∃ B', Put d B' s u ∧ Laid B B' q (q + len) (fun j => Value.int (lo8 (cv A (o + (j - q)))))
/-- no char of the range above 255: len; the places written hold each char's low byte -/
theorem law (l : Launch) (b : Addr) (A : Cell) (d : Addr) (B : Cell) (o q len : Nat) : Law l yN 5 5 0 0 yB 7 (some .int) site (P b A d B o q len) (E b A d B o q len) (copyLocs d q len) 0 0 := by
  refine Law.of_walk (plainFor_of_name (by decide +kernel)) (by decide +kernel) (by decide +kernel) (by decide) (fun _ _ h => by rw [h.1]; rfl) (fun _ U U' hal hh h => ⟨h.1, h.2.1.mv hal hh, h.2.2.1.mv hal hh, h.2.2.2⟩) (fun r U U' V V' h1 hal h2 h => ⟨h.1, h.2.elim fun B' q => ⟨B', q.1.mv h1 h2, q.2⟩⟩) ?_
  intro p e s m args below meth c s₁ X0 hexec hbytes hml hret hlk hnm hown hh0 W hP
  obtain ⟨rfl, hA, hB, hne, l1, l2, hp⟩ := hP
  have c1 : Steps p.tables e below (s₁.setTop (entryFrame m #[.ref b, .int (Int32.ofNat o), .ref d, .int (Int32.ofNat q), .int (Int32.ofNat len)] 7)) (s₁.setTop (mkF m 0 #[.val (.ref b), .val (.int (Int32.ofNat o)), .val (.ref d), .val (.int (Int32.ofNat q)), .val (.int (Int32.ofNat len)), .unset, .unset] [])) := entry rfl
  have hA0 := hA.1.mv X0.warmed.alike hh0
  have hB0 := hB.mv X0.warmed.alike hh0
  have a31 := hA.1.2.2.2
  have c2 : Steps p.tables e below (s₁.setTop (entryFrame m #[.ref b, .int (Int32.ofNat o), .ref d, .int (Int32.ofNat q), .int (Int32.ofNat len)] 7)) (s₁.setTop (mkF m 3 #[.val (.ref b), .val (.int (Int32.ofNat o)), .val (.ref d), .val (.int (Int32.ofNat q)), .val (.int (Int32.ofNat len)), .val (.int 0), .unset] [])) := c1.trans (by
    refine iconstV X0.here hexec rfl 0 (hb hbytes d0) (by decide) ?_
    refine XS.istore X0.here hexec rfl (hb hbytes d1) rfl rfl ?_
    exact Steps.refl _)
  have loop : ∀ (r i : Nat), i + r = len → ∀ (z : Slot), (z = .unset ∨ ∃ w, z = .val w ∧ w.category = 1) → ∀ (Tl : State) (Bk : Cell), Stand p l e { frames := 0, locals := 0, cells := 0, slots := 0 } s m #[.ref b, .int (Int32.ofNat o), .ref d, .int (Int32.ofNat q), .int (Int32.ofNat len)] below meth c Tl ([] ++ copyLocs d q i) 0 0 → Put d Bk s₁ Tl → Laid B Bk q (q + i) (fun j => Value.int (lo8 (cv A (o + (j - q))))) →
      Steps p.tables e below (s₁.setTop (entryFrame m #[.ref b, .int (Int32.ofNat o), .ref d, .int (Int32.ofNat q), .int (Int32.ofNat len)] 7)) (Tl.setTop (mkF m 3 #[.val (.ref b), .val (.int (Int32.ofNat (o + i))), .val (.ref d), .val (.int (Int32.ofNat (q + i))), .val (.int (Int32.ofNat len)), .val (.int (Int32.ofNat i)), z] [])) → ∃ (T' : State) (B' : Cell) (z' : Slot), Stand p l e { frames := 0, locals := 0, cells := 0, slots := 0 } s m #[.ref b, .int (Int32.ofNat o), .ref d, .int (Int32.ofNat q), .int (Int32.ofNat len)] below meth c T' ([] ++ copyLocs d q len) 0 0 ∧ Put d B' s₁ T' ∧ Laid B B' q (q + len) (fun j => Value.int (lo8 (cv A (o + (j - q))))) ∧
      Steps p.tables e below (s₁.setTop (entryFrame m #[.ref b, .int (Int32.ofNat o), .ref d, .int (Int32.ofNat q), .int (Int32.ofNat len)] 7)) (T'.setTop (mkF m 3 #[.val (.ref b), .val (.int (Int32.ofNat (o + len))), .val (.ref d), .val (.int (Int32.ofNat (q + len))), .val (.int (Int32.ofNat len)), .val (.int (Int32.ofNat len)), z'] [])) := by
    intro r
    induction r with
    | zero =>
      intro i hi z hz Tl Bk Xl pl fl cl
      have hil : i = len := by omega
      rw [hil] at Xl fl cl
      exact ⟨Tl, Bk, z, Xl, pl, fl, cl⟩
    | succ r ih =>
      intro i hi z hz Tl Bk Xl pl fl cl
      have all := X0.warmed.alike.symm.trans Xl.warmed.alike
      have hAl := hA0.keep all (pl.other hne hA0.1)
      have hBk := hB0.like all pl.1 fl.1 fl.2.1 fl.2.2.1
      have hlt : q + i < Bk.slots.size := by rw [fl.2.2.1]; omega
      have c3 : Steps p.tables e below (s₁.setTop (entryFrame m #[.ref b, .int (Int32.ofNat o), .ref d, .int (Int32.ofNat q), .int (Int32.ofNat len)] 7)) (Tl.setTop (mkF m 12 #[.val (.ref b), .val (.int (Int32.ofNat (o + i))), .val (.ref d), .val (.int (Int32.ofNat (q + i))), .val (.int (Int32.ofNat len)), .val (.int (Int32.ofNat i)), z] [.int (Int32.ofNat (o + i)), .ref b])) := cl.trans (by
        refine XS.iload Xl.here hexec rfl (hb hbytes d3) rfl ?_
        refine XS.iload Xl.here hexec rfl (hb hbytes d5) rfl ?_
        refine XS.icmpNo Xl.here hexec rfl (hb hbytes d7) rfl (ii_ge_f (lt32 (by omega) (by omega))) ?_
        refine XS.aloadN Xl.here hexec rfl (hb hbytes d10) rfl rfl ?_
        refine XS.iloadN Xl.here hexec rfl (hb hbytes d11) rfl ?_
        exact Steps.refl _)
      have c4 : Steps p.tables e below (s₁.setTop (entryFrame m #[.ref b, .int (Int32.ofNat o), .ref d, .int (Int32.ofNat q), .int (Int32.ofNat len)] 7)) (Tl.setTop (mkF m 13 #[.val (.ref b), .val (.int (Int32.ofNat (o + i))), .val (.ref d), .val (.int (Int32.ofNat (q + i))), .val (.int (Int32.ofNat len)), .val (.int (Int32.ofNat i)), z] [.int (cv A (o + i))])) := c3.trans (by
        refine Xl.aget hexec hAl rfl (hA.get (i := o + i) (by omega)) rfl rfl (hb hbytes d12) ?_
        exact Steps.refl _)
      have c5 : Steps p.tables e below (s₁.setTop (entryFrame m #[.ref b, .int (Int32.ofNat o), .ref d, .int (Int32.ofNat q), .int (Int32.ofNat len)] 7)) (Tl.setTop (mkF m 15 #[.val (.ref b), .val (.int (Int32.ofNat (o + i))), .val (.ref d), .val (.int (Int32.ofNat (q + i))), .val (.int (Int32.ofNat len)), .val (.int (Int32.ofNat i)), .val (.int (cv A (o + i)))] [])) := c4.trans (by
        refine XS.istoreS Xl.here hexec rfl (hb hbytes d13) rfl rfl hz ?_
        exact Steps.refl _)
      have c6 : Steps p.tables e below (s₁.setTop (entryFrame m #[.ref b, .int (Int32.ofNat o), .ref d, .int (Int32.ofNat q), .int (Int32.ofNat len)] 7)) (Tl.setTop (mkF m 31 #[.val (.ref b), .val (.int (Int32.ofNat (o + i))), .val (.ref d), .val (.int (Int32.ofNat (q + i))), .val (.int (Int32.ofNat len)), .val (.int (Int32.ofNat i)), .val (.int (cv A (o + i)))] [.int (lo8 (cv A (o + i))), .int (Int32.ofNat (q + i)), .ref d])) := c5.trans (by
        refine XS.iload Xl.here hexec rfl (hb hbytes d15) rfl ?_
        refine sipushV Xl.here hexec rfl 255 (hb hbytes d17) (by decide) ?_
        refine XS.icmpYes Xl.here hexec rfl (pc0 := 20) rfl (hb hbytes d20) rfl (ii_le_t (hp i (by omega))) (by decide) rfl ?_
        refine XS.aloadN Xl.here hexec rfl (hb hbytes d26) rfl rfl ?_
        refine XS.iloadN Xl.here hexec rfl (hb hbytes d27) rfl ?_
        refine XS.iload Xl.here hexec rfl (hb hbytes d28) rfl ?_
        refine i2b Xl.here hexec rfl (hb hbytes d30) rfl ?_
        exact Steps.refl _)
      obtain ⟨T7, X7, p7, st7⟩ := Xl.aput hexec hBk rfl hlt rfl (fits_lo8 (cv A (o + i))) (g := (mkF m 31 #[.val (.ref b), .val (.int (Int32.ofNat (o + i))), .val (.ref d), .val (.int (Int32.ofNat (q + i))), .val (.int (Int32.ofNat len)), .val (.int (Int32.ofNat i)), .val (.int (cv A (o + i)))] [.int (lo8 (cv A (o + i))), .int (Int32.ofNat (q + i)), .ref d])) rfl (rest := []) rfl (hb hbytes d31)
      have c8 : Steps p.tables e below (s₁.setTop (entryFrame m #[.ref b, .int (Int32.ofNat o), .ref d, .int (Int32.ofNat q), .int (Int32.ofNat len)] 7)) (T7.setTop (mkF m 32 #[.val (.ref b), .val (.int (Int32.ofNat (o + i))), .val (.ref d), .val (.int (Int32.ofNat (q + i))), .val (.int (Int32.ofNat len)), .val (.int (Int32.ofNat i)), .val (.int (cv A (o + i)))] [])) := c6.trans (st7 _ (Steps.refl _))
      have c9 : Steps p.tables e below (s₁.setTop (entryFrame m #[.ref b, .int (Int32.ofNat o), .ref d, .int (Int32.ofNat q), .int (Int32.ofNat len)] 7)) (T7.setTop (mkF m 3 #[.val (.ref b), .val (.int (Int32.ofNat (o + i) + 1)), .val (.ref d), .val (.int (Int32.ofNat (q + i) + 1)), .val (.int (Int32.ofNat len)), .val (.int (Int32.ofNat i + 1)), .val (.int (cv A (o + i)))] [])) := c8.trans (by
        refine iincV X7.here hexec rfl 1 (hb hbytes d32) (by decide) rfl rfl ?_
        refine iincV X7.here hexec rfl 1 (hb hbytes d35) (by decide) rfl rfl ?_
        refine iincV X7.here hexec rfl 1 (hb hbytes d38) (by decide) rfl rfl ?_
        refine XS.goto X7.here hexec rfl (pc0 := 41) rfl (hb hbytes d41) (by decide) rfl ?_
        exact Steps.refl _)
      have c10 : Steps p.tables e below (s₁.setTop (entryFrame m #[.ref b, .int (Int32.ofNat o), .ref d, .int (Int32.ofNat q), .int (Int32.ofNat len)] 7)) (T7.setTop (mkF m 3 #[.val (.ref b), .val (.int (Int32.ofNat (o + (i + 1)))), .val (.ref d), .val (.int (Int32.ofNat (q + (i + 1)))), .val (.int (Int32.ofNat len)), .val (.int (Int32.ofNat (i + 1))), .val (.int (cv A (o + i)))] [])) := by
        have := c9
        rw [succ32, succ32, succ32] at this
        exact this
      exact ih (i + 1) (by omega) _ (Or.inr ⟨_, rfl, rfl⟩) T7 _ (by rw [copyLocs_step, ← List.append_assoc]; exact X7) (pl.trans p7) (fl.step (by omega) hlt (by simp)) c10
  obtain ⟨T9, B9, z9, X9, p9, f9, g9⟩ := loop len 0 (by omega) .unset (Or.inl rfl) s₁ B (by simpa [copyLocs] using X0) ⟨hB0.1, fun _ _ => rfl, rfl⟩ (Laid.zero _ _ _) c2
  have c11 : Steps p.tables e below (s₁.setTop (entryFrame m #[.ref b, .int (Int32.ofNat o), .ref d, .int (Int32.ofNat q), .int (Int32.ofNat len)] 7)) (T9.setTop (mkF m 46 #[.val (.ref b), .val (.int (Int32.ofNat (o + len))), .val (.ref d), .val (.int (Int32.ofNat (q + len))), .val (.int (Int32.ofNat len)), .val (.int (Int32.ofNat len)), z9] [.int (Int32.ofNat len)])) := g9.trans (by
    refine XS.iload X9.here hexec rfl (hb hbytes d3) rfl ?_
    refine XS.iload X9.here hexec rfl (hb hbytes d5) rfl ?_
    refine XS.icmpYes X9.here hexec rfl (pc0 := 7) rfl (hb hbytes d7) rfl (ii_ge_t (nlt32 (by omega) (Nat.le_refl _))) (by decide) rfl ?_
    refine XS.iload X9.here hexec rfl (hb hbytes d44) rfl ?_
    exact Steps.refl _)
  exact ⟨T9, some (.int (Int32.ofNat len)), _, _, _, X9, by simp, rfl, rfl, (fun h => by cases h), ⟨rfl, B9, p9.from hh0, f9⟩, fun fs hl => c11.trans (X9.ireturnOut hexec hret rfl (Or.inl rfl) (hb hbytes d46) hl)⟩
end Cmp5
namespace Cmp3
def yN : MethodName := ⟨"java/lang/StringUTF16", "compress", "([CII)[B"⟩
abbrev yB : ByteArray := jdk_52_method_16_code
theorem d0 : decode yB 0 = .ok (.iload_n 2, 1) := by decide +kernel
theorem d1 : decode yB 1 = .ok (.newarray .byte, 2) := by decide +kernel
theorem d3 : decode yB 3 = .ok (.astore_n 3, 1) := by decide +kernel
theorem d4 : decode yB 4 = .ok (.aload_n 0, 1) := by decide +kernel
theorem d5 : decode yB 5 = .ok (.iload_n 1, 1) := by decide +kernel
theorem d6 : decode yB 6 = .ok (.aload_n 3, 1) := by decide +kernel
theorem d7 : decode yB 7 = .ok (.iconst 0, 1) := by decide +kernel
theorem d8 : decode yB 8 = .ok (.iload_n 2, 1) := by decide +kernel
theorem d9 : decode yB 9 = .ok (.invokestatic 115, 3) := by decide +kernel
theorem d12 : decode yB 12 = .ok (.istore 4, 2) := by decide +kernel
theorem d14 : decode yB 14 = .ok (.iload 4, 2) := by decide +kernel
theorem d16 : decode yB 16 = .ok (.iload_n 2, 1) := by decide +kernel
theorem d17 : decode yB 17 = .ok (.if_icmp (.eq) 40, 3) := by decide +kernel
theorem d57 : decode yB 57 = .ok (.aload_n 3, 1) := by decide +kernel
theorem d58 : decode yB 58 = .ok (.areturn, 1) := by decide +kernel
def site : List Cond := [.arrayClass .byte, Cmp5.tab] ++ staticW U16 115 Cmp5.yN
def tab : Cond := tabOf yN yB 6 (some (.array .byte)) site
def P (b : Addr) (A : Cell) (o len : Nat) (args : Array Value) (s : State) : Prop := args = #[.ref b, .int (Int32.ofNat o), .int (Int32.ofNat len)] ∧ Ch b A s ∧ o + len ≤ A.slots.size ∧ len ≤ 536870912 ∧ ∀ i, i < len → ¬ 255 < cv A (o + i)
def E (b : Addr) (A : Cell) (o len : Nat) (r : Option Value) (s u : State) : Prop := NewArr .byte "[B" len (fun j => .int (lo8 (cv A (o + j)))) r s u ∧ u.heap.size = s.heap.size + 1
/-- no char of the range above 255: a new byte[] of their low bytes -/
theorem law (l : Launch) (b : Addr) (A : Cell) (o len : Nat) : Law l yN 3 3 1 18 yB 6 (some (.array .byte)) site (P b A o len) (E b A o len) [] 1 len := by
  refine Law.of_walk (plainFor_of_name (by decide +kernel)) (by decide +kernel) (by decide +kernel) (by decide) (fun _ _ h => by rw [h.1]; rfl) (fun _ U U' hal hh h => ⟨h.1, h.2.1.mv hal hh, h.2.2⟩) (fun r U U' V V' h1 hal h2 h => ⟨NewArr.mv r U U' V V' h1 hal h2 h.1, by rw [h1, h2]; exact h.2⟩) ?_
  intro p e s m args below meth c s₁ X0 hexec hbytes hml hret hlk hnm hown hh0 W hP
  obtain ⟨rfl, hA, l1, l2, hp⟩ := hP
  have a31 := hA.1.2.2.2
  have c1 : Steps p.tables e below (s₁.setTop (entryFrame m #[.ref b, .int (Int32.ofNat o), .int (Int32.ofNat len)] 6)) (s₁.setTop (mkF m 0 #[.val (.ref b), .val (.int (Int32.ofNat o)), .val (.int (Int32.ofNat len)), .unset, .unset, .unset] [])) := entry rfl
  have c2 : Steps p.tables e below (s₁.setTop (entryFrame m #[.ref b, .int (Int32.ofNat o), .int (Int32.ofNat len)] 6)) (s₁.setTop (mkF m 1 #[.val (.ref b), .val (.int (Int32.ofNat o)), .val (.int (Int32.ofNat len)), .unset, .unset, .unset] [.int (Int32.ofNat len)])) := c1.trans (by
    refine XS.iloadN X0.here hexec rfl (hb hbytes d0) rfl ?_
    exact Steps.refl _)
  obtain ⟨T3, B3, X3, ba3, bs3, bv3, bh3, bf3, st3⟩ := X0.anew hexec (atype := .byte) (wk W (.arrayClass .byte)) rfl (by show len * 1 ≤ _; omega) (by omega) (g := (mkF m 1 #[.val (.ref b), .val (.int (Int32.ofNat o)), .val (.int (Int32.ofNat len)), .unset, .unset, .unset] [.int (Int32.ofNat len)])) rfl (hb hbytes d1) (rest := []) rfl (Nat.le_refl _) (by show 0 + len ≤ len; omega)
  rw [hh0] at ba3 st3
  have kp3 : XT.Kept s T3 := (XT.Kept.of_eq hh0).push bh3
  have hA3 := hA.keep X3.warmed.alike (kp3 _ _ hA.1.1)
  have hne : b ≠ s.heap.size := hA.1.ne
  have c4 : Steps p.tables e below (s₁.setTop (entryFrame m #[.ref b, .int (Int32.ofNat o), .int (Int32.ofNat len)] 6)) (T3.setTop (mkF m 3 #[.val (.ref b), .val (.int (Int32.ofNat o)), .val (.int (Int32.ofNat len)), .unset, .unset, .unset] [.ref s.heap.size])) := c2.trans (st3 _ (Steps.refl _))
  have c5 : Steps p.tables e below (s₁.setTop (entryFrame m #[.ref b, .int (Int32.ofNat o), .int (Int32.ofNat len)] 6)) (T3.setTop (mkF m 9 #[.val (.ref b), .val (.int (Int32.ofNat o)), .val (.int (Int32.ofNat len)), .val (.ref s.heap.size), .unset, .unset] [.int (Int32.ofNat len), .int 0, .ref s.heap.size, .int (Int32.ofNat o), .ref b])) := c4.trans (by
    refine XS.astoreN X3.here hexec rfl (hb hbytes d3) rfl rfl rfl ?_
    refine XS.aloadN X3.here hexec rfl (hb hbytes d4) rfl rfl ?_
    refine XS.iloadN X3.here hexec rfl (hb hbytes d5) rfl ?_
    refine XS.aloadN X3.here hexec rfl (hb hbytes d6) rfl rfl ?_
    refine iconstV X3.here hexec rfl 0 (hb hbytes d7) (by decide) ?_
    refine XS.iloadN X3.here hexec rfl (hb hbytes d8) rfl ?_
    exact Steps.refl _)
  obtain ⟨v6, T6, X6, E6, g6⟩ := X3.callS hexec (Cmp5.law l b A s.heap.size B3 o 0 len) hown (wks W (staticW U16 115 Cmp5.yN)) (wk W Cmp5.tab) (W := 0) (Nat.le_of_ble_eq_true rfl) (Nat.le_of_ble_eq_true rfl) (Nat.le_refl _) (by show 0 + len + 0 ≤ len; omega) (g := (mkF m 9 #[.val (.ref b), .val (.int (Int32.ofNat o)), .val (.int (Int32.ofNat len)), .val (.ref s.heap.size), .unset, .unset] [.int (Int32.ofNat len), .int (Int32.ofNat 0), .ref s.heap.size, .int (Int32.ofNat o), .ref b])) rfl (by rw [hml]; rfl) c5 (argsL := [.ref b, .int (Int32.ofNat o), .ref s.heap.size, .int (Int32.ofNat 0), .int (Int32.ofNat len)]) (rest := []) rfl rfl (by show 2 * 0 + 0 ≤ _; decide) (hb hbytes d9) (⟨rfl, hA3, ba3, hne, l1, by rw [bs3]; simp, hp⟩)
  obtain ⟨rfl, B6, p6, f6⟩ := E6
  have c7 : Steps p.tables e below (s₁.setTop (entryFrame m #[.ref b, .int (Int32.ofNat o), .int (Int32.ofNat len)] 6)) (T6.setTop (mkF m 12 #[.val (.ref b), .val (.int (Int32.ofNat o)), .val (.int (Int32.ofNat len)), .val (.ref s.heap.size), .unset, .unset] [.int (Int32.ofNat len)])) := g6
  have c8 : Steps p.tables e below (s₁.setTop (entryFrame m #[.ref b, .int (Int32.ofNat o), .int (Int32.ofNat len)] 6)) (T6.setTop (mkF m 58 #[.val (.ref b), .val (.int (Int32.ofNat o)), .val (.int (Int32.ofNat len)), .val (.ref s.heap.size), .val (.int (Int32.ofNat len)), .unset] [.ref s.heap.size])) := c7.trans (by
    refine XS.istore X6.here hexec rfl (hb hbytes d12) rfl rfl ?_
    refine XS.iload X6.here hexec rfl (hb hbytes d14) rfl ?_
    refine XS.iloadN X6.here hexec rfl (hb hbytes d16) rfl ?_
    refine XS.icmpYes X6.here hexec rfl (pc0 := 17) rfl (hb hbytes d17) rfl (ii_eq_t rfl) (by decide) rfl ?_
    refine XS.aloadN X6.here hexec rfl (hb hbytes d57) rfl rfl ?_
    exact Steps.refl _)
  have X8 := X6.wide (L' := []) (cells' := 1) (slots' := len) (fun x hx hlt => by
    simp only [List.nil_append, copyLocs, List.mem_map, List.mem_range] at hx
    obtain ⟨i, -, rfl⟩ := hx
    exact absurd hlt (Nat.lt_irrefl _)) (Nat.le_refl _) (by omega)
  exact ⟨T6, some (.ref s.heap.size), _, _, _, X8, rfl, rfl, rfl, (fun h => by cases h), ⟨⟨rfl, B6, ba3.like (X3.warmed.alike.symm.trans X6.warmed.alike) p6.1 f6.1 f6.2.1 f6.2.2.1, f6.2.1.trans bv3, by rw [X6.warmed.alike.findClass, f6.1]; exact bf3, by rw [f6.2.2.1, bs3]; simp, fun j hj => by rw [f6.2.2.2 j, if_pos (by omega)]; rfl, kp3.put p6 (Nat.le_refl _)⟩, by rw [p6.2.2, bh3, hh0]; simp⟩, fun fs hl => c8.trans (X8.areturnOut hexec rfl hret rfl (hb hbytes d58) hl)⟩
end Cmp3
namespace CodL
def yN : MethodName := ⟨"java/lang/StringUTF16", "coderFromArrayLen", "([BI)B"⟩
abbrev yB : ByteArray := jdk_52_method_15_code
theorem d0 : decode yB 0 = .ok (.iload_n 1, 1) := by decide +kernel
theorem d1 : decode yB 1 = .ok (.aload_n 0, 1) := by decide +kernel
theorem d2 : decode yB 2 = .ok (.arraylength, 1) := by decide +kernel
theorem d3 : decode yB 3 = .ok (.isub, 1) := by decide +kernel
theorem d4 : decode yB 4 = .ok (.bipush 31, 2) := by decide +kernel
theorem d6 : decode yB 6 = .ok (.iushr, 1) := by decide +kernel
theorem d7 : decode yB 7 = .ok (.i2b, 1) := by decide +kernel
theorem d8 : decode yB 8 = .ok (.ireturn, 1) := by decide +kernel
def site : List Cond := []
def tab : Cond := tabOf yN yB 2 (some .byte) site
def P (d : Addr) (B : Cell) (args : Array Value) (s : State) : Prop := args = #[.ref d, .int (Int32.ofNat B.slots.size)] ∧ Arr .byte d B s
def E (r : Option Value) (s u : State) : Prop := XT.PureE (some (.int 0)) r s u
/-- an array as long as the number of chars: LATIN1 -/
theorem law (l : Launch) (d : Addr) (B : Cell) : Law l yN 2 2 0 0 yB 2 (some .byte) site (P d B) E [] 0 0 := by
  refine Law.of_walk (plainFor_of_name (by decide +kernel)) (by decide +kernel) (by decide +kernel) (by decide) (fun _ _ h => by rw [h.1]; rfl) (fun _ U U' hal hh h => ⟨h.1, h.2.mv hal hh⟩) (fun r U U' V V' h1 hal h2 h => XT.PureE.mv r U U' V V' h1 hal h2 h) ?_
  intro p e s m args below meth c s₁ X0 hexec hbytes hml hret hlk hnm hown hh0 W hP
  obtain ⟨rfl, hB⟩ := hP
  have hB0 := hB.mv X0.warmed.alike hh0
  have c1 : Steps p.tables e below (s₁.setTop (entryFrame m #[.ref d, .int (Int32.ofNat B.slots.size)] 2)) (s₁.setTop (mkF m 0 #[.val (.ref d), .val (.int (Int32.ofNat B.slots.size))] [])) := entry rfl
  have c2 : Steps p.tables e below (s₁.setTop (entryFrame m #[.ref d, .int (Int32.ofNat B.slots.size)] 2)) (s₁.setTop (mkF m 2 #[.val (.ref d), .val (.int (Int32.ofNat B.slots.size))] [.ref d, .int (Int32.ofNat B.slots.size)])) := c1.trans (by
    refine XS.iloadN X0.here hexec rfl (hb hbytes d0) rfl ?_
    refine XS.aloadN X0.here hexec rfl (hb hbytes d1) rfl rfl ?_
    exact Steps.refl _)
  have c3 : Steps p.tables e below (s₁.setTop (entryFrame m #[.ref d, .int (Int32.ofNat B.slots.size)] 2)) (s₁.setTop (mkF m 8 #[.val (.ref d), .val (.int (Int32.ofNat B.slots.size))] [.int (lo8 (ushr (Int32.ofNat B.slots.size - Int32.ofNat B.slots.size) 31))])) := c2.trans (by
    refine X0.alen hexec hB0 rfl rfl (hb hbytes d2) ?_
    refine XS.isub X0.here hexec rfl (hb hbytes d3) rfl ?_
    refine bipushV X0.here hexec rfl 31 (hb hbytes d4) (by decide) ?_
    refine iushr X0.here hexec rfl (hb hbytes d6) rfl ?_
    refine i2b X0.here hexec rfl (hb hbytes d7) rfl ?_
    exact Steps.refl _)
  have e0 : lo8 (ushr (Int32.ofNat B.slots.size - Int32.ofNat B.slots.size) 31) = 0 := by rw [Int32.sub_self]; decide
  rw [e0] at c3
  exact ⟨s₁, some (.int 0), _, _, _, X0, rfl, rfl, rfl, (fun h => by cases h), ⟨rfl, hh0⟩, fun fs hl => c3.trans (X0.ireturnOut hexec hret rfl (Or.inr (Or.inr (Or.inl rfl))) (hb hbytes d8) hl)⟩
end CodL
/-- the String at a is Latin-1 over a new byte[] (the heap's one new cell): the low bytes of the len chars of A from o on; every cell but a is kept -/
def Got (a : Addr) (D : Cell) (fV fC : Field) (A : Cell) (o len : Nat) (r : Option Value) (s u : State) : Prop := r = none ∧ ∃ D' V : Cell, Blank "java/lang/String" a D' u ∧ Same D D' [fV.slot, fC.slot] ∧ D'.slots[fV.slot]? = some (.ref s.heap.size) ∧ D'.slots[fC.slot]? = some (.int 0) ∧ Arr .byte s.heap.size V u ∧ V.vm = .none ∧ u.vm.findClass "[B" = some V.cls ∧ V.slots.size = len ∧ (∀ j, j < len → V.slots[j]? = some (.int (lo8 (cv A (o + j))))) ∧ (∀ (y : Addr) (c : Cell), y ≠ a → s.heap[y]? = some c → u.heap[y]? = some c) ∧ u.heap.size = s.heap.size + 1
theorem Got.mv {a : Addr} {D A : Cell} {fV fC : Field} {o len : Nat} : ∀ r (U U' V V' : State), U'.heap = U.heap → V.vm.Alike V'.vm → V'.heap = V.heap → Got a D fV fC A o len r U V → Got a D fV fC A o len r U' V' :=
  fun r U U' V V' h1 hal h2 ⟨e0, D', X, a1, a2, a3, a4, a5, a6, a7, a8, a9, a10, a11⟩ => ⟨e0, D', X, a1.mv hal h2, a2, by rw [h1]; exact a3, a4, by rw [h1]; exact a5.mv hal h2, a6, by rw [hal.findClass]; exact a7, a8, a9, by rw [h1, h2]; exact a10, by rw [h1, h2]; exact a11⟩
namespace New4
def yN : MethodName := ⟨"java/lang/String", "<init>", "([CIILjava/lang/Void;)V"⟩
abbrev yB : ByteArray := jdk_42_method_149_code
theorem d0 : decode yB 0 = .ok (.aload_n 0, 1) := by decide +kernel
theorem d1 : decode yB 1 = .ok (.invokespecial 1, 3) := by decide +kernel
theorem d4 : decode yB 4 = .ok (.iload_n 3, 1) := by decide +kernel
theorem d5 : decode yB 5 = .ok (.ifCond (.ne) 22, 3) := by decide +kernel
theorem d27 : decode yB 27 = .ok (.getstatic 38, 3) := by decide +kernel
theorem d30 : decode yB 30 = .ok (.ifCond (.eq) 28, 3) := by decide +kernel
theorem d33 : decode yB 33 = .ok (.aload_n 1, 1) := by decide +kernel
theorem d34 : decode yB 34 = .ok (.iload_n 2, 1) := by decide +kernel
theorem d35 : decode yB 35 = .ok (.iload_n 3, 1) := by decide +kernel
theorem d36 : decode yB 36 = .ok (.invokestatic 177, 3) := by decide +kernel
theorem d39 : decode yB 39 = .ok (.astore 5, 2) := by decide +kernel
theorem d41 : decode yB 41 = .ok (.aload_n 0, 1) := by decide +kernel
theorem d42 : decode yB 42 = .ok (.aload 5, 2) := by decide +kernel
theorem d44 : decode yB 44 = .ok (.iload_n 3, 1) := by decide +kernel
theorem d45 : decode yB 45 = .ok (.invokestatic 47, 3) := by decide +kernel
theorem d48 : decode yB 48 = .ok (.putfield 15, 3) := by decide +kernel
theorem d51 : decode yB 51 = .ok (.aload_n 0, 1) := by decide +kernel
theorem d52 : decode yB 52 = .ok (.aload 5, 2) := by decide +kernel
theorem d54 : decode yB 54 = .ok (.putfield 9, 3) := by decide +kernel
theorem d57 : decode yB 57 = .ok (.return_, 1) := by decide +kernel
def site : List Cond := [.fieldLink "java/lang/String" 38 "java/lang/String" "COMPACT_STRINGS" "Z", Cmp3.tab, CodL.tab, .laysFinal "java/lang/String" "java/lang/String" "value" "[B", .fieldLink "java/lang/String" 9 "java/lang/String" "value" "[B", .laysFinal "java/lang/String" "java/lang/String" "coder" "B", .fieldLink "java/lang/String" 15 "java/lang/String" "coder" "B"] ++ objW "java/lang/String" 1 ++ staticW "java/lang/String" 177 Cmp3.yN ++ staticW "java/lang/String" 47 CodL.yN
def tab : Cond := tabOf yN yB 6 none site
def P (a : Addr) (D : Cell) (fV fC : Field) (b : Addr) (A : Cell) (z : Int32) (o len : Nat) (args : Array Value) (s : State) : Prop := args = #[.ref a, .ref b, .int (Int32.ofNat o), .int (Int32.ofNat len), .null] ∧ Blank "java/lang/String" a D s ∧ Found "java/lang/String" "value" "[B" fV s ∧ Found "java/lang/String" "coder" "B" fC s ∧ Ch b A s ∧ StaticIs s "java/lang/String" "COMPACT_STRINGS" "Z" (.int z) ∧ ¬ z = 0 ∧ 0 < len ∧ o + len ≤ A.slots.size ∧ len ≤ 536870912 ∧ ∀ i, i < len → ¬ 255 < cv A (o + i)
def E (a : Addr) (D : Cell) (fV fC : Field) (A : Cell) (o len : Nat) (r : Option Value) (s u : State) : Prop := Got a D fV fC A o len r s u
/-- len > 0, no char of the range above 255: a Latin-1 String of their low bytes -/
theorem law (l : Launch) (a : Addr) (D : Cell) (fV fC : Field) (b : Addr) (A : Cell) (z : Int32) (o len : Nat) : Law l yN 5 4 2 35 yB 6 none site (P a D fV fC b A z o len) (E a D fV fC A o len) [⟨a, fC.slot⟩, ⟨a, fV.slot⟩] 1 len := by
  refine Law.of_walk (plainFor_of_name (by decide +kernel)) (by decide +kernel) (by decide +kernel) (by decide) (fun _ _ h => by rw [h.1]; rfl) (fun _ U U' hal hh h => ⟨h.1, h.2.1.mv hal hh, h.2.2.1.al hal, h.2.2.2.1.al hal, h.2.2.2.2.1.mv hal hh, h.2.2.2.2.2.1.there hal hh, h.2.2.2.2.2.2⟩) (fun r U U' V V' h1 hal h2 h => Got.mv r U U' V V' h1 hal h2 h) ?_
  intro p e s m args below meth c s₁ X0 hexec hbytes hml hret hlk hnm hown hh0 W hP
  obtain ⟨rfl, hB, f1, f2, hA, s1, hz, l0, l1, l2, hp⟩ := hP
  have a31 := hA.1.2.2.2
  have c1 : Steps p.tables e below (s₁.setTop (entryFrame m #[.ref a, .ref b, .int (Int32.ofNat o), .int (Int32.ofNat len), .null] 6)) (s₁.setTop (mkF m 0 #[.val (.ref a), .val (.ref b), .val (.int (Int32.ofNat o)), .val (.int (Int32.ofNat len)), .val .null, .unset] [])) := entry rfl
  have c2 : Steps p.tables e below (s₁.setTop (entryFrame m #[.ref a, .ref b, .int (Int32.ofNat o), .int (Int32.ofNat len), .null] 6)) (s₁.setTop (mkF m 1 #[.val (.ref a), .val (.ref b), .val (.int (Int32.ofNat o)), .val (.int (Int32.ofNat len)), .val .null, .unset] [.ref a])) := c1.trans (by
    refine XS.aloadN X0.here hexec rfl (hb hbytes d0) rfl rfl ?_
    exact Steps.refl _)
  obtain ⟨T3, X3, q3, st3⟩ := X0.oinit hexec hown (wks W (objW "java/lang/String" 1)) (g := (mkF m 1 #[.val (.ref a), .val (.ref b), .val (.int (Int32.ofNat o)), .val (.int (Int32.ofNat len)), .val .null, .unset] [.ref a])) rfl (by rw [hml]; rfl) (rest := []) rfl (hb hbytes d1) (W := 0) (by show 2 * 0 + 0 ≤ _; decide) (Nat.le_of_ble_eq_true rfl) (Nat.le_of_ble_eq_true rfl)
  have hh3 := q3.trans hh0
  have c4 : Steps p.tables e below (s₁.setTop (entryFrame m #[.ref a, .ref b, .int (Int32.ofNat o), .int (Int32.ofNat len), .null] 6)) (T3.setTop (mkF m 27 #[.val (.ref a), .val (.ref b), .val (.int (Int32.ofNat o)), .val (.int (Int32.ofNat len)), .val .null, .unset] [])) := (c2.trans (st3 _ (Steps.refl _))).trans (by
    refine XS.iloadN X3.here hexec rfl (hb hbytes d4) rfl ?_
    refine XS.ifYes X3.here hexec rfl (pc0 := 5) rfl (hb hbytes d5) rfl (i0_ne_t (nz32 (by omega) l0)) (by decide) rfl ?_
    exact Steps.refl _)
  obtain ⟨T5, X5, q5, st5⟩ := X3.sget hexec hown (wk W (.fieldLink "java/lang/String" 38 "java/lang/String" "COMPACT_STRINGS" "Z")) s1 (fun _ _ h => by rw [hh3]; exact h) (g := (mkF m 27 #[.val (.ref a), .val (.ref b), .val (.int (Int32.ofNat o)), .val (.int (Int32.ofNat len)), .val .null, .unset] [])) rfl (hb hbytes d27)
  have hh5 := q5.trans hh3
  have c6 : Steps p.tables e below (s₁.setTop (entryFrame m #[.ref a, .ref b, .int (Int32.ofNat o), .int (Int32.ofNat len), .null] 6)) (T5.setTop (mkF m 30 #[.val (.ref a), .val (.ref b), .val (.int (Int32.ofNat o)), .val (.int (Int32.ofNat len)), .val .null, .unset] [.int z])) := c4.trans (st5 _ (Steps.refl _))
  have c7 : Steps p.tables e below (s₁.setTop (entryFrame m #[.ref a, .ref b, .int (Int32.ofNat o), .int (Int32.ofNat len), .null] 6)) (T5.setTop (mkF m 36 #[.val (.ref a), .val (.ref b), .val (.int (Int32.ofNat o)), .val (.int (Int32.ofNat len)), .val .null, .unset] [.int (Int32.ofNat len), .int (Int32.ofNat o), .ref b])) := c6.trans (by
    refine XS.ifNo X5.here hexec rfl (hb hbytes d30) rfl (i0_eq_f hz) ?_
    refine XS.aloadN X5.here hexec rfl (hb hbytes d33) rfl rfl ?_
    refine XS.iloadN X5.here hexec rfl (hb hbytes d34) rfl ?_
    refine XS.iloadN X5.here hexec rfl (hb hbytes d35) rfl ?_
    exact Steps.refl _)
  obtain ⟨v8, T8, X8, E8, g8⟩ := X5.callS hexec (Cmp3.law l b A o len) hown (wks W (staticW "java/lang/String" 177 Cmp3.yN)) (wk W Cmp3.tab) (W := 0) (Nat.le_of_ble_eq_true rfl) (Nat.le_of_ble_eq_true rfl) (Nat.le_refl _) (by show 0 + len ≤ len; omega) (g := (mkF m 36 #[.val (.ref a), .val (.ref b), .val (.int (Int32.ofNat o)), .val (.int (Int32.ofNat len)), .val .null, .unset] [.int (Int32.ofNat len), .int (Int32.ofNat o), .ref b])) rfl (by rw [hml]; rfl) c7 (argsL := [.ref b, .int (Int32.ofNat o), .int (Int32.ofNat len)]) (rest := []) rfl rfl (by show 2 * 0 + 0 ≤ _; decide) (hb hbytes d36) (⟨rfl, hA.mv X5.warmed.alike hh5, l1, l2, hp⟩)
  obtain ⟨e8, z8⟩ := E8
  obtain ⟨rfl, N, n1, n2, n3, n4, n5, n6⟩ := NewArr.mv _ T5 s _ _ hh5.symm (Vm.Alike.refl _) rfl e8
  rw [hh5] at z8
  have hB1 := hB.keep X8.warmed.alike (n6 _ _ hB.1)
  have hne : s.heap.size ≠ a := (Nat.ne_of_lt (Array.getElem?_eq_some_iff.mp hB.1).1).symm
  have c9 : Steps p.tables e below (s₁.setTop (entryFrame m #[.ref a, .ref b, .int (Int32.ofNat o), .int (Int32.ofNat len), .null] 6)) (T8.setTop (mkF m 39 #[.val (.ref a), .val (.ref b), .val (.int (Int32.ofNat o)), .val (.int (Int32.ofNat len)), .val .null, .unset] [.ref s.heap.size])) := g8
  have c10 : Steps p.tables e below (s₁.setTop (entryFrame m #[.ref a, .ref b, .int (Int32.ofNat o), .int (Int32.ofNat len), .null] 6)) (T8.setTop (mkF m 45 #[.val (.ref a), .val (.ref b), .val (.int (Int32.ofNat o)), .val (.int (Int32.ofNat len)), .val .null, .val (.ref s.heap.size)] [.int (Int32.ofNat N.slots.size), .ref s.heap.size, .ref a])) := by
    have hc : Steps p.tables e below (s₁.setTop (entryFrame m #[.ref a, .ref b, .int (Int32.ofNat o), .int (Int32.ofNat len), .null] 6)) (T8.setTop (mkF m 45 #[.val (.ref a), .val (.ref b), .val (.int (Int32.ofNat o)), .val (.int (Int32.ofNat len)), .val .null, .val (.ref s.heap.size)] [.int (Int32.ofNat len), .ref s.heap.size, .ref a])) := c9.trans (by
      refine XS.astore X8.here hexec rfl (hb hbytes d39) rfl rfl rfl ?_
      refine XS.aloadN X8.here hexec rfl (hb hbytes d41) rfl rfl ?_
      refine XS.aload X8.here hexec rfl (hb hbytes d42) rfl rfl ?_
      refine XS.iloadN X8.here hexec rfl (hb hbytes d44) rfl ?_
      exact Steps.refl _)
    rw [n4]; exact hc
  obtain ⟨v11, T11, X11, E11, g11⟩ := X8.callS hexec (CodL.law l s.heap.size N) hown (wks W (staticW "java/lang/String" 47 CodL.yN)) (wk W CodL.tab) (W := 1) (Nat.le_of_ble_eq_true rfl) (Nat.le_of_ble_eq_true rfl) (Nat.le_refl _) (by show 0 + len + 0 ≤ len; omega) (g := (mkF m 45 #[.val (.ref a), .val (.ref b), .val (.int (Int32.ofNat o)), .val (.int (Int32.ofNat len)), .val .null, .val (.ref s.heap.size)] [.int (Int32.ofNat N.slots.size), .ref s.heap.size, .ref a])) rfl (by rw [hml]; rfl) c10 (argsL := [.ref s.heap.size, .int (Int32.ofNat N.slots.size)]) (rest := [.ref a]) rfl rfl (by show 2 * 0 + (1 + 0) ≤ _; decide) (hb hbytes d45) (⟨rfl, n1⟩)
  obtain ⟨rfl, q11⟩ := E11
  have hB11 := hB1.mv (X8.warmed.alike.symm.trans X11.warmed.alike) q11
  have c12 : Steps p.tables e below (s₁.setTop (entryFrame m #[.ref a, .ref b, .int (Int32.ofNat o), .int (Int32.ofNat len), .null] 6)) (T11.setTop (mkF m 48 #[.val (.ref a), .val (.ref b), .val (.int (Int32.ofNat o)), .val (.int (Int32.ofNat len)), .val .null, .val (.ref s.heap.size)] [.int 0, .ref a])) := g11
  obtain ⟨T13, X13, p13, bl13, sl13, st13⟩ := X11.finit hexec hown (wk W (.fieldLink "java/lang/String" 15 "java/lang/String" "coder" "B")) (Or.inr ⟨_, (wk W (.laysFinal "java/lang/String" "java/lang/String" "coder" "B"))⟩) (Or.inl ⟨rfl, hnm⟩) f2 (Or.inl rfl) hB11 (t := .byte) (by decide +kernel) rfl (g := (mkF m 48 #[.val (.ref a), .val (.ref b), .val (.int (Int32.ofNat o)), .val (.int (Int32.ofNat len)), .val .null, .val (.ref s.heap.size)] [.int 0, .ref a])) rfl (rest := []) rfl (hb hbytes d48)
  have c14 : Steps p.tables e below (s₁.setTop (entryFrame m #[.ref a, .ref b, .int (Int32.ofNat o), .int (Int32.ofNat len), .null] 6)) (T13.setTop (mkF m 54 #[.val (.ref a), .val (.ref b), .val (.int (Int32.ofNat o)), .val (.int (Int32.ofNat len)), .val .null, .val (.ref s.heap.size)] [.ref s.heap.size, .ref a])) := (c12.trans (st13 _ (Steps.refl _))).trans (by
    refine XS.aloadN X13.here hexec rfl (hb hbytes d51) rfl rfl ?_
    refine XS.aload X13.here hexec rfl (hb hbytes d52) rfl rfl ?_
    exact Steps.refl _)
  obtain ⟨T15, X15, p15, bl15, sl15, st15⟩ := X13.finit hexec hown (wk W (.fieldLink "java/lang/String" 9 "java/lang/String" "value" "[B")) (Or.inr ⟨_, (wk W (.laysFinal "java/lang/String" "java/lang/String" "value" "[B"))⟩) (Or.inl ⟨rfl, hnm⟩) f1 (Or.inl rfl) bl13 (t := (.array .byte)) (by decide +kernel) rfl (g := (mkF m 54 #[.val (.ref a), .val (.ref b), .val (.int (Int32.ofNat o)), .val (.int (Int32.ofNat len)), .val .null, .val (.ref s.heap.size)] [.ref s.heap.size, .ref a])) rfl (rest := []) rfl (hb hbytes d54)
  have c16 : Steps p.tables e below (s₁.setTop (entryFrame m #[.ref a, .ref b, .int (Int32.ofNat o), .int (Int32.ofNat len), .null] 6)) (T15.setTop (mkF m 57 #[.val (.ref a), .val (.ref b), .val (.int (Int32.ofNat o)), .val (.int (Int32.ofNat len)), .val .null, .val (.ref s.heap.size)] [])) := c14.trans (st15 _ (Steps.refl _))
  have ap := apart (Or.inr ⟨_, (wk W (.laysFinal "java/lang/String" "java/lang/String" "value" "[B"))⟩) (Or.inr ⟨_, (wk W (.laysFinal "java/lang/String" "java/lang/String" "coder" "B"))⟩) f1 f2 (t₁ := .array .byte) (t₂ := .byte) (by decide +kernel) (by decide +kernel) (by decide)
  have al := X8.warmed.alike.symm.trans X15.warmed.alike
  have n7 : T11.heap[s.heap.size]? = some N := by rw [q11]; exact n1.1
  exact ⟨T15, none, _, _, _, X15, by simp, rfl, by omega, (fun _ => rfl), ⟨rfl, _, N, bl15, ((Same.refl D _).set _ (by simp)).set _ (by simp), sl15, (Cell.slots_setSlot_ne _ ap).trans sl13, n1.keep al (p15.other hne (p13.other hne n7)), n2, by rw [al.findClass]; exact n3, n4, n5, fun y c h1 h2 => p15.other h1 (p13.other h1 (by rw [q11]; exact n6 y c h2)), by rw [p15.2.2, p13.2.2, q11]; exact z8⟩, fun fs hl => c16.trans (X15.returnOut hexec hret (hb hbytes d57) hl)⟩
end New4
namespace New1
def yN : MethodName := ⟨"java/lang/String", "<init>", "([C)V"⟩
abbrev yB : ByteArray := jdk_42_method_3_code
theorem d0 : decode yB 0 = .ok (.aload_n 0, 1) := by decide +kernel
theorem d1 : decode yB 1 = .ok (.aload_n 1, 1) := by decide +kernel
theorem d2 : decode yB 2 = .ok (.iconst 0, 1) := by decide +kernel
theorem d3 : decode yB 3 = .ok (.aload_n 1, 1) := by decide +kernel
theorem d4 : decode yB 4 = .ok (.arraylength, 1) := by decide +kernel
theorem d5 : decode yB 5 = .ok (.aconst_null, 1) := by decide +kernel
theorem d6 : decode yB 6 = .ok (.invokespecial 27, 3) := by decide +kernel
theorem d9 : decode yB 9 = .ok (.return_, 1) := by decide +kernel
def site : List Cond := [New4.tab] ++ initW "java/lang/String" 27 New4.yN
def tab : Cond := tabOf yN yB 2 none site
def P (a : Addr) (D : Cell) (fV fC : Field) (b : Addr) (A : Cell) (z : Int32) (args : Array Value) (s : State) : Prop := args = #[.ref a, .ref b] ∧ Blank "java/lang/String" a D s ∧ Found "java/lang/String" "value" "[B" fV s ∧ Found "java/lang/String" "coder" "B" fC s ∧ Ch b A s ∧ StaticIs s "java/lang/String" "COMPACT_STRINGS" "Z" (.int z) ∧ ¬ z = 0 ∧ 0 < A.slots.size ∧ A.slots.size ≤ 536870912 ∧ ∀ i, i < A.slots.size → ¬ 255 < cv A i
def E (a : Addr) (D : Cell) (fV fC : Field) (A : Cell) (r : Option Value) (s u : State) : Prop := Got a D fV fC A 0 A.slots.size r s u
/-- new String(chars), not empty, no char above 255: a Latin-1 String of their low bytes -/
theorem law (l : Launch) (a : Addr) (D : Cell) (fV fC : Field) (b : Addr) (A : Cell) (z : Int32) : Law l yN 2 1 3 52 yB 2 none site (P a D fV fC b A z) (E a D fV fC A) [⟨a, fC.slot⟩, ⟨a, fV.slot⟩] 1 A.slots.size := by
  refine Law.of_walk (plainFor_of_name (by decide +kernel)) (by decide +kernel) (by decide +kernel) (by decide) (fun _ _ h => by rw [h.1]; rfl) (fun _ U U' hal hh h => ⟨h.1, h.2.1.mv hal hh, h.2.2.1.al hal, h.2.2.2.1.al hal, h.2.2.2.2.1.mv hal hh, h.2.2.2.2.2.1.there hal hh, h.2.2.2.2.2.2⟩) (fun r U U' V V' h1 hal h2 h => Got.mv r U U' V V' h1 hal h2 h) ?_
  intro p e s m args below meth c s₁ X0 hexec hbytes hml hret hlk hnm hown hh0 W hP
  obtain ⟨rfl, hB, f1, f2, hA, s1, hz, l0, l2, hp⟩ := hP
  have c1 : Steps p.tables e below (s₁.setTop (entryFrame m #[.ref a, .ref b] 2)) (s₁.setTop (mkF m 0 #[.val (.ref a), .val (.ref b)] [])) := entry rfl
  have c2 : Steps p.tables e below (s₁.setTop (entryFrame m #[.ref a, .ref b] 2)) (s₁.setTop (mkF m 6 #[.val (.ref a), .val (.ref b)] [.null, .int (Int32.ofNat A.slots.size), .int 0, .ref b, .ref a])) := c1.trans (by
    refine XS.aloadN X0.here hexec rfl (hb hbytes d0) rfl rfl ?_
    refine XS.aloadN X0.here hexec rfl (hb hbytes d1) rfl rfl ?_
    refine iconstV X0.here hexec rfl 0 (hb hbytes d2) (by decide) ?_
    refine XS.aloadN X0.here hexec rfl (hb hbytes d3) rfl rfl ?_
    refine X0.alen hexec (hA.1.mv X0.warmed.alike hh0) rfl rfl (hb hbytes d4) ?_
    refine XS.aconstNull X0.here hexec rfl (hb hbytes d5) ?_
    exact Steps.refl _)
  obtain ⟨v3, T3, X3, E3, g3⟩ := X0.callN hexec (New4.law l a D fV fC b A z 0 A.slots.size) rfl hown (wks W (initW "java/lang/String" 27 New4.yN)) (W New4.tab (by simp only [site, List.mem_cons, List.mem_append, true_or, or_true])) (W := 0) (Nat.le_of_ble_eq_true rfl) (Nat.le_of_ble_eq_true rfl) (Nat.le_refl _) (by show 0 + A.slots.size ≤ A.slots.size; omega) (g := (mkF m 6 #[.val (.ref a), .val (.ref b)] [.null, .int (Int32.ofNat A.slots.size), .int (Int32.ofNat 0), .ref b, .ref a])) rfl (by rw [hml]; rfl) c2 (argsL := [.ref b, .int (Int32.ofNat 0), .int (Int32.ofNat A.slots.size), .null]) (rest := []) rfl rfl (by show 2 * 0 + 0 ≤ _; decide) (hb hbytes d6) (⟨rfl, hB.mv X0.warmed.alike hh0, f1.al X0.warmed.alike, f2.al X0.warmed.alike, hA.mv X0.warmed.alike hh0, s1.there X0.warmed.alike hh0, hz, l0, by omega, l2, fun i hi => by rw [Nat.zero_add]; exact hp i hi⟩)
  have e0 := Got.mv _ s₁ s _ _ hh0.symm (Vm.Alike.refl _) rfl E3
  obtain rfl := e0.1
  have c4 : Steps p.tables e below (s₁.setTop (entryFrame m #[.ref a, .ref b] 2)) (T3.setTop (mkF m 9 #[.val (.ref a), .val (.ref b)] [])) := g3
  exact ⟨T3, none, _, _, _, X3, by simp, rfl, by omega, (fun _ => rfl), e0, fun fs hl => c4.trans (X3.returnOut hexec hret (hb hbytes d9) hl)⟩
theorem pays {l : Launch} {R : Room} {p : Program} {e : Env} {below : List Frame} {s : State} {sargs : Array Value} {len W : Nat} (a : Addr) (D : Cell) (fV fC : Field) (b : Addr) (A : Cell) (z : Int32) (htab : tab.before sargs s = true) (hfr : 4 ≤ R.frames) (hlo : W + 65 ≤ R.locals) :
    Back l R p e below s sargs yN len W (fun A₁ a₁ => A₁.cells + 1 ≤ R.cells ∧ A₁.slots + A.slots.size ≤ R.slots ∧ P a D fV fC b A z a₁ A₁.U) (fun A₁ _ v₁ B₁ => E a D fV fC A v₁ A₁.U B₁.U ∧ B₁.locs = A₁.locs ++ [⟨a, fC.slot⟩, ⟨a, fV.slot⟩] ∧ B₁.cells = A₁.cells + 1 ∧ B₁.slots = A₁.slots + A.slots.size) :=
  (law l a D fV fC b A z).pays htab hfr (by omega)
end New1
/-- the byte, read back as charAt reads it, is the char -/
theorem lo8_mask {x : Int32} (h0 : ¬ x < 0) (h1 : ¬ 255 < x) : lo8 x &&& 255 = x := by
  have t : ∀ k : Fin 256, lo8 (Int32.ofNat k.val) &&& 255 = Int32.ofNat k.val := by decide +kernel
  rw [Int32.lt_iff_toInt_lt] at h0 h1
  have e0 : (0 : Int32).toInt = 0 := rfl
  have e1 : (255 : Int32).toInt = 255 := rfl
  obtain ⟨k, hk⟩ : ∃ k : Nat, x.toInt = k := ⟨x.toInt.toNat, by omega⟩
  have hx : x = Int32.ofNat k := Int32.toInt_inj.mp (by rw [hk, Int32.toInt_ofNat_small (by omega)])
  rw [hx]
  exact t ⟨k, by omega⟩
end StrChars
namespace StrChars.Road
open Jvm Sem ClassFile Op Lib Jvm.Stand Jvm.Free Jvm.Free.XT
open Jvm.Lib.Cold (StaticIs)
abbrev ST : String := "java/lang/String"
/-- every table word that New1's law asks, flat -/
abbrev words : List Jvm.Cond := [.code New1.yN New1.yB 2 none, .initialized ST, .methodLink ST 27 New4.yN, .instanceMethod New4.yN,
  .code New4.yN New4.yB 6 none, .fieldLink ST 38 ST "COMPACT_STRINGS" "Z", .laysFinal ST ST "value" "[B", .fieldLink ST 9 ST "value" "[B", .laysFinal ST ST "coder" "B", .fieldLink ST 15 ST "coder" "B",
  .methodLink ST 1 Lib.objectInit, .instanceMethod Lib.objectInit, .code Lib.objectInit ⟨#[0xb1]⟩ 1 none, .methodLink ST 177 Cmp3.yN, .static Cmp3.yN, .methodLink ST 47 CodL.yN, .static CodL.yN,
  .code Cmp3.yN Cmp3.yB 6 (some (.array .byte)), .initialized U16, .arrayClass .byte, .methodLink U16 115 Cmp5.yN, .static Cmp5.yN, .code Cmp5.yN Cmp5.yB 7 (some .int), .code CodL.yN CodL.yB 2 (some .byte)]
theorem tab_of {a : Array Value} {s : State} (h : ∀ w ∈ words, w.before a s = true) : New1.tab.before a s = true := by
  have h5 : Cmp5.tab.before a s = true := unparts (wk h (.code Cmp5.yN Cmp5.yB 7 (some .int))) (wks h (.initialized Cmp5.yN.cls :: Cmp5.site))
  have hc : CodL.tab.before a s = true := unparts (wk h (.code CodL.yN CodL.yB 2 (some .byte))) (wks h (.initialized CodL.yN.cls :: CodL.site))
  have q5 : ∀ w ∈ Cmp5.tab :: words, w.before a s = true := fun w hw => (List.mem_cons.mp hw).elim (fun e => e ▸ h5) (h w)
  have h3 : Cmp3.tab.before a s = true := unparts (wk q5 (.code Cmp3.yN Cmp3.yB 6 (some (.array .byte)))) (wks q5 (.initialized Cmp3.yN.cls :: Cmp3.site))
  have q3 : ∀ w ∈ Cmp3.tab :: CodL.tab :: words, w.before a s = true := fun w hw => (List.mem_cons.mp hw).elim (fun e => e ▸ h3) fun hw => (List.mem_cons.mp hw).elim (fun e => e ▸ hc) (h w)
  have h4 : New4.tab.before a s = true := unparts (wk q3 (.code New4.yN New4.yB 6 none)) (wks q3 (.initialized New4.yN.cls :: New4.site))
  have q4 : ∀ w ∈ New4.tab :: words, w.before a s = true := fun w hw => (List.mem_cons.mp hw).elim (fun e => e ▸ h4) (h w)
  exact unparts (wk q4 (.code New1.yN New1.yB 2 none)) (wks q4 (.initialized New1.yN.cls :: New1.site))
/-- the words ride from the start Z to the walk's own state -/
theorem moved {Z s : State} {a0 args : Array Value} (hZ : Z.Warmed39 s.vm) (hw : ∀ d ∈ words, d.before a0 Z = true) : ∀ d ∈ words, d.before args s = true := fun d hd => by
  have q := hw d hd
  have t : ∀ d ∈ words, d = .arrayClass .byte ∨ (d.onTables && d.keepsFace) = true := by decide +kernel
  rcases t d hd with rfl | t
  · exact RoadKit.mvA hZ q
  · exact RoadKit.mv hZ q t
/-- WHAT COMES BACK, over the tables of the start Z: h the heap at the call, h' behind it -/
def Q (Z : State) (x : Addr) (A : Cell) (h : Heap) (v : Option Value) (h' : Heap) (L : List Loc) : Prop := v = none ∧ (∀ y ∈ L, y.base = x) ∧ RoadKit.Keep h h' [x] ∧ h'.size = h.size + 1 ∧ RoadKit.Exa Z h' x ST ∧ RoadKit.Fld Z h' x ST "value" "[B" (.ref h.size) ∧ RoadKit.Fld Z h' x ST "coder" "B" (.int 0) ∧
  (∃ V : Cell, RoadKit.Arr Z h' h.size V .byte ∧ V.vm = .none ∧ Z.vm.findClass "[B" = some V.cls ∧ V.slots.size = A.slots.size ∧ ∀ j, j < A.slots.size → V.slots[j]? = some (.int (lo8 (cv A j)))) ∧
  ∀ (O n d : String) (w : Value), RoadKit.Fld Z h x O n d w → RoadKit.slotOf Z O n d ≠ RoadKit.slotOf Z ST "value" "[B" → RoadKit.slotOf Z O n d ≠ RoadKit.slotOf Z ST "coder" "B" → RoadKit.Fld Z h' x O n d w
/-- **new String(chars) AT A CALL, IN THE ROAD'S FORM**: for specialBack behind newO: x the fresh String, b the char[] with the cell A -/
theorem back {p : Program} {l : Launch} {e : Env} {R : Room} {s : State} {args : Array Value} {below : List Frame} {len W : Nat} {Z : State} {a0 : Array Value} {h : Heap} (hZ : Z.Warmed39 s.vm) (hw : ∀ d ∈ words, d.before a0 Z = true) {kI : Nat} (wi : (Jvm.Cond.instantiable ST kI).before a0 Z = true)
    {x b : Addr} {A : Cell} {z : Int32} {v0 c0 : Value} (E : RoadKit.Exa Z h x ST) (V : RoadKit.Fld Z h x ST "value" "[B" v0) (C : RoadKit.Fld Z h x ST "coder" "B" c0) (K : RoadKit.Arr Z h b A .char) (hty : Typed .char A) (S : RoadKit.Sta Z h ST "COMPACT_STRINGS" "Z" (.int z)) (hz : ¬ z = 0)
    (l0 : 0 < A.slots.size) (l2 : A.slots.size ≤ 536870912) (hp : ∀ i, i < A.slots.size → ¬ 255 < cv A i) (hfr : 4 ≤ R.frames) (hlo : W + 65 ≤ R.locals) :
    Back l R p e below s args New1.yN len W (fun P a => a = #[.ref x, .ref b] ∧ P.U.heap = h ∧ P.cells + 1 ≤ R.cells ∧ P.slots + A.slots.size ≤ R.slots)
      (fun P _ v B => ∃ L, Q Z x A h v B.U.heap L ∧ B.locs = P.locs ++ L ∧ B.cells = P.cells + 1 ∧ B.slots = P.slots + A.slots.size) := by
  intro m meth c P g ig mk a X hg hsize hdg hW hn hp'
  obtain ⟨rfl, rfl, r1, r2⟩ := hp'
  have al : Z.vm.Alike P.U.vm := hZ.alike.trans X.warmed.alike
  obtain ⟨D, cfV, kV, iV, fV, hD, gV, stV, knV, obV, asV, slV⟩ := id V
  obtain ⟨D', cfC, kC, iC, fC, hD', gC, stC, -, -, asC, slC⟩ := id C
  cases hD.symm.trans hD'
  obtain ⟨D2, kD, e1, e2, e3, e4, e5⟩ := id E
  cases hD.symm.trans e1
  obtain ⟨c2, k2, i1, i2, i3, -⟩ := Cond.instantiable_spec wi
  cases e2.symm.trans i1
  cases e3.symm.trans i2
  obtain ⟨kU, u1, u2⟩ := al.2.2 _ _ e3
  have hB : Blank ST x D P.U := ⟨hD, ⟨knV, fun q hq => by rw [hq] at obV; cases obV⟩, by rw [al.findClass]; exact e2, kU, u1, by rw [u2]; exact i3, by rw [u2]; exact e5 i3⟩
  have F1 : Found ST "value" "[B" fV P.U := ⟨SBG.found_only al ⟨cfV, kV, iV, gV⟩, stV⟩
  have F2 : Found ST "coder" "B" fC P.U := ⟨SBG.found_only al ⟨cfC, kC, iC, gC⟩, stC⟩
  have hA : Ch b A P.U := ⟨⟨K.1, State.isArrayOf_alike al K.2.1, K.2.2, by omega⟩, hty⟩
  have hS : StaticIs P.U ST "COMPACT_STRINGS" "Z" (.int z) := by
    obtain ⟨cfS, iS, kS, fS, st, cS, t1, t2, t3, t4, t5, t6, t7⟩ := S
    exact StaticIs.there (s := { Z with heap := P.U.heap }) ⟨cfS, iS, kS, fS, st, cS, t1, t2, t3, t4, t5, (fun q => by rw [q] at t6; cases t6), t7⟩ al rfl
  obtain ⟨v, B, X', ⟨⟨hv, E', V', q1, q2, q3, q4, q5, q6, q7, q8, q9, q10, q11⟩, hl, hc, hs⟩, st⟩ := New1.pays x D fV fC b A z (tab_of (moved hZ hw)) hfr hlo m meth c P g ig mk _ X hg hsize hdg hW hn ⟨r1, r2, rfl, hB, F1, F2, hA, hS, hz, l0, l2, hp⟩
  have al' : Z.vm.Alike B.U.vm := hZ.alike.trans X'.warmed.alike
  have hsz : E'.slots.size = D.slots.size := by
    obtain ⟨-, -, -, kB, w1, w2, w3⟩ := q1
    obtain ⟨kB', y1, y2⟩ := al'.2.2 _ _ e3
    rw [q2.2.1] at w1
    cases w1.symm.trans y1
    rw [w3, e5 i3, y2]
  refine ⟨v, B, X', ⟨_, ⟨hv, ?_, ⟨by omega, fun y cy hy hn' => q10 y cy (by simpa using hn') hy, fun y cy hy => ?_⟩, q11, ⟨E', _, q1.1, by rw [q2.2.1]; exact e2, by rw [q2.2.1]; exact e3, by rw [q2.1]; exact obV, fun _ => by rw [hsz]; exact e5 i3⟩,
    ⟨E', cfV, kV, iV, fV, q1.1, gV, stV, by rw [q2.1]; exact knV, by rw [q2.1]; exact obV, by rw [q2.2.1]; exact asV, q3⟩, ⟨E', cfC, kC, iC, fC, q1.1, gC, stC, by rw [q2.1]; exact knV, by rw [q2.1]; exact obV, by rw [q2.2.1]; exact asC, q4⟩,
    ⟨V', ⟨q5.1, State.isArrayOf_alike al'.symm q5.2.1, q5.2.2.1⟩, q6, by rw [← al'.findClass]; exact q7, q8, fun j hj => by have := q9 j hj; rwa [Nat.zero_add] at this⟩, fun O n d w F n1 n2 => ?_⟩, hl, hc, hs⟩, st⟩
  · intro y hy
    simp only [List.mem_cons, List.not_mem_nil, or_false] at hy
    rcases hy with rfl | rfl <;> rfl
  · by_cases q : y = x
    · subst q
      cases hD.symm.trans hy
      exact ⟨E', q1.1, q2.2.1, q2.1, hsz⟩
    · exact ⟨cy, q10 y cy q hy, rfl, rfl, rfl⟩
  · obtain ⟨D3, cf, k, i, f, g1, g2, g3, g4, g5, g6, g7⟩ := F
    cases hD.symm.trans g1
    simp only [RoadKit.slotOf, g2, gV, gC, Option.map_some, Option.getD_some] at n1 n2
    exact ⟨E', cf, k, i, f, q1.1, g2, g3, by rw [q2.1]; exact g4, by rw [q2.1]; exact g5, by rw [q2.2.1]; exact g6, by rw [q2.2.2 f.slot (by simp [n1, n2])]; exact g7⟩
end StrChars.Road
namespace StrChars.Road
open Jvm Sem ClassFile Op Lib Jvm.Stand Jvm.Free Jvm.Free.XT
/-- WHAT COMES BACK, the byte[] as a list of values -/
def QA (Z : State) (x : Addr) (zn : Int32) (cs : List Int32) (h : Heap) (v : Option Value) (h' : Heap) (L : List Loc) : Prop := v = none ∧ (∀ y ∈ L, y.base = x) ∧ RoadKit.Keep h h' [x] ∧ h'.size = h.size + 1 ∧ RoadKit.Exa Z h' x ST ∧ RoadKit.Fld Z h' x ST "value" "[B" (.ref h.size) ∧ RoadKit.Fld Z h' x ST "coder" "B" (.int 0) ∧
  (∃ kb, Z.vm.findClass "[B" = some kb ∧ RoadKit.Arv Z h' h.size kb .byte zn (cs.map fun c => .int (lo8 c)) (.int 0)) ∧
  ∀ (O n d : String) (w : Value), RoadKit.Fld Z h x O n d w → RoadKit.slotOf Z O n d ≠ RoadKit.slotOf Z ST "value" "[B" → RoadKit.slotOf Z O n d ≠ RoadKit.slotOf Z ST "coder" "B" → RoadKit.Fld Z h' x O n d w
/-- **new String(chars) AT A CALL, THE ARRAYS AS LISTS**: the char[] at b holds cs, not empty, no char above 255 -/
theorem backArv {p : Program} {l : Launch} {e : Env} {R : Room} {s : State} {args : Array Value} {below : List Frame} {len W : Nat} {Z : State} {a0 : Array Value} {h : Heap} (hZ : Z.Warmed39 s.vm) (hw : ∀ d ∈ words, d.before a0 Z = true) {kI : Nat} (wi : (Jvm.Cond.instantiable ST kI).before a0 Z = true)
    {x b : Addr} {k : ClassId} {zn z : Int32} {cs : List Int32} {dv v0 c0 : Value} (E : RoadKit.Exa Z h x ST) (V : RoadKit.Fld Z h x ST "value" "[B" v0) (C : RoadKit.Fld Z h x ST "coder" "B" c0) (K : RoadKit.Arv Z h b k .char zn (cs.map Value.int) dv) (S : RoadKit.Sta Z h ST "COMPACT_STRINGS" "Z" (.int z)) (hz : ¬ z = 0)
    (hlen : zn.toNatClampNeg = cs.length) (h0 : 0 < cs.length) (hbig : cs.length ≤ 536870912) (hall : ∀ c ∈ cs, ¬ 255 < c) (hfr : 4 ≤ R.frames) (hlo : W + 65 ≤ R.locals) :
    Back l R p e below s args New1.yN len W (fun P a => a = #[.ref x, .ref b] ∧ P.U.heap = h ∧ P.cells + 1 ≤ R.cells ∧ P.slots + cs.length ≤ R.slots)
      (fun P _ v B => ∃ L, QA Z x zn cs h v B.U.heap L ∧ B.locs = P.locs ++ L ∧ B.cells = P.cells + 1 ∧ B.slots = P.slots + cs.length) := by
  obtain ⟨A, K1, K2, K3, K4, K5, K6⟩ := K
  have e : A.slots.size = cs.length := K3.trans hlen
  have hat : ∀ (i : Nat) (hi : i < cs.length), A.slots[i]? = some (.int cs[i]) := fun i hi => by rw [K5 i (by omega)]; simp [List.getD_eq_getElem?_getD, hi]
  have hcv : ∀ (i : Nat) (hi : i < cs.length), cv A i = cs[i] := fun i hi => by unfold cv; rw [hat i hi]
  have hty : Typed .char A := fun i v hv => by
    have hi : i < A.slots.size := (Array.getElem?_eq_some_iff.mp hv).1
    have q := K5 i hi
    rw [hv] at q
    rw [Option.some.inj q]
    exact K6 i hi
  refine Back.mono (back hZ hw wi E V C K1 hty S hz (by omega) (by omega) (fun i hi => by rw [hcv i (by omega)]; exact hall _ (List.getElem_mem _)) hfr hlo) (fun P a hp => ⟨hp.1, hp.2.1, hp.2.2.1, by rw [e]; exact hp.2.2.2⟩) (fun P a v B hp hq => ?_)
  obtain ⟨L, ⟨q1, q2, q3, q4, q5, q6, q7, ⟨V', v1, v2, v3, v4, v5⟩, q9⟩, hl, hc, hs⟩ := hq
  refine ⟨L, ⟨q1, q2, q3, q4, q5, q6, q7, ⟨V'.cls, v3, V', v1, rfl, by rw [v4, e, hlen], K4, fun i hi => ?_, fun i hi => ?_⟩, q9⟩, hl, hc, by rw [hs, e]⟩
  · have hi' : i < cs.length := by omega
    rw [v5 i (by omega), hcv i hi']; simp [List.getD_eq_getElem?_getD, hi']
  · have hi' : i < cs.length := by omega
    simp only [List.getD_eq_getElem?_getD, List.getElem?_map, List.getElem?_eq_getElem hi', Option.map_some, Option.getD_some]
    exact fits_lo8 _
end StrChars.Road
namespace StrChars.Road
open Jvm Sem ClassFile Op Lib Jvm.Stand Jvm.Free Jvm.Free.XT
/-- WHAT COMES BACK, in the writer's own shape -/
def QV (Z : State) (x : Addr) (N : Int32) (bs : List Int32) (h : Heap) (n0 : Nat) (v : Option Value) (h' : Heap) (L : List Loc) : Prop := v = none ∧ RoadKit.Fr n0 L ∧ RoadKit.Keep h h' [x] ∧ RoadKit.Exa Z h' x ST ∧ RoadKit.Fld Z h' x ST "coder" "B" (.int 0) ∧
  ∃ (t : Addr) (kb : ClassId), n0 ≤ t ∧ h.size ≤ t ∧ ¬ t = x ∧ RoadKit.Fld Z h' x ST "value" "[B" (.ref t) ∧ RoadKit.Arv Z h' t kb .byte N (bs.map Value.int) (.int 0)
/-- **new String(chars) AT A CALL, FOR THE WRITER**: a char[] of n known ints, each 0 to 255 -/
theorem backV {p : Program} {l : Launch} {e : Env} {R : Room} {s : State} {args : Array Value} {below : List Frame} {len W : Nat} {Z : State} {a0 : Array Value} {h : Heap} (hZ : Z.Warmed39 s.vm) (hw : ∀ d ∈ words, d.before a0 Z = true) {kI : Nat} (wi : (Jvm.Cond.instantiable ST kI).before a0 Z = true)
    {x b : Addr} {kC : ClassId} {cs bs : List Int32} {d v0 c0 : Value} {z N : Int32} {n n0 : Nat} (hx0 : n0 ≤ x) (hh0 : n0 ≤ h.size) (E : RoadKit.Exa Z h x ST) (V : RoadKit.Fld Z h x ST "value" "[B" v0) (C : RoadKit.Fld Z h x ST "coder" "B" c0) (K : RoadKit.Arv Z h b kC .char N (cs.map Value.int) d) (S : RoadKit.Sta Z h ST "COMPACT_STRINGS" "Z" (.int z)) (hz : ¬ z = 0)
    (hn : cs.length = n) (hN : N = Int32.ofNat n) (l0 : 0 < n) (l2 : n ≤ 4000) (hp : ∀ c ∈ cs, ¬ c < 0 ∧ ¬ (255 : Int32) < c) (hb : bs = cs.map (fun c => c.toInt8.toInt32)) (hfr : 4 ≤ R.frames) (hlo : W + 65 ≤ R.locals) :
    Back l R p e below s args (⟨"java/lang/String", "<init>", "([C)V"⟩ : MethodName) len W (fun P a => a = #[.ref x, .ref b] ∧ P.U.heap = h ∧ P.cells + 1 ≤ R.cells ∧ P.slots + n ≤ R.slots)
      (fun P _ v B => ∃ L, QV Z x N bs h n0 v B.U.heap L ∧ B.locs = P.locs ++ L ∧ B.cells = P.cells + 1 ∧ B.slots = P.slots + n) := by
  subst hn hN hb
  refine Back.mono (backArv hZ hw wi E V C K S hz (n32 (by omega)) l0 (by omega) (fun c hc => (hp c hc).2) hfr hlo) (fun P a hp => hp) (fun P a v B hp hq => ?_)
  obtain ⟨L, ⟨q1, q2, q3, q4, q5, q6, q7, ⟨kb, v1, v2⟩, q9⟩, hl, hc, hs⟩ := hq
  exact ⟨L, ⟨q1, fun y hy => by rw [q2 y hy]; exact hx0, q3, q5, q7, h.size, kb, hh0, Nat.le_refl _, Nat.ne_of_gt E.lt, q6, by rw [List.map_map]; exact v2⟩, hl, hc, hs⟩
end StrChars.Road
namespace StrChars
open Jvm Sem ClassFile Op Lib Jvm.Stand Jvm.Free.XT Jvm.Free.ALB Jvm.Free.JM Jvm.Free
open Jvm.Lib.Cold (StaticIs)
def hi8 (x : Int32) : Int32 := lo8 (x >>> ((8 : Int32) &&& 31))
/-- what StringUTF16.getChar makes of two bytes -/
def pairCh (u v : Int32) : Int32 := (((u &&& 255) <<< ((0 : Int32) &&& 31)) ||| ((v &&& 255) <<< ((8 : Int32) &&& 31))).toUInt32.toUInt16.toUInt32.toInt32
theorem shr0 (c : Int32) : c >>> ((0 : Int32) &&& 31) = c := by
  have e : ((0 : Int32) &&& 31) = 0 := by decide
  rw [e]
  apply Int32.toBitVec_inj.mp
  rw [Int32.toBitVec_shiftRight]
  have e1 : ((0 : Int32).toBitVec.smod 32) = 0#32 := by decide
  rw [e1, BitVec.sshiftRight_eq']
  exact BitVec.sshiftRight_zero
theorem lo8_and (x : Int32) : (lo8 x &&& 255).toBitVec.toNat = x.toBitVec.toNat % 256 := by
  have h : (lo8 x).toBitVec = (x.toBitVec.signExtend 8).signExtend 32 := by rw [lo8, Int8.toBitVec_toInt32, Int32.toBitVec_toInt8]
  rw [Int32.toBitVec_and, BitVec.toNat_and, h]
  have e : ((x.toBitVec.signExtend 8).signExtend 32).toNat % 256 = x.toBitVec.toNat % 256 := by
    rw [BitVec.toNat_signExtend]
    have hlt := x.toBitVec.isLt
    simp only [BitVec.toNat_setWidth, BitVec.toNat_signExtend]
    split <;> split <;> omega
  rw [← e]
  exact Nat.and_two_pow_sub_one_eq_mod _ 8
theorem pair_says {c : Int32} (h0 : ¬ c < 0) (h1 : ¬ 65535 < c) : pairCh (lo8 c) (hi8 c) = c := by
  rw [Int32.lt_iff_toInt_lt] at h0 h1
  have e0 : (0 : Int32).toInt = 0 := rfl
  have e1 : (65535 : Int32).toInt = 65535 := rfl
  have hc : c.toInt = c.toBitVec.toNat := by
    have := c.toBitVec.isLt
    have e : c.toInt = c.toBitVec.toInt := rfl
    rw [e] at h0 h1
    rw [e]
    rw [BitVec.toInt_eq_toNat_cond] at h0 h1 ⊢
    split at h0 <;> split <;> omega
  have hn : c.toBitVec.toNat < 65536 := by omega
  have a1 := lo8_and c
  have a2 : (hi8 c &&& 255).toBitVec.toNat = c.toBitVec.toNat / 256 := by
    rw [hi8, lo8_and]
    have e : ((8 : Int32) &&& 31) = 8 := by decide
    rw [e, Int32.toBitVec_shiftRight]
    have e2 : ((8 : Int32).toBitVec.smod 32) = 8#32 := by decide
    rw [e2, BitVec.sshiftRight_eq', BitVec.toNat_sshiftRight_of_msb_false (by rw [BitVec.msb_eq_false_iff_two_mul_lt]; omega)]
    show c.toBitVec.toNat >>> 8 % 256 = _
    rw [Nat.shiftRight_eq_div_pow]
    omega
  unfold pairCh
  apply Int32.toBitVec_inj.mp
  apply BitVec.eq_of_toNat_eq
  have f0 : ((0 : Int32) &&& 31) = 0 := by decide
  have f8 : ((8 : Int32) &&& 31) = 8 := by decide
  rw [f0, f8]
  have g : (((lo8 c &&& 255) <<< (0 : Int32)) ||| ((hi8 c &&& 255) <<< (8 : Int32))).toBitVec.toNat = c.toBitVec.toNat := by
    rw [Int32.toBitVec_or, Int32.toBitVec_shiftLeft, Int32.toBitVec_shiftLeft]
    have s0 : ((0 : Int32).toBitVec.smod 32) = 0#32 := by decide
    have s8 : ((8 : Int32).toBitVec.smod 32) = 8#32 := by decide
    rw [s0, s8, BitVec.toNat_or]
    simp only [BitVec.shiftLeft_eq', BitVec.toNat_shiftLeft, a1, a2]
    show (c.toBitVec.toNat % 256) <<< 0 % 2 ^ 32 ||| (c.toBitVec.toNat / 256) <<< 8 % 2 ^ 32 = _
    rw [Nat.shiftLeft_zero, Nat.mod_eq_of_lt (show c.toBitVec.toNat % 256 < 2 ^ 32 by omega), Nat.mod_eq_of_lt (show (c.toBitVec.toNat / 256) <<< 8 < 2 ^ 32 by rw [Nat.shiftLeft_eq]; omega), Nat.or_comm, ← Nat.shiftLeft_add_eq_or_of_lt (by omega), Nat.shiftLeft_eq]
    omega
  show BitVec.toNat (((((lo8 c &&& 255) <<< (0 : Int32)) ||| ((hi8 c &&& 255) <<< (8 : Int32))).toBitVec.setWidth 16).setWidth 32) = _
  rw [BitVec.toNat_setWidth, BitVec.toNat_setWidth, g]
  omega
end StrChars
namespace StrChars
open Jvm Sem ClassFile Op Lib Jvm.Stand Jvm.Free.XT Jvm.Free.ALB Jvm.Free.JM Jvm.Free
open Jvm.Lib.Cold (StaticIs)
theorem shr1 {n : Nat} (h : 2 * n < 2 ^ 31) : Int32.ofNat (2 * n) >>> ((1 : Int32) &&& 31) = Int32.ofNat n := by
  have e : ((1 : Int32) &&& 31) = 1 := by decide
  rw [e]
  apply Int32.toBitVec_inj.mp
  rw [Int32.toBitVec_shiftRight]
  have e1 : ((1 : Int32).toBitVec.smod 32) = 1#32 := by decide
  have hm : (BitVec.ofNat 32 (2 * n)).toNat = 2 * n := by rw [BitVec.toNat_ofNat, Nat.mod_eq_of_lt (by omega)]
  rw [e1, BitVec.sshiftRight_eq']
  apply BitVec.eq_of_toNat_eq
  show ((BitVec.ofNat 32 (2 * n)).sshiftRight 1).toNat = (BitVec.ofNat 32 n).toNat
  rw [BitVec.toNat_sshiftRight_of_msb_false (by rw [BitVec.msb_eq_false_iff_two_mul_lt, hm]; omega), hm, BitVec.toNat_ofNat, Nat.shiftRight_eq_div_pow]
  omega
/-- charAt's cast of a byte read back -/
def chr8 (u : Int32) : Int32 := (u &&& 255).toUInt32.toUInt16.toUInt32.toInt32
theorem chr8_lo8 {c : Int32} (h0 : ¬ c < 0) (h1 : ¬ 255 < c) : chr8 (lo8 c) = c := by
  have t : ∀ k : Fin 256, (Int32.ofNat k.val).toUInt32.toUInt16.toUInt32.toInt32 = Int32.ofNat k.val := by decide +kernel
  unfold chr8
  rw [lo8_mask h0 h1]
  rw [Int32.lt_iff_toInt_lt] at h0 h1
  have e0 : (0 : Int32).toInt = 0 := rfl
  have e1 : (255 : Int32).toInt = 255 := rfl
  obtain ⟨k, hk⟩ : ∃ k : Nat, c.toInt = k := ⟨c.toInt.toNat, by omega⟩
  have hx : c = Int32.ofNat k := Int32.toInt_inj.mp (by rw [hk, Int32.toInt_ofNat_small (by omega)])
  rw [hx]
  exact t ⟨k, by omega⟩
theorem narrow_ch {c : Int32} (h0 : ¬ c < 0) (h1 : ¬ 65535 < c) : narrow .char (.int c) = .int c := by
  have q : narrow .char (.int (pairCh (lo8 c) (hi8 c))) = .int (pairCh (lo8 c) (hi8 c)) := narrow_c _
  rwa [pair_says h0 h1] at q
/-- the array's cell V codes the n chars f 0 .. f (n - 1) by the coder cd, as the JDK does: coder 1 just where some char is above 255 -/
def Cod (cd : Int32) (n : Nat) (f : Nat → Int32) (V : Cell) : Prop := (cd = 0 ∧ V.slots.size = n ∧ ∀ j, j < n → V.slots[j]? = some (.int (lo8 (f j))) ∧ ¬ 255 < f j) ∨ (cd = 1 ∧ V.slots.size = 2 * n ∧ (∀ j, j < n → V.slots[2 * j]? = some (.int (lo8 (f j))) ∧ V.slots[2 * j + 1]? = some (.int (hi8 (f j)))) ∧ ∃ j, j < n ∧ 255 < f j)
theorem Cod.cd {cd : Int32} {n : Nat} {f : Nat → Int32} {V : Cell} (h : Cod cd n f V) : cd = 0 ∨ cd = 1 := h.imp (fun q => q.1) fun q => q.1
theorem Cod.len {cd : Int32} {n : Nat} {f : Nat → Int32} {V : Cell} (h : Cod cd n f V) (hs : V.slots.size < 2 ^ 31) : Int32.ofNat V.slots.size >>> (cd &&& 31) = Int32.ofNat n := by
  rcases h with ⟨rfl, h, -⟩ | ⟨rfl, h, -⟩
  · rw [shr0, h]
  · rw [h, shr1 (by omega)]
/-- **x is a String of the n chars f 0 .. f (n - 1)**, Latin-1 or UTF-16; its array at t has the cell V -/
def Txt (x t : Addr) (V : Cell) (cd : Int32) (n : Nat) (f : Nat → Int32) (U : State) : Prop := Exact "java/lang/String" x U ∧ Has x "java/lang/String" "value" "[B" (.ref t) U ∧ Has x "java/lang/String" "coder" "B" (.int cd) U ∧ XT.Arr .byte t V U ∧ Cod cd n f V ∧ ∀ j, j < n → ¬ f j < 0 ∧ ¬ 65535 < f j
theorem Txt.mv {x t : Addr} {V : Cell} {cd : Int32} {n : Nat} {f : Nat → Int32} {U U' : State} (h : Txt x t V cd n f U) (hal : U.vm.Alike U'.vm) (hh : U'.heap = U.heap) : Txt x t V cd n f U' := ⟨h.1.mv hal hh, h.2.1.mv hal hh, h.2.2.1.mv hal hh, h.2.2.2.1.mv hal hh, h.2.2.2.2⟩
namespace Cdr
def yN : MethodName := ⟨"java/lang/String", "coder", "()B"⟩
abbrev yB : ByteArray := jdk_42_method_152_code
theorem d0 : decode yB 0 = .ok (.getstatic 38, 3) := by decide +kernel
theorem d3 : decode yB 3 = .ok (.ifCond (.eq) 10, 3) := by decide +kernel
theorem d6 : decode yB 6 = .ok (.aload_n 0, 1) := by decide +kernel
theorem d7 : decode yB 7 = .ok (.getfield 15, 3) := by decide +kernel
theorem d10 : decode yB 10 = .ok (.goto 4, 3) := by decide +kernel
theorem d14 : decode yB 14 = .ok (.ireturn, 1) := by decide +kernel
def site : List Cond := [.fieldLink "java/lang/String" 38 "java/lang/String" "COMPACT_STRINGS" "Z", .fieldLink "java/lang/String" 15 "java/lang/String" "coder" "B"]
def tab : Cond := tabOf yN yB 1 (some .byte) site
def P (x : Addr) (cd z : Int32) (args : Array Value) (s : State) : Prop := args = #[.ref x] ∧ Has x "java/lang/String" "coder" "B" (.int cd) s ∧ (cd = 0 ∨ cd = 1) ∧ StaticIs s "java/lang/String" "COMPACT_STRINGS" "Z" (.int z) ∧ ¬ z = 0
def E (cd : Int32) (r : Option Value) (s u : State) : Prop := XT.PureE (some (.int cd)) r s u
theorem law (l : Launch) (x : Addr) (cd z : Int32) : Law l yN 1 0 0 0 yB 1 (some .byte) site (P x cd z) (E cd) [] 0 0 := by
  refine Law.of_walk (plainFor_of_name (by decide +kernel)) (by decide +kernel) (by decide +kernel) (by decide) (fun _ _ h => by rw [h.1]; rfl) (fun _ U U' hal hh h => ⟨h.1, h.2.1.mv hal hh, h.2.2.1, h.2.2.2.1.there hal hh, h.2.2.2.2⟩) (fun r U U' V V' h1 hal h2 h => XT.PureE.mv r U U' V V' h1 hal h2 h) ?_
  intro p e s m args below meth c s₁ X0 hexec hbytes hml hret hlk hnm hown hh0 W hP
  obtain ⟨rfl, hx, hc, s1, hz⟩ := hP
  have c1 : Steps p.tables e below (s₁.setTop (entryFrame m #[.ref x] 1)) (s₁.setTop (mkF m 0 #[.val (.ref x)] [])) := entry rfl
  obtain ⟨T2, X2, q2, st2⟩ := X0.sget hexec hown (wk W (.fieldLink "java/lang/String" 38 "java/lang/String" "COMPACT_STRINGS" "Z")) s1 (fun _ _ h => by rw [hh0]; exact h) (g := (mkF m 0 #[.val (.ref x)] [])) rfl (hb hbytes d0)
  have hh2 := q2.trans hh0
  have c3 : Steps p.tables e below (s₁.setTop (entryFrame m #[.ref x] 1)) (T2.setTop (mkF m 7 #[.val (.ref x)] [.ref x])) := (c1.trans (st2 _ (Steps.refl _))).trans (by
    refine XS.ifNo X2.here hexec rfl (hb hbytes d3) rfl (i0_eq_f hz) ?_
    refine XS.aloadN X2.here hexec rfl (hb hbytes d6) rfl rfl ?_
    exact Steps.refl _)
  obtain ⟨T4, X4, q4, st4⟩ := X2.hget hexec hown (wk W (.fieldLink "java/lang/String" 15 "java/lang/String" "coder" "B")) (hx.mv X2.warmed.alike hh2) (g := (mkF m 7 #[.val (.ref x)] [.ref x])) rfl (rest := []) rfl (hb hbytes d7)
  have c5 : Steps p.tables e below (s₁.setTop (entryFrame m #[.ref x] 1)) (T4.setTop (mkF m 14 #[.val (.ref x)] [.int cd])) := (c3.trans (st4 _ (Steps.refl _))).trans (by
    refine XS.goto X4.here hexec rfl (pc0 := 10) rfl (hb hbytes d10) (by decide) rfl ?_
    exact Steps.refl _)
  exact ⟨T4, some (.int cd), _, _, _, X4, rfl, rfl, rfl, (fun h => by cases h), ⟨rfl, q4.trans hh2⟩, fun fs hl => c5.trans (X4.ireturnOut hexec hret (by rcases hc with rfl | rfl <;> rfl) (Or.inr (Or.inr (Or.inl rfl))) (hb hbytes d14) hl)⟩
end Cdr
namespace Len
def yN : MethodName := ⟨"java/lang/String", "length", "()I"⟩
abbrev yB : ByteArray := jdk_42_method_54_code
theorem d0 : decode yB 0 = .ok (.aload_n 0, 1) := by decide +kernel
theorem d1 : decode yB 1 = .ok (.getfield 9, 3) := by decide +kernel
theorem d4 : decode yB 4 = .ok (.arraylength, 1) := by decide +kernel
theorem d5 : decode yB 5 = .ok (.aload_n 0, 1) := by decide +kernel
theorem d6 : decode yB 6 = .ok (.invokevirtual 335, 3) := by decide +kernel
theorem d9 : decode yB 9 = .ok (.ishr, 1) := by decide +kernel
theorem d10 : decode yB 10 = .ok (.ireturn, 1) := by decide +kernel
def site : List Cond := [.fieldLink "java/lang/String" 9 "java/lang/String" "value" "[B", Cdr.tab] ++ virtW "java/lang/String" 335 "java/lang/String" Cdr.yN Cdr.yN
def tab : Cond := tabOf yN yB 1 (some .int) site
def P (x t : Addr) (V : Cell) (cd : Int32) (n : Nat) (f : Nat → Int32) (z : Int32) (args : Array Value) (s : State) : Prop := args = #[.ref x] ∧ Txt x t V cd n f s ∧ StaticIs s "java/lang/String" "COMPACT_STRINGS" "Z" (.int z) ∧ ¬ z = 0
def E (n : Nat) (r : Option Value) (s u : State) : Prop := XT.PureE (some (.int (Int32.ofNat n))) r s u
/-- length() of a String of n chars, in either coding -/
theorem law (l : Launch) (x t : Addr) (V : Cell) (cd : Int32) (n : Nat) (f : Nat → Int32) (z : Int32) : Law l yN 1 0 1 13 yB 1 (some .int) site (P x t V cd n f z) (E n) [] 0 0 := by
  refine Law.of_walk (plainFor_of_name (by decide +kernel)) (by decide +kernel) (by decide +kernel) (by decide) (fun _ _ h => by rw [h.1]; rfl) (fun _ U U' hal hh h => ⟨h.1, h.2.1.mv hal hh, h.2.2.1.there hal hh, h.2.2.2⟩) (fun r U U' V V' h1 hal h2 h => XT.PureE.mv r U U' V V' h1 hal h2 h) ?_
  intro p e s m args below meth c s₁ X0 hexec hbytes hml hret hlk hnm hown hh0 W hP
  obtain ⟨rfl, hx, s1, hz⟩ := hP
  have v31 := hx.2.2.2.1.2.2.2
  have c1 : Steps p.tables e below (s₁.setTop (entryFrame m #[.ref x] 1)) (s₁.setTop (mkF m 1 #[.val (.ref x)] [.ref x])) := Steps.trans (entry rfl) (by
    show Steps p.tables e below (s₁.setTop (mkF m 0 #[.val (.ref x)] [])) _
    refine XS.aloadN X0.here hexec rfl (hb hbytes d0) rfl rfl ?_
    exact Steps.refl _)
  obtain ⟨T2, X2, q2, st2⟩ := X0.hget hexec hown (wk W (.fieldLink "java/lang/String" 9 "java/lang/String" "value" "[B")) (hx.mv X0.warmed.alike hh0).2.1 (g := (mkF m 1 #[.val (.ref x)] [.ref x])) rfl (rest := []) rfl (hb hbytes d1)
  have hh2 := q2.trans hh0
  have hx2 := hx.mv X2.warmed.alike hh2
  have c3 : Steps p.tables e below (s₁.setTop (entryFrame m #[.ref x] 1)) (T2.setTop (mkF m 6 #[.val (.ref x)] [.ref x, .int (Int32.ofNat V.slots.size)])) := (c1.trans (st2 _ (Steps.refl _))).trans (by
    refine X2.alen hexec hx2.2.2.2.1 rfl rfl (hb hbytes d4) ?_
    refine XS.aloadN X2.here hexec rfl (hb hbytes d5) rfl rfl ?_
    exact Steps.refl _)
  obtain ⟨v4, T4, X4, E4, g4⟩ := X2.callV hexec (Cdr.law l x cd z) hown (wks W (virtW "java/lang/String" 335 "java/lang/String" Cdr.yN Cdr.yN)) rfl (by decide) (wk W Cdr.tab) (W := 1) (Nat.le_of_ble_eq_true rfl) (Nat.le_of_ble_eq_true rfl) (Nat.le_refl _) (Nat.le_refl _) (hx2.1.fc X2.warmed.alike) hx2.1.is (g := (mkF m 6 #[.val (.ref x)] [.ref x, .int (Int32.ofNat V.slots.size)])) rfl (by rw [hml]; rfl) c3 (argsL := []) (rest := [.int (Int32.ofNat V.slots.size)]) rfl rfl (by show 2 * 0 + (1 + 0) ≤ _; decide) (hb hbytes d6) (⟨rfl, hx2.2.2.1, hx.2.2.2.2.1.cd, s1.there X2.warmed.alike hh2, hz⟩)
  obtain ⟨rfl, q4⟩ := E4
  have c5 : Steps p.tables e below (s₁.setTop (entryFrame m #[.ref x] 1)) (T4.setTop (mkF m 10 #[.val (.ref x)] [.int (Int32.ofNat V.slots.size >>> (cd &&& 31))])) := Steps.trans g4 (by
    refine ishr X4.here hexec rfl (hb hbytes d9) rfl ?_
    exact Steps.refl _)
  rw [hx.2.2.2.2.1.len v31] at c5
  exact ⟨T4, some (.int (Int32.ofNat n)), _, _, _, X4, rfl, rfl, rfl, (fun h => by cases h), ⟨rfl, q4.trans hh2⟩, fun fs hl => c5.trans (X4.ireturnOut hexec hret rfl (Or.inl rfl) (hb hbytes d10) hl)⟩
theorem pays {l : Launch} {R : Room} {p : Program} {e : Env} {below : List Frame} {s : State} {sargs : Array Value} {len W : Nat} (x t : Addr) (V : Cell) (cd : Int32) (n : Nat) (f : Nat → Int32) (z : Int32) (htab : tab.before sargs s = true) (hfr : 2 ≤ R.frames) (hlo : W + 25 ≤ R.locals) :
    Back l R p e below s sargs yN len W (fun A₁ a₁ => A₁.cells + 0 ≤ R.cells ∧ A₁.slots + 0 ≤ R.slots ∧ P x t V cd n f z a₁ A₁.U) (fun A₁ _ v₁ B₁ => E n v₁ A₁.U B₁.U ∧ B₁.locs = A₁.locs ++ [] ∧ B₁.cells = A₁.cells + 0 ∧ B₁.slots = A₁.slots + 0) :=
  (law l x t V cd n f z).pays htab hfr (by omega)
end Len
namespace IsL
def yN : MethodName := ⟨"java/lang/String", "isLatin1", "()Z"⟩
abbrev yB : ByteArray := jdk_42_method_154_code
theorem d0 : decode yB 0 = .ok (.getstatic 38, 3) := by decide +kernel
theorem d3 : decode yB 3 = .ok (.ifCond (.eq) 14, 3) := by decide +kernel
theorem d6 : decode yB 6 = .ok (.aload_n 0, 1) := by decide +kernel
theorem d7 : decode yB 7 = .ok (.getfield 15, 3) := by decide +kernel
theorem d10 : decode yB 10 = .ok (.ifCond (.ne) 7, 3) := by decide +kernel
theorem d13 : decode yB 13 = .ok (.iconst 1, 1) := by decide +kernel
theorem d14 : decode yB 14 = .ok (.goto 4, 3) := by decide +kernel
theorem d17 : decode yB 17 = .ok (.iconst 0, 1) := by decide +kernel
theorem d18 : decode yB 18 = .ok (.ireturn, 1) := by decide +kernel
def site : List Cond := [.fieldLink "java/lang/String" 38 "java/lang/String" "COMPACT_STRINGS" "Z", .fieldLink "java/lang/String" 15 "java/lang/String" "coder" "B"]
def tab : Cond := tabOf yN yB 1 (some .boolean) site
def P (x : Addr) (cd z : Int32) (args : Array Value) (s : State) : Prop := args = #[.ref x] ∧ Has x "java/lang/String" "coder" "B" (.int cd) s ∧ (cd = 0 ∨ cd = 1) ∧ StaticIs s "java/lang/String" "COMPACT_STRINGS" "Z" (.int z) ∧ ¬ z = 0
def E (cd : Int32) (r : Option Value) (s u : State) : Prop := XT.PureE (some (.int (1 - cd))) r s u
theorem law (l : Launch) (x : Addr) (cd z : Int32) : Law l yN 1 0 0 0 yB 1 (some .boolean) site (P x cd z) (E cd) [] 0 0 := by
  refine Law.of_walk (plainFor_of_name (by decide +kernel)) (by decide +kernel) (by decide +kernel) (by decide) (fun _ _ h => by rw [h.1]; rfl) (fun _ U U' hal hh h => ⟨h.1, h.2.1.mv hal hh, h.2.2.1, h.2.2.2.1.there hal hh, h.2.2.2.2⟩) (fun r U U' V V' h1 hal h2 h => XT.PureE.mv r U U' V V' h1 hal h2 h) ?_
  intro p e s m args below meth c s₁ X0 hexec hbytes hml hret hlk hnm hown hh0 W hP
  obtain ⟨rfl, hx, hc, s1, hz⟩ := hP
  have c1 : Steps p.tables e below (s₁.setTop (entryFrame m #[.ref x] 1)) (s₁.setTop (mkF m 0 #[.val (.ref x)] [])) := entry rfl
  obtain ⟨T2, X2, q2, st2⟩ := X0.sget hexec hown (wk W (.fieldLink "java/lang/String" 38 "java/lang/String" "COMPACT_STRINGS" "Z")) s1 (fun _ _ h => by rw [hh0]; exact h) (g := (mkF m 0 #[.val (.ref x)] [])) rfl (hb hbytes d0)
  have hh2 := q2.trans hh0
  have c3 : Steps p.tables e below (s₁.setTop (entryFrame m #[.ref x] 1)) (T2.setTop (mkF m 7 #[.val (.ref x)] [.ref x])) := (c1.trans (st2 _ (Steps.refl _))).trans (by
    refine XS.ifNo X2.here hexec rfl (hb hbytes d3) rfl (i0_eq_f hz) ?_
    refine XS.aloadN X2.here hexec rfl (hb hbytes d6) rfl rfl ?_
    exact Steps.refl _)
  obtain ⟨T4, X4, q4, st4⟩ := X2.hget hexec hown (wk W (.fieldLink "java/lang/String" 15 "java/lang/String" "coder" "B")) (hx.mv X2.warmed.alike hh2) (g := (mkF m 7 #[.val (.ref x)] [.ref x])) rfl (rest := []) rfl (hb hbytes d7)
  have c5 : Steps p.tables e below (s₁.setTop (entryFrame m #[.ref x] 1)) (T4.setTop (mkF m 10 #[.val (.ref x)] [.int cd])) := c3.trans (st4 _ (Steps.refl _))
  have c6 : Steps p.tables e below (s₁.setTop (entryFrame m #[.ref x] 1)) (T4.setTop (mkF m 18 #[.val (.ref x)] [.int (1 - cd)])) := by
    rcases hc with rfl | rfl
    · exact c5.trans (by
        refine XS.ifNo X4.here hexec rfl (hb hbytes d10) rfl (i0_ne_f rfl) ?_
        refine iconstV X4.here hexec rfl 1 (hb hbytes d13) (by decide) ?_
        refine XS.goto X4.here hexec rfl (pc0 := 14) rfl (hb hbytes d14) (by decide) rfl ?_
        exact Steps.refl _)
    · exact c5.trans (by
        refine XS.ifYes X4.here hexec rfl (pc0 := 10) rfl (hb hbytes d10) rfl (i0_ne_t (by decide)) (by decide) rfl ?_
        refine iconstV X4.here hexec rfl 0 (hb hbytes d17) (by decide) ?_
        exact Steps.refl _)
  exact ⟨T4, some (.int (1 - cd)), _, _, _, X4, rfl, rfl, rfl, (fun h => by cases h), ⟨rfl, q4.trans hh2⟩, fun fs hl => c6.trans (X4.ireturnOut hexec hret (by rcases hc with rfl | rfl <;> rfl) (Or.inr (Or.inl rfl)) (hb hbytes d18) hl)⟩
end IsL
namespace LChA
def yN : MethodName := ⟨"java/lang/StringLatin1", "charAt", "([BI)C"⟩
abbrev yB : ByteArray := jdk_43_method_2_code
theorem d0 : decode yB 0 = .ok (.iload_n 1, 1) := by decide +kernel
theorem d1 : decode yB 1 = .ok (.aload_n 0, 1) := by decide +kernel
theorem d2 : decode yB 2 = .ok (.arraylength, 1) := by decide +kernel
theorem d3 : decode yB 3 = .ok (.invokestatic 9, 3) := by decide +kernel
theorem d6 : decode yB 6 = .ok (.aload_n 0, 1) := by decide +kernel
theorem d7 : decode yB 7 = .ok (.iload_n 1, 1) := by decide +kernel
theorem d8 : decode yB 8 = .ok (.baload, 1) := by decide +kernel
theorem d9 : decode yB 9 = .ok (.sipush 255, 3) := by decide +kernel
theorem d12 : decode yB 12 = .ok (.iand, 1) := by decide +kernel
theorem d13 : decode yB 13 = .ok (.i2c, 1) := by decide +kernel
theorem d14 : decode yB 14 = .ok (.ireturn, 1) := by decide +kernel
def site : List Cond := [JO.Str_checkIndex.tab] ++ staticW "java/lang/StringLatin1" 9 JO.Str_checkIndex.yN
def tab : Cond := tabOf yN yB 2 (some .char) site
def P (t : Addr) (V : Cell) (i : Nat) (u : Int32) (fm : Value) (args : Array Value) (s : State) : Prop := args = #[.ref t, .int (Int32.ofNat i)] ∧ XT.Arr .byte t V s ∧ V.slots[i]? = some (.int u) ∧ (StaticIs s "jdk/internal/util/Preconditions" "SIOOBE_FORMATTER" "Ljava/util/function/BiFunction;" fm ∧ fm.isRef = true)
def E (u : Int32) (r : Option Value) (s w : State) : Prop := XT.PureE (some (.int (chr8 u))) r s w
theorem law (l : Launch) (t : Addr) (V : Cell) (i : Nat) (u : Int32) (fm : Value) : Law l yN 2 2 2 27 yB 2 (some .char) site (P t V i u fm) (E u) [] 0 0 := by
  refine Law.of_walk (plainFor_of_name (by decide +kernel)) (by decide +kernel) (by decide +kernel) (by decide) (fun _ _ h => by rw [h.1]; rfl) (fun _ U U' hal hh h => ⟨h.1, h.2.1.mv hal hh, h.2.2.1, h.2.2.2.1.there hal hh, h.2.2.2.2⟩) (fun r U U' V V' h1 hal h2 h => XT.PureE.mv r U U' V V' h1 hal h2 h) ?_
  intro p e s m args below meth c s₁ X0 hexec hbytes hml hret hlk hnm hown hh0 W hP
  obtain ⟨rfl, hV, hu, s1, rf⟩ := hP
  have v31 := hV.2.2.2
  have hi : i < V.slots.size := (Array.getElem?_eq_some_iff.mp hu).1
  have c1 : Steps p.tables e below (s₁.setTop (entryFrame m #[.ref t, .int (Int32.ofNat i)] 2)) (s₁.setTop (mkF m 0 #[.val (.ref t), .val (.int (Int32.ofNat i))] [])) := entry rfl
  have c2 : Steps p.tables e below (s₁.setTop (entryFrame m #[.ref t, .int (Int32.ofNat i)] 2)) (s₁.setTop (mkF m 3 #[.val (.ref t), .val (.int (Int32.ofNat i))] [.int (Int32.ofNat V.slots.size), .int (Int32.ofNat i)])) := c1.trans (by
    refine XS.iloadN X0.here hexec rfl (hb hbytes d0) rfl ?_
    refine XS.aloadN X0.here hexec rfl (hb hbytes d1) rfl rfl ?_
    refine X0.alen hexec (hV.mv X0.warmed.alike hh0) rfl rfl (hb hbytes d2) ?_
    exact Steps.refl _)
  obtain ⟨v3, T3, X3, E3, g3⟩ := X0.callS hexec (JO.Str_checkIndex.law l (Int32.ofNat i) (Int32.ofNat V.slots.size) fm) hown (wks W (staticW "java/lang/StringLatin1" 9 JO.Str_checkIndex.yN)) (wk W JO.Str_checkIndex.tab) (W := 0) (Nat.le_of_ble_eq_true rfl) (Nat.le_of_ble_eq_true rfl) (Nat.le_refl _) (Nat.le_refl _) (g := (mkF m 3 #[.val (.ref t), .val (.int (Int32.ofNat i))] [.int (Int32.ofNat V.slots.size), .int (Int32.ofNat i)])) rfl (by rw [hml]; rfl) c2 (argsL := [.int (Int32.ofNat i), .int (Int32.ofNat V.slots.size)]) (rest := []) rfl rfl (by show 2 * 0 + 0 ≤ _; decide) (hb hbytes d3) (⟨rfl, rf, s1.there X0.warmed.alike hh0, Int32.ofNat_not_neg (by omega), lt32 v31 hi⟩)
  obtain ⟨rfl, q3⟩ := E3
  have hh3 := q3.trans hh0
  have c4 : Steps p.tables e below (s₁.setTop (entryFrame m #[.ref t, .int (Int32.ofNat i)] 2)) (T3.setTop (mkF m 14 #[.val (.ref t), .val (.int (Int32.ofNat i))] [.int (chr8 u)])) := Steps.trans g3 (by
    refine XS.aloadN X3.here hexec rfl (hb hbytes d6) rfl rfl ?_
    refine XS.iloadN X3.here hexec rfl (hb hbytes d7) rfl ?_
    refine X3.aget hexec (hV.mv X3.warmed.alike hh3) rfl hu rfl rfl (hb hbytes d8) ?_
    refine sipushV X3.here hexec rfl 255 (hb hbytes d9) (by decide) ?_
    refine XS.iand X3.here hexec rfl (hb hbytes d12) rfl ?_
    refine i2c X3.here hexec rfl (hb hbytes d13) rfl ?_
    exact Steps.refl _)
  exact ⟨T3, some (.int (chr8 u)), _, _, _, X3, rfl, rfl, rfl, (fun h => by cases h), ⟨rfl, hh3⟩, fun fs hl => c4.trans (X3.ireturnOut hexec hret (narrow_c _) (Or.inr (Or.inr (Or.inr (Or.inl rfl)))) (hb hbytes d14) hl)⟩
end LChA
end StrChars
namespace StrChars.Road
open Jvm Sem ClassFile Op Lib Jvm.Stand Jvm.Free Jvm.Free.XT
open Jvm.Lib.Cold (StaticIs)
theorem consq {a : Array Value} {s : State} {c : Jvm.Cond} {L : List Jvm.Cond} (h0 : c.before a s = true) (h : ∀ w ∈ L, w.before a s = true) : ∀ w ∈ c :: L, w.before a s = true := fun w hw => (List.mem_cons.mp hw).elim (fun e => e ▸ h0) (h w)
/-- the words of String.length(), either coding -/
abbrev wordsLen : List Jvm.Cond := [.code Len.yN Len.yB 1 (some .int), .initialized ST, .fieldLink ST 9 ST "value" "[B", .fieldLink ST 38 ST "COMPACT_STRINGS" "Z", .fieldLink ST 15 ST "coder" "B", .code Cdr.yN Cdr.yB 1 (some .byte), .methodLink ST 335 Cdr.yN, .declares Cdr.yN, .selects ST Cdr.yN Cdr.yN, .instanceMethod Cdr.yN]
theorem tabLen_of {a : Array Value} {s : State} (h : ∀ w ∈ wordsLen, w.before a s = true) : Len.tab.before a s = true := by
  have hc : Cdr.tab.before a s = true := unparts (wk h (.code Cdr.yN Cdr.yB 1 (some .byte))) (wks h (.initialized Cdr.yN.cls :: Cdr.site))
  have q := consq hc h
  exact unparts (wk q (.code Len.yN Len.yB 1 (some .int))) (wks q (.initialized Len.yN.cls :: Len.site))
theorem movedLen {Z s : State} {a0 args : Array Value} (hZ : Z.Warmed39 s.vm) (hw : ∀ d ∈ wordsLen, d.before a0 Z = true) : ∀ d ∈ wordsLen, d.before args s = true := fun d hd => by
  have q := hw d hd
  have t : ∀ d ∈ wordsLen, d = .arrayClass .byte ∨ (d.onTables && d.keepsFace) = true := by decide +kernel
  rcases t d hd with rfl | t
  · exact RoadKit.mvA hZ q
  · exact RoadKit.mv hZ q t
/-- the bytes of the chars cs, low before high -/
def wideBytes : List Int32 → List Value
  | [] => []
  | c :: cs => .int (lo8 c) :: .int (hi8 c) :: wideBytes cs
theorem wide_lo (d : Value) : ∀ (cs : List Int32) (j : Nat), j < cs.length → (wideBytes cs).getD (2 * j) d = .int (lo8 (cs.getD j 0))
  | [], j, h => absurd h (Nat.not_lt_zero j)
  | c :: cs, 0, _ => rfl
  | c :: cs, j + 1, h => by
    have q := wide_lo d cs j (by simpa using h)
    rw [show 2 * (j + 1) = 2 * j + 1 + 1 from by omega]
    simpa [wideBytes] using q
theorem wide_hi (d : Value) : ∀ (cs : List Int32) (j : Nat), j < cs.length → (wideBytes cs).getD (2 * j + 1) d = .int (hi8 (cs.getD j 0))
  | [], j, h => absurd h (Nat.not_lt_zero j)
  | c :: cs, 0, _ => rfl
  | c :: cs, j + 1, h => by
    have q := wide_hi d cs j (by simpa using h)
    rw [show 2 * (j + 1) + 1 = 2 * j + 1 + 1 + 1 from by omega]
    simpa [wideBytes] using q
theorem low_at (d : Value) (cs : List Int32) (j : Nat) (h : j < cs.length) : (cs.map fun c => Value.int (lo8 c)).getD j d = .int (lo8 (cs.getD j 0)) := by
  simp [List.getD_eq_getElem?_getD, h]
/-- an array of N2 bytes vs codes the chars cs by the coder cd -/
def CodA (cs : List Int32) (cd N2 : Int32) (vs : List Value) : Prop := (cd = 0 ∧ N2 = Int32.ofNat cs.length ∧ vs = (cs.map fun c => Value.int (lo8 c)) ∧ ∀ c ∈ cs, ¬ 255 < c) ∨ (cd = 1 ∧ N2 = Int32.ofNat (2 * cs.length) ∧ vs = wideBytes cs ∧ ∃ c ∈ cs, 255 < c)
theorem CodA.cod {cs : List Int32} {cd N2 : Int32} {vs : List Value} {V : Cell} (h : CodA cs cd N2 vs) (hn : 2 * cs.length < 2 ^ 31) (hs : V.slots.size = N2.toNatClampNeg) (hv : RoadKit.Has V vs (.int 0)) : Cod cd cs.length (fun j => cs.getD j 0) V := by
  rcases h with ⟨rfl, rfl, rfl, h⟩ | ⟨rfl, rfl, rfl, c, hc, hw⟩
  · rw [n32 (by omega)] at hs
    exact Or.inl ⟨rfl, hs, fun j hj => ⟨by rw [hv j (by omega), low_at _ _ _ hj], by
      have e : cs.getD j 0 = cs[j] := by simp [List.getD_eq_getElem?_getD, hj]
      show ¬ 255 < cs.getD j 0
      rw [e]; exact h _ (List.getElem_mem _)⟩⟩
  · rw [n32 (by omega)] at hs
    obtain ⟨j, hj, rfl⟩ := List.getElem_of_mem hc
    exact Or.inr ⟨rfl, hs, fun j hj => ⟨by rw [hv _ (by omega), wide_lo _ _ _ hj], by rw [hv _ (by omega), wide_hi _ _ _ hj]⟩, j, hj, by
      have e : cs.getD j 0 = cs[j] := by simp [List.getD_eq_getElem?_getD, hj]
      show 255 < cs.getD j 0
      rw [e]; exact hw⟩
/-- an object of exactly java/lang/String, its two fields found: as the laws ask it -/
theorem strObj {Z U : State} {a0 : Array Value} {kI : Nat} (wi : (Jvm.Cond.instantiable ST kI).before a0 Z = true) (al : Z.vm.Alike U.vm) {x : Addr} {v0 c0 : Value} (E : RoadKit.Exa Z U.heap x ST) (V : RoadKit.Fld Z U.heap x ST "value" "[B" v0) (C : RoadKit.Fld Z U.heap x ST "coder" "B" c0) :
    ∃ (D : Cell) (fV fC : Field), Blank ST x D U ∧ Found ST "value" "[B" fV U ∧ Found ST "coder" "B" fC U ∧ D.slots[fV.slot]? = some v0 ∧ D.slots[fC.slot]? = some c0 ∧ RoadKit.slotOf Z ST "value" "[B" = fV.slot ∧ RoadKit.slotOf Z ST "coder" "B" = fC.slot := by
  obtain ⟨D, cfV, kV, iV, fV, hD, gV, stV, knV, obV, asV, slV⟩ := V
  obtain ⟨D', cfC, kC, iC, fC, hD', gC, stC, -, -, asC, slC⟩ := C
  cases hD.symm.trans hD'
  obtain ⟨D2, kD, e1, e2, e3, e4, e5⟩ := E
  cases hD.symm.trans e1
  obtain ⟨c2, k2, i1, i2, i3, -⟩ := Cond.instantiable_spec wi
  cases e2.symm.trans i1
  cases e3.symm.trans i2
  obtain ⟨kU, u1, u2⟩ := al.2.2 _ _ e3
  exact ⟨D, fV, fC, ⟨hD, ⟨knV, fun q hq => by rw [hq] at obV; cases obV⟩, by rw [al.findClass]; exact e2, kU, u1, by rw [u2]; exact i3, by rw [u2]; exact e5 i3⟩, ⟨SBG.found_only al ⟨cfV, kV, iV, gV⟩, stV⟩, ⟨SBG.found_only al ⟨cfC, kC, iC, gC⟩, stC⟩, slV, slC, by simp [RoadKit.slotOf, gV], by simp [RoadKit.slotOf, gC]⟩
theorem sta_is {Z U : State} (al : Z.vm.Alike U.vm) {C n d : String} {v : Value} (S : RoadKit.Sta Z U.heap C n d v) : StaticIs U C n d v := by
  obtain ⟨cfS, iS, kS, fS, st, cS, t1, t2, t3, t4, t5, t6, t7⟩ := S
  exact StaticIs.there (s := { Z with heap := U.heap }) ⟨cfS, iS, kS, fS, st, cS, t1, t2, t3, t4, t5, (fun q => by rw [q] at t6; cases t6), t7⟩ al rfl
/-- **length() OF SUCH A STRING** -/
theorem lenW {p : Program} {l : Launch} {e : Env} {R : Room} {s : State} {args : Array Value} {below : List Frame} {len W : Nat} {Z : State} {a0 : Array Value} {h : Heap} (hZ : Z.Warmed39 s.vm) (hw : ∀ d ∈ wordsLen, d.before a0 Z = true) {kI : Nat} (wi : (Jvm.Cond.instantiable ST kI).before a0 Z = true)
    {x t : Addr} {kb : ClassId} {cs : List Int32} {cd N2 z : Int32} {vs : List Value} (E : RoadKit.Exa Z h x ST) (V : RoadKit.Fld Z h x ST "value" "[B" (.ref t)) (C : RoadKit.Fld Z h x ST "coder" "B" (.int cd)) (K : RoadKit.Arv Z h t kb .byte N2 vs (.int 0)) (hc : CodA cs cd N2 vs) (hb : ∀ c ∈ cs, ¬ c < 0 ∧ ¬ (65535 : Int32) < c)
    (S : RoadKit.Sta Z h ST "COMPACT_STRINGS" "Z" (.int z)) (hz : ¬ z = 0) (l2 : cs.length ≤ 4000) (hfr : 2 ≤ R.frames) (hlo : W + 25 ≤ R.locals) :
    Back l R p e below s args (⟨"java/lang/String", "length", "()I"⟩ : MethodName) len W (fun P a => a = #[.ref x] ∧ P.U.heap = h ∧ P.cells + 0 ≤ R.cells ∧ P.slots + 0 ≤ R.slots)
      (fun P _ v B => ∃ L, (v = some (.int (Int32.ofNat cs.length)) ∧ L = [] ∧ B.U.heap = h) ∧ B.locs = P.locs ++ L ∧ B.cells = P.cells + 0 ∧ B.slots = P.slots + 0) := by
  obtain ⟨A, K1, K2, K3, K4, K5, K6⟩ := K
  have hcod := hc.cod (by omega) K3 K5
  intro m meth c P g ig mk a X hg hsize hdg hW hn hp'
  obtain ⟨rfl, rfl, r1, r2⟩ := hp'
  have al : Z.vm.Alike P.U.vm := hZ.alike.trans X.warmed.alike
  obtain ⟨D, fV, fC, hB, F1, F2, g1, g2, -, -⟩ := strObj wi al E V C
  have hx : Txt x t A cd cs.length (fun j => cs.getD j 0) P.U := ⟨⟨_, hB.2.2.1, D, hB.1, rfl, by cases q : D.vm <;> first | rfl | exact absurd q (hB.2.1.2 _)⟩, Has.of hB F1 g1, Has.of hB F2 g2, ⟨K1.1, State.isArrayOf_alike al K1.2.1, K1.2.2, by rcases hcod with ⟨-, q, -⟩ | ⟨-, q, -⟩ <;> omega⟩, hcod, fun j hj => by
    have e : cs.getD j 0 = cs[j] := by simp [List.getD_eq_getElem?_getD, hj]
    show ¬ cs.getD j 0 < 0 ∧ ¬ 65535 < cs.getD j 0
    rw [e]; exact hb _ (List.getElem_mem _)⟩
  obtain ⟨v, B, X', ⟨⟨hv, hh⟩, hl, hk, hs⟩, st⟩ := Len.pays x t A cd cs.length (fun j => cs.getD j 0) z (tabLen_of (movedLen hZ hw)) hfr hlo m meth c P g ig mk _ X hg hsize hdg hW hn ⟨r1, r2, rfl, hx, sta_is al S, hz⟩
  exact ⟨v, B, X', ⟨[], ⟨hv, rfl, hh⟩, hl, hk, hs⟩, st⟩
end StrChars.Road
namespace StrChars.Road
open Jvm Sem ClassFile Op Lib Jvm.Stand Jvm.Free Jvm.Free.XT
open Jvm.Lib.Cold (StaticIs)
/-- the road's facts of a String, as the laws ask it -/
theorem txt_of {Z U : State} {a0 : Array Value} {kI : Nat} (wi : (Jvm.Cond.instantiable ST kI).before a0 Z = true) (al : Z.vm.Alike U.vm) {x t : Addr} {kb : ClassId} {cs : List Int32} {cd N2 : Int32} {vs : List Value} (E : RoadKit.Exa Z U.heap x ST) (V : RoadKit.Fld Z U.heap x ST "value" "[B" (.ref t)) (C : RoadKit.Fld Z U.heap x ST "coder" "B" (.int cd)) (K : RoadKit.Arv Z U.heap t kb .byte N2 vs (.int 0)) (hc : CodA cs cd N2 vs) (hb : ∀ c ∈ cs, ¬ c < 0 ∧ ¬ (65535 : Int32) < c) (l2 : cs.length ≤ 4000) :
    ∃ A, Txt x t A cd cs.length (fun j => cs.getD j 0) U := by
  obtain ⟨A, K1, K2, K3, K4, K5, K6⟩ := K
  have hcod := hc.cod (by omega) K3 K5
  obtain ⟨D, fV, fC, hB, F1, F2, g1, g2, -, -⟩ := strObj wi al E V C
  exact ⟨A, ⟨_, hB.2.2.1, D, hB.1, rfl, by cases q : D.vm <;> first | rfl | exact absurd q (hB.2.1.2 _)⟩, Has.of hB F1 g1, Has.of hB F2 g2, ⟨K1.1, State.isArrayOf_alike al K1.2.1, K1.2.2, by rcases hcod with ⟨-, q, -⟩ | ⟨-, q, -⟩ <;> omega⟩, hcod, fun j hj => by
    have e : cs.getD j 0 = cs[j] := by simp [List.getD_eq_getElem?_getD, hj]
    show ¬ cs.getD j 0 < 0 ∧ ¬ 65535 < cs.getD j 0
    rw [e]; exact hb _ (List.getElem_mem _)⟩
end StrChars.Road
namespace StrChars
open Jvm Sem ClassFile Op Lib Jvm.Stand Jvm.Free.XT Jvm.Free.ALB Jvm.Free.JM Jvm.Free
open Jvm.Lib.Cold (StaticIs)
namespace ChN
def yN : MethodName := ⟨"java/lang/String", "charAt", "(I)C"⟩
abbrev yB : ByteArray := jdk_42_method_56_code
theorem d0 : decode yB 0 = .ok (.aload_n 0, 1) := by decide +kernel
theorem d1 : decode yB 1 = .ok (.invokevirtual 492, 3) := by decide +kernel
theorem d4 : decode yB 4 = .ok (.ifCond (.eq) 12, 3) := by decide +kernel
theorem d7 : decode yB 7 = .ok (.aload_n 0, 1) := by decide +kernel
theorem d8 : decode yB 8 = .ok (.getfield 9, 3) := by decide +kernel
theorem d11 : decode yB 11 = .ok (.iload_n 1, 1) := by decide +kernel
theorem d12 : decode yB 12 = .ok (.invokestatic 495, 3) := by decide +kernel
theorem d15 : decode yB 15 = .ok (.ireturn, 1) := by decide +kernel
def site : List Cond := [.fieldLink "java/lang/String" 9 "java/lang/String" "value" "[B", IsL.tab, LChA.tab] ++ virtW "java/lang/String" 492 "java/lang/String" IsL.yN IsL.yN ++ staticW "java/lang/String" 495 LChA.yN
def tab : Cond := tabOf yN yB 2 (some .char) site
def P (x t : Addr) (V : Cell) (n : Nat) (f : Nat → Int32) (z : Int32) (fm : Value) (i : Nat) (args : Array Value) (s : State) : Prop := args = #[.ref x, .int (Int32.ofNat i)] ∧ Txt x t V 0 n f s ∧ i < n ∧ StaticIs s "java/lang/String" "COMPACT_STRINGS" "Z" (.int z) ∧ ¬ z = 0 ∧ StaticIs s "jdk/internal/util/Preconditions" "SIOOBE_FORMATTER" "Ljava/util/function/BiFunction;" fm ∧ fm.isRef = true
def E (f : Nat → Int32) (i : Nat) (r : Option Value) (s u : State) : Prop := XT.PureE (some (.int (f i))) r s u
/-- charAt(i) of a Latin-1 String of n chars, i < n: f i -/
theorem law (l : Launch) (x t : Addr) (V : Cell) (n : Nat) (f : Nat → Int32) (z : Int32) (fm : Value) (i : Nat) : Law l yN 2 1 3 40 yB 2 (some .char) site (P x t V n f z fm i) (E f i) [] 0 0 := by
  refine Law.of_walk (plainFor_of_name (by decide +kernel)) (by decide +kernel) (by decide +kernel) (by decide) (fun _ _ h => by rw [h.1]; rfl) (fun _ U U' hal hh h => ⟨h.1, h.2.1.mv hal hh, h.2.2.1, h.2.2.2.1.there hal hh, h.2.2.2.2.1, h.2.2.2.2.2.1.there hal hh, h.2.2.2.2.2.2⟩) (fun r U U' V V' h1 hal h2 h => XT.PureE.mv r U U' V V' h1 hal h2 h) ?_
  intro p e s m args below meth c s₁ X0 hexec hbytes hml hret hlk hnm hown hh0 W hP
  obtain ⟨rfl, hx, hi, s1, hz, s3, rf⟩ := hP
  have v31 := hx.2.2.2.1.2.2.2
  have hr := hx.2.2.2.2.2 i hi
  have hx0 := hx.mv X0.warmed.alike hh0
  have c1 : Steps p.tables e below (s₁.setTop (entryFrame m #[.ref x, .int (Int32.ofNat i)] 2)) (s₁.setTop (mkF m 1 #[.val (.ref x), .val (.int (Int32.ofNat i))] [.ref x])) := Steps.trans (entry rfl) (by
    show Steps p.tables e below (s₁.setTop (mkF m 0 #[.val (.ref x), .val (.int (Int32.ofNat i))] [])) _
    refine XS.aloadN X0.here hexec rfl (hb hbytes d0) rfl rfl ?_
    exact Steps.refl _)
  obtain ⟨v2, T2, X2, E2, g2⟩ := X0.callV hexec (IsL.law l x 0 z) hown (wks W (virtW "java/lang/String" 492 "java/lang/String" IsL.yN IsL.yN)) rfl (by decide) (wk W IsL.tab) (W := 0) (Nat.le_of_ble_eq_true rfl) (Nat.le_of_ble_eq_true rfl) (Nat.le_refl _) (Nat.le_refl _) (hx0.1.fc X0.warmed.alike) hx0.1.is (g := (mkF m 1 #[.val (.ref x), .val (.int (Int32.ofNat i))] [.ref x])) rfl (by rw [hml]; rfl) c1 (argsL := []) (rest := []) rfl rfl (by show 2 * 0 + 0 ≤ _; decide) (hb hbytes d1) (⟨rfl, hx0.2.2.1, hx.2.2.2.2.1.cd, s1.there X0.warmed.alike hh0, hz⟩)
  obtain ⟨rfl, q2⟩ := E2
  have hh2 := q2.trans hh0
  have hx2 := hx.mv X2.warmed.alike hh2
  obtain ⟨-, k1, k2⟩ | ⟨k0, -⟩ := hx.2.2.2.2.1
  · have c3 : Steps p.tables e below (s₁.setTop (entryFrame m #[.ref x, .int (Int32.ofNat i)] 2)) (T2.setTop (mkF m 8 #[.val (.ref x), .val (.int (Int32.ofNat i))] [.ref x])) := Steps.trans g2 (by
      refine XS.ifNo X2.here hexec rfl (hb hbytes d4) rfl (i0_eq_f (by decide)) ?_
      refine XS.aloadN X2.here hexec rfl (hb hbytes d7) rfl rfl ?_
      exact Steps.refl _)
    obtain ⟨T4, X4, q4, st4⟩ := X2.hget hexec hown (wk W (.fieldLink "java/lang/String" 9 "java/lang/String" "value" "[B")) hx2.2.1 (g := (mkF m 8 #[.val (.ref x), .val (.int (Int32.ofNat i))] [.ref x])) rfl (rest := []) rfl (hb hbytes d8)
    have hh4 := q4.trans hh2
    have c5 : Steps p.tables e below (s₁.setTop (entryFrame m #[.ref x, .int (Int32.ofNat i)] 2)) (T4.setTop (mkF m 12 #[.val (.ref x), .val (.int (Int32.ofNat i))] [.int (Int32.ofNat i), .ref t])) := (c3.trans (st4 _ (Steps.refl _))).trans (by
      refine XS.iloadN X4.here hexec rfl (hb hbytes d11) rfl ?_
      exact Steps.refl _)
    obtain ⟨v6, T6, X6, E6, g6⟩ := X4.callS hexec (LChA.law l t V i (lo8 (f i)) fm) hown (wks W (staticW "java/lang/String" 495 LChA.yN)) (wk W LChA.tab) (W := 0) (Nat.le_of_ble_eq_true rfl) (Nat.le_of_ble_eq_true rfl) (Nat.le_refl _) (Nat.le_refl _) (g := (mkF m 12 #[.val (.ref x), .val (.int (Int32.ofNat i))] [.int (Int32.ofNat i), .ref t])) rfl (by rw [hml]; rfl) c5 (argsL := [.ref t, .int (Int32.ofNat i)]) (rest := []) rfl rfl (by show 2 * 0 + 0 ≤ _; decide) (hb hbytes d12) (⟨rfl, hx.2.2.2.1.mv X4.warmed.alike hh4, (k2 i hi).1, s3.there X4.warmed.alike hh4, rf⟩)
    obtain ⟨rfl, q6⟩ := E6
    rw [chr8_lo8 hr.1 (k2 i hi).2] at g6
    exact ⟨T6, some (.int (f i)), _, _, _, X6, rfl, rfl, rfl, (fun h => by cases h), ⟨rfl, q6.trans hh4⟩, fun fs hl => Steps.trans g6 (X6.ireturnOut hexec hret (narrow_ch hr.1 hr.2) (Or.inr (Or.inr (Or.inr (Or.inl rfl)))) (hb hbytes d15) hl)⟩
  · exact absurd k0 (by decide)
theorem pays {l : Launch} {R : Room} {p : Program} {e : Env} {below : List Frame} {s : State} {sargs : Array Value} {len W : Nat} (x t : Addr) (V : Cell) (n : Nat) (f : Nat → Int32) (z : Int32) (fm : Value) (i : Nat) (htab : tab.before sargs s = true) (hfr : 4 ≤ R.frames) (hlo : W + 53 ≤ R.locals) :
    Back l R p e below s sargs yN len W (fun A₁ a₁ => A₁.cells + 0 ≤ R.cells ∧ A₁.slots + 0 ≤ R.slots ∧ P x t V n f z fm i a₁ A₁.U) (fun A₁ _ v₁ B₁ => E f i v₁ A₁.U B₁.U ∧ B₁.locs = A₁.locs ++ [] ∧ B₁.cells = A₁.cells + 0 ∧ B₁.slots = A₁.slots + 0) :=
  (law l x t V n f z fm i).pays htab hfr (by omega)
end ChN
end StrChars
namespace StrChars.Road
open Jvm Sem ClassFile Op Lib Jvm.Stand Jvm.Free Jvm.Free.XT
open Jvm.Lib.Cold (StaticIs)
/-- the words of String.charAt(int), the Latin-1 road alone -/
abbrev wordsChN : List Jvm.Cond := [.code ChN.yN ChN.yB 2 (some .char), .initialized ST, .fieldLink ST 9 ST "value" "[B", .fieldLink ST 38 ST "COMPACT_STRINGS" "Z", .fieldLink ST 15 ST "coder" "B", .code IsL.yN IsL.yB 1 (some .boolean), .methodLink ST 492 IsL.yN, .declares IsL.yN, .selects ST IsL.yN IsL.yN, .instanceMethod IsL.yN,
  .methodLink ST 495 LChA.yN, .static LChA.yN, .code LChA.yN LChA.yB 2 (some .char), .initialized "java/lang/StringLatin1", .methodLink "java/lang/StringLatin1" 9 JO.Str_checkIndex.yN, .static JO.Str_checkIndex.yN, .code JO.Str_checkIndex.yN JO.Str_checkIndex.yB 2 none,
  .fieldLink ST 1053 "jdk/internal/util/Preconditions" "SIOOBE_FORMATTER" "Ljava/util/function/BiFunction;", .methodLink ST 1059 JC.PreCheck.yN, .static JC.PreCheck.yN, .code JC.PreCheck.yN JC.PreCheck.yB 3 (some .int), .initialized "jdk/internal/util/Preconditions"]
theorem tabChN_of {a : Array Value} {s : State} (h : ∀ w ∈ wordsChN, w.before a s = true) : ChN.tab.before a s = true := by
  have hp : JC.PreCheck.tab.before a s = true := unparts (wk h (.code JC.PreCheck.yN JC.PreCheck.yB 3 (some .int))) (wks h (.initialized JC.PreCheck.yN.cls :: JC.PreCheck.site))
  have qk := consq hp h
  have hk : JO.Str_checkIndex.tab.before a s = true := unparts (wk qk (.code JO.Str_checkIndex.yN JO.Str_checkIndex.yB 2 none)) (wks qk (.initialized JO.Str_checkIndex.yN.cls :: JO.Str_checkIndex.site))
  have ql := consq hk h
  have hl : LChA.tab.before a s = true := unparts (wk ql (.code LChA.yN LChA.yB 2 (some .char))) (wks ql (.initialized LChA.yN.cls :: LChA.site))
  have hi : IsL.tab.before a s = true := unparts (wk h (.code IsL.yN IsL.yB 1 (some .boolean))) (wks h (.initialized IsL.yN.cls :: IsL.site))
  have q := consq hi (consq hl h)
  exact unparts (wk q (.code ChN.yN ChN.yB 2 (some .char))) (wks q (.initialized ChN.yN.cls :: ChN.site))
theorem movedChN {Z s : State} {a0 args : Array Value} (hZ : Z.Warmed39 s.vm) (hw : ∀ d ∈ wordsChN, d.before a0 Z = true) : ∀ d ∈ wordsChN, d.before args s = true := fun d hd => by
  have t : ∀ d ∈ wordsChN, (d.onTables && d.keepsFace) = true := by decide +kernel
  exact RoadKit.mv hZ (hw d hd) (t d hd)
/-- **charAt(i) OF A LATIN-1 STRING**, i < n: the char -/
theorem chN {p : Program} {l : Launch} {e : Env} {R : Room} {s : State} {args : Array Value} {below : List Frame} {len W : Nat} {Z : State} {a0 : Array Value} {h : Heap} (hZ : Z.Warmed39 s.vm) (hw : ∀ d ∈ wordsChN, d.before a0 Z = true) {kI : Nat} (wi : (Jvm.Cond.instantiable ST kI).before a0 Z = true)
    {x t : Addr} {kb : ClassId} {cs : List Int32} {N2 z : Int32} {vs : List Value} {fm : Value} {i : Nat} {j : Int32} (E : RoadKit.Exa Z h x ST) (V : RoadKit.Fld Z h x ST "value" "[B" (.ref t)) (C : RoadKit.Fld Z h x ST "coder" "B" (.int 0)) (K : RoadKit.Arv Z h t kb .byte N2 vs (.int 0)) (hc : CodA cs 0 N2 vs) (hb : ∀ c ∈ cs, ¬ c < 0 ∧ ¬ (65535 : Int32) < c)
    (S : RoadKit.Sta Z h ST "COMPACT_STRINGS" "Z" (.int z)) (hz : ¬ z = 0) (F : RoadKit.Sta Z h "jdk/internal/util/Preconditions" "SIOOBE_FORMATTER" "Ljava/util/function/BiFunction;" fm) (rf : fm.isRef = true) (l2 : cs.length ≤ 4000) (hi : i < cs.length) (hj : j = Int32.ofNat i) (hfr : 4 ≤ R.frames) (hlo : W + 53 ≤ R.locals) :
    Back l R p e below s args (⟨"java/lang/String", "charAt", "(I)C"⟩ : MethodName) len W (fun P a => a = #[.ref x, .int j] ∧ P.U.heap = h ∧ P.cells + 0 ≤ R.cells ∧ P.slots + 0 ≤ R.slots)
      (fun P _ v B => ∃ L, (v = some (.int (cs.getD i 0)) ∧ L = [] ∧ B.U.heap = h) ∧ B.locs = P.locs ++ L ∧ B.cells = P.cells + 0 ∧ B.slots = P.slots + 0) := by
  subst hj
  intro m meth c P g ig mk a X hg hsize hdg hW hn hp'
  obtain ⟨rfl, rfl, r1, r2⟩ := hp'
  have al : Z.vm.Alike P.U.vm := hZ.alike.trans X.warmed.alike
  obtain ⟨A, hx⟩ := txt_of wi al E V C K hc hb l2
  obtain ⟨v, B, X', ⟨⟨hv, hh⟩, hl, hk, hs⟩, st⟩ := ChN.pays x t A cs.length (fun j => cs.getD j 0) z fm i (tabChN_of (movedChN hZ hw)) hfr hlo m meth c P g ig mk _ X hg hsize hdg hW hn ⟨r1, r2, rfl, hx, hi, sta_is al S, hz, sta_is al F, rf⟩
  exact ⟨v, B, X', ⟨[], ⟨hv, rfl, hh⟩, hl, hk, hs⟩, st⟩
/-- what backV says of its String, as the contracts of this text ask it: cs's low bytes, coder 0 -/
theorem codOf {cs : List Int32} {n : Nat} (hn : cs.length = n) (hb : ∀ c ∈ cs, ¬ 255 < c) : CodA cs 0 (Int32.ofNat n) ((cs.map lo8).map Value.int) := Or.inl ⟨rfl, by rw [hn], by simp [List.map_map, Function.comp_def], hb⟩
end StrChars.Road
end Jvm.Pilot.@@N@@

namespace Jvm.Pilot.@@N@@
namespace Own
open Jvm Jvm.ClassFile Sem Op Lib Jvm.Free Jvm.Stand Jvm.LawKit Jvm.RoadKit
section Kit
variable {p : Program} {l : Launch} {e : Env} {R : Room} {s : State} {m : MethodId} {args : Array Value} {below : List Frame} {meth : Method} {c : Code} {T : State} {locs : List Loc} {cells slots : Nat} {Z : State} {a0 : Array Value} {h : Heap}
/-- what is left to show from a state S on: the run comes to the method's end, with Q of what it returned, the heap and the places written -/
def Gl (p : Program) (e : Env) (below : List Frame) (s : State) (rc rs : Nat) (Q : Option Value → Heap → List Loc → Prop) (S : State) : Prop :=
  ∃ s₂ o, Steps p.tables e below S s₂ ∧ s₂.status = .running ∧ Ended s₂ below o ∧ ∃ v L, o = .returned v ∧ Q v s₂.heap L ∧ FrameEnd s o s₂ L rc rs
variable {rc rs : Nat} {Q : Option Value → Heap → List Loc → Prop} {S S' : State}
theorem Gl.by (k : ∀ t, Steps p.tables e below S' t → Steps p.tables e below S t) (g : Gl p e below s rc rs Q S') : Gl p e below s rc rs Q S := by
  obtain ⟨t, o, h1, h2⟩ := g
  exact ⟨t, o, k t h1, h2⟩
theorem Gl.tr (k : Steps p.tables e below S S') (g : Gl p e below s rc rs Q S') : Gl p e below s rc rs Q S := Gl.by (fun _ q => k.trans q) g
theorem Gl.mono {Q' : Option Value → Heap → List Loc → Prop} (hq : ∀ v h L, Q v h L → Q' v h L) (g : Gl p e below s rc rs Q S) : Gl p e below s rc rs Q' S := by
  obtain ⟨t, o, h1, h2, h3, v, L, h4, h5, h6⟩ := g
  exact ⟨t, o, h1, h2, h3, v, L, h4, hq _ _ _ h5, h6⟩
theorem wider {c' n' : Nat} (X : Stand p l e R s m args below meth c T locs cells slots) (hc : cells ≤ c') (hn : slots ≤ n') : Stand p l e R s m args below meth c T locs c' n' :=
  { X with same := X.same.mono hc hn }
theorem Gl.retZ (X : Stand p l e R s m args below meth c T locs cells slots) (hx : p.tables.exec = Jvm.exec) (hlk : meth.locks = false) {t : FieldType} (hret : meth.sig.returnType = some t) (ht : t = .boolean ∨ t = .byte ∨ t = .char ∨ t = .short)
    {pc : Nat} {Ls : Array Slot} {z : Int32} {rest : List Value} (hd : decode c.code pc = .ok (.ireturn, 1)) (hc : cells ≤ rc) (hs : slots ≤ rs) (hq : Q (some (.int (nar t z))) T.heap locs) :
    Gl p e below s rc rs Q (T.setTop (mkF m pc Ls (.int z :: rest))) := by
  obtain ⟨fs, hr, hrun, hended, hW, hsame⟩ := X.leave (v := some (.int (nar t z))) (fun h => by rw [hret] at h; cases h) hlk
  exact ⟨_, _, retN X hx hret ht hd hr, hrun, hended, _, _, rfl, hq, ⟨_, rfl⟩, hW, hsame.mono hc hs⟩
theorem Gl.retI (X : Stand p l e R s m args below meth c T locs cells slots) (hx : p.tables.exec = Jvm.exec) (hlk : meth.locks = false) (hret : meth.sig.returnType = some .int)
    {pc : Nat} {Ls : Array Slot} {z : Int32} {rest : List Value} (hd : decode c.code pc = .ok (.ireturn, 1)) (hc : cells ≤ rc) (hs : slots ≤ rs) (hq : Q (some (.int z)) T.heap locs) :
    Gl p e below s rc rs Q (T.setTop (mkF m pc Ls (.int z :: rest))) := by
  obtain ⟨fs, hr, hrun, hended, hW, hsame⟩ := X.leave (v := some (.int z)) (fun h => by rw [hret] at h; cases h) hlk
  refine ⟨_, _, ?_, hrun, hended, _, _, rfl, hq, ⟨_, rfl⟩, hW, hsame.mono hc hs⟩
  have hm' : T.vm.method? m = some meth := X.method'
  have hn : narrow .int (.int z) = .int z := rfl
  show Steps p.tables e below (T.setTop { method := m, pc := pc, locals := Ls, stack := _ :: rest, locked := none }) _
  jvm_step X.here [X.here.top, hx, hd, hm', hret, hn]
  first | (intro acts; rw [hr _ acts rfl rfl rfl]) | rw [hr _ _ rfl rfl rfl]
  exact Steps.refl _
theorem Gl.retA (X : Stand p l e R s m args below meth c T locs cells slots) (hx : p.tables.exec = Jvm.exec) (hlk : meth.locks = false) {t : FieldType} (hret : meth.sig.returnType = some t) (ht : t.isReference = true)
    {pc : Nat} {Ls : Array Slot} {w : Value} {rest : List Value} (hv : w.isRef = true) (hd : decode c.code pc = .ok (.areturn, 1)) (hc : cells ≤ rc) (hs : slots ≤ rs) (hq : Q (some w) T.heap locs) :
    Gl p e below s rc rs Q (T.setTop (mkF m pc Ls (w :: rest))) := by
  obtain ⟨fs, hr, hrun, hended, hW, hsame⟩ := X.leave (v := some w) (fun h => by rw [hret] at h; cases h) hlk
  refine ⟨_, _, ?_, hrun, hended, _, _, rfl, hq, ⟨_, rfl⟩, hW, hsame.mono hc hs⟩
  have hm' : T.vm.method? m = some meth := X.method'
  show Steps p.tables e below (T.setTop { method := m, pc := pc, locals := Ls, stack := _ :: rest, locked := none }) _
  jvm_step X.here [X.here.top, hx, hd, hm', hret, hv, ht]
  first | (intro acts; rw [hr _ acts rfl rfl rfl]) | rw [hr _ _ rfl rfl rfl]
  exact Steps.refl _
theorem Gl.retJ (X : Stand p l e R s m args below meth c T locs cells slots) (hx : p.tables.exec = Jvm.exec) (hlk : meth.locks = false) (hret : meth.sig.returnType = some .long)
    {pc : Nat} {Ls : Array Slot} {z : Int64} (hd : decode c.code pc = .ok (.lreturn, 1)) (hc : cells ≤ rc) (hs : slots ≤ rs) (hq : Q (some (.long z)) T.heap locs) :
    Gl p e below s rc rs Q (T.setTop (mkF m pc Ls [.long z])) := by
  obtain ⟨fs, hr, hrun, hended, hW, hsame⟩ := X.leave (v := some (.long z)) (fun h => by rw [hret] at h; cases h) hlk
  exact ⟨_, _, X.lreturnOut hx hret hd hr, hrun, hended, _, _, rfl, hq, ⟨_, rfl⟩, hW, hsame.mono hc hs⟩
theorem Gl.retV (X : Stand p l e R s m args below meth c T locs cells slots) (hx : p.tables.exec = Jvm.exec) (hlk : meth.locks = false) (hret : meth.sig.returnType = none)
    {pc : Nat} {Ls : Array Slot} (hd : decode c.code pc = .ok (.return_, 1)) (hc : cells ≤ rc) (hs : slots ≤ rs) (hq : Q none T.heap locs) :
    Gl p e below s rc rs Q (T.setTop (mkF m pc Ls [])) := by
  obtain ⟨fs, hr, hrun, hended, hW, hsame⟩ := X.leave (v := none) (fun _ => rfl) hlk
  exact ⟨_, _, X.returnOut hx hret hd hr, hrun, hended, _, _, rfl, hq, ⟨_, rfl⟩, hW, hsame.mono hc hs⟩
/-- a body's contract -/
abbrev Ctr (l : Launch) (Z : State) (y : MethodName) (bytes : ByteArray) (maxL : Nat) (ret : Option FieldType) (ws : List Jvm.Cond) (rm : Room) (as' : Array Value) (h : Heap) (Q : Option Value → Heap → List Loc → Prop) : Prop :=
  MetFree l y (head1 (Jvm.Cond.code y bytes maxL ret :: ws) rm) (fun a U => a = as' ∧ Z.Warmed39 U.vm ∧ U.heap = h) (fun _ _ _ _ _ => True) (fun _ U o U' => ∃ v L, o = .returned v ∧ Q v U'.heap L ∧ FrameEnd U o U' L rm.cells rm.slots)
theorem Ctr.intro {y : MethodName} {bytes : ByteArray} {maxL : Nat} {ret : Option FieldType} {ws : List Jvm.Cond} {rm : Room} {as' : Array Value} (hpn : plainFor y = true) (Ls : Array Slot) (hef : ∀ m, entryFrame m as' maxL = mkF m 0 Ls [])
    (body : ∀ (p : Program) (e : Env) (s : State) (m : MethodId) (below : List Frame) (meth : Method) (c : Code) (T : State), p.tables.exec = Jvm.exec → c.code = bytes → c.maxLocals = maxL → s.vm.findClass y.cls = some m.cls → meth.name = y.name → meth.sig.returnType = ret → meth.locks = false → Z.Warmed39 s.vm → s.methodNamed? y = some m →
      Stand p l e rm s m as' below meth c T [] 0 0 → T.heap = h → Gl p e below s rm.cells rm.slots Q (T.setTop (mkF m 0 Ls []))) : Ctr l Z y bytes maxL ret ws rm as' h Q := by
  refine MetFree.of_bodySF hpn hisR ?_
  intro p e s m args below meth c s₁ Bd hml0 hP hK
  obtain ⟨rfl, hZ, hh⟩ := hP
  have g := body p e s m below meth c s₁ Bd.exec Bd.bytes hml0 (findClass_of_methodNamed Bd.named) (name_of_methodNamed Bd.named Bd.method).1 Bd.returns (BodyLoose.notSynchronized Bd) hZ Bd.named (Stand.of_body Bd) (by rw [← hh, Bd.state]; rfl)
  rw [← hef m] at g
  exact g
/-- a call's payer, by what it leaves -/
abbrev BackQ (l : Launch) (R : Room) (p : Program) (e : Env) (below : List Frame) (s : State) (args : Array Value) (y : MethodName) (len W : Nat) (as' : Array Value) (h : Heap) (kc ks : Nat) (Qc : Option Value → Heap → List Loc → Prop) : Prop :=
  Back l R p e below s args y len W (fun A a => a = as' ∧ A.U.heap = h ∧ A.cells + kc ≤ R.cells ∧ A.slots + ks ≤ R.slots) (fun A _ v B => ∃ L, Qc v B.U.heap L ∧ B.locs = A.locs ++ L ∧ B.cells = A.cells + kc ∧ B.slots = A.slots + ks)
theorem backC {y : MethodName} {bytes : ByteArray} {maxL : Nat} {ret : Option FieldType} {rm : Room} {len W : Nat} {as' : Array Value} {Qc : Option Value → Heap → List Loc → Prop} (hM : Ctr l Z y bytes maxL ret [] rm as' h Qc)
    (hZ : Z.Warmed39 s.vm) (wc : (Jvm.Cond.code y bytes maxL ret).before a0 Z = true) (wz : (Jvm.Cond.initialized y.cls).before a0 Z = true) (hf : rm.frames + 1 ≤ R.frames) (hl : W + (maxL + 11) + rm.locals ≤ R.locals) :
    BackQ l R p e below s args y len W as' h rm.cells rm.slots Qc := backOf hM hZ wc wz hf hl
variable {W kc ks : Nat} {as' : Array Value} {Qc : Option Value → Heap → List Loc → Prop}
theorem Gl.stat (X : Stand p l e R s m args below meth c T locs cells slots) (hx : p.tables.exec = Jvm.exec) (hZ : Z.Warmed39 s.vm) {own : String} {index : Nat} {y : MethodName} {bytes : ByteArray} {maxL : Nat} {ret : Option FieldType}
    (hown : s.vm.findClass own = some m.cls) (w1 : (Jvm.Cond.methodLink own index y).before a0 Z = true) (w2 : (Jvm.Cond.static y).before a0 Z = true) (w3 : (Jvm.Cond.initialized y.cls).before a0 Z = true)
    (w4 : (Jvm.Cond.code y bytes maxL ret).before a0 Z = true) (hy : y.cls ≠ "java/lang/invoke/MethodHandle" ∧ y.cls ≠ "java/lang/invoke/VarHandle")
    (hK : BackQ l R p e below s args y 3 W as' h kc ks Qc) (eT : T.heap = h) {pc : Nat} {Ls : Array Slot} {st : List Value} (hd : decode c.code pc = .ok (.invokestatic index, 3)) (hsz : Ls.size = c.maxLocals) (argsL rest : List Value)
    (hlen : ∀ sig, parseMethodDescriptor y.desc = some sig → argsL.length = sig.parameters.length) (hst : st = argsL.reverse ++ rest) (has : argsL.toArray = as') (hW : (rest.map fun v => v.category).sum ≤ W) (hc : cells + kc ≤ R.cells) (hs : slots + ks ≤ R.slots)
    (k : ∀ v T' L, Stand p l e R s m args below meth c T' (locs ++ L) (cells + kc) (slots + ks) → Qc v T'.heap L → Gl p e below s rc rs Q (T'.setTop (mkF m (pc + 3) Ls (v.toList ++ rest)))) :
    Gl p e below s rc rs Q (T.setTop (mkF m pc Ls st)) := by
  obtain ⟨v, vm₁, ⟨U', ls, cc, sl⟩, hW₁, X', ⟨L, q1, q2, q3, q4⟩, stp⟩ := Jvm.LawKit.callS X hx hown (mvT hZ w1) (mvT hZ w2) (mvT hZ w3) (mvT hZ w4) hy hK (g := mkF m pc Ls st) rfl hsz hlen hst (by show 2 * 0 + _ ≤ _; omega) hd (fun _ _ => ⟨has, eT, hc, hs⟩)
  dsimp only [Pt.U, Pt.locs, Pt.cells, Pt.slots] at X' q1 q2 q3 q4 stp
  subst q2 q3 q4
  exact Gl.by stp (k v U' L X' q1)
theorem Gl.spec (X : Stand p l e R s m args below meth c T locs cells slots) (hx : p.tables.exec = Jvm.exec) (hZ : Z.Warmed39 s.vm) {own : String} {index : Nat} {y : MethodName} {bytes : ByteArray} {maxL : Nat} (hy1 : y.name = "<init>")
    (hown : s.vm.findClass own = some m.cls) (w1 : (Jvm.Cond.methodLink own index y).before a0 Z = true) (w2 : (Jvm.Cond.instanceMethod y).before a0 Z = true)
    (w4 : (Jvm.Cond.code y bytes maxL none).before a0 Z = true) (hy : y.cls ≠ "java/lang/invoke/MethodHandle" ∧ y.cls ≠ "java/lang/invoke/VarHandle")
    (hK : BackQ l R p e below s args y 3 W as' h kc ks Qc) (eT : T.heap = h) {pc : Nat} {Ls : Array Slot} {st : List Value} (hd : decode c.code pc = .ok (.invokespecial index, 3)) (hsz : Ls.size = c.maxLocals) (a : Addr) (argsL rest : List Value)
    (hlen : ∀ sig, parseMethodDescriptor y.desc = some sig → argsL.length = sig.parameters.length) (hst : st = argsL.reverse ++ .ref a :: rest) (has : (.ref a :: argsL).toArray = as') (hW : (rest.map fun v => v.category).sum ≤ W) (hc : cells + kc ≤ R.cells) (hs : slots + ks ≤ R.slots)
    (k : ∀ v T' L, Stand p l e R s m args below meth c T' (locs ++ L) (cells + kc) (slots + ks) → Qc v T'.heap L → Gl p e below s rc rs Q (T'.setTop (mkF m (pc + 3) Ls (v.toList ++ rest)))) :
    Gl p e below s rc rs Q (T.setTop (mkF m pc Ls st)) := by
  obtain ⟨v, vm₁, ⟨U', ls, cc, sl⟩, hW₁, X', ⟨L, q1, q2, q3, q4⟩, stp⟩ := X.specialBack hx hy1 hown (mvT hZ w1) (mvT hZ w2) (mvT hZ w4) hy hK (g := mkF m pc Ls st) rfl hsz (Steps.refl _) hlen hst (by show 2 * 0 + _ ≤ _; omega) hd (fun _ _ => ⟨has, eT, hc, hs⟩)
  dsimp only [Pt.U, Pt.locs, Pt.cells, Pt.slots] at X' q1 q2 q3 q4 stp
  subst q2 q3 q4
  exact Gl.tr stp (k v U' L X' q1)
theorem Gl.specN (X : Stand p l e R s m args below meth c T locs cells slots) (hx : p.tables.exec = Jvm.exec) (hZ : Z.Warmed39 s.vm) {own host : String} {index : Nat} {y : MethodName} {bytes : ByteArray} {maxL : Nat} (hy1 : y.name = "<init>")
    (hown : s.vm.findClass own = some m.cls) (w1 : (Jvm.Cond.methodLinkNest own index y host).before a0 Z = true) (w2 : (Jvm.Cond.instanceMethod y).before a0 Z = true)
    (w4 : (Jvm.Cond.code y bytes maxL none).before a0 Z = true) (hy : y.cls ≠ "java/lang/invoke/MethodHandle" ∧ y.cls ≠ "java/lang/invoke/VarHandle")
    (hK : BackQ l R p e below s args y 3 W as' h kc ks Qc) (eT : T.heap = h) {pc : Nat} {Ls : Array Slot} {st : List Value} (hd : decode c.code pc = .ok (.invokespecial index, 3)) (hsz : Ls.size = c.maxLocals) (a : Addr) (argsL rest : List Value)
    (hlen : ∀ sig, parseMethodDescriptor y.desc = some sig → argsL.length = sig.parameters.length) (hst : st = argsL.reverse ++ .ref a :: rest) (has : (.ref a :: argsL).toArray = as') (hW : (rest.map fun v => v.category).sum ≤ W) (hc : cells + kc ≤ R.cells) (hs : slots + ks ≤ R.slots)
    (k : ∀ v T' L, Stand p l e R s m args below meth c T' (locs ++ L) (cells + kc) (slots + ks) → Qc v T'.heap L → Gl p e below s rc rs Q (T'.setTop (mkF m (pc + 3) Ls (v.toList ++ rest)))) :
    Gl p e below s rc rs Q (T.setTop (mkF m pc Ls st)) := by
  obtain ⟨v, vm₁, ⟨U', ls, cc, sl⟩, hW₁, X', ⟨L, q1, q2, q3, q4⟩, stp⟩ := X.specialBackNest hx hy1 hown (Cond.methodLinkNest_wide hZ w1 :) (mvT hZ w2) (mvT hZ w4) hy hK (g := mkF m pc Ls st) rfl hsz (Steps.refl _) hlen hst (by show 2 * 0 + _ ≤ _; omega) hd (fun _ _ => ⟨has, eT, hc, hs⟩)
  dsimp only [Pt.U, Pt.locs, Pt.cells, Pt.slots] at X' q1 q2 q3 q4 stp
  subst q2 q3 q4
  exact Gl.tr stp (k v U' L X' q1)
theorem Gl.virt (X : Stand p l e R s m args below meth c T locs cells slots) (hx : p.tables.exec = Jvm.exec) (hZ : Z.Warmed39 s.vm) {own C : String} {index : Nat} {y z : MethodName}
    (hown : s.vm.findClass own = some m.cls) (w1 : (Jvm.Cond.methodLink own index y).before a0 Z = true) (w2 : (Jvm.Cond.declares y).before a0 Z = true) (w3 : (Jvm.Cond.selects C y z).before a0 Z = true) (w4 : (Jvm.Cond.instanceMethod z).before a0 Z = true) (nf : NotFace s y)
    (hy : y.cls ≠ "java/lang/invoke/MethodHandle" ∧ y.cls ≠ "java/lang/invoke/VarHandle") {a : Addr} (E : Exa Z h a C)
    (hK : BackQ l R p e below s args z 3 W as' h kc ks Qc) (eT : T.heap = h) {pc : Nat} {Ls : Array Slot} {st : List Value} (hd : decode c.code pc = .ok (.invokevirtual index, 3)) (hsz : Ls.size = c.maxLocals) (argsL rest : List Value)
    (hlen : ∀ sig, parseMethodDescriptor y.desc = some sig → argsL.length = sig.parameters.length) (hst : st = argsL.reverse ++ .ref a :: rest) (has : (.ref a :: argsL).toArray = as') (hW : (rest.map fun v => v.category).sum ≤ W) (hc : cells + kc ≤ R.cells) (hs : slots + ks ≤ R.slots)
    (k : ∀ v T' L, Stand p l e R s m args below meth c T' (locs ++ L) (cells + kc) (slots + ks) → Qc v T'.heap L → Gl p e below s rc rs Q (T'.setTop (mkF m (pc + 3) Ls (v.toList ++ rest)))) :
    Gl p e below s rc rs Q (T.setTop (mkF m pc Ls st)) := by
  obtain ⟨cq, kq, i1, i2, i3⟩ := isOf hZ eT E
  obtain ⟨v, vm₁, ⟨U', ls, cc, sl⟩, hW₁, X', ⟨L, q1, q2, q3, q4⟩, stp⟩ := X.virtualBack hx hown (mvT hZ w1) (mvT hZ w2) nf (mvT hZ w3) (mvT hZ w4) hy hK i1 i3 (g := mkF m pc Ls st) rfl hsz (Steps.refl _) hlen hst (by show 2 * 0 + _ ≤ _; omega) hd (fun _ _ => ⟨has, eT, hc, hs⟩)
  dsimp only [Pt.U, Pt.locs, Pt.cells, Pt.slots] at X' q1 q2 q3 q4 stp
  subst q2 q3 q4
  exact Gl.tr stp (k v U' L X' q1)
theorem Gl.face (X : Stand p l e R s m args below meth c T locs cells slots) (hx : p.tables.exec = Jvm.exec) (hZ : Z.Warmed39 s.vm) {own C : String} {index count : Nat} {y z : MethodName}
    (hown : s.vm.findClass own = some m.cls) (w1 : (Jvm.Cond.methodLink own index y).before a0 Z = true) (w2 : (Jvm.Cond.declares y).before a0 Z = true) (w3 : (Jvm.Cond.interfaceMethod y.cls y.cls y.name y.desc).before args s = true) (w4 : (Jvm.Cond.selects C y z).before a0 Z = true) (w5 : (Jvm.Cond.instanceMethod z).before a0 Z = true)
    (w6 : (Jvm.Cond.publicMethod z).before a0 Z = true) (w7 : (Jvm.Cond.unhidden C y.name y.desc).before a0 Z = true) (w8 : (Jvm.Cond.castable C y.cls).before a0 Z = true)
    (hy : y.cls ≠ "java/lang/invoke/MethodHandle" ∧ y.cls ≠ "java/lang/invoke/VarHandle") {a : Addr} (E : Exa Z h a C)
    (hK : BackQ l R p e below s args z 5 W as' h kc ks Qc) (eT : T.heap = h) {pc : Nat} {Ls : Array Slot} {st : List Value} (hd : decode c.code pc = .ok (.invokeinterface index count, 5)) (hsz : Ls.size = c.maxLocals) (argsL rest : List Value)
    (hlen : ∀ sig, parseMethodDescriptor y.desc = some sig → argsL.length = sig.parameters.length) (hst : st = argsL.reverse ++ .ref a :: rest) (has : (.ref a :: argsL).toArray = as') (hW : (rest.map fun v => v.category).sum ≤ W) (hc : cells + kc ≤ R.cells) (hs : slots + ks ≤ R.slots)
    (k : ∀ v T' L, Stand p l e R s m args below meth c T' (locs ++ L) (cells + kc) (slots + ks) → Qc v T'.heap L → Gl p e below s rc rs Q (T'.setTop (mkF m (pc + 5) Ls (v.toList ++ rest)))) :
    Gl p e below s rc rs Q (T.setTop (mkF m pc Ls st)) := by
  obtain ⟨cq, kq, i1, i2, i3⟩ := isOf hZ eT E
  obtain ⟨v, vm₁, ⟨U', ls, cc, sl⟩, hW₁, X', ⟨L, q1, q2, q3, q4⟩, stp⟩ := X.interfaceBack hx (xi := y) (y := z) hown (mvT hZ w1) (mvT hZ w2) w3 (mvT hZ w4) (mvT hZ w5) (mvT hZ w6) (mvT hZ w7) (mvT hZ w8) hy hK i1 i2 i3 (g := mkF m pc Ls st) rfl hsz (Steps.refl _) hlen hst (by show 2 * 0 + _ ≤ _; omega) hd (fun _ _ => ⟨has, eT, hc, hs⟩)
  dsimp only [Pt.U, Pt.locs, Pt.cells, Pt.slots] at X' q1 q2 q3 q4 stp
  subst q2 q3 q4
  exact Gl.tr stp (k v U' L X' q1)
theorem Gl.priv (X : Stand p l e R s m args below meth c T locs cells slots) (hx : p.tables.exec = Jvm.exec) (hZ : Z.Warmed39 s.vm) {own C : String} {index : Nat} {y : MethodName} {bytes : ByteArray} {maxL : Nat} {ret : Option FieldType}
    (hown : s.vm.findClass own = some m.cls) (w1 : (Jvm.Cond.methodLink own index y).before a0 Z = true) (w2 : (Jvm.Cond.instanceMethod y).before a0 Z = true) (w3 : (Jvm.Cond.selects y.cls y y).before a0 Z = true) (w4 : (Jvm.Cond.privateMethod y).before a0 Z = true) (w5 : (Jvm.Cond.code y bytes maxL ret).before a0 Z = true)
    (hy : y.cls ≠ "java/lang/invoke/MethodHandle" ∧ y.cls ≠ "java/lang/invoke/VarHandle") {a : Addr} (E : Exa Z h a C)
    (hK : BackQ l R p e below s args y 3 W as' h kc ks Qc) (eT : T.heap = h) {pc : Nat} {Ls : Array Slot} {st : List Value} (hd : decode c.code pc = .ok (.invokevirtual index, 3)) (hsz : Ls.size = c.maxLocals) (argsL rest : List Value)
    (hlen : ∀ sig, parseMethodDescriptor y.desc = some sig → argsL.length = sig.parameters.length) (hst : st = argsL.reverse ++ .ref a :: rest) (has : (.ref a :: argsL).toArray = as') (hW : (rest.map fun v => v.category).sum ≤ W) (hc : cells + kc ≤ R.cells) (hs : slots + ks ≤ R.slots)
    (k : ∀ v T' L, Stand p l e R s m args below meth c T' (locs ++ L) (cells + kc) (slots + ks) → Qc v T'.heap L → Gl p e below s rc rs Q (T'.setTop (mkF m (pc + 3) Ls (v.toList ++ rest)))) :
    Gl p e below s rc rs Q (T.setTop (mkF m pc Ls st)) := by
  obtain ⟨cq, i1, i2⟩ := E.cell
  obtain ⟨v, vm₁, ⟨U', ls, cc, sl⟩, hW₁, X', ⟨L, q1, q2, q3, q4⟩, stp⟩ := X.privateBack hx hown (mvT hZ w1) (mvT hZ w2) (mvT hZ w3) (Cond.privateMethod_at (mvP hZ w4 (args := #[]))) (mvT hZ w5) hy hK (g := mkF m pc Ls st) rfl hsz (Steps.refl _) (by rw [eT]; exact i1) i2 hlen hst (by show 2 * 0 + _ ≤ _; omega) hd (fun _ _ => ⟨has, eT, hc, hs⟩)
  dsimp only [Pt.U, Pt.locs, Pt.cells, Pt.slots] at X' q1 q2 q3 q4 stp
  subst q2 q3 q4
  exact Gl.tr stp (k v U' L X' q1)
theorem sameOf {C : String} {y z yy : MethodName} (w3 : (Jvm.Cond.instanceMethod y).before a0 Z = true) (ws : (Jvm.Cond.selects C yy z).before a0 Z = true) (hc : z.cls = y.cls) (hy : y.cls ≠ "java/lang/invoke/MethodHandle" ∧ y.cls ≠ "java/lang/invoke/VarHandle") :
    (Jvm.Cond.sameMethod y.cls y.cls y.name y.desc).before a0 Z = true := by
  obtain ⟨mk, methM, hnamed, -, -, -⟩ := Cond.instanceMethod_spec w3
  obtain ⟨c2, r2, m2, q1, q2, q3, q4, kP, hkP, hkPi⟩ := Cond.selects_spec ws
  have f := State.methodFound?_of_named hnamed hy
  have a := findClass_of_methodNamed hnamed
  have b := findClass_of_methodNamed q3
  rw [hc] at b
  have e : mk.cls = m2.cls := Option.some.inj (a.symm.trans b)
  have hnamed' : Z.methodNamed? ⟨y.cls, y.name, y.desc⟩ = some mk := hnamed
  simp [Cond.before, Cond.holds, Cond.value, a, f, hnamed', e, hkP, hkPi]
theorem declOf {y : MethodName} {bytes : ByteArray} {maxL : Nat} {ret : Option FieldType} (w3 : (Jvm.Cond.instanceMethod y).before a0 Z = true) (wc : (Jvm.Cond.code y bytes maxL ret).before a0 Z = true) : (Jvm.Cond.declares y).before a0 Z = true := by
  obtain ⟨mk, methM, hnamed, hmethM, hstM, -⟩ := Cond.instanceMethod_spec w3
  obtain ⟨m2, cM, q1, -, -, -, -, -, -, hsig⟩ := Cond.code_spec hnamed wc
  cases hmethM.symm.trans q1
  simp [Cond.before, Cond.holds, Cond.value, hnamed, hmethM, hstM, hsig]
theorem Gl.supr (X : Stand p l e R s m args below meth c T locs cells slots) (hx : p.tables.exec = Jvm.exec) (hZ : Z.Warmed39 s.vm) {own K : String} {index : Nat} {y : MethodName} {bytes : ByteArray} {maxL : Nat} {ret : Option FieldType} (hn : y.name ≠ "<init>")
    (hown : s.vm.findClass own = some m.cls) (w1 : (Jvm.Cond.methodLink own index y).before a0 Z = true) (w2 : (Jvm.Cond.sameMethod y.cls y.cls y.name y.desc).before a0 Z = true) (w3 : (Jvm.Cond.instanceMethod y).before a0 Z = true) (w4 : (Jvm.Cond.superclass own y.cls).before a0 Z = true) (wc : (Jvm.Cond.code y bytes maxL ret).before a0 Z = true)
    {a : Addr} (F : Ins Z h a K true)
    (hK : BackQ l R p e below s args y 3 W as' h kc ks Qc) (eT : T.heap = h) {pc : Nat} {Ls : Array Slot} {st : List Value} (hd : decode c.code pc = .ok (.invokespecial index, 3)) (hsz : Ls.size = c.maxLocals) (argsL rest : List Value)
    (hlen : ∀ sig, parseMethodDescriptor y.desc = some sig → argsL.length = sig.parameters.length) (hst : st = argsL.reverse ++ .ref a :: rest) (has : (.ref a :: argsL).toArray = as') (hW : (rest.map fun v => v.category).sum ≤ W) (hc : cells + kc ≤ R.cells) (hs : slots + ks ≤ R.slots)
    (k : ∀ v T' L, Stand p l e R s m args below meth c T' (locs ++ L) (cells + kc) (slots + ks) → Qc v T'.heap L → Gl p e below s rc rs Q (T'.setTop (mkF m (pc + 3) Ls (v.toList ++ rest)))) :
    Gl p e below s rc rs Q (T.setTop (mkF m pc Ls st)) := by
  obtain ⟨v, vm₁, ⟨U', ls, cc, sl⟩, hW₁, X', ⟨L, q1, q2, q3, q4⟩, stp⟩ := superBack X hx hZ hown w1 w2 w3 w4 hn hK eT F (g := mkF m pc Ls st) rfl hsz wc hlen hst (by show 2 * 0 + _ ≤ _; omega) hd (fun _ _ => ⟨has, eT, hc, hs⟩)
  dsimp only [Pt.U, Pt.locs, Pt.cells, Pt.slots] at X' q1 q2 q3 q4 stp
  subst q2 q3 q4
  exact Gl.tr stp (k v U' L X' q1)
theorem nf_of_sel {C : String} {y z y' : MethodName} (hsel : (Jvm.Cond.selects C y z).before args s = true) (hc : z.cls = y'.cls) : NotFace s y' := fun r0 h0 => by
  obtain ⟨c2, r2, m2, q1, q2, q3, q4, kP, hkP, hkPi⟩ := Cond.selects_spec hsel
  have a := findClass_of_methodNamed h0
  have b := findClass_of_methodNamed q3
  rw [hc] at b
  have e : r0.cls = m2.cls := Option.some.inj (a.symm.trans b)
  exact ⟨kP, by rw [e]; exact hkP, hkPi⟩
theorem nea {a b : Nat} (h : a < b ∨ b < a) : a ≠ b := by omega
theorem fitsR {C : String} {v : Value} (h : v.isRef = true) : fits (.object C) v = true := by cases v <;> first | rfl | (simp [Value.isRef] at h)
theorem narR {C : String} {v : Value} : narrow (.object C) v = v := by cases v <;> rfl
theorem isref_cat {v : Value} (h : v.isRef = true) : v.category = 1 := by cases v <;> first | rfl | (simp [Value.isRef] at h)
theorem notAssign {C O K : String} {n : Nat} (w0 : (Jvm.Cond.noSuperclass O).before a0 Z = true) (w1 : (Jvm.Cond.superclass C O).before a0 Z = true) (wi : (Jvm.Cond.instantiable K n).before a0 Z = true) (hn : C ≠ K) (hn' : O ≠ K) :
    ∃ c t, Z.vm.findClass C = some c ∧ Z.vm.findClass K = some t ∧ Z.vm.assignable c t = false := by
  obtain ⟨t, kt, t1, t2, t3, t4, -⟩ := Cond.instantiable_spec wi
  obtain ⟨o, ko, o1, o2, o3, -, -⟩ := Cond.noSuperclass_spec w0
  obtain ⟨c, h0⟩ := found_sup w1
  obtain ⟨p, k, kp, h1, h2, h3, h4, h5, -, h7⟩ := Cond.superclass_spec h0 w1
  cases o1.symm.trans h1
  have ne1 : c ≠ t := ids_ne h0 t1 hn
  have ne2 : o ≠ t := ids_ne o1 t1 hn'
  have t5 : kt.isInterface = false := by
    cases q : kt.isInterface with
    | false => rfl
    | true => rw [q] at t4; cases t4
  have n2 : ∀ fuel, Z.vm.isSubclassAux fuel o t = false := fun fuel => by
    cases fuel with
    | zero => rfl
    | succ f => simp [Vm.isSubclassAux, ne2, o2, o3]
  have n3 : ∀ fuel, Z.vm.isSubclassAux fuel c t = false := fun fuel => by
    cases fuel with
    | zero => rfl
    | succ f => simp [Vm.isSubclassAux, ne1, h2, h4, n2]
  refine ⟨c, t, h0, t1, ?_⟩
  show Z.vm.assignableAux (255 + 1) c t = false
  simp [Vm.assignableAux, ne1, h2, t2, h5, t3, t5, Vm.isSubclass, n3]
end Kit
end Own
end Jvm.Pilot.@@N@@

namespace Jvm.Pilot.@@N@@
namespace Own
open Jvm Jvm.ClassFile Sem Op Lib Jvm.Free Jvm.Stand Jvm.LawKit Jvm.RoadKit
section StrKit
variable {p : Program} {l : Launch} {e : Env} {R : Room} {s : State} {m : MethodId} {args : Array Value} {below : List Frame} {Z : State} {a0 : Array Value} {h h' : Heap} {W n0 : Nat}
/-- a Latin-1 String whose chars are cs -/
def Str (Z : State) (h : Heap) (x : Addr) (cs : List Int32) : Prop :=
  Exa Z h x "java/lang/String" ∧ (∀ c ∈ cs, ¬ c < 0 ∧ ¬ (255 : Int32) < c) ∧ cs.length ≤ 4000 ∧ Fld Z h x "java/lang/String" "coder" "B" (.int 0) ∧
  ∃ (t : Addr) (kb : ClassId), Fld Z h x "java/lang/String" "value" "[B" (.ref t) ∧ Arv Z h t kb .byte (Int32.ofNat cs.length) ((cs.map (fun c => c.toInt8.toInt32)).map Value.int) (.int 0)
theorem Str.exa {x : Addr} {cs : List Int32} (F : Str Z h x cs) : Exa Z h x "java/lang/String" := F.1
theorem Str.lt {x : Addr} {cs : List Int32} (F : Str Z h x cs) : x < h.size := F.1.lt
theorem Str.ext {x : Addr} {cs : List Int32} (F : Str Z h x cs) (E : Ext h h') : Str Z h' x cs := by
  obtain ⟨h1, h2, h3, h4, t, kb, h5, h6⟩ := F
  exact ⟨h1.ext E, h2, h3, h4.ext E, t, kb, h5.ext E, h6.ext E⟩
/-- over a Keep whose written objects are new, or objects of another class -/
theorem Str.keep {x : Addr} {cs : List Int32} {ws : List Addr} (F : Str Z h x cs) (K : Keep h h' ws) (q : ∀ b ∈ ws, h.size ≤ b ∨ ∃ C k, C ≠ "java/lang/String" ∧ Exa Z h b C ∧ (Jvm.Cond.instantiable C k).before a0 Z = true) : Str Z h' x cs := by
  obtain ⟨h1, h2, h3, h4, t, kb, h5, h6⟩ := F
  have n1 : x ∉ ws := fun hx => by
    rcases q x hx with q | ⟨C, k, q1, q2, q3⟩
    · exact absurd h1.lt (Nat.not_lt.mpr q)
    · exact ne_exa q2 h1 q1 rfl
  have n2 : t ∉ ws := fun hx => by
    rcases q t hx with q | ⟨C, k, q1, q2, q3⟩
    · exact absurd h6.lt (Nat.not_lt.mpr q)
    · obtain ⟨c, A, -⟩ := h6
      exact ne_arr q2 q3 A rfl
  exact ⟨h1.keep K, h2, h3, h4.keep K n1, t, kb, h5.keep K n1, h6.keep K n2⟩
theorem Str.keep0 {x : Addr} {cs : List Int32} (F : Str Z h x cs) (K : Keep h h' []) : Str Z h' x cs := F.keep (a0 := #[]) K (fun b hb => nomatch hb)
theorem up255 (cs : List Int32) (h : ∀ c ∈ cs, ¬ c < 0 ∧ ¬ (255 : Int32) < c) : ∀ c ∈ cs, ¬ c < 0 ∧ ¬ (65535 : Int32) < c := fun c hc => ⟨(h c hc).1, fun q => (h c hc).2 (by rw [Int32.lt_iff_toInt_lt] at q ⊢; have e1 : (65535 : Int32).toInt = 65535 := rfl; have e2 : (255 : Int32).toInt = 255 := rfl; omega)⟩
theorem and255_fin (x : Int32) : (x &&& 255) = Int32.ofNat (x &&& 255).toBitVec.toNat ∧ (x &&& 255).toBitVec.toNat < 256 := by
  constructor
  · apply Int32.toBitVec_inj.mp
    show _ = BitVec.ofNat 32 _
    rw [BitVec.ofNat_toNat]; simp
  · simp only [Int32.toBitVec_and, BitVec.toNat_and]
    exact Nat.lt_succ_of_le Nat.and_le_right
theorem and255_char (x : Int32) : (x &&& (255 : Int32)).toUInt32.toUInt16.toUInt32.toInt32 = x &&& 255 ∧ nar .char (x &&& 255) = x &&& 255 ∧ ¬ (x &&& 255) < 0 ∧ ¬ (255 : Int32) < (x &&& 255) := by
  have t : ∀ k : Fin 256, (Int32.ofNat k.val).toUInt32.toUInt16.toUInt32.toInt32 = Int32.ofNat k.val ∧ nar .char (Int32.ofNat k.val) = Int32.ofNat k.val ∧ ¬ (Int32.ofNat k.val) < 0 ∧ ¬ (255 : Int32) < (Int32.ofNat k.val) := by decide +kernel
  obtain ⟨e, hl⟩ := and255_fin x
  rw [e]
  exact t ⟨_, hl⟩
end StrKit
end Own
end Jvm.Pilot.@@N@@

namespace Jvm.Pilot.@@N@@
namespace Own
open Jvm Jvm.ClassFile Sem Op Lib Jvm.Free Jvm.Stand Jvm.LawKit Jvm.RoadKit
theorem payNew {p : Program} {l : Launch} {e : Env} {R : Room} {s : State} {args : Array Value} {below : List Frame} {Z : State} {a0 : Array Value} {h : Heap} {len W n0 n : Nat} (hZ : Z.Warmed39 s.vm) (hw : ∀ d ∈ StrChars.Road.words, d.before a0 Z = true) {kI : Nat} (wi : (Jvm.Cond.instantiable "java/lang/String" kI).before a0 Z = true)
    {x b : Addr} {kC : ClassId} {d v0 c0 : Value} {z N : Int32} (cs : List Int32) (hx0 : n0 ≤ x) (hh0 : n0 ≤ h.size) (E : Exa Z h x "java/lang/String") (V : Fld Z h x "java/lang/String" "value" "[B" v0) (C : Fld Z h x "java/lang/String" "coder" "B" c0) (K : Arv Z h b kC .char N (cs.map Value.int) d)
    (S : Sta Z Z.heap "java/lang/String" "COMPACT_STRINGS" "Z" (.int z)) (hz : ¬ z = 0) (X : Old Z n0 h) (hn : cs.length = n) (hN : N = Int32.ofNat n) (l0 : 0 < n) (l2 : n ≤ 4000) (hp : ∀ c ∈ cs, ¬ c < 0 ∧ ¬ (255 : Int32) < c) (hfr : 4 ≤ R.frames) (hlo : W + 65 ≤ R.locals) :
    BackQ l R p e below s args (⟨"java/lang/String", "<init>", "([C)V"⟩ : MethodName) len W #[.ref x, .ref b] h 1 n (fun v h' L => v = none ∧ Fr n0 L ∧ Keep h h' [x] ∧ Str Z h' x cs) := by
  subst hn hN
  refine Back.mono (StrChars.Road.backV (W := W) hZ hw wi (cs := cs) (bs := cs.map (fun c => c.toInt8.toInt32)) (n := cs.length) hx0 hh0 E V C K (S.ext X.2) hz rfl rfl l0 l2 hp rfl hfr hlo) (fun P a hp => hp) (fun P a v B _ hq => ?_)
  obtain ⟨L, ⟨q1, q2, q3, q4, q5, t, kb, -, -, -, q6, q7⟩, hl, hc, hs⟩ := hq
  exact ⟨L, ⟨q1, q2, q3, q4, hp, l2, q5, t, kb, q6, q7⟩, hl, hc, hs⟩
end Own
end Jvm.Pilot.@@N@@

namespace Jvm.Pilot.@@N@@
namespace Own
open Jvm Jvm.ClassFile Sem Op Lib Jvm.Free Jvm.Stand Jvm.LawKit Jvm.RoadKit
theorem payLen {p : Program} {l : Launch} {e : Env} {R : Room} {s : State} {args : Array Value} {below : List Frame} {Z : State} {a0 : Array Value} {h : Heap} {len W n0 : Nat} (hZ : Z.Warmed39 s.vm) (hw : ∀ d ∈ StrChars.Road.wordsLen, d.before a0 Z = true) {kI : Nat} (wi : (Jvm.Cond.instantiable "java/lang/String" kI).before a0 Z = true)
    {x : Addr} {cs : List Int32} {z : Int32} (A : Str Z h x cs) (S : Sta Z Z.heap "java/lang/String" "COMPACT_STRINGS" "Z" (.int z)) (hz : ¬ z = 0) (X : Old Z n0 h) (hfr : 2 ≤ R.frames) (hlo : W + 25 ≤ R.locals) :
    BackQ l R p e below s args (⟨"java/lang/String", "length", "()I"⟩ : MethodName) len W #[.ref x] h 0 0 (fun v h' L => v = some (.int (Int32.ofNat cs.length)) ∧ L = [] ∧ h' = h) := by
  obtain ⟨h1, h2, h3, h4, t, kb, h5, h6⟩ := A
  exact StrChars.Road.lenW (W := W) hZ hw wi h1 h5 h4 h6 (StrChars.Road.codOf rfl (fun c hc => (h2 c hc).2)) (up255 _ h2) (S.ext X.2) hz h3 hfr hlo
end Own
end Jvm.Pilot.@@N@@

namespace Jvm.Pilot.@@N@@
namespace Own
open Jvm Jvm.ClassFile Sem Op Lib Jvm.Free Jvm.Stand Jvm.LawKit Jvm.RoadKit
theorem payCh {p : Program} {l : Launch} {e : Env} {R : Room} {s : State} {args : Array Value} {below : List Frame} {Z : State} {a0 : Array Value} {h : Heap} {len W n0 : Nat} (hZ : Z.Warmed39 s.vm) (hw : ∀ d ∈ StrChars.Road.wordsChN, d.before a0 Z = true) {kI : Nat} (wi : (Jvm.Cond.instantiable "java/lang/String" kI).before a0 Z = true)
    {x : Addr} {cs : List Int32} {z : Int32} {fm : Value} (A : Str Z h x cs) (S : Sta Z Z.heap "java/lang/String" "COMPACT_STRINGS" "Z" (.int z)) (hz : ¬ z = 0) (F : Sta Z Z.heap "jdk/internal/util/Preconditions" "SIOOBE_FORMATTER" "Ljava/util/function/BiFunction;" fm) (rf : fm.isRef = true) (X : Old Z n0 h)
    (i : Nat) (hi : i < cs.length) (hfr : 4 ≤ R.frames) (hlo : W + 53 ≤ R.locals) :
    BackQ l R p e below s args (⟨"java/lang/String", "charAt", "(I)C"⟩ : MethodName) len W #[.ref x, .int (Int32.ofNat i)] h 0 0 (fun v h' L => v = some (.int (cs.getD i 0)) ∧ L = [] ∧ h' = h) := by
  obtain ⟨h1, h2, h3, h4, t, kb, h5, h6⟩ := A
  exact StrChars.Road.chN (W := W) hZ hw wi h1 h5 h4 h6 (StrChars.Road.codOf rfl (fun c hc => (h2 c hc).2)) (up255 _ h2) (S.ext X.2) hz (F.ext X.2) rf h3 hi rfl hfr hlo
end Own
end Jvm.Pilot.@@N@@
namespace Jvm.Pilot.@@N@@
namespace Own
open Jvm Jvm.ClassFile Sem Op Lib Jvm.Free Jvm.Stand Jvm.LawKit Jvm.RoadKit
section SbKit
variable {p : Program} {l : Launch} {e : Env} {R : Room} {s : State} {m : MethodId} {args : Array Value} {below : List Frame} {meth : Method} {c : Code} {T : State} {locs : List Loc} {cells slots : Nat} {Z : State} {a0 : Array Value} {h h' : Heap}
theorem shr0 (x : Int32) : x >>> ((0 : Int32) &&& 31) = x := by simp
theorem shl0 (x : Int32) : x <<< ((0 : Int32) &&& 31) = x := by simp
theorem ofn_add (a b : Nat) : Int32.ofNat a + Int32.ofNat b = Int32.ofNat (a + b) := by simp
theorem ofn_int {a : Nat} (h : a < 2 ^ 31) : (Int32.ofNat a).toInt = a := by simp [Int32.toInt_ofNat_of_lt h]
theorem ofn_nat {a : Nat} (h : a < 2 ^ 31) : (Int32.ofNat a).toNatClampNeg = a := by simp [Int32.toNatClampNeg, Int32.toInt_ofNat_of_lt h]
theorem ofn_nn {a : Nat} (h : a < 2 ^ 31) : ¬ Int32.ofNat a < 0 := by
  rw [Int32.lt_iff_toInt_lt, Int32.toInt_ofNat_of_lt h]; have : (0 : Int32).toInt = 0 := rfl; omega
theorem ofn_sub {a b : Nat} (h : a ≤ b) : Int32.ofNat b - Int32.ofNat a = Int32.ofNat (b - a) := by
  have e : Int32.ofNat b = Int32.ofNat (b - a) + Int32.ofNat a := by rw [ofn_add, Nat.sub_add_cancel h]
  rw [e, Int32.add_sub_cancel]
theorem ofn_lt {a b : Nat} (h : a < b) (hb : b < 2 ^ 31) : Int32.ofNat a < Int32.ofNat b := by
  rw [Int32.lt_iff_toInt_lt, ofn_int hb, ofn_int (by omega)]; omega
theorem ofn_nlt {a b : Nat} (h : b ≤ a) (ha : a < 2 ^ 31) : ¬ Int32.ofNat a < Int32.ofNat b := by
  rw [Int32.lt_iff_toInt_lt, ofn_int ha, ofn_int (by omega)]; omega
theorem ofn_inj {a b : Nat} (ha : a < 2 ^ 31) (hb : b < 2 ^ 31) (h : Int32.ofNat a = Int32.ofNat b) : a = b := by
  have := congrArg Int32.toInt h; rw [ofn_int ha, ofn_int hb] at this; omega
theorem ofn_ne {a b : Nat} (ha : a < 2 ^ 31) (hb : b < 2 ^ 31) (h : a ≠ b) : ¬ Int32.ofNat a = Int32.ofNat b := fun q => h (ofn_inj ha hb q)
theorem ens_le {k n : Nat} (h : k ≤ n) (hn : n < 2 ^ 31) : ¬ (0 : Int32) < Int32.ofNat k - Int32.ofNat n := by
  have e : Int32.ofNat k - Int32.ofNat n = - Int32.ofNat (n - k) := by rw [← ofn_sub h, Int32.neg_sub]
  rw [e, Int32.lt_iff_toInt_lt]
  have z : (0 : Int32).toInt = 0 := rfl
  rw [z]
  have hm : (Int32.ofNat (n - k)).toInt = (n - k : Nat) := ofn_int (by omega)
  have : (-Int32.ofNat (n - k)).toInt = -((n - k : Nat) : Int) := by
    rw [Int32.toInt_neg, hm]
    apply Int.bmod_eq_of_le <;> omega
  omega
theorem ens_gt {k n : Nat} (h : n < k) (hn : k < 2 ^ 31) : (0 : Int32) < Int32.ofNat k - Int32.ofNat n := by
  rw [ofn_sub (by omega)]; exact ofn_lt (a := 0) (by omega) (by omega)
def bts (cs : List Int32) : List Value := (cs.map (fun c => c.toInt8.toInt32)).map Value.int
theorem bts_len (cs : List Int32) : (bts cs).length = cs.length := by simp [bts]
theorem bts_app (a b : List Int32) : bts (a ++ b) = bts a ++ bts b := by simp [bts]
/-- n components, the first of them the bytes of cs, the others 0 -/
def pads (cs : List Int32) (n : Nat) : List Value := bts cs ++ List.replicate (n - cs.length) (.int 0)
theorem pads_len {cs : List Int32} {n : Nat} (h : cs.length ≤ n) : (pads cs n).length = n := by simp [pads, bts_len]; omega
theorem pads_app {cs ds : List Int32} {n : Nat} (h : cs.length + ds.length ≤ n) : (pads cs n).take cs.length ++ bts ds ++ (pads cs n).drop (cs.length + ds.length) = pads (cs ++ ds) n := by
  have l : (bts cs).length = cs.length := bts_len cs
  simp only [pads, bts_app]
  rw [List.take_append_of_le_length (by omega), ← l, List.take_length, List.drop_append, List.drop_of_length_le (by omega), List.nil_append, List.drop_replicate]
  congr 2
  simp; omega
theorem range_all (vs : List Value) (d : Value) {k : Nat} (hk : k ≤ vs.length) : ((List.range k).map fun i => vs.getD (0 + i) d) = vs.take k := by
  apply List.ext_getElem (by simp; omega)
  intro i h1 h2
  simp at h1 h2 ⊢
  rw [List.getElem?_eq_getElem (by omega)]; rfl
theorem pads_take {cs : List Int32} {n : Nat} (h : cs.length ≤ n) : (pads cs n).take cs.length = bts cs := by
  rw [pads, List.take_append_of_le_length (by rw [bts_len]; exact Nat.le_refl _), ← bts_len cs, List.take_length]
theorem pads_self (cs : List Int32) : pads cs cs.length = bts cs := by simp [pads]
theorem pads_grow {cs : List Int32} {n n' : Nat} (h : cs.length ≤ n) (h' : n ≤ n') : (List.replicate n' (Value.int 0)).take 0 ++ (pads cs n).take n ++ (List.replicate n' (Value.int 0)).drop (0 + n) = pads cs n' := by
  rw [List.take_of_length_le (l := pads cs n) (by rw [pads_len h]; exact Nat.le_refl _)]
  simp only [List.take_zero, List.nil_append, pads, List.append_assoc, List.drop_replicate, List.replicate_append_replicate, List.length_append, bts_len, List.length_replicate]
  congr 2; omega
theorem pads_set {cs : List Int32} {n : Nat} {c : Int32} (h : cs.length + 1 ≤ n) : (pads cs n).set cs.length (.int c.toInt8.toInt32) = pads (cs ++ [c]) n := by
  have l : (bts cs).length = cs.length := bts_len cs
  rw [pads, pads, bts_app, List.set_append_right _ _ (by omega), l, Nat.sub_self]
  obtain ⟨k, hk⟩ : ∃ k, n - cs.length = k + 1 := ⟨n - cs.length - 1, by omega⟩
  rw [hk, List.replicate_succ, List.set_cons_zero, List.append_assoc]
  congr 1
  simp [bts]; omega
theorem pads_set2 {cs : List Int32} {n : Nat} {c d : Int32} (h : cs.length + 2 ≤ n) : ((pads cs n).set (cs.length + 1) (.int d.toInt8.toInt32)).set cs.length (.int c.toInt8.toInt32) = pads (cs ++ [c, d]) n := by
  have l : (bts cs).length = cs.length := bts_len cs
  rw [pads, pads, bts_app, List.set_append_right _ _ (by omega), l, show cs.length + 1 - cs.length = 1 by omega]
  obtain ⟨k, hk⟩ : ∃ k, n - cs.length = k + 1 + 1 := ⟨n - cs.length - 2, by omega⟩
  rw [hk, List.replicate_succ, List.replicate_succ, List.set_cons_succ, List.set_cons_zero, List.set_append_right _ _ (by omega), l, Nat.sub_self, List.set_cons_zero, List.append_assoc]
  congr 1
  simp [bts]; omega
theorem range_bts (ds : List Int32) : ((List.range ds.length).map fun i => ((ds.map (fun c => c.toInt8.toInt32)).map Value.int).getD (0 + i) (.int 0)) = bts ds := by
  rw [range_all _ _ (by simp), List.take_of_length_le (by simp)]; rfl
theorem copy_bts {cs : List Int32} {n : Nat} (h : cs.length ≤ n) : (List.replicate cs.length (Value.int 0)).take 0 ++ ((List.range cs.length).map fun i => (pads cs n).getD (0 + i) (.int 0)) ++ (List.replicate cs.length (Value.int 0)).drop (0 + cs.length) = bts cs := by
  rw [range_all _ _ (by rw [pads_len h]; exact h), pads_take h]; simp
theorem grow_bts {cs : List Int32} {n n' : Nat} (h : cs.length ≤ n) (h' : n ≤ n') : (List.replicate n' (Value.int 0)).take 0 ++ ((List.range n).map fun i => (pads cs n).getD (0 + i) (.int 0)) ++ (List.replicate n' (Value.int 0)).drop (0 + n) = pads cs n' := by
  rw [range_all _ _ (by rw [pads_len h]; exact Nat.le_refl _)]; exact pads_grow h h'
/-- a StringBuilder of Latin-1 chars cs, her array vb of n bytes -/
def Sbo (Z : State) (h : Heap) (sb vb : Nat) (kb : ClassId) (cs : List Int32) (n : Nat) : Prop :=
  Exa Z h sb "java/lang/StringBuilder" ∧ Fld Z h sb "java/lang/AbstractStringBuilder" "value" "[B" (.ref vb) ∧ Fld Z h sb "java/lang/AbstractStringBuilder" "coder" "B" (.int 0) ∧ Fld Z h sb "java/lang/AbstractStringBuilder" "count" "I" (.int (Int32.ofNat cs.length)) ∧
  Arv Z h vb kb .byte (Int32.ofNat n) (pads cs n) (.int 0) ∧ cs.length ≤ n ∧ n ≤ 4000 ∧ ∀ c ∈ cs, ¬ c < 0 ∧ ¬ (255 : Int32) < c
theorem chars_app {cs ds : List Int32} (h1 : ∀ c ∈ cs, ¬ c < 0 ∧ ¬ (255 : Int32) < c) (h2 : ∀ c ∈ ds, ¬ c < 0 ∧ ¬ (255 : Int32) < c) : ∀ c ∈ cs ++ ds, ¬ c < 0 ∧ ¬ (255 : Int32) < c := fun c hc => (List.mem_append.mp hc).elim (h1 c) (h2 c)
/-- arraycopy of primitives, in natural numbers -/
theorem cpN (X : Stand p l e R s m args below meth c T locs cells slots) (hx : p.tables.exec = Jvm.exec) (hZ : Z.Warmed39 s.vm) {own : String} {index : Nat} (hown : s.vm.findClass own = some m.cls)
    (w1 : (Jvm.Cond.methodLink own index Jvm.Stand.acN).before a0 Z = true) (w2 : (Jvm.Cond.native Jvm.Stand.acN).before a0 Z = true) (w3 : (Jvm.Cond.static Jvm.Stand.acN).before a0 Z = true) (w4 : (Jvm.Cond.initialized "java/lang/System").before a0 Z = true) (eT : T.heap = h)
    {a b : Nat} {k k' : ClassId} {ty : FieldType} {z z' : Nat} {vs vd : List Value} {dv dd : Value} (A : Arv Z h a k ty (Int32.ofNat z) vs dv) (B : Arv Z h b k' ty (Int32.ofNat z') vd dd) (hty : refKind ty = false) (sp dp nn : Nat)
    (h4 : sp + nn ≤ z) (h5 : dp + nn ≤ z') (hz : z < 2 ^ 31) (hz' : z' < 2 ^ 31) (hl : vd.length = z') {n0 : Nat} (N : Fr n0 locs) (ge : n0 ≤ b)
    {g : JFrame} (hg : g.method = m) (hsize : g.locals.size = c.maxLocals) {rest : List Value} (hs : g.stack = .int (Int32.ofNat nn) :: .int (Int32.ofNat dp) :: .ref b :: .int (Int32.ofNat sp) :: .ref a :: rest) (hd : decode c.code g.pc = .ok (.invokestatic index, 3))
    (hf : 1 ≤ R.frames) {W : Nat} (hW : 2 * g.monitorRoom + (rest.map fun v => v.category).sum ≤ W) (hlo : W + (nativeFrameWords "java/lang/System" "arraycopy" 5 + 11) ≤ R.locals) :
    ∃ T' h' L, Stand p l e R s m args below meth c T' L cells slots ∧ T'.heap = h' ∧ Fr n0 L ∧ Keep h h' [b] ∧ Arv Z h' b k' ty (Int32.ofNat z') (vd.take dp ++ ((List.range nn).map fun i => vs.getD (sp + i) dv) ++ vd.drop (dp + nn)) dd ∧
      ∀ target, Steps p.tables e below (T'.setTop { g with pc := g.pc + 3, stack := rest }) target → Steps p.tables e below (T.setTop g) target := by
  have e1 := ofn_nat (a := sp) (by omega)
  have e2 := ofn_nat (a := dp) (by omega)
  have e3 := ofn_nat (a := nn) (by omega)
  have e4 := ofn_nat hz
  have e5 := ofn_nat hz'
  obtain ⟨T', h', L, r1, r2, r3, r4, r5, r6⟩ := cpA X hx hZ hown w1 w2 w3 w4 eT (sp := Int32.ofNat sp) (dp := Int32.ofNat dp) (nn := Int32.ofNat nn) (us := (List.range nn).map fun i => vs.getD (sp + i) dv) A B (Or.inl ⟨rfl, hty⟩) (ofn_nn (by omega)) (ofn_nn (by omega)) (ofn_nn (by omega)) (by rw [e1, e3, e4]; exact h4) (by rw [e2, e3, e5]; exact h5) (by rw [e1, e3]) (by rw [e2, e3, hl]; exact h5) N ge hg hsize hs hd hf hW hlo
  rw [e2, e3] at r5
  exact ⟨T', h', L, r1, r2, r3, r4, r5, r6⟩
theorem ne_arv {a b : Nat} {C : String} {n : Nat} {k : ClassId} {ty : FieldType} {z : Int32} {vs : List Value} {d : Value} (E : Exa Z h a C) (wi : (Jvm.Cond.instantiable C n).before a0 Z = true) (V : Arv Z h b k ty z vs d) : a ≠ b := by
  obtain ⟨c, A, -⟩ := V
  exact ne_arr E wi A
end SbKit
end Own
end Jvm.Pilot.@@N@@
namespace Jvm.Pilot.@@N@@
namespace Own
open Jvm Jvm.ClassFile Sem Op Lib Jvm.Free Jvm.Stand Jvm.LawKit Jvm.RoadKit
section KitH
variable {p : Program} {l : Launch} {e : Env} {R : Room} {s sT : State} {m : MethodId} {args : Array Value} {below : List Frame} {meth : Method} {c : Code} {T : State} {locs : List Loc} {cells slots : Nat} {Z : State} {a0 : Array Value} {h h' h0 : Heap} {EL : List (String × Nat)}
/-- as Gl, where String constants may be interned on the way and what is booked stays readable -/
def GlH (p : Program) (e : Env) (below : List Frame) (Z : State) (EL : List (String × Nat)) (sT : State) (h0 : Heap) (rc rs : Nat) (Q : Option Value → Heap → List Loc → Prop) (S : State) : Prop :=
  ∃ s₂ o, Steps p.tables e below S s₂ ∧ s₂.status = .running ∧ Ended s₂ below o ∧ ∃ v L, o = .returned v ∧ Q v s₂.heap L ∧ CHr Z EL sT.vm h0 s₂.vm s₂.heap ∧ ReturnedEndW sT o s₂ L rc rs
/-- the base at hand: the true start sT with later tables; the heap at hand -/
def Hs (Z : State) (EL : List (String × Nat)) (sT : State) (h0 : Heap) (s : State) (h : Heap) : Prop := (∃ vm n, s = sT.setVm vm ∧ sT.Since vm n ∧ n ≤ h.size) ∧ CHr Z EL sT.vm h0 s.vm h
theorem Hs.start (s : State) (H : CHv Z EL s.vm h) : Hs Z EL s h s h := ⟨⟨s.vm, 0, rfl, (State.WarmedH.refl s).since 0, Nat.zero_le _⟩, CHr.refl H⟩
theorem Hs.ext (B : Hs Z EL sT h0 s h) (E : Ext h h') : Hs Z EL sT h0 s h' := by
  obtain ⟨⟨vm, n, a, b, d⟩, q⟩ := B
  exact ⟨⟨vm, n, a, b, Nat.le_trans d E.1⟩, q.trans (CHr.ext E q.1)⟩
theorem Hs.keep {ws : List Addr} (B : Hs Z EL sT h0 s h) (K : Keep h h' ws) (hs : ∀ x ∈ ws, Safe Z EL s.vm h x) : Hs Z EL sT h0 s h' := by
  obtain ⟨⟨vm, n, a, b, d⟩, q⟩ := B
  exact ⟨⟨vm, n, a, b, Nat.le_trans d K.1⟩, q.trans (CHr.keep K hs q.1)⟩
theorem Hs.wr {a : Addr} {sl : Nat} {v : Value} (B : Hs Z EL sT h0 s h) (W : Wr h h' a sl v) (S : Safe Z EL s.vm h a) : Hs Z EL sT h0 s h' := by
  obtain ⟨⟨vm, n, a, b, d⟩, q⟩ := B
  have k := CHr.wr W S q.1
  exact ⟨⟨vm, n, a, b, Nat.le_trans d k.2.1⟩, q.trans k⟩
theorem SafeX.ext {x : Addr} (S : Safe Z EL s.vm h x) (B : Hs Z EL sT h0 s h) (E : Ext h h') : Safe Z EL s.vm h' x := Safe.ext E B.2.1 S
theorem SafeX.keep {x : Addr} {ws : List Addr} (S : Safe Z EL s.vm h x) (B : Hs Z EL sT h0 s h) (K : Keep h h' ws) (hs : ∀ x ∈ ws, Safe Z EL s.vm h x) : Safe Z EL s.vm h' x := Safe.keep K hs B.2.1 S
theorem SafeX.wr {a x : Addr} {sl : Nat} {v : Value} (Sx : Safe Z EL s.vm h x) (B : Hs Z EL sT h0 s h) (W : Wr h h' a sl v) (S : Safe Z EL s.vm h a) : Safe Z EL s.vm h' x := Safe.wr W S B.2.1 Sx
theorem ltA {a b : Nat} (q : a < b) : @LT.lt Addr _ a b := q
theorem safe_arv {x : Addr} {k : ClassId} {ty : FieldType} {n : Int32} {vs : List Value} {d : Value} (hZ : Z.Warmed39 s.vm) (V : Arv Z h x k ty n vs d) (ht : ty ≠ .byte) : Safe Z EL s.vm h x := by
  obtain ⟨c, A, -⟩ := V
  exact Safe.arr hZ.alike A ht
variable {rc rs : Nat} {Q : Option Value → Heap → List Loc → Prop} {S S' : State}
theorem GlH.by (k : ∀ t, Steps p.tables e below S' t → Steps p.tables e below S t) (g : GlH p e below Z EL sT h0 rc rs Q S') : GlH p e below Z EL sT h0 rc rs Q S := by
  obtain ⟨t, o, h1, h2⟩ := g
  exact ⟨t, o, k t h1, h2⟩
theorem GlH.tr (k : Steps p.tables e below S S') (g : GlH p e below Z EL sT h0 rc rs Q S') : GlH p e below Z EL sT h0 rc rs Q S := GlH.by (fun _ q => k.trans q) g
theorem endH_mono {s t : State} {o : Outcome} {L : List Loc} {k n k' n' : Nat} (h : ReturnedEndW s o t L k n) (hk : k ≤ k') (hn : n ≤ n') : ReturnedEndW s o t L k' n' := ⟨h.1, h.2.1, h.2.2.1, h.2.2.2.mono hk hn⟩
theorem leaveH (X : Stand p l e R s m args below meth c T locs cells slots) (B : Hs Z EL sT h0 s h) (eT : T.heap = h) (hZ : Z.Warmed39 s.vm) (hEL : EW Z a0 EL) {v : Option Value} (hv : meth.sig.returnType = none → v = none) (hlk : meth.locks = false) :
    ∃ fs, (∀ (f : JFrame) (acts : List Action), f.method = m → f.locked = none → f.entered = [] → (doReturn e (T.setTop f) acts v).1 = T.setFrames fs) ∧
      (T.setFrames fs).status = .running ∧ Ended (T.setFrames fs) below (.returned v) ∧ ReturnedEndW sT (.returned v) (T.setFrames fs) locs cells slots ∧ CHr Z EL sT.vm h0 (T.setFrames fs).vm (T.setFrames fs).heap := by
  obtain ⟨⟨vm, n, rfl, h2, h3⟩, q⟩ := B
  subst eT
  obtain ⟨fs, k1, k2, k3, k4⟩ := X.leaveW h2 h3 hv hlk
  have r : CHr Z EL vm T.heap T.vm T.heap := CHv.at (s := sT) (vm0 := vm) X hZ hEL q.1
  exact ⟨fs, k1, k2, k3, k4, q.trans r⟩
theorem GlH.retZ (X : Stand p l e R s m args below meth c T locs cells slots) (B : Hs Z EL sT h0 s h) (eT : T.heap = h) (hZ : Z.Warmed39 s.vm) (hEL : EW Z a0 EL) (hx : p.tables.exec = Jvm.exec) (hlk : meth.locks = false) {t : FieldType} (hret : meth.sig.returnType = some t) (ht : t = .boolean ∨ t = .byte ∨ t = .char ∨ t = .short) {pc : Nat} {Ls : Array Slot} {z : Int32} {rest : List Value} (hd : decode c.code pc = .ok (.ireturn, 1)) (hc : cells ≤ rc) (hs : slots ≤ rs) (hq : Q (some (.int (nar t z))) T.heap locs) :
    GlH p e below Z EL sT h0 rc rs Q (T.setTop (mkF m pc Ls (.int z :: rest))) := by
  obtain ⟨fs, hr, hrun, hended, hW, hC⟩ := leaveH X B eT hZ hEL (v := some (.int (nar t z))) (fun h => by rw [hret] at h; cases h) hlk
  exact ⟨_, _, retN X hx hret ht hd hr, hrun, hended, _, _, rfl, hq, hC, endH_mono hW hc hs⟩
theorem GlH.retI (X : Stand p l e R s m args below meth c T locs cells slots) (B : Hs Z EL sT h0 s h) (eT : T.heap = h) (hZ : Z.Warmed39 s.vm) (hEL : EW Z a0 EL) (hx : p.tables.exec = Jvm.exec) (hlk : meth.locks = false) (hret : meth.sig.returnType = some .int) {pc : Nat} {Ls : Array Slot} {z : Int32} {rest : List Value} (hd : decode c.code pc = .ok (.ireturn, 1)) (hc : cells ≤ rc) (hs : slots ≤ rs) (hq : Q (some (.int z)) T.heap locs) :
    GlH p e below Z EL sT h0 rc rs Q (T.setTop (mkF m pc Ls (.int z :: rest))) := by
  obtain ⟨fs, hr, hrun, hended, hW, hC⟩ := leaveH X B eT hZ hEL (v := some (.int z)) (fun h => by rw [hret] at h; cases h) hlk
  refine ⟨_, _, ?_, hrun, hended, _, _, rfl, hq, hC, endH_mono hW hc hs⟩
  have hm' : T.vm.method? m = some meth := X.method'
  have hn : narrow .int (.int z) = .int z := rfl
  show Steps p.tables e below (T.setTop { method := m, pc := pc, locals := Ls, stack := _ :: rest, locked := none }) _
  jvm_step X.here [X.here.top, hx, hd, hm', hret, hn]
  first | (intro acts; rw [hr _ acts rfl rfl rfl]) | rw [hr _ _ rfl rfl rfl]
  exact Steps.refl _
theorem GlH.retA (X : Stand p l e R s m args below meth c T locs cells slots) (B : Hs Z EL sT h0 s h) (eT : T.heap = h) (hZ : Z.Warmed39 s.vm) (hEL : EW Z a0 EL) (hx : p.tables.exec = Jvm.exec) (hlk : meth.locks = false) {t : FieldType} (hret : meth.sig.returnType = some t) (ht : t.isReference = true) {pc : Nat} {Ls : Array Slot} {w : Value} {rest : List Value} (hv : w.isRef = true) (hd : decode c.code pc = .ok (.areturn, 1)) (hc : cells ≤ rc) (hs : slots ≤ rs) (hq : Q (some w) T.heap locs) :
    GlH p e below Z EL sT h0 rc rs Q (T.setTop (mkF m pc Ls (w :: rest))) := by
  obtain ⟨fs, hr, hrun, hended, hW, hC⟩ := leaveH X B eT hZ hEL (v := some w) (fun h => by rw [hret] at h; cases h) hlk
  refine ⟨_, _, ?_, hrun, hended, _, _, rfl, hq, hC, endH_mono hW hc hs⟩
  have hm' : T.vm.method? m = some meth := X.method'
  show Steps p.tables e below (T.setTop { method := m, pc := pc, locals := Ls, stack := _ :: rest, locked := none }) _
  jvm_step X.here [X.here.top, hx, hd, hm', hret, hv, ht]
  first | (intro acts; rw [hr _ acts rfl rfl rfl]) | rw [hr _ _ rfl rfl rfl]
  exact Steps.refl _
theorem GlH.retV (X : Stand p l e R s m args below meth c T locs cells slots) (B : Hs Z EL sT h0 s h) (eT : T.heap = h) (hZ : Z.Warmed39 s.vm) (hEL : EW Z a0 EL) (hx : p.tables.exec = Jvm.exec) (hlk : meth.locks = false) (hret : meth.sig.returnType = none) {pc : Nat} {Ls : Array Slot} (hd : decode c.code pc = .ok (.return_, 1)) (hc : cells ≤ rc) (hs : slots ≤ rs) (hq : Q none T.heap locs) :
    GlH p e below Z EL sT h0 rc rs Q (T.setTop (mkF m pc Ls [])) := by
  obtain ⟨fs, hr, hrun, hended, hW, hC⟩ := leaveH X B eT hZ hEL (v := none) (fun _ => rfl) hlk
  exact ⟨_, _, X.returnOut hx hret hd hr, hrun, hended, _, _, rfl, hq, hC, endH_mono hW hc hs⟩
variable {W kc ks : Nat} {as' : Array Value} {Qc : Option Value → Heap → List Loc → Prop}
theorem GlH.stat (X : Stand p l e R s m args below meth c T locs cells slots) (hx : p.tables.exec = Jvm.exec) (hZ : Z.Warmed39 s.vm) {own : String} {index : Nat} {y : MethodName} {bytes : ByteArray} {maxL : Nat} {ret : Option FieldType}
    (hown : s.vm.findClass own = some m.cls) (w1 : (Jvm.Cond.methodLink own index y).before a0 Z = true) (w2 : (Jvm.Cond.static y).before a0 Z = true) (w3 : (Jvm.Cond.initialized y.cls).before a0 Z = true)
    (w4 : (Jvm.Cond.code y bytes maxL ret).before a0 Z = true) (hy : y.cls ≠ "java/lang/invoke/MethodHandle" ∧ y.cls ≠ "java/lang/invoke/VarHandle")
    (hK : BackQ l R p e below s args y 3 W as' h kc ks Qc) (eT : T.heap = h) {pc : Nat} {Ls : Array Slot} {st : List Value} (hd : decode c.code pc = .ok (.invokestatic index, 3)) (hsz : Ls.size = c.maxLocals) (argsL rest : List Value)
    (hlen : ∀ sig, parseMethodDescriptor y.desc = some sig → argsL.length = sig.parameters.length) (hst : st = argsL.reverse ++ rest) (has : argsL.toArray = as') (hW : (rest.map fun v => v.category).sum ≤ W) (hc : cells + kc ≤ R.cells) (hs : slots + ks ≤ R.slots)
    (k : ∀ v T' L, Stand p l e R s m args below meth c T' (locs ++ L) (cells + kc) (slots + ks) → Qc v T'.heap L → GlH p e below Z EL sT h0 rc rs Q (T'.setTop (mkF m (pc + 3) Ls (v.toList ++ rest)))) :
    GlH p e below Z EL sT h0 rc rs Q (T.setTop (mkF m pc Ls st)) := by
  obtain ⟨v, vm₁, ⟨U', ls, cc, sl⟩, hW₁, X', ⟨L, q1, q2, q3, q4⟩, stp⟩ := Jvm.LawKit.callS X hx hown (mvT hZ w1) (mvT hZ w2) (mvT hZ w3) (mvT hZ w4) hy hK (g := mkF m pc Ls st) rfl hsz hlen hst (by show 2 * 0 + _ ≤ _; omega) hd (fun _ _ => ⟨has, eT, hc, hs⟩)
  dsimp only [Pt.U, Pt.locs, Pt.cells, Pt.slots] at X' q1 q2 q3 q4 stp
  subst q2 q3 q4
  exact GlH.by stp (k v U' L X' q1)
theorem GlH.spec (X : Stand p l e R s m args below meth c T locs cells slots) (hx : p.tables.exec = Jvm.exec) (hZ : Z.Warmed39 s.vm) {own : String} {index : Nat} {y : MethodName} {bytes : ByteArray} {maxL : Nat} (hy1 : y.name = "<init>")
    (hown : s.vm.findClass own = some m.cls) (w1 : (Jvm.Cond.methodLink own index y).before a0 Z = true) (w2 : (Jvm.Cond.instanceMethod y).before a0 Z = true)
    (w4 : (Jvm.Cond.code y bytes maxL none).before a0 Z = true) (hy : y.cls ≠ "java/lang/invoke/MethodHandle" ∧ y.cls ≠ "java/lang/invoke/VarHandle")
    (hK : BackQ l R p e below s args y 3 W as' h kc ks Qc) (eT : T.heap = h) {pc : Nat} {Ls : Array Slot} {st : List Value} (hd : decode c.code pc = .ok (.invokespecial index, 3)) (hsz : Ls.size = c.maxLocals) (a : Addr) (argsL rest : List Value)
    (hlen : ∀ sig, parseMethodDescriptor y.desc = some sig → argsL.length = sig.parameters.length) (hst : st = argsL.reverse ++ .ref a :: rest) (has : (.ref a :: argsL).toArray = as') (hW : (rest.map fun v => v.category).sum ≤ W) (hc : cells + kc ≤ R.cells) (hs : slots + ks ≤ R.slots)
    (k : ∀ v T' L, Stand p l e R s m args below meth c T' (locs ++ L) (cells + kc) (slots + ks) → Qc v T'.heap L → GlH p e below Z EL sT h0 rc rs Q (T'.setTop (mkF m (pc + 3) Ls (v.toList ++ rest)))) :
    GlH p e below Z EL sT h0 rc rs Q (T.setTop (mkF m pc Ls st)) := by
  obtain ⟨v, vm₁, ⟨U', ls, cc, sl⟩, hW₁, X', ⟨L, q1, q2, q3, q4⟩, stp⟩ := X.specialBack hx hy1 hown (mvT hZ w1) (mvT hZ w2) (mvT hZ w4) hy hK (g := mkF m pc Ls st) rfl hsz (Steps.refl _) hlen hst (by show 2 * 0 + _ ≤ _; omega) hd (fun _ _ => ⟨has, eT, hc, hs⟩)
  dsimp only [Pt.U, Pt.locs, Pt.cells, Pt.slots] at X' q1 q2 q3 q4 stp
  subst q2 q3 q4
  exact GlH.tr stp (k v U' L X' q1)
theorem GlH.virt (X : Stand p l e R s m args below meth c T locs cells slots) (hx : p.tables.exec = Jvm.exec) (hZ : Z.Warmed39 s.vm) {own C : String} {index : Nat} {y z : MethodName}
    (hown : s.vm.findClass own = some m.cls) (w1 : (Jvm.Cond.methodLink own index y).before a0 Z = true) (w2 : (Jvm.Cond.declares y).before a0 Z = true) (w3 : (Jvm.Cond.selects C y z).before a0 Z = true) (w4 : (Jvm.Cond.instanceMethod z).before a0 Z = true) (nf : NotFace s y)
    (hy : y.cls ≠ "java/lang/invoke/MethodHandle" ∧ y.cls ≠ "java/lang/invoke/VarHandle") {a : Addr} (E : Exa Z h a C)
    (hK : BackQ l R p e below s args z 3 W as' h kc ks Qc) (eT : T.heap = h) {pc : Nat} {Ls : Array Slot} {st : List Value} (hd : decode c.code pc = .ok (.invokevirtual index, 3)) (hsz : Ls.size = c.maxLocals) (argsL rest : List Value)
    (hlen : ∀ sig, parseMethodDescriptor y.desc = some sig → argsL.length = sig.parameters.length) (hst : st = argsL.reverse ++ .ref a :: rest) (has : (.ref a :: argsL).toArray = as') (hW : (rest.map fun v => v.category).sum ≤ W) (hc : cells + kc ≤ R.cells) (hs : slots + ks ≤ R.slots)
    (k : ∀ v T' L, Stand p l e R s m args below meth c T' (locs ++ L) (cells + kc) (slots + ks) → Qc v T'.heap L → GlH p e below Z EL sT h0 rc rs Q (T'.setTop (mkF m (pc + 3) Ls (v.toList ++ rest)))) :
    GlH p e below Z EL sT h0 rc rs Q (T.setTop (mkF m pc Ls st)) := by
  obtain ⟨cq, kq, i1, i2, i3⟩ := isOf hZ eT E
  obtain ⟨v, vm₁, ⟨U', ls, cc, sl⟩, hW₁, X', ⟨L, q1, q2, q3, q4⟩, stp⟩ := X.virtualBack hx hown (mvT hZ w1) (mvT hZ w2) nf (mvT hZ w3) (mvT hZ w4) hy hK i1 i3 (g := mkF m pc Ls st) rfl hsz (Steps.refl _) hlen hst (by show 2 * 0 + _ ≤ _; omega) hd (fun _ _ => ⟨has, eT, hc, hs⟩)
  dsimp only [Pt.U, Pt.locs, Pt.cells, Pt.slots] at X' q1 q2 q3 q4 stp
  subst q2 q3 q4
  exact GlH.tr stp (k v U' L X' q1)
theorem GlH.face (X : Stand p l e R s m args below meth c T locs cells slots) (hx : p.tables.exec = Jvm.exec) (hZ : Z.Warmed39 s.vm) {own C : String} {index count : Nat} {y z : MethodName}
    (hown : s.vm.findClass own = some m.cls) (w1 : (Jvm.Cond.methodLink own index y).before a0 Z = true) (w2 : (Jvm.Cond.declares y).before a0 Z = true) (w3 : (Jvm.Cond.interfaceMethod y.cls y.cls y.name y.desc).before args s = true) (w4 : (Jvm.Cond.selects C y z).before a0 Z = true) (w5 : (Jvm.Cond.instanceMethod z).before a0 Z = true)
    (w6 : (Jvm.Cond.publicMethod z).before a0 Z = true) (w7 : (Jvm.Cond.unhidden C y.name y.desc).before a0 Z = true) (w8 : (Jvm.Cond.castable C y.cls).before a0 Z = true)
    (hy : y.cls ≠ "java/lang/invoke/MethodHandle" ∧ y.cls ≠ "java/lang/invoke/VarHandle") {a : Addr} (E : Exa Z h a C)
    (hK : BackQ l R p e below s args z 5 W as' h kc ks Qc) (eT : T.heap = h) {pc : Nat} {Ls : Array Slot} {st : List Value} (hd : decode c.code pc = .ok (.invokeinterface index count, 5)) (hsz : Ls.size = c.maxLocals) (argsL rest : List Value)
    (hlen : ∀ sig, parseMethodDescriptor y.desc = some sig → argsL.length = sig.parameters.length) (hst : st = argsL.reverse ++ .ref a :: rest) (has : (.ref a :: argsL).toArray = as') (hW : (rest.map fun v => v.category).sum ≤ W) (hc : cells + kc ≤ R.cells) (hs : slots + ks ≤ R.slots)
    (k : ∀ v T' L, Stand p l e R s m args below meth c T' (locs ++ L) (cells + kc) (slots + ks) → Qc v T'.heap L → GlH p e below Z EL sT h0 rc rs Q (T'.setTop (mkF m (pc + 5) Ls (v.toList ++ rest)))) :
    GlH p e below Z EL sT h0 rc rs Q (T.setTop (mkF m pc Ls st)) := by
  obtain ⟨cq, kq, i1, i2, i3⟩ := isOf hZ eT E
  obtain ⟨v, vm₁, ⟨U', ls, cc, sl⟩, hW₁, X', ⟨L, q1, q2, q3, q4⟩, stp⟩ := X.interfaceBack hx (xi := y) (y := z) hown (mvT hZ w1) (mvT hZ w2) w3 (mvT hZ w4) (mvT hZ w5) (mvT hZ w6) (mvT hZ w7) (mvT hZ w8) hy hK i1 i2 i3 (g := mkF m pc Ls st) rfl hsz (Steps.refl _) hlen hst (by show 2 * 0 + _ ≤ _; omega) hd (fun _ _ => ⟨has, eT, hc, hs⟩)
  dsimp only [Pt.U, Pt.locs, Pt.cells, Pt.slots] at X' q1 q2 q3 q4 stp
  subst q2 q3 q4
  exact GlH.tr stp (k v U' L X' q1)
theorem GlH.priv (X : Stand p l e R s m args below meth c T locs cells slots) (hx : p.tables.exec = Jvm.exec) (hZ : Z.Warmed39 s.vm) {own C : String} {index : Nat} {y : MethodName} {bytes : ByteArray} {maxL : Nat} {ret : Option FieldType}
    (hown : s.vm.findClass own = some m.cls) (w1 : (Jvm.Cond.methodLink own index y).before a0 Z = true) (w2 : (Jvm.Cond.instanceMethod y).before a0 Z = true) (w3 : (Jvm.Cond.selects y.cls y y).before a0 Z = true) (w4 : (Jvm.Cond.privateMethod y).before a0 Z = true) (w5 : (Jvm.Cond.code y bytes maxL ret).before a0 Z = true)
    (hy : y.cls ≠ "java/lang/invoke/MethodHandle" ∧ y.cls ≠ "java/lang/invoke/VarHandle") {a : Addr} (E : Exa Z h a C)
    (hK : BackQ l R p e below s args y 3 W as' h kc ks Qc) (eT : T.heap = h) {pc : Nat} {Ls : Array Slot} {st : List Value} (hd : decode c.code pc = .ok (.invokevirtual index, 3)) (hsz : Ls.size = c.maxLocals) (argsL rest : List Value)
    (hlen : ∀ sig, parseMethodDescriptor y.desc = some sig → argsL.length = sig.parameters.length) (hst : st = argsL.reverse ++ .ref a :: rest) (has : (.ref a :: argsL).toArray = as') (hW : (rest.map fun v => v.category).sum ≤ W) (hc : cells + kc ≤ R.cells) (hs : slots + ks ≤ R.slots)
    (k : ∀ v T' L, Stand p l e R s m args below meth c T' (locs ++ L) (cells + kc) (slots + ks) → Qc v T'.heap L → GlH p e below Z EL sT h0 rc rs Q (T'.setTop (mkF m (pc + 3) Ls (v.toList ++ rest)))) :
    GlH p e below Z EL sT h0 rc rs Q (T.setTop (mkF m pc Ls st)) := by
  obtain ⟨cq, i1, i2⟩ := E.cell
  obtain ⟨v, vm₁, ⟨U', ls, cc, sl⟩, hW₁, X', ⟨L, q1, q2, q3, q4⟩, stp⟩ := X.privateBack hx hown (mvT hZ w1) (mvT hZ w2) (mvT hZ w3) (Cond.privateMethod_at (mvP hZ w4 (args := #[]))) (mvT hZ w5) hy hK (g := mkF m pc Ls st) rfl hsz (Steps.refl _) (by rw [eT]; exact i1) i2 hlen hst (by show 2 * 0 + _ ≤ _; omega) hd (fun _ _ => ⟨has, eT, hc, hs⟩)
  dsimp only [Pt.U, Pt.locs, Pt.cells, Pt.slots] at X' q1 q2 q3 q4 stp
  subst q2 q3 q4
  exact GlH.tr stp (k v U' L X' q1)
theorem GlH.supr (X : Stand p l e R s m args below meth c T locs cells slots) (hx : p.tables.exec = Jvm.exec) (hZ : Z.Warmed39 s.vm) {own K : String} {index : Nat} {y : MethodName} {bytes : ByteArray} {maxL : Nat} {ret : Option FieldType} (hn : y.name ≠ "<init>")
    (hown : s.vm.findClass own = some m.cls) (w1 : (Jvm.Cond.methodLink own index y).before a0 Z = true) (w2 : (Jvm.Cond.sameMethod y.cls y.cls y.name y.desc).before a0 Z = true) (w3 : (Jvm.Cond.instanceMethod y).before a0 Z = true) (w4 : (Jvm.Cond.superclass own y.cls).before a0 Z = true) (wc : (Jvm.Cond.code y bytes maxL ret).before a0 Z = true)
    {a : Addr} (F : Ins Z h a K true)
    (hK : BackQ l R p e below s args y 3 W as' h kc ks Qc) (eT : T.heap = h) {pc : Nat} {Ls : Array Slot} {st : List Value} (hd : decode c.code pc = .ok (.invokespecial index, 3)) (hsz : Ls.size = c.maxLocals) (argsL rest : List Value)
    (hlen : ∀ sig, parseMethodDescriptor y.desc = some sig → argsL.length = sig.parameters.length) (hst : st = argsL.reverse ++ .ref a :: rest) (has : (.ref a :: argsL).toArray = as') (hW : (rest.map fun v => v.category).sum ≤ W) (hc : cells + kc ≤ R.cells) (hs : slots + ks ≤ R.slots)
    (k : ∀ v T' L, Stand p l e R s m args below meth c T' (locs ++ L) (cells + kc) (slots + ks) → Qc v T'.heap L → GlH p e below Z EL sT h0 rc rs Q (T'.setTop (mkF m (pc + 3) Ls (v.toList ++ rest)))) :
    GlH p e below Z EL sT h0 rc rs Q (T.setTop (mkF m pc Ls st)) := by
  obtain ⟨v, vm₁, ⟨U', ls, cc, sl⟩, hW₁, X', ⟨L, q1, q2, q3, q4⟩, stp⟩ := superBack X hx hZ hown w1 w2 w3 w4 hn hK eT F (g := mkF m pc Ls st) rfl hsz wc hlen hst (by show 2 * 0 + _ ≤ _; omega) hd (fun _ _ => ⟨has, eT, hc, hs⟩)
  dsimp only [Pt.U, Pt.locs, Pt.cells, Pt.slots] at X' q1 q2 q3 q4 stp
  subst q2 q3 q4
  exact GlH.tr stp (k v U' L X' q1)
theorem GlH.specN (X : Stand p l e R s m args below meth c T locs cells slots) (hx : p.tables.exec = Jvm.exec) (hZ : Z.Warmed39 s.vm) {own host : String} {index : Nat} {y : MethodName} {bytes : ByteArray} {maxL : Nat} (hy1 : y.name = "<init>")
    (hown : s.vm.findClass own = some m.cls) (w1 : (Jvm.Cond.methodLinkNest own index y host).before a0 Z = true) (w2 : (Jvm.Cond.instanceMethod y).before a0 Z = true)
    (w4 : (Jvm.Cond.code y bytes maxL none).before a0 Z = true) (hy : y.cls ≠ "java/lang/invoke/MethodHandle" ∧ y.cls ≠ "java/lang/invoke/VarHandle")
    (hK : BackQ l R p e below s args y 3 W as' h kc ks Qc) (eT : T.heap = h) {pc : Nat} {Ls : Array Slot} {st : List Value} (hd : decode c.code pc = .ok (.invokespecial index, 3)) (hsz : Ls.size = c.maxLocals) (a : Addr) (argsL rest : List Value)
    (hlen : ∀ sig, parseMethodDescriptor y.desc = some sig → argsL.length = sig.parameters.length) (hst : st = argsL.reverse ++ .ref a :: rest) (has : (.ref a :: argsL).toArray = as') (hW : (rest.map fun v => v.category).sum ≤ W) (hc : cells + kc ≤ R.cells) (hs : slots + ks ≤ R.slots)
    (k : ∀ v T' L, Stand p l e R s m args below meth c T' (locs ++ L) (cells + kc) (slots + ks) → Qc v T'.heap L → GlH p e below Z EL sT h0 rc rs Q (T'.setTop (mkF m (pc + 3) Ls (v.toList ++ rest)))) :
    GlH p e below Z EL sT h0 rc rs Q (T.setTop (mkF m pc Ls st)) := by
  obtain ⟨v, vm₁, ⟨U', ls, cc, sl⟩, hW₁, X', ⟨L, q1, q2, q3, q4⟩, stp⟩ := X.specialBackNest hx hy1 hown (Cond.methodLinkNest_wide hZ w1 :) (mvT hZ w2) (mvT hZ w4) hy hK (g := mkF m pc Ls st) rfl hsz (Steps.refl _) hlen hst (by show 2 * 0 + _ ≤ _; omega) hd (fun _ _ => ⟨has, eT, hc, hs⟩)
  dsimp only [Pt.U, Pt.locs, Pt.cells, Pt.slots] at X' q1 q2 q3 q4 stp
  subst q2 q3 q4
  exact GlH.tr stp (k v U' L X' q1)
abbrev CtrH (l : Launch) (Z : State) (EL : List (String × Nat)) (sf : List Addr) (y : MethodName) (bytes : ByteArray) (maxL : Nat) (ret : Option FieldType) (ws : List Jvm.Cond) (rm : Room) (as' : Array Value) (h : Heap) (Q : Option Value → Heap → List Loc → Prop) : Prop :=
  MetFree l y (head1 (Jvm.Cond.code y bytes maxL ret :: ws) rm) (fun a U => a = as' ∧ Z.Warmed39 U.vm ∧ U.heap = h ∧ CHv Z EL U.vm h ∧ ∀ x ∈ sf, x < h.size ∧ Safe Z EL U.vm h x) (fun _ _ _ _ _ => True) (fun _ U o U' => ∃ v L, o = .returned v ∧ Q v U'.heap L ∧ CHr Z EL U.vm U.heap U'.vm U'.heap ∧ ReturnedEndW U o U' L rm.cells rm.slots)
theorem CtrH.intro {sf : List Addr} {y : MethodName} {bytes : ByteArray} {maxL : Nat} {ret : Option FieldType} {ws : List Jvm.Cond} {rm : Room} {as' : Array Value} (hpn : plainFor y = true) (Ls : Array Slot) (hef : ∀ m, entryFrame m as' maxL = mkF m 0 Ls [])
    (body : ∀ (p : Program) (e : Env) (sT : State) (m : MethodId) (below : List Frame) (meth : Method) (c : Code) (s : State) (T : State), p.tables.exec = Jvm.exec → c.code = bytes → c.maxLocals = maxL → s.vm.findClass y.cls = some m.cls → meth.name = y.name → meth.sig.returnType = ret → meth.locks = false → Z.Warmed39 s.vm → s.methodNamed? y = some m →
      Stand p l e rm s m as' below meth c T [] 0 0 → T.heap = h → Hs Z EL sT h s h → (∀ x ∈ sf, x < h.size ∧ Safe Z EL s.vm h x) → GlH p e below Z EL sT h rm.cells rm.slots Q (T.setTop (mkF m 0 Ls []))) : CtrH l Z EL sf y bytes maxL ret ws rm as' h Q := by
  refine MetFree.of_bodySF hpn hisR ?_
  intro p e s m args below meth c s₁ Bd hml0 hP hK
  obtain ⟨rfl, hZ, hh, hC, hsf⟩ := hP
  have g := body p e s m below meth c s s₁ Bd.exec Bd.bytes hml0 (findClass_of_methodNamed Bd.named) (name_of_methodNamed Bd.named Bd.method).1 Bd.returns (BodyLoose.notSynchronized Bd) hZ Bd.named (Stand.of_body Bd) (by rw [← hh, Bd.state]; rfl) (Hs.start s hC) hsf
  rw [← hef m] at g
  rw [hh]
  exact g
/-- a payer that may intern and keeps what is booked -/
abbrev BackH (l : Launch) (R : Room) (p : Program) (e : Env) (below : List Frame) (Z : State) (EL : List (String × Nat)) (s : State) (args : Array Value) (y : MethodName) (len W : Nat) (as' : Array Value) (h : Heap) (kc ks : Nat) (Qc : Option Value → Heap → List Loc → Prop) : Prop :=
  BackS l R p e below s args y len W (fun A a => a = as' ∧ A.U.heap = h ∧ A.cells + kc ≤ R.cells ∧ A.slots + ks ≤ R.slots) (fun A _ v B => ∃ L, Qc v B.U.heap L ∧ B.locs = A.locs ++ L ∧ B.cells = A.cells + kc ∧ B.slots = A.slots + ks ∧ CHr Z EL s.vm h B.U.vm B.U.heap)
theorem backH {sf : List Addr} {y : MethodName} {bytes : ByteArray} {maxL : Nat} {ret : Option FieldType} {rm : Room} {len W : Nat} {as' : Array Value} {Qc : Option Value → Heap → List Loc → Prop} (hM : CtrH l Z EL sf y bytes maxL ret [] rm as' h Qc)
    (B : Hs Z EL sT h0 s h) (hEL : EW Z a0 EL) (hsf : ∀ x ∈ sf, x < h.size ∧ Safe Z EL s.vm h x) (hZ : Z.Warmed39 s.vm) (wc : (Jvm.Cond.code y bytes maxL ret).before a0 Z = true) (wz : (Jvm.Cond.initialized y.cls).before a0 Z = true) (hf : rm.frames + 1 ≤ R.frames) (hl : W + (maxL + 11) + rm.locals ≤ R.locals) :
    BackH l R p e below Z EL s args y len W as' h rm.cells rm.slots Qc := by
  obtain ⟨⟨vm, n, rfl, h2, h3⟩, q⟩ := B
  have at_ : ∀ {m : MethodId} {meth : Method} {c : Code} {U : State} {L : List Loc} {k j : Nat}, Stand p l e R (sT.setVm vm) m args below meth c U L k j → CHr Z EL vm h U.vm h := fun Y => CHv.at Y hZ hEL q.1
  refine BackS.of_freeW (bytes := bytes) (maxL := maxL) (ret := ret) (E := fun _ first o t L k n => (k = rm.cells ∧ n = rm.slots) ∧ (∃ v, o = .returned v ∧ Qc v t.heap L) ∧ CHr Z EL first.vm first.heap t.vm t.heap) hM hf hl ?_ ?_ (fun _ _ _ _ _ _ _ _ _ => trivial) ?_ ?_
  · intro m meth c A a Y hp
    have hU : Z.Warmed39 A.U.vm := wtrans (s := sT.setVm vm) hZ Y.warmed
    exact ⟨by show (Jvm.Cond.and _ .tt).before a A.U = true; rw [Cond.before_and, mv hU wc]; rfl, mv hU wc, mv hU wz, hp.2.2.1, hp.2.2.2⟩
  · intro m meth c A a g mk Y hp
    exact ⟨hp.1, wtrans (s := sT.setVm vm) hZ Y.warmed, hp.2.1, (at_ Y).1, fun x hx => ⟨(hsf x hx).1, (at_ Y).safe (hsf x hx).1 (hsf x hx).2⟩⟩
  · intro _ _ _ _ ⟨v, L, q1, q2, q3, q4⟩
    exact ⟨L, _, _, q4, ⟨rfl, rfl⟩, ⟨v, q1, q2⟩, q3⟩
  · intro m meth c A a g mk v t L k n Y hp _ _ ⟨⟨e1, e2⟩, ⟨v', e3, e4⟩, e5⟩
    cases e3; subst e1 e2
    refine ⟨L, e4, rfl, rfl, rfl, (at_ Y).trans ?_⟩
    rw [← hp.2.1]; exact e5
/-- the words of a base carry to the next one -/
theorem nextH (B : Hs Z EL sT h0 s h) (hZ : Z.Warmed39 s.vm) {U : State} (eT : T.heap = h) (hS : s.Since U.vm U.heap.size) (hg : T.heap.size ≤ U.heap.size) (hC : CHr Z EL s.vm h U.vm U.heap) :
    Hs Z EL sT h0 (s.setVm U.vm) U.heap ∧ Z.Warmed39 (s.setVm U.vm).vm ∧ ∀ (own : String) (k : ClassId), s.vm.findClass own = some k → (s.setVm U.vm).vm.findClass own = some k := by
  obtain ⟨⟨vm, n, rfl, h2, h3⟩, q⟩ := B
  refine ⟨⟨⟨U.vm, U.heap.size, rfl, h2.trans hS (Nat.le_trans h3 (by rw [← eT]; exact hg)), Nat.le_refl _⟩, q.trans hC⟩, State.Warmed39.trans (t := sT.setVm vm) hZ hS.1, fun own k hk => ?_⟩
  rw [show ((sT.setVm vm).setVm U.vm).vm = U.vm from rfl, hS.1.alike.findClass]; exact hk
theorem GlH.statS (X : Stand p l e R s m args below meth c T locs cells slots) (hx : p.tables.exec = Jvm.exec) (hZ : Z.Warmed39 s.vm) {own : String} {index : Nat} {y : MethodName} {bytes : ByteArray} {maxL : Nat} {ret : Option FieldType}
    (hown : s.vm.findClass own = some m.cls) (w1 : (Jvm.Cond.methodLink own index y).before a0 Z = true) (w2 : (Jvm.Cond.static y).before a0 Z = true) (w3 : (Jvm.Cond.initialized y.cls).before a0 Z = true)
    (w4 : (Jvm.Cond.code y bytes maxL ret).before a0 Z = true) (hy : y.cls ≠ "java/lang/invoke/MethodHandle" ∧ y.cls ≠ "java/lang/invoke/VarHandle")
    (B : Hs Z EL sT h0 s h) (hK : BackH l R p e below Z EL s args y 3 W as' h kc ks Qc) (eT : T.heap = h) {pc : Nat} {Ls : Array Slot} {st : List Value} (hd : decode c.code pc = .ok (.invokestatic index, 3)) (hsz : Ls.size = c.maxLocals) (argsL rest : List Value)
    (hlen : ∀ sig, parseMethodDescriptor y.desc = some sig → argsL.length = sig.parameters.length) (hst : st = argsL.reverse ++ rest) (has : argsL.toArray = as') (hW : (rest.map fun v => v.category).sum ≤ W) (hc : cells + kc ≤ R.cells) (hs : slots + ks ≤ R.slots)
    (k : ∀ v T' L s', Stand p l e R s' m args below meth c T' (locs ++ L) (cells + kc) (slots + ks) → Hs Z EL sT h0 s' T'.heap → Z.Warmed39 s'.vm → s'.vm.findClass own = some m.cls → CHr Z EL s.vm h s'.vm T'.heap → Qc v T'.heap L → GlH p e below Z EL sT h0 rc rs Q (T'.setTop (mkF m (pc + 3) Ls (v.toList ++ rest)))) :
    GlH p e below Z EL sT h0 rc rs Q (T.setTop (mkF m pc Ls st)) := by
  obtain ⟨v, vm₁, ⟨U', ls, cc, sl⟩, hW₁, X', hS, hg, ⟨L, q1, q2, q3, q4, q5⟩, stp⟩ := callSS X hx hown (mvT hZ w1) (mvT hZ w2) (mvT hZ w3) (mvT hZ w4) hy hK (g := mkF m pc Ls st) rfl hsz hlen hst (by show 2 * 0 + _ ≤ _; omega) hd (fun _ _ => ⟨has, eT, hc, hs⟩)
  dsimp only [Pt.U, Pt.locs, Pt.cells, Pt.slots] at X' hS hg q1 q2 q3 q4 q5 stp
  subst q2 q3 q4
  obtain ⟨n1, n2, n3⟩ := nextH B hZ eT hS hg q5
  exact GlH.tr stp (k v U' L _ X' n1 n2 (n3 _ _ hown) q5 q1)
theorem GlH.specS (X : Stand p l e R s m args below meth c T locs cells slots) (hx : p.tables.exec = Jvm.exec) (hZ : Z.Warmed39 s.vm) {own : String} {index : Nat} {y : MethodName} {bytes : ByteArray} {maxL : Nat} (hy1 : y.name = "<init>")
    (hown : s.vm.findClass own = some m.cls) (w1 : (Jvm.Cond.methodLink own index y).before a0 Z = true) (w2 : (Jvm.Cond.instanceMethod y).before a0 Z = true)
    (w4 : (Jvm.Cond.code y bytes maxL none).before a0 Z = true) (hy : y.cls ≠ "java/lang/invoke/MethodHandle" ∧ y.cls ≠ "java/lang/invoke/VarHandle")
    (B : Hs Z EL sT h0 s h) (hK : BackH l R p e below Z EL s args y 3 W as' h kc ks Qc) (eT : T.heap = h) {pc : Nat} {Ls : Array Slot} {st : List Value} (hd : decode c.code pc = .ok (.invokespecial index, 3)) (hsz : Ls.size = c.maxLocals) (a : Addr) (argsL rest : List Value)
    (hlen : ∀ sig, parseMethodDescriptor y.desc = some sig → argsL.length = sig.parameters.length) (hst : st = argsL.reverse ++ .ref a :: rest) (has : (.ref a :: argsL).toArray = as') (hW : (rest.map fun v => v.category).sum ≤ W) (hc : cells + kc ≤ R.cells) (hs : slots + ks ≤ R.slots)
    (k : ∀ v T' L s', Stand p l e R s' m args below meth c T' (locs ++ L) (cells + kc) (slots + ks) → Hs Z EL sT h0 s' T'.heap → Z.Warmed39 s'.vm → s'.vm.findClass own = some m.cls → CHr Z EL s.vm h s'.vm T'.heap → Qc v T'.heap L → GlH p e below Z EL sT h0 rc rs Q (T'.setTop (mkF m (pc + 3) Ls (v.toList ++ rest)))) :
    GlH p e below Z EL sT h0 rc rs Q (T.setTop (mkF m pc Ls st)) := by
  obtain ⟨v, vm₁, ⟨U', ls, cc, sl⟩, hW₁, X', hS, hg, ⟨L, q1, q2, q3, q4, q5⟩, stp⟩ := X.specialBackS hx hy1 hown (mvT hZ w1) (mvT hZ w2) (mvT hZ w4) hy hK (g := mkF m pc Ls st) rfl hsz (Steps.refl _) hlen hst (by show 2 * 0 + _ ≤ _; omega) hd (fun _ _ => ⟨has, eT, hc, hs⟩)
  dsimp only [Pt.U, Pt.locs, Pt.cells, Pt.slots] at X' hS hg q1 q2 q3 q4 q5 stp
  subst q2 q3 q4
  obtain ⟨n1, n2, n3⟩ := nextH B hZ eT hS hg q5
  exact GlH.tr stp (k v U' L _ X' n1 n2 (n3 _ _ hown) q5 q1)
theorem GlH.virtS (X : Stand p l e R s m args below meth c T locs cells slots) (hx : p.tables.exec = Jvm.exec) (hZ : Z.Warmed39 s.vm) {own C : String} {index : Nat} {y z : MethodName}
    (hown : s.vm.findClass own = some m.cls) (w1 : (Jvm.Cond.methodLink own index y).before a0 Z = true) (w2 : (Jvm.Cond.declares y).before a0 Z = true) (w3 : (Jvm.Cond.selects C y z).before a0 Z = true) (w4 : (Jvm.Cond.instanceMethod z).before a0 Z = true) (nf : NotFace s y)
    (hy : y.cls ≠ "java/lang/invoke/MethodHandle" ∧ y.cls ≠ "java/lang/invoke/VarHandle") {a : Addr} (E : Exa Z h a C)
    (B : Hs Z EL sT h0 s h) (hK : BackH l R p e below Z EL s args z 3 W as' h kc ks Qc) (eT : T.heap = h) {pc : Nat} {Ls : Array Slot} {st : List Value} (hd : decode c.code pc = .ok (.invokevirtual index, 3)) (hsz : Ls.size = c.maxLocals) (argsL rest : List Value)
    (hlen : ∀ sig, parseMethodDescriptor y.desc = some sig → argsL.length = sig.parameters.length) (hst : st = argsL.reverse ++ .ref a :: rest) (has : (.ref a :: argsL).toArray = as') (hW : (rest.map fun v => v.category).sum ≤ W) (hc : cells + kc ≤ R.cells) (hs : slots + ks ≤ R.slots)
    (k : ∀ v T' L s', Stand p l e R s' m args below meth c T' (locs ++ L) (cells + kc) (slots + ks) → Hs Z EL sT h0 s' T'.heap → Z.Warmed39 s'.vm → s'.vm.findClass own = some m.cls → CHr Z EL s.vm h s'.vm T'.heap → Qc v T'.heap L → GlH p e below Z EL sT h0 rc rs Q (T'.setTop (mkF m (pc + 3) Ls (v.toList ++ rest)))) :
    GlH p e below Z EL sT h0 rc rs Q (T.setTop (mkF m pc Ls st)) := by
  obtain ⟨cq, kq, i1, i2, i3⟩ := isOf hZ eT E
  obtain ⟨v, vm₁, ⟨U', ls, cc, sl⟩, hW₁, X', hS, hg, ⟨L, q1, q2, q3, q4, q5⟩, stp⟩ := X.virtualBackS hx hown (mvT hZ w1) (mvT hZ w2) nf (mvT hZ w3) (mvT hZ w4) hy hK i1 i3 (g := mkF m pc Ls st) rfl hsz (Steps.refl _) hlen hst (by show 2 * 0 + _ ≤ _; omega) hd (fun _ _ => ⟨has, eT, hc, hs⟩)
  dsimp only [Pt.U, Pt.locs, Pt.cells, Pt.slots] at X' hS hg q1 q2 q3 q4 q5 stp
  subst q2 q3 q4
  obtain ⟨n1, n2, n3⟩ := nextH B hZ eT hS hg q5
  exact GlH.tr stp (k v U' L _ X' n1 n2 (n3 _ _ hown) q5 q1)
/-- ldc of a String constant, its text read -/
theorem ldcH (X : Stand p l e R s m args below meth c T locs cells slots) (hx : p.tables.exec = Jvm.exec) (hZ : Z.Warmed39 s.vm) {own text : String} {index : Nat} (hown : s.vm.findClass own = some m.cls) (w : (Jvm.Cond.stringLink own index text).before a0 Z = true) (wS : ∀ a ∈ Bundle.stringAtoms, a.before a0 Z = true) (eT : T.heap = h)
    (B : Hs Z EL sT h0 s h) (hEL : EW Z a0 EL) (hmem : (own, index) ∈ EL) {vs : List Value} {z : Int32} (ht : (∀ c ∈ text.toList, c.toNat < 256) ∧ text.toList.map (fun c => Value.int (Jvm.Lit.byteI c.toNat.toUInt16)) = vs) (hz : ¬ z < 0) (hl : z.toNatClampNeg = vs.length)
    {g : JFrame} (hg : g.method = m) (hd : decode c.code g.pc = .ok (.ldc index, 2)) {n : Nat} (hn : 4 * text.toList.length ≤ n) (hbig : n ≤ 536870912) (hc : cells + 2 ≤ R.cells) (hl' : slots + (n + 4) ≤ R.slots) :
    ∃ (a b : Nat) (k : ClassId) (T' s' : State) (h' : Heap), Stand p l e R s' m args below meth c T' locs (cells + 2) (slots + (n + 4)) ∧ T'.heap = h' ∧ Ext h h' ∧ Hs Z EL sT h0 s' h' ∧ Z.Warmed39 s'.vm ∧ s'.vm.findClass own = some m.cls ∧ CHr Z EL s.vm h s'.vm h' ∧
      Exa Z h' a "java/lang/String" ∧ Fld Z h' a "java/lang/String" "coder" "B" (.int 0) ∧ Fld Z h' a "java/lang/String" "value" "[B" (.ref b) ∧ Arv Z h' b k .byte z vs (.int 0) ∧ (∀ x, Safe Z EL s'.vm h' x → x ≠ a ∧ x ≠ b) ∧
      ∀ target, Steps p.tables e below (T'.setTop { g with pc := g.pc + 2, stack := .ref a :: g.stack }) target → Steps p.tables e below (T.setTop g) target := by
  obtain ⟨⟨vm, n, rfl, h2, h3⟩, q⟩ := B
  obtain ⟨a, T', h', k1, b, k, X', e1, e2, e3, e4, e5, e6, f1, f2, f3, f4, -, -, f5, -, f6, st⟩ := ldcCH X hx hZ hown w wS eT h2 h3 hEL hmem q.1 ht hz hl hg hd hn hbig hc hl'
  exact ⟨a, b, k, T', _, h', X', e1, e2, ⟨⟨_, k1, rfl, e3, e4⟩, q.trans f5⟩, e5, e6, f5, f1, f2, f3, f4, f6, st⟩
end KitH
end Own
end Jvm.Pilot.@@N@@
namespace Jvm.Pilot.@@N@@
namespace Own
open Jvm Jvm.ClassFile Sem Op Lib Bundle Jvm.Free Jvm.Stand Jvm.LawKit Jvm.RoadKit Jvm.Free.SB Jvm.Free.SBG
section LdwKit
variable {p : Program} {l : Launch} {e : Env} {R : Room} {s sT : State} {m : MethodId} {args : Array Value} {below : List Frame} {meth : Method} {c : Code} {T T' : State} {locs : List Loc} {cells slots : Nat} {Z : State} {a0 : Array Value} {h h' h0 : Heap} {EL : List (String × Nat)} {own text : String} {index : Nat} {g : JFrame} {a : Addr}
/-- a step of ldc_w, from what its meaning says -/
theorem ldw_go (X : Stand p l e R s m args below meth c T locs cells slots) (hx : p.tables.exec = Jvm.exec) (hg : g.method = m) (hd : decode c.code g.pc = .ok (.ldc_w index, 3))
    (hw : ∀ (Q : Unit → Pre) (E : CtlPost) (d : Bool) (acts : List Action), (∀ d' acts', Q () d' acts' (T'.setTop { g with stack := .ref a :: g.stack })) → wp (ldc_w.sem index) Q E e d acts (T.setTop g)) :
    ∀ target, Steps p.tables e below (T'.setTop { g with pc := g.pc + 3, stack := .ref a :: g.stack }) target → Steps p.tables e below (T.setTop g) target := by
  intro target k
  subst hg
  refine Steps.instr (c := _) (by simpa using X.here) ?_
  simp [jvm, wpRun, exec, hx, hd]
  refine hw _ _ _ _ fun d' acts' => ?_
  intro acts''
  simp [jvm, afterInstr]
  rw [State.modifyTopJava_setTop]
  exact k
/-- a booked String of Latin-1 text, read in the tables of Z -/
theorem sl_read {vm : Vm} {units : Array UInt16} (hal : vm.Alike Z.vm) (F : SlOf (Wst Z vm h) a units) (hlat : units.all (· < 256) = true) {vs : List Value} (hv : vs = units.toList.map fun u => Value.int (Jvm.Lit.byteI u)) {z : Int32} (hz : ¬ z < 0) (hl : z.toNatClampNeg = vs.length) :
    ∃ q : SQ, q.sa = a ∧ SlB (Wst Z vm h) q units ∧ Exa Z h q.sa "java/lang/String" ∧ Fld Z h q.sa "java/lang/String" "coder" "B" (.int 0) ∧ Fld Z h q.sa "java/lang/String" "value" "[B" (.ref q.sd) ∧ Arv Z h q.sd q.SA.cls .byte z vs (.int 0) := by
  obtain ⟨q, hq, F⟩ := SlB.of F
  have F2 : SlB ({ Z with heap := h } : State) q units := F.carry (V := { Z with heap := h }) hal F.ha F.hd
  obtain ⟨cS, ⟨⟨s1, s2, s3, ⟨cv, kv, iv, s4, s4'⟩, ⟨cc, kc, ic, s5, s5'⟩, s6, s7, s8, s9, s10, s11, s12, s13, -, -, s16⟩, hfS, hcS⟩, ⟨kS, k1, -, k3⟩, -, hbyt⟩ := F2
  have e1 : q.SA.slots = units.map fun u => Value.int (Jvm.Lit.byteI u) := by rw [hbyt, SBG.stringBytes_lat hlat]; rfl
  have e2 : q.SA.slots.size = vs.length := by rw [e1, hv]; simp
  have H : Has q.SA vs (.int 0) := fun j hj => by
    have hj' : j < units.size := by rw [e1] at hj; simpa using hj
    rw [e1, hv]; simp [hj']
  refine ⟨q, hq, F, ⟨q.sC, kS, s1, by rw [hcS]; exact hfS, by rw [hcS]; exact k1, s3, fun _ => k3⟩, ⟨q.sC, cc, kc, ic, q.fSC, s1, s5, s7, s2, s3, s5', s9⟩, ⟨q.sC, cv, kv, iv, q.fSV, s1, s4, s6, s2, s3, s4', s8⟩,
    q.SA, ⟨s10, s11, s12⟩, rfl, by rw [hl, e2], hz, H, fun j hj => ?_⟩
  have r := s16 j hj
  rw [SBG.getD_of (H j hj)] at r
  exact r
/-- ldc_w of a String constant, its text read: the kin of ldcH -/
theorem ldcWH (X : Stand p l e R s m args below meth c T locs cells slots) (hx : p.tables.exec = Jvm.exec) (hZ : Z.Warmed39 s.vm) (hown : s.vm.findClass own = some m.cls) (w : (Jvm.Cond.stringLink own index text).before a0 Z = true) (wS : ∀ a ∈ Bundle.stringAtoms, a.before a0 Z = true) (eT : T.heap = h)
    (B : Hs Z EL sT h0 s h) (hEL : EW Z a0 EL) (hmem : (own, index) ∈ EL) {vs : List Value} {z : Int32} (ht : (∀ c ∈ text.toList, c.toNat < 256) ∧ text.toList.map (fun c => Value.int (Jvm.Lit.byteI c.toNat.toUInt16)) = vs) (hz : ¬ z < 0) (hl : z.toNatClampNeg = vs.length)
    (hg : g.method = m) (hd : decode c.code g.pc = .ok (.ldc_w index, 3)) {n : Nat} (hn : 4 * text.toList.length ≤ n) (hbig : n ≤ 536870912) (hc : cells + 2 ≤ R.cells) (hl' : slots + (n + 4) ≤ R.slots) :
    ∃ (a b : Nat) (k : ClassId) (T' s' : State) (h' : Heap), Stand p l e R s' m args below meth c T' locs (cells + 2) (slots + (n + 4)) ∧ T'.heap = h' ∧ Ext h h' ∧ Hs Z EL sT h0 s' h' ∧ Z.Warmed39 s'.vm ∧ s'.vm.findClass own = some m.cls ∧ CHr Z EL s.vm h s'.vm h' ∧
      Exa Z h' a "java/lang/String" ∧ Fld Z h' a "java/lang/String" "coder" "B" (.int 0) ∧ Fld Z h' a "java/lang/String" "value" "[B" (.ref b) ∧ Arv Z h' b k .byte z vs (.int 0) ∧ (∀ x, Safe Z EL s'.vm h' x → x ≠ a ∧ x ≠ b) ∧
      ∀ target, Steps p.tables e below (T'.setTop { g with pc := g.pc + 3, stack := .ref a :: g.stack }) target → Steps p.tables e below (T.setTop g) target := by
  subst eT hg
  have hZT : Z.Warmed39 T.vm := wtrans hZ X.warmed
  have hownT : T.vm.findClass own = some g.method.cls := by rw [X.warmed.alike.findClass]; exact hown
  obtain ⟨k, cf, i, units, hk, hcf, hp, hu, hnm, htext, hres⟩ := Cond.stringLink_spec (s := Z.setVm T.vm) hownT (mvS (s := Z) (args := args) hZT w)
  have hk : T.vm.classes[g.method.cls]? = some k := hk
  have hlat := Jvm.ClassFile.lat_of_text htext ht.1
  have r2 : k.cf.bind (namesOf? ·.constantPool index) = some (.string text) := by rw [hcf]; exact hnm
  have r3 : k.cf.bind (·.constantPool[index]?) = some (.string i) := by rw [hcf]; exact hp
  have r4 : k.cf.bind (·.constantPool.utf8? i) = some units := by rw [hcf]; simp [ConstantPool.utf8?, hu]
  -- the three ways that the step goes, in one shape
  have step : ∃ (a : Addr) (T' : State), T.Warmed39 T'.vm ∧ Stand p l e R (s.setVm T'.vm) g.method args below meth c T' locs (cells + 2) (slots + (n + 4)) ∧ (∃ k₂ : Class, T'.vm.classes[g.method.cls]? = some k₂ ∧ k₂.cf = some cf ∧ k₂.resolved[index]? = some (some (.string a))) ∧ Ext T.heap T'.heap ∧ T.Interned1 T' ∧
      (T'.vm.interned = T.vm.interned ∨ ∃ (us : Array UInt16) (b : Addr), T'.vm.interned = T.vm.interned.push (us, b) ∧ T.vm.interned.find? (fun p => p.1 == us) = none ∧ (us.all (· < 256) = true → ∃ q : SQ, q.sa = b ∧ SlB (Wst Z T'.vm T'.heap) q us ∧ T.heap.size ≤ q.sa ∧ T.heap.size ≤ q.sd)) ∧
      ∀ target, Steps p.tables e below (T'.setTop { g with pc := g.pc + 3, stack := .ref a :: g.stack }) target → Steps p.tables e below (T.setTop g) target := by
    rcases hres with hopen | ⟨a, hr⟩
    · cases hf : T.vm.interned.find? (fun p => p.1 == units) with
      | some pr =>
        obtain ⟨u', a⟩ := pr
        have eu : u' = units := by simpa using Array.find?_some hf
        subst eu
        have hW : T.Warmed39 (T.vm.noted g.method.cls index (.string a)) := (State.Warmed39.refl T).notedString hk (Or.inl hopen) r2 r3 r4 hf
        exact ⟨a, T.setVm (T.vm.noted g.method.cls index (.string a)), hW, (X.mono (by omega) (by omega)).retabled (State.Warmed39.trans X.warmed.wide hW), ⟨_, Vm.classes_note_self index (.string a) hk, hcf, Class.resolved_note_self (.string a) hopen⟩, ⟨Nat.le_refl _, fun _ _ q => q⟩, ⟨Nat.le_refl _, Or.inl rfl⟩, Or.inl rfl,
          ldw_go X hx rfl hd fun Q E d acts q => (ldc_w.wp_string_found X.here.top hk hcf hp hu hopen hf).mpr (q _ _)⟩
      | none =>
        obtain ⟨Zs, LZ, n4, fv, fc⟩ := StringT.of_atoms wS
        obtain ⟨kS, kB, LT, hty⟩ := LZ.warmer hZT.alike
        have hfs : T.fitsSlot = Z.fitsSlot := (show T.fitsSlot = (Z.setVm T.vm).fitsSlot from rfl).trans (State.fitsSlot_setVm hZT.alike)
        have hbytes : (stringBytes units).size ≤ n := Nat.le_trans (text_bytes_le htext) hn
        obtain ⟨vm1, hvm⟩ : ∃ vm1 : Vm, vm1 = { T.vm with interned := T.vm.interned.push (units, T.heap.size + 1) } := ⟨_, rfl⟩
        obtain ⟨vm2, hvm2⟩ : ∃ vm2 : Vm, vm2 = vm1.noted g.method.cls index (.string (T.heap.size + 1)) := ⟨_, rfl⟩
        obtain ⟨V, hV⟩ : ∃ V : State, V = withString T Zs.cB Zs.cS kS Zs.fv Zs.fc units := ⟨_, rfl⟩
        have hi1 : vm2.interned = T.vm.interned.push (units, T.heap.size + 1) := by rw [hvm2, hvm]; rfl
        have hfind : vm1.interned.find? (fun p => p.1 == units) = some (units, T.heap.size + 1) := by
          rw [hvm]
          show (T.vm.interned.push (units, T.heap.size + 1)).find? _ = _
          rw [Array.find?_push, hf]; simp
        have hW : T.Warmed39 vm2 := by
          rw [hvm2]
          exact State.Warmed39.notedString (by rw [hvm]; exact (State.Warmed39.refl T).interns units (T.heap.size + 1)) hk (Or.inl hopen) r2 r3 r4 hfind
        have hh : V.heap = (T.heap.push (bytesOf Zs.cB units)).push (stringAt Zs.cS kS Zs.fv Zs.fc units T.heap.size) := by rw [hV, withString_eq]; rfl
        have XV := (X.pushed (bytesOf Zs.cB units)).pushed (stringAt Zs.cS kS Zs.fv Zs.fc units T.heap.size)
        rw [← withString_eq, ← hV, show (bytesOf Zs.cB units).slots.size = (stringBytes units).size by rw [(Cell.writeAll_facts _ _).2.2]; simp [bytes0], show (stringAt Zs.cS kS Zs.fv Zs.fc units T.heap.size).slots.size = 4 by simp [string0, Cell.setSlot, hty, n4]] at XV
        have g0 : V.heap[T.heap.size]? = some (bytesOf Zs.cB units) := by rw [hh, Array.getElem?_push, if_neg (by rw [Array.size_push]; omega), Array.getElem?_push, if_pos rfl]
        have g1 : V.heap[T.heap.size + 1]? = some (stringAt Zs.cS kS Zs.fv Zs.fc units T.heap.size) := by rw [hh, Array.getElem?_push, if_pos (by rw [Array.size_push])]
        have gE : Ext T.heap V.heap := ext_of fun b hb => by
          rw [hh, Array.getElem?_push, if_neg (by rw [Array.size_push]; omega), Array.getElem?_push, if_neg (by omega)]
        have gz : V.heap.size = T.heap.size + 2 := by rw [hh]; simp
        have tV : V.topJava?.isSome := by rw [hV]; simpa [withString] using X.here.top
        have hk1 : vm1.classes[g.method.cls]? = some k := by rw [hvm]; exact hk
        have gc : (V.setVm vm2).vm.classes[g.method.cls]? = some (k.noted index (.string (T.heap.size + 1))) := by
          show vm2.classes[g.method.cls]? = _
          rw [hvm2]; exact Vm.classes_note_self index (.string (T.heap.size + 1)) hk1
        have slotsOk := X.slotsAbove hl'
        refine ⟨T.heap.size + 1, V.setVm vm2, hW, (XV.mono (by omega) (by omega)).retabled (State.Warmed39.trans X.warmed.wide hW), ⟨k.noted index (.string (T.heap.size + 1)), gc, hcf, Class.resolved_note_self (.string (T.heap.size + 1)) hopen⟩, gE, ⟨gE.1, Or.inr ⟨units, T.heap.size + 1, hi1, by omega, by show _ < V.heap.size; omega⟩⟩,
          Or.inr ⟨units, T.heap.size + 1, hi1, hf, fun hlat => ?_⟩, ldw_go X hx rfl hd fun Q E d acts q => ?_⟩
        · obtain ⟨q, cS, e1, e2, e3, e4, e5, e6⟩ := made_sl (W := Wst Z vm2 V.heap) wS LZ n4 hty (hZT.alike.trans hW.alike) g0 g1 hlat (by omega) 0
          exact ⟨q, e1, ⟨cS, e2, e3, e4, e5⟩, e6.elim (fun z => absurd z.1 (Nat.not_lt_zero _)) id⟩
        · refine ldc_w.wp_string_new X.here.top hk hcf hp hu hopen hf LT.found LT.cls LT.initialized LT.ordinary LT.foundB LT.clsB LT.kindB LT.value LT.coder ?_ ?_ (X.cellsAbove hc) ?_ (stringBytes_fit LT.clsB LT.kindB units) LT.valueSlot LT.coderSlot (by rw [hfs]; exact fv _) (by rw [hfs]; exact fc _) fun d' acts' => ?_
          · rw [Launch.admits_arrayLengthLimit X.admits]; omega
          · rw [Launch.admits_maxHeapBytes X.admits]; simp only [componentBytes]; omega
          · rw [hty, n4]; omega
          · rw [← hV, ← hvm, ← hvm2]; exact q _ _
    · exact ⟨a, T, State.Warmed39.refl T, (X.mono (by omega) (by omega)).retabled X.warmed.wide, ⟨k, hk, hcf, hr⟩, ⟨Nat.le_refl _, fun _ _ q => q⟩, ⟨Nat.le_refl _, Or.inl rfl⟩, Or.inl rfl,
        ldw_go X hx rfl hd fun Q E d acts q => (ldc_w.wp_string X.here.top hk hcf hp hr).mpr (q _ _)⟩
  obtain ⟨a, T', hW, X', ⟨k₂, hk₂, hcf₂, hr₂⟩, E, hI, hint, st⟩ := step
  obtain ⟨⟨vm, j, rfl, h2, h3⟩, hq⟩ := B
  have A := CHv.at X hZ hEL hq.1
  have C := CHv.later (vm := T.vm) (vm1 := T'.vm) hZT (show (Wst Z T.vm T.heap).Warmed39 T'.vm from hW) hEL E hint A.1
  have hC := A.trans ⟨C.1, E.1, C.2⟩
  have hS : (sT.setVm vm).Since T'.vm T'.heap.size := ⟨State.Warmed39.trans X.warmed.wide hW, State.Booked.step (X.warmed.no_new_pair _) X.same.2.1 hI⟩
  have hf : T'.vm.findClass own = some g.method.cls := by rw [hW.alike.findClass]; exact hownT
  have hb : Booksv T'.vm own index units a := ⟨g.method.cls, k₂, cf, i, hf, hk₂, hcf₂, hp, hu, Or.inl hr₂⟩
  obtain ⟨q, rfl, F, t1, t2, t3, t4⟩ := sl_read (hZT.alike.trans hW.alike).symm (hC.1 _ hmem units a hb) hlat (by rw [← ht.2, Jvm.ClassFile.units_of_text htext ht.1, List.map_map]; rfl) hz hl
  exact ⟨q.sa, q.sd, q.SA.cls, T', _, T'.heap, X', rfl, E, ⟨⟨T'.vm, T'.heap.size, rfl, h2.trans hS (Nat.le_trans h3 E.1), Nat.le_refl _⟩, hq.trans hC⟩, State.Warmed39.trans hZT hW, hf, hC, t1, t2, t3, t4, fun x S => ⟨fun z => S ⟨_, hmem, units, _, hb, q, rfl, F, Or.inl z⟩, fun z => S ⟨_, hmem, units, _, hb, q, rfl, F, Or.inr z⟩⟩, st⟩
end LdwKit
end Own
end Jvm.Pilot.@@N@@
namespace Jvm.Pilot.@@N@@
namespace Own
open Jvm Jvm.ClassFile Sem Op Lib Bundle Jvm.Free Jvm.Stand Jvm.LawKit Jvm.RoadKit Jvm.Free.Exc
section KitK
variable {p : Program} {l : Launch} {e : Env} {R : Room} {s sT : State} {m : MethodId} {args : Array Value} {below : List Frame} {meth : Method} {c : Code} {T : State} {locs : List Loc} {cells slots : Nat} {Z : State} {a0 : Array Value} {h h' h0 : Heap} {EL : List (String × Nat)}
/-- the tables' methods and the frames beneath are known, said of Z's tables -/
abbrev Kn (Z : State) (below : List Frame) : Prop := Z.vm.MethodsKnown ∧ Z.vm.FramesKnown below
theorem Kn.at (K : Kn Z below) (hZ : Z.Warmed39 s.vm) : s.vm.MethodsKnown ∧ s.vm.FramesKnown below := ⟨Vm.MethodsKnown.alikeC hZ.alike K.1, Vm.FramesKnown.alikeC hZ.alike K.2⟩
theorem Kn.of (hZ : Z.Warmed39 s.vm) (K : s.vm.MethodsKnown ∧ s.vm.FramesKnown below) : Kn Z below := ⟨Vm.MethodsKnown.alikeC hZ.alike.symm K.1, Vm.FramesKnown.alikeC hZ.alike.symm K.2⟩
/-- a contract of a body beneath which a stack trace is filled in -/
abbrev CtrK (l : Launch) (Z : State) (y : MethodName) (bytes : ByteArray) (maxL : Nat) (ret : Option FieldType) (ws : List Jvm.Cond) (rm : Room) (as' : Array Value) (h : Heap) (Q : Option Value → Heap → List Loc → Prop) : Prop :=
  MetFree l y (head1 (Jvm.Cond.code y bytes maxL ret :: ws) rm) (fun a U => a = as' ∧ Z.Warmed39 U.vm ∧ U.heap = h) (fun _ _ bl s _ => s.vm.MethodsKnown ∧ s.vm.FramesKnown bl) (fun _ U o U' => ∃ v L, o = .returned v ∧ Q v U'.heap L ∧ FrameEnd U o U' L rm.cells rm.slots)
theorem CtrK.intro {Q : Option Value → Heap → List Loc → Prop} {y : MethodName} {bytes : ByteArray} {maxL : Nat} {ret : Option FieldType} {ws : List Jvm.Cond} {rm : Room} {as' : Array Value} (hpn : plainFor y = true) (Ls : Array Slot) (hef : ∀ m, entryFrame m as' maxL = mkF m 0 Ls [])
    (body : ∀ (p : Program) (e : Env) (s : State) (m : MethodId) (below : List Frame) (meth : Method) (c : Code) (T : State), p.tables.exec = Jvm.exec → c.code = bytes → c.maxLocals = maxL → s.vm.findClass y.cls = some m.cls → meth.name = y.name → meth.sig.returnType = ret → meth.locks = false → Z.Warmed39 s.vm → s.methodNamed? y = some m →
      Stand p l e rm s m as' below meth c T [] 0 0 → T.heap = h → s.heap = h → Kn Z below → Gl p e below s rm.cells rm.slots Q (T.setTop (mkF m 0 Ls []))) : CtrK l Z y bytes maxL ret ws rm as' h Q := by
  refine MetFree.of_bodySF hpn hisR ?_
  intro p e s m args below meth c s₁ Bd hml0 hP hK
  obtain ⟨rfl, hZ, hh⟩ := hP
  have g := body p e s m below meth c s₁ Bd.exec Bd.bytes hml0 (findClass_of_methodNamed Bd.named) (name_of_methodNamed Bd.named Bd.method).1 Bd.returns (BodyLoose.notSynchronized Bd) hZ Bd.named (Stand.of_body Bd) (by rw [← hh, Bd.state]; rfl) hh (Kn.of hZ hK)
  rw [← hef m] at g
  exact g
theorem backK {y : MethodName} {bytes : ByteArray} {maxL : Nat} {ret : Option FieldType} {rm : Room} {len W : Nat} {as' : Array Value} {Qc : Option Value → Heap → List Loc → Prop} (hM : CtrK l Z y bytes maxL ret [] rm as' h Qc) (kn : Kn Z below)
    (hZ : Z.Warmed39 s.vm) (wc : (Jvm.Cond.code y bytes maxL ret).before a0 Z = true) (wz : (Jvm.Cond.initialized y.cls).before a0 Z = true) (hf : rm.frames + 1 ≤ R.frames) (hl : W + (maxL + 11) + rm.locals ≤ R.locals) :
    BackQ l R p e below s args y len W as' h rm.cells rm.slots Qc := backOfKL hM hZ wc wz hf hl (kn.at hZ).1 (kn.at hZ).2
abbrev CtrHK (l : Launch) (Z : State) (EL : List (String × Nat)) (y : MethodName) (bytes : ByteArray) (maxL : Nat) (ret : Option FieldType) (ws : List Jvm.Cond) (rm : Room) (as' : Array Value) (h : Heap) (Q : Option Value → Heap → List Loc → Prop) : Prop :=
  MetFree l y (head1 (Jvm.Cond.code y bytes maxL ret :: ws) rm) (fun a U => a = as' ∧ Z.Warmed39 U.vm ∧ U.heap = h ∧ CHv Z EL U.vm h) (fun _ _ bl s _ => s.vm.MethodsKnown ∧ s.vm.FramesKnown bl) (fun _ U o U' => ∃ v L, o = .returned v ∧ Q v U'.heap L ∧ CHr Z EL U.vm U.heap U'.vm U'.heap ∧ ReturnedEndW U o U' L rm.cells rm.slots)
theorem CtrHK.intro {Q : Option Value → Heap → List Loc → Prop} {y : MethodName} {bytes : ByteArray} {maxL : Nat} {ret : Option FieldType} {ws : List Jvm.Cond} {rm : Room} {as' : Array Value} (hpn : plainFor y = true) (Ls : Array Slot) (hef : ∀ m, entryFrame m as' maxL = mkF m 0 Ls [])
    (body : ∀ (p : Program) (e : Env) (sT : State) (m : MethodId) (below : List Frame) (meth : Method) (c : Code) (s : State) (T : State), p.tables.exec = Jvm.exec → c.code = bytes → c.maxLocals = maxL → s.vm.findClass y.cls = some m.cls → meth.name = y.name → meth.sig.returnType = ret → meth.locks = false → Z.Warmed39 s.vm → s.methodNamed? y = some m →
      Stand p l e rm s m as' below meth c T [] 0 0 → T.heap = h → Hs Z EL sT h s h → Kn Z below → GlH p e below Z EL sT h rm.cells rm.slots Q (T.setTop (mkF m 0 Ls []))) : CtrHK l Z EL y bytes maxL ret ws rm as' h Q := by
  refine MetFree.of_bodySF hpn hisR ?_
  intro p e s m args below meth c s₁ Bd hml0 hP hK
  obtain ⟨rfl, hZ, hh, hC⟩ := hP
  have g := body p e s m below meth c s s₁ Bd.exec Bd.bytes hml0 (findClass_of_methodNamed Bd.named) (name_of_methodNamed Bd.named Bd.method).1 Bd.returns (BodyLoose.notSynchronized Bd) hZ Bd.named (Stand.of_body Bd) (by rw [← hh, Bd.state]; rfl) (Hs.start s hC) (Kn.of hZ hK)
  rw [← hef m] at g
  rw [hh]
  exact g
theorem backHK {y : MethodName} {bytes : ByteArray} {maxL : Nat} {ret : Option FieldType} {rm : Room} {len W : Nat} {as' : Array Value} {Qc : Option Value → Heap → List Loc → Prop} (hM : CtrHK l Z EL y bytes maxL ret [] rm as' h Qc) (kn : Kn Z below)
    (B : Hs Z EL sT h0 s h) (hEL : EW Z a0 EL) (hZ : Z.Warmed39 s.vm) (wc : (Jvm.Cond.code y bytes maxL ret).before a0 Z = true) (wz : (Jvm.Cond.initialized y.cls).before a0 Z = true) (hf : rm.frames + 1 ≤ R.frames) (hl : W + (maxL + 11) + rm.locals ≤ R.locals) :
    BackH l R p e below Z EL s args y len W as' h rm.cells rm.slots Qc := by
  have k := kn.at hZ
  obtain ⟨⟨vm, n, rfl, h2, h3⟩, q⟩ := B
  exact backOfSKH (s := sT) (vm0 := vm) hM hZ wc wz hf hl hEL q.1 k.1 k.2
theorem thS {n0 : Nat} (O : Old Z n0 h) : ThS Z h := ThS.ext O.2 ThS.start
variable {rc rs W kc ks : Nat} {Q Qc : Option Value → Heap → List Loc → Prop} {as' : Array Value}
/-- a virtual call whose entry names a class that inherits the method from 'owner' -/
theorem GlH.virtUp (X : Stand p l e R s m args below meth c T locs cells slots) (hx : p.tables.exec = Jvm.exec) (hZ : Z.Warmed39 s.vm) {own C owner : String} {index : Nat} {y z : MethodName}
    (hown : s.vm.findClass own = some m.cls) (w1 : (Jvm.Cond.methodLink own index y).before a0 Z = true) (w2 : (Jvm.Cond.sameMethod y.cls owner y.name y.desc).before args s = true) (w3 : (Jvm.Cond.declares ⟨owner, y.name, y.desc⟩).before a0 Z = true) (w4 : (Jvm.Cond.selects C y z).before a0 Z = true) (w5 : (Jvm.Cond.instanceMethod z).before a0 Z = true)
    (hy : owner ≠ "java/lang/invoke/MethodHandle" ∧ owner ≠ "java/lang/invoke/VarHandle") {a : Addr} (E : Exa Z h a C)
    (hK : BackQ l R p e below s args z 3 W as' h kc ks Qc) (eT : T.heap = h) {pc : Nat} {Ls : Array Slot} {st : List Value} (hd : decode c.code pc = .ok (.invokevirtual index, 3)) (hsz : Ls.size = c.maxLocals) (argsL rest : List Value)
    (hlen : ∀ sig, parseMethodDescriptor y.desc = some sig → argsL.length = sig.parameters.length) (hst : st = argsL.reverse ++ .ref a :: rest) (has : (.ref a :: argsL).toArray = as') (hW : (rest.map fun v => v.category).sum ≤ W) (hc : cells + kc ≤ R.cells) (hs : slots + ks ≤ R.slots)
    (k : ∀ v T' L, Stand p l e R s m args below meth c T' (locs ++ L) (cells + kc) (slots + ks) → Qc v T'.heap L → GlH p e below Z EL sT h0 rc rs Q (T'.setTop (mkF m (pc + 3) Ls (v.toList ++ rest)))) :
    GlH p e below Z EL sT h0 rc rs Q (T.setTop (mkF m pc Ls st)) := by
  obtain ⟨cq, kq, i1, i2, i3⟩ := isOf hZ eT E
  obtain ⟨v, vm₁, ⟨U', ls, cc, sl⟩, hW₁, X', ⟨L, q1, q2, q3, q4⟩, stp⟩ := X.virtualBackUp hx hown (mvT hZ w1) w2 (mvT hZ w3) hy (mvT hZ w4) (mvT hZ w5) hK i1 i3 (g := mkF m pc Ls st) rfl hsz (Steps.refl _) hlen hst (by show 2 * 0 + _ ≤ _; omega) hd (fun _ _ => ⟨has, eT, hc, hs⟩)
  dsimp only [Pt.U, Pt.locs, Pt.cells, Pt.slots] at X' q1 q2 q3 q4 stp
  subst q2 q3 q4
  exact GlH.tr stp (k v U' L X' q1)
end KitK
end Own
end Jvm.Pilot.@@N@@
namespace Jvm.Pilot.@@N@@
namespace Own
open Jvm Jvm.ClassFile Sem Op Lib Bundle Jvm.Free Jvm.Stand Jvm.LawKit Jvm.RoadKit Jvm.Free.Exc LibCode.Throwable
/-- the words under which Throwable.fillInStackTrace() goes, for a receiver of class rc: every place is asked of rc -/
def thWords (rc : String) : List Jvm.Cond := [.initialized tN, .superclass tN "java/lang/Object", .instanceMethod tFill, .codeSync tFill Fill.code 1 (some (.object tN)), .instanceMethod tFill0, .native tFill0, .instanceMethod oInit, .code oInit ⟨#[0xb1]⟩ 1 none,
  .methodLink tN 1 oInit, .methodLink tN 27 tFill, .methodLink tN 202 tFill0, .fieldLink tN 7 tN "cause" "Ljava/lang/Throwable;", .lays rc tN "cause" "Ljava/lang/Throwable;", .fieldLink tN 17 tN "stackTrace" steD, .lays rc tN "stackTrace" steD, .fieldLink tN 24 tN "suppressedExceptions" listD, .lays rc tN "suppressedExceptions" listD,
  .fieldLink tN 13 tN "UNASSIGNED_STACK" steD, .laysStatic tN "UNASSIGNED_STACK" steD, .fieldLink tN 20 tN "SUPPRESSED_SENTINEL" listD, .laysStatic tN "SUPPRESSED_SENTINEL" listD, .lays rc tN "detailMessage" "Ljava/lang/String;",
  .fieldLink tN 198 tN "backtrace" obD, .lays rc tN "backtrace" obD, .lays rc tN "depth" "I", .soleField tN "backtrace", .soleField tN "depth", .arrayOver (.object "java/lang/Object"), .declares tFill, .selects rc tFill0 tFill0, .selects rc tFill tFill]
section KitF
variable {p : Program} {l : Launch} {e : Env} {R : Room} {s : State} {m : MethodId} {args : Array Value} {below : List Frame} {meth : Method} {c : Code} {T : State} {locs : List Loc} {cells slots : Nat} {Z : State} {a0 : Array Value} {h h0 : Heap}
/-- Throwable's record, out of these words -/
theorem th_links {pl : Platform} (ho : pl.frameOwnsMonitors = true) (hfin : pl.finalization = false) (hpl : pl.magicAccessors = ({} : Platform).magicAccessors) {rc : String} {cX : ClassId} {kX : Class} (hX : s.vm.findClass rc = some cX) (hkX : s.vm.classes[cX]? = some kX) (w : ∀ d ∈ thWords rc, d.before args s = true) :
    ∃ (F : ThrowableC) (B : BackC) (iB iD : Nat) (fD : Field), F.Links pl s ∧ B.Links F pl s ∧ s.methodNamed? tFill = some F.fill ∧ s.methodNamed? tFill0 = some F.fill0 ∧ s.vm.findClass tN = some F.cT ∧
      s.fieldFound? tN "stackTrace" steD = some (F.cT, F.kT, F.i17, F.fStack) ∧ s.fieldFound? tN "UNASSIGNED_STACK" steD = some (F.cT, F.kT, F.i13, F.fUnassigned) ∧ s.fieldFound? tN "backtrace" obD = some (F.cT, F.kT, iB, B.fBack) ∧ s.fieldFound? tN "depth" "I" = some (F.cT, F.kT, iD, fD) ∧
      F.kT.fields.find? (fun f => f.name == "backtrace" && !f.isStatic) = some B.fBack ∧ F.kT.fields.find? (fun f => f.name == "depth" && !f.isStatic) = some fD ∧
      F.fStack.type = .array (.object "java/lang/StackTraceElement") ∧ B.fBack.type = .object "java/lang/Object" ∧ fD.type = .int ∧
      kX.instanceTypes[F.fStack.slot]? = some F.fStack.type ∧ kX.instanceTypes[B.fBack.slot]? = some B.fBack.type ∧ kX.instanceTypes[fD.slot]? = some fD.type := by
  have W : ∀ d, d ∈ thWords rc → d.holds args s none s [] = true := fun d hd => w d hd
  -- the class
  obtain ⟨⟨cT, j0⟩, n0, hn0, hm0, nat0, code0, lock0, sig0⟩ := Cond.native_spec (W (.native tFill0) (by simp [thWords]))
  have hT : s.vm.findClass tN = some cT := findClass_of_methodNamed hn0
  obtain ⟨kT, hkT, nmT⟩ := Vm.findClass_spec hT
  obtain ⟨_, k', _, _, hk', _, _, -, _, face⟩ := Cond.superclass_spec hT (W (.superclass tN "java/lang/Object") (by simp [thWords]))
  obtain rfl : kT = k' := Option.some.inj (hkT.symm.trans hk')
  -- the two methods
  obtain ⟨j1, n1, hn1, hm1, at1, st1, ab1, -, -⟩ := Cond.ownMethod (x := tFill) hT hkT (W (.instanceMethod tFill) (by simp [thWords]))
  obtain ⟨n1', c1, hm1', hc1, b1, l1, r1, lock1, -, sig1⟩ := Cond.codeSync_spec hn1 (W (.codeSync tFill Fill.code 1 (some (.object tN))) (by simp [thWords]))
  obtain rfl : n1 = n1' := Option.some.inj (hm1.symm.trans hm1')
  obtain ⟨j0', n0', hn0', hm0', at0, st0, ab0, nm0, ds0⟩ := Cond.ownMethod (x := tFill0) hT hkT (W (.instanceMethod tFill0) (by simp [thWords]))
  obtain rfl : j0 = j0' := by simpa using Option.some.inj (hn0.symm.trans hn0')
  obtain rfl : n0 = n0' := Option.some.inj (hm0.symm.trans hm0')
  -- Object's constructor
  obtain ⟨mO, nO, hnO, hmO, stO, abO⟩ := Cond.instanceMethod_spec (W (.instanceMethod oInit) (by simp [thWords]))
  obtain ⟨nO', cO, hmO', hcO, bO, -, -, lockO, -, sigO⟩ := Cond.code_spec hnO (W (.code oInit ⟨#[0xb1]⟩ 1 none) (by simp [thWords]))
  obtain rfl : nO = nO' := Option.some.inj (hmO.symm.trans hmO')
  obtain ⟨kO, hkO, nmO⟩ := Vm.findClass_spec (findClass_of_methodNamed hnO)
  obtain ⟨nO1, nO2⟩ := name_of_methodNamed hnO hmO
  -- the pool
  obtain ⟨a1, b1', cf, L1, R1, hcf, P1⟩ := Cond.linkedMethod hT hkT hnO (W (.methodLink tN 1 oInit) (by simp [thWords])) pl hpl
  obtain ⟨a27, b27, cf', L27, R27, hcf', P27⟩ := Cond.linkedMethod hT hkT hn1 (W (.methodLink tN 27 tFill) (by simp [thWords])) pl hpl
  obtain rfl : cf = cf' := Option.some.inj (hcf.symm.trans hcf')
  obtain ⟨a202, b202, cf'', L202, R202, hcf'', P202⟩ := Cond.linkedMethod hT hkT hn0 (W (.methodLink tN 202 tFill0) (by simp [thWords])) pl hpl
  obtain rfl : cf = cf'' := Option.some.inj (hcf.symm.trans hcf'')
  obtain ⟨a7, i7, f7, L7, R7, at7, s7, u7, -, -, -⟩ := Cond.ownField (t := .object tN) hT hkT (by decide +kernel) (W (.fieldLink tN 7 tN "cause" "Ljava/lang/Throwable;") (by simp [thWords])) (W (.lays rc tN "cause" "Ljava/lang/Throwable;") (by simp [thWords])) pl hpl
  obtain ⟨a17, i17, f17, L17, R17, at17, s17, u17, n17, t17, g17⟩ := Cond.ownField (t := .array (.object "java/lang/StackTraceElement")) hT hkT (by decide +kernel) (W (.fieldLink tN 17 tN "stackTrace" steD) (by simp [thWords])) (W (.lays rc tN "stackTrace" steD) (by simp [thWords])) pl hpl
  obtain ⟨a24, i24, f24, L24, R24, at24, s24, u24, n24, -, g24⟩ := Cond.ownField (t := .object "java/util/List") hT hkT (by decide +kernel) (W (.fieldLink tN 24 tN "suppressedExceptions" listD) (by simp [thWords])) (W (.lays rc tN "suppressedExceptions" listD) (by simp [thWords])) pl hpl
  obtain ⟨a198, iB, fB, LB, RB, atB, sB, -, nB, tB, gB⟩ := Cond.ownField (t := .object "java/lang/Object") hT hkT (by decide +kernel) (W (.fieldLink tN 198 tN "backtrace" obD) (by simp [thWords])) (W (.lays rc tN "backtrace" obD) (by simp [thWords])) pl hpl
  obtain ⟨a13, i13, f13, aS, _, L13, R13, at13, s13, -, -, sta, -, -, -, -, g13⟩ := Cond.ownStatic (t := .array (.object "java/lang/StackTraceElement")) hT hkT (by decide +kernel) (W (.fieldLink tN 13 tN "UNASSIGNED_STACK" steD) (by simp [thWords])) (W (.laysStatic tN "UNASSIGNED_STACK" steD) (by simp [thWords])) pl hpl
  obtain ⟨a20, i20, f20, _, _, L20, R20, at20, s20, -⟩ := Cond.ownStatic (t := .object "java/util/List") hT hkT (by decide +kernel) (W (.fieldLink tN 20 tN "SUPPRESSED_SENTINEL" listD) (by simp [thWords])) (W (.laysStatic tN "SUPPRESSED_SENTINEL" listD) (by simp [thWords])) pl hpl
  obtain ⟨_, _, _, _, _, fM, _, _, _, sM, uM, -⟩ := Cond.lays_spec (W (.lays rc tN "detailMessage" "Ljava/lang/String;") (by simp [thWords]))
  obtain ⟨_, _, cD, kD, iD, fD, _, _, gD, sD, -⟩ := Cond.lays_spec (W (.lays rc tN "depth" "I") (by simp [thWords]))
  obtain rfl : cD = cT := Option.some.inj ((Cond.lays_declared (W (.lays rc tN "depth" "I") (by simp [thWords])) gD).symm.trans hT)
  obtain ⟨hkD, atD⟩ := State.fieldFound?_spec gD
  obtain rfl : kD = kT := Option.some.inj (hkD.symm.trans hkT)
  obtain ⟨nD, tD⟩ := State.fieldFound?_type gD (t := .int) (by decide +kernel)
  -- the places in the receiver
  obtain ⟨y17, d17, e17, q17⟩ := Cond.laysAt hX hkX g17 (W (.lays rc tN "stackTrace" steD) (by simp [thWords]))
  obtain ⟨-, d24, e24, q24⟩ := Cond.laysAt hX hkX g24 (W (.lays rc tN "suppressedExceptions" listD) (by simp [thWords]))
  obtain ⟨yB, -⟩ := Cond.laysAt hX hkX gB (W (.lays rc tN "backtrace" obD) (by simp [thWords]))
  obtain ⟨yD, -⟩ := Cond.laysAt hX hkX gD (W (.lays rc tN "depth" "I") (by simp [thWords]))
  have noPar : ∀ {y : MethodName} {sg : MethodDescriptor} {ps : List FieldType}, parseMethodDescriptor y.desc = some sg → (parseMethodDescriptor y.desc).map (·.parameters) = some ps → sg.parameters = ps := fun q1 q2 => by rw [q1] at q2; simpa using q2
  refine ⟨{ cT := cD, kT := kD, cO := cD, aS := aS, fillIdx := j1, fill0Idx := j0, initSIdx := j1, obj := mO, kObj := kO, methFill := n1, methFill0 := n0, methInitS := n1, methObj := nO, codeFill := c1, codeInitS := c1, codeObj := cO, fBack := fB, fDepth := fD, fStack := f17, fCause := f7, fSupp := f24, fMsg := fM, fUnassigned := f13, fSentinel := f20, cfT := cf, ci1 := a1, n1 := b1', ci27 := a27, n27 := b27, ci202 := a202, n202 := b202, ci7 := a7, i7 := i7, ci13 := a13, i13 := i13, ci17 := a17, i17 := i17, ci20 := a20, i20 := i20, ci24 := a24, i24 := i24 }, { ci198 := a198, i198 := iB, fBack := fB }, iB, iD, fD, ?_, ⟨LB, RB, atB, sB⟩, hn1, hn0, hT, g17, g13, gB, gD,
    Cond.soleField_find hT hkT (W (.soleField tN "backtrace") (by simp [thWords])) atB nB sB, Cond.soleField_find hT hkT (W (.soleField tN "depth") (by simp [thWords])) atD nD sD, t17, tB, tD, y17, yB, yD⟩
  constructor
  case owns => exact ho
  case noFinalization => exact hfin
  case cls => exact hkT
  case name => exact nmT
  case boot => exact Vm.findClass_boot hT hkT
  case notInterface => exact face
  case initialized => exact Cond.initialized_spec hT hkT (W (.initialized tN) (by simp [thWords]))
  case stackApartSupp => exact Cond.laysApart e17 e24 q17 q24 (by rw [n17, n24]; decide)
  case fillParams => exact noPar sig1 (by decide +kernel)
  case fill0Params => exact noPar sig0 (by decide +kernel)
  case objParams => rw [noPar sigO (ps := []) (by decide +kernel)]; rfl
  case objFound => rw [nO2]; exact lookupSpecial_of_named hnO hmO stO
  all_goals assumption
theorem wr_size {h h' : Heap} {a : Addr} {sl : Nat} {v : Value} (W : Wr h h' a sl v) : h'.size = h.size := by obtain ⟨_, -, -, -, rfl⟩ := W; simp
/-- a field that Z finds is found at s, the same one -/
theorem found_at (hZ : Z.Warmed39 s.vm) {O n d : String} {cf cf' i i' : Nat} {k k' : Class} {f f' : Field} (q : Z.fieldFound? O n d = some (cf, k, i, f)) (q' : s.fieldFound? O n d = some (cf', k', i', f')) : f = f' ∧ k.statics = k'.statics := by
  obtain ⟨k2, e1, e2⟩ := State.fieldFound?_setVm (s := Z) hZ.alike q
  have e3 := (show s.fieldFound? O n d = _ from e1).symm.trans q'
  simp only [Option.some.injEq, Prod.mk.injEq] at e3
  obtain ⟨-, rfl, -, rfl⟩ := e3
  exact ⟨rfl, by rw [e2]⟩
/-- cells that the base holds and that no written place lies in stand as they were -/
theorem same_other (X : Stand p l e R s m args below meth c T locs cells slots) {a : Addr} (hloc : ∀ x ∈ locs, x.base = a) {y : Addr} {cy : Cell} (ne : y ≠ a) (q : s.heap[y]? = some cy) : T.heap[y]? = some cy := by
  obtain ⟨c', q1, q2, q3, q4⟩ := X.same.2.2.2.2.2 y cy q
  have q1 : T.heap[y]? = some c' := q1
  have e : c'.slots = cy.slots := Array.ext_getElem? fun i => q4 i fun hm => ne (hloc _ hm)
  rw [q1, q2, e]
/-- Throwable.fillInStackTrace() on a fresh receiver: one step of a walk whose frame has written nothing but the receiver -/
theorem fill_step (X : Stand p l e R s m args below meth c T locs cells slots) (hx : p.tables.exec = Jvm.exec) (hl : l.stackTraces = true) (hZ : Z.Warmed39 s.vm) (kn : Kn Z below) (hown : s.vm.findClass tN = some m.cls) {rc : String} {n : Nat} (ws : ∀ d ∈ thWords rc, d.before a0 Z = true) (wi : (Jvm.Cond.instantiable rc n).before a0 Z = true)
    {n0 : Nat} (O : Old Z n0 h0) (hsh : s.heap = h0) (eT : T.heap = h) {a : Nat} (hloc : ∀ x ∈ locs, x.base = a) (hsz : h.size = h0.size) (F : Fr n0 locs) (ge : n0 ≤ a)
    (E : Exa Z h a rc) (N : Unt h a) {u : Value} (hu : u.isRef = true) (St : Sta Z h tN "UNASSIGNED_STACK" steD u) (FS : Fld Z h a tN "stackTrace" steD u) (FB : Fld Z h a tN "backtrace" obD .null)
    {pc : Nat} {Ls : Array Slot} (hsize : Ls.size = c.maxLocals) (hd : decode c.code pc = .ok (.invokevirtual 27, 3)) (hf : 3 ≤ R.frames) (hlo : 42 ≤ R.locals) (hc : cells + 1 ≤ R.cells) (hsl : slots + 2752 ≤ R.slots) :
    ∃ (T' : State) (h' : Heap) (L : List Loc), Stand p l e R s m args below meth c T' L (cells + 1) (slots + 2752) ∧ T'.heap = h' ∧ Fr n0 L ∧ Keep h h' [a] ∧
      (∀ {O nm d : String} {v : Value}, Fld Z h a O nm d v → Jvm.RoadKit.slotOf Z tN "backtrace" obD ≠ Jvm.RoadKit.slotOf Z O nm d → Jvm.RoadKit.slotOf Z tN "depth" "I" ≠ Jvm.RoadKit.slotOf Z O nm d → Jvm.RoadKit.slotOf Z tN "stackTrace" steD ≠ Jvm.RoadKit.slotOf Z O nm d → Fld Z h' a O nm d v) ∧
      ∀ target, Steps p.tables e below (T'.setTop (mkF m (pc + 3) Ls [.ref a])) target → Steps p.tables e below (T.setTop (mkF m pc Ls [.ref a])) target := by
  have w : ∀ d ∈ thWords rc, d.before args s = true := fun d hd => mvX (by rw [hsh]; exact thS O) hZ (List.all_eq_true.mp (show (thWords rc).all xOk = true from rfl) d hd) (ws d hd)
  obtain ⟨cX, kX, i1, i2, i3⟩ := isOf hZ eT E
  have k := kn.at hZ
  have htr : e.platform.stackTraces = true := by rw [X.admits.platform]; exact hl
  obtain ⟨Th, Bk, iB, iD, fD, L, LB, hfill, hfill0, hT, gS, gU, gB, gD, fb, fd, tS, tB, tD, yS, yB, yD⟩ := th_links (pl := e.platform) (by rw [X.admits.platform]) (by rw [X.admits.platform]) (by rw [X.admits.platform]) i1 i2 w
  subst eT
  obtain ⟨cell, hcell, hvm, hmon⟩ := N
  obtain ⟨cell2, kZ, q1, q2, q3, q4, q5⟩ := E
  obtain rfl : cell = cell2 := Option.some.inj (hcell.symm.trans q1)
  obtain rfl : cX = cell.cls := Option.some.inj (i1.symm.trans (by rw [hZ.alike.findClass]; exact q2))
  obtain ⟨cw, kw, v1, v2, v3, -⟩ := Cond.instantiable_spec (mvT (args := args) hZ wi)
  obtain rfl : cell.cls = cw := Option.some.inj (i1.symm.trans v1)
  obtain rfl : kX = kw := Option.some.inj (i2.symm.trans v2)
  obtain ⟨k3, z1, z2⟩ := hZ.alike.2.2 _ _ q3
  obtain rfl : kX = k3 := Option.some.inj (i2.symm.trans z1)
  have csz : cell.slots.size = kX.instanceTypes.size := by rw [q5 (by rw [z2] at v3; exact v3), z2]
  have tk : ∀ {f : Field} {v : Value}, kX.instanceTypes[f.slot]? = some f.type → fits f.type v = true → Jvm.Takes s cell f v := fun {f v} x1 x2 => by
    obtain ⟨r1, r2⟩ := Takes.of_laid (v := v) i2 v3 x1 x2
    exact ⟨by rw [csz]; simpa using r1, by rw [hvm]; exact r2⟩
  obtain ⟨cu, iu, ku, fu, aS, cellS, o1, -, -, o4, o5, o6, o7⟩ := St
  obtain ⟨rfl, o8⟩ := found_at hZ o1 gU
  obtain rfl : aS = Th.aS := Option.some.inj (o4.symm.trans (o8.trans L.statics))
  obtain ⟨cell3, c3, k3, j3, f3, b1, b2, -, -, -, -, b7⟩ := FS
  obtain rfl : cell = cell3 := Option.some.inj (hcell.symm.trans b1)
  obtain ⟨rfl, -⟩ := found_at hZ b2 gS
  obtain ⟨cell4, c4, k4, j4, f4, m1, m2, -, -, -, -, m7⟩ := FB
  obtain rfl : cell = cell4 := Option.some.inj (hcell.symm.trans m1)
  obtain ⟨eB, -⟩ := found_at hZ m2 gB
  obtain ⟨_, _, c5, k5, j5, f5, -, -, p2, -⟩ := Cond.lays_spec (ws (.lays rc tN "depth" "I") (by simp [thWords]))
  obtain ⟨eD, -⟩ := found_at hZ p2 gD
  have hne : Th.aS ≠ a := fun z => by
    rw [z, hcell] at o5
    rw [← Option.some.inj o5, hvm] at o6; cases o6
  have hsel : selectMethod e.platform s.vm cell.cls Th.fill0 = .method Th.fill0 := by
    obtain ⟨x1, x2, x3, y1, y2, y3, y4, -⟩ := Cond.selects_spec (w (.selects rc tFill0 tFill0) (by simp [thWords]))
    cases Option.some.inj (y1.symm.trans i1)
    cases Option.some.inj (y2.symm.trans (State.methodFound?_of_named hfill0 (by decide)))
    cases Option.some.inj (y3.symm.trans hfill0)
    rw [Launch.admits_selectMethod X.admits]; exact y4
  obtain ⟨comp, cO, kO, -, -, hkO, hkindO, hO⟩ := Cond.arrayOver_spec (w (.arrayOver (.object "java/lang/Object")) (by simp [thWords]))
  have pays := fillPaysAny (l := l) (R := R) (p := p) (e := e) (below := below) (s := s) (sargs := args) (len := 3) (W := 0) hx htr Th L hfill (u0 := ⟨u, hu⟩) (self := a) (cell := cell) (cellS := cellS) (fun q z => by rw [hvm] at z; cases z) (by rw [hvm]; simp) (by rw [hmon]) (by rw [hmon]) b7 hsel hne (fun z => by rw [z] at o6; cases o6) o7
    (tk yS (by rw [tS]; exact fits_refV_array _ ⟨u, hu⟩)) ⟨Bk, LB, by rw [← eB]; exact m7⟩ k.1 k.2 hT hO hkO hkindO fb fd (fun x => tk yB (by rw [tB]; exact fits_refV_object _ ⟨.ref x, rfl⟩)) (fun x => tk yD (by rw [tD]; rfl)) hf (by omega)
  obtain ⟨v, vm₁, ⟨U, ls, cc, sl⟩, hW₁, X', ⟨hv, C, nn, hnn, hC, c1, c2, c3', c4', c5', c6', c7'⟩, stp⟩ := X.virtualBack hx hown (w (.methodLink tN 27 tFill) (by simp [thWords])) (w (.declares tFill) (by simp [thWords])) (notFace_of_selects (w (.selects rc tFill tFill) (by simp [thWords]))) (w (.selects rc tFill tFill) (by simp [thWords])) (w (.instanceMethod tFill) (by simp [thWords])) (by decide) pays i1 i3 (g := mkF m pc Ls [.ref a]) rfl hsize (Steps.refl _) (argsL := []) (rest := []) (lenOf (show parseMethodDescriptor tFill.desc = some ⟨[], some (.object tN)⟩ by decide +kernel) rfl) rfl (by show 2 * 0 + 0 ≤ 0; omega) hd (fun _ _ => ⟨rfl, hc, hsl, hcell, o5⟩)
  dsimp only [Pt.U, Pt.locs, Pt.cells, Pt.slots] at X' hC c4' c5' c6' c7' stp
  subst c5' c6' c7' hv
  have hb : ∀ x ∈ locs ++ [⟨a, Bk.fBack.slot⟩, ⟨a, fD.slot⟩, ⟨a, Th.fStack.slot⟩], x.base = a := fun x hx => by
    rcases List.mem_append.mp hx with hx | hx
    · exact hloc x hx
    · simp only [List.mem_cons, List.not_mem_nil, or_false] at hx
      rcases hx with rfl | rfl | rfl <;> rfl
  refine ⟨U, U.heap, _, X'.mono (Nat.le_refl _) (Nat.add_le_add_left hnn _), rfl, F.app fun y hy => ?_, ⟨?_, fun y cy q ne => ?_, fun y cy q => ?_⟩, fun {O nm d v} G g1 g2 g3 => ?_, fun target q => stp.trans q⟩
  · simp only [List.mem_cons, List.not_mem_nil, or_false] at hy
    rcases hy with rfl | rfl | rfl <;> exact ge
  · rw [hsz, ← hsh]; exact X'.same.2.1
  · have ne : y ≠ a := by simpa using ne
    have lt : y < s.heap.size := by rw [hsh, ← hsz]; exact (Array.getElem?_eq_some_iff.mp q).1
    have q0 : s.heap[y]? = some s.heap[y] := Array.getElem?_eq_getElem lt
    rw [show cy = s.heap[y] from Option.some.inj (q.symm.trans (same_other X hloc ne q0))]
    exact same_other X' hb ne q0
  · by_cases ne : y = a
    · subst ne
      obtain rfl : cell = cy := Option.some.inj (hcell.symm.trans q)
      exact ⟨C, hC, c1, c2, c3'⟩
    · have lt : y < s.heap.size := by rw [hsh, ← hsz]; exact (Array.getElem?_eq_some_iff.mp q).1
      have q0 : s.heap[y]? = some s.heap[y] := Array.getElem?_eq_getElem lt
      rw [show cy = s.heap[y] from Option.some.inj (q.symm.trans (same_other X hloc ne q0))]
      exact ⟨_, same_other X' hb ne q0, rfl, rfl, rfl⟩
  · obtain ⟨cell5, c9, k9, j9, f9, x1, x2, x3, x4, x5, x6, x7⟩ := G
    obtain rfl : cell = cell5 := Option.some.inj (hcell.symm.trans x1)
    have so : ∀ {O n d : String} {cf i : Nat} {k : Class} {f : Field}, Z.fieldFound? O n d = some (cf, k, i, f) → Jvm.RoadKit.slotOf Z O n d = f.slot := fun q => by simp [Jvm.RoadKit.slotOf, q]
    rw [so m2, so x2, eB] at g1
    rw [so p2, so x2, eD] at g2
    rw [so b2, so x2] at g3
    exact ⟨C, c9, k9, j9, f9, hC, x2, x3, by rw [c2]; exact x4, by rw [c2]; exact x5, by rw [c1]; exact x6, by rw [c4' _ g1.symm g2.symm g3.symm]; exact x7⟩
end KitF
end Own
end Jvm.Pilot.@@N@@

@@BLOCK:TracedD.lean.txt@@

namespace Jvm.Pilot.@@N@@
open Jvm Jvm.ClassFile Sem Op Lib Jvm.Free Jvm.Stand Jvm.LawKit Jvm.RoadKit Bundle Jvm.Pilot.@@N@@.Jvm.D Jvm.Pilot.@@N@@.Own
theorem pd_0 : parseMethodDescriptor "(I)V" = some ⟨[.int], none⟩ := by decide +kernel
theorem pd_1 : parseMethodDescriptor "()B" = some ⟨[], some .byte⟩ := by decide +kernel
theorem pd_2 : parseMethodDescriptor "(Ljava/lang/String;)V" = some ⟨[(.object "java/lang/String")], none⟩ := by decide +kernel
theorem pd_3 : parseMethodDescriptor "([BIB)V" = some ⟨[(.array .byte), .int, .byte], none⟩ := by decide +kernel
theorem pd_4 : parseMethodDescriptor "()I" = some ⟨[], some .int⟩ := by decide +kernel
theorem pd_5 : parseMethodDescriptor "(ILjava/lang/String;)V" = some ⟨[.int, (.object "java/lang/String")], none⟩ := by decide +kernel
theorem pd_6 : parseMethodDescriptor "(Ljava/lang/String;)Ljava/lang/AbstractStringBuilder;" = some ⟨[(.object "java/lang/String")], some (.object "java/lang/AbstractStringBuilder")⟩ := by decide +kernel
theorem pd_7 : parseMethodDescriptor "(II)V" = some ⟨[.int, .int], none⟩ := by decide +kernel
theorem pd_8 : parseMethodDescriptor "(II)I" = some ⟨[.int, .int], some .int⟩ := by decide +kernel
theorem pd_9 : parseMethodDescriptor "([BII)[B" = some ⟨[(.array .byte), .int, .int], some (.array .byte)⟩ := by decide +kernel
theorem pd_10 : parseMethodDescriptor "()[B" = some ⟨[], some (.array .byte)⟩ := by decide +kernel
theorem pd_11 : parseMethodDescriptor "()Z" = some ⟨[], some .boolean⟩ := by decide +kernel
theorem pd_12 : parseMethodDescriptor "(Ljava/lang/AbstractStringBuilder;Ljava/lang/Void;)V" = some ⟨[(.object "java/lang/AbstractStringBuilder"), (.object "java/lang/Void")], none⟩ := by decide +kernel
theorem pd_13 : parseMethodDescriptor "(Ljava/lang/StringBuilder;)V" = some ⟨[(.object "java/lang/StringBuilder")], none⟩ := by decide +kernel
theorem pd_14 : parseMethodDescriptor "(III)I" = some ⟨[.int, .int, .int], some .int⟩ := by decide +kernel
theorem pd_15 : parseMethodDescriptor "(I)I" = some ⟨[.int], some .int⟩ := by decide +kernel
theorem pd_16 : parseMethodDescriptor "([BI)[B" = some ⟨[(.array .byte), .int], some (.array .byte)⟩ := by decide +kernel
theorem pd_17 : parseMethodDescriptor "([CIILjava/lang/Void;)V" = some ⟨[(.array .char), .int, .int, (.object "java/lang/Void")], none⟩ := by decide +kernel
theorem pd_18 : parseMethodDescriptor "(C)Z" = some ⟨[.char], some .boolean⟩ := by decide +kernel
theorem pd_19 : parseMethodDescriptor "(C)[B" = some ⟨[.char], some (.array .byte)⟩ := by decide +kernel
theorem pd_20 : parseMethodDescriptor "([BB)V" = some ⟨[(.array .byte), .byte], none⟩ := by decide +kernel
theorem pd_21 : parseMethodDescriptor "([C)V" = some ⟨[(.array .char)], none⟩ := by decide +kernel
theorem pd_22 : parseMethodDescriptor "(C)Ljava/lang/String;" = some ⟨[.char], some (.object "java/lang/String")⟩ := by decide +kernel
theorem pd_23 : parseMethodDescriptor "()V" = some ⟨[], none⟩ := by decide +kernel
theorem pd_24 : parseMethodDescriptor "(Ljava/lang/String;)Ljava/lang/StringBuilder;" = some ⟨[(.object "java/lang/String")], some (.object "java/lang/StringBuilder")⟩ := by decide +kernel
theorem pd_25 : parseMethodDescriptor "()Ljava/lang/String;" = some ⟨[], some (.object "java/lang/String")⟩ := by decide +kernel
theorem pd_26 : parseMethodDescriptor "(I)C" = some ⟨[.int], some .char⟩ := by decide +kernel
theorem pd_27 : parseMethodDescriptor "(ICC)Ljava/lang/String;" = some ⟨[.int, .char, .char], some (.object "java/lang/String")⟩ := by decide +kernel
theorem pd_28 : parseMethodDescriptor "(ILjava/lang/String;Ljava/lang/String;)Lcom/example/intentio/intentio/hddl/HddlException;" = some ⟨[.int, (.object "java/lang/String"), (.object "java/lang/String")], some (.object "com/example/intentio/intentio/hddl/HddlException")⟩ := by decide +kernel
theorem pd_29 : parseMethodDescriptor "(Ljava/lang/String;I)Z" = some ⟨[(.object "java/lang/String"), .int], some .boolean⟩ := by decide +kernel
theorem pn_0 : plainName "java/lang/AbstractStringBuilder" = true := by first | (simp [plainName, overriddenIn]; done) | decide +kernel
theorem pn_1 : plainName "java/lang/StringBuilder" = true := by first | (simp [plainName, overriddenIn]; done) | decide +kernel
theorem pn_2 : plainName "java/lang/String" = true := by first | (simp [plainName, overriddenIn]; done) | decide +kernel
theorem pn_3 : plainName "java/util/Arrays" = true := by first | (simp [plainName, overriddenIn]; done) | decide +kernel
theorem pn_4 : plainName "jdk/internal/util/ArraysSupport" = true := by first | (simp [plainName, overriddenIn]; done) | decide +kernel
theorem pn_5 : plainName "java/lang/StringLatin1" = true := by first | (simp [plainName, overriddenIn]; done) | decide +kernel
theorem pn_6 : plainName "com/example/intentio/intentio/hddl/DeclarationsNotDeclaredPinLaw" = true := by first | (simp [plainName, overriddenIn]; done) | decide +kernel
theorem pn_7 : plainName "java/lang/Throwable" = true := by first | (simp [plainName, overriddenIn]; done) | decide +kernel
theorem pn_8 : plainName "java/lang/Exception" = true := by first | (simp [plainName, overriddenIn]; done) | decide +kernel
theorem pn_9 : plainName "com/example/intentio/intentio/hddl/HddlException" = true := by first | (simp [plainName, overriddenIn]; done) | decide +kernel
theorem pn_10 : plainName "com/example/intentio/intentio/hddl/Declarations" = true := by first | (simp [plainName, overriddenIn]; done) | decide +kernel
theorem d1_0 : decode jdk_29_method_69_code 0 = .ok (.iload_n 0, 1) := by decide +kernel
theorem d1_1 : decode jdk_29_method_69_code 1 = .ok (.iload_n 1, 1) := by decide +kernel
theorem d1_2 : decode jdk_29_method_69_code 2 = .ok (.if_icmp .gt 7, 3) := by decide +kernel
theorem d1_5 : decode jdk_29_method_69_code 5 = .ok (.iload_n 0, 1) := by decide +kernel
theorem d1_6 : decode jdk_29_method_69_code 6 = .ok (.goto 4, 3) := by decide +kernel
theorem d1_9 : decode jdk_29_method_69_code 9 = .ok (.iload_n 1, 1) := by decide +kernel
theorem d1_10 : decode jdk_29_method_69_code 10 = .ok (.ireturn, 1) := by decide +kernel
theorem d2_0 : decode method_2_code 0 = .ok (.iload_n 0, 1) := by decide +kernel
theorem d2_1 : decode method_2_code 1 = .ok (.ifCond .ne 14, 3) := by decide +kernel
theorem d2_4 : decode method_2_code 4 = .ok (.new 7, 3) := by decide +kernel
theorem d2_7 : decode method_2_code 7 = .ok (.dup, 1) := by decide +kernel
theorem d2_8 : decode method_2_code 8 = .ok (.iconst 0, 1) := by decide +kernel
theorem d2_9 : decode method_2_code 9 = .ok (.newarray .char, 2) := by decide +kernel
theorem d2_11 : decode method_2_code 11 = .ok (.invokespecial 9, 3) := by decide +kernel
theorem d2_14 : decode method_2_code 14 = .ok (.areturn, 1) := by decide +kernel
theorem d2_15 : decode method_2_code 15 = .ok (.iload_n 0, 1) := by decide +kernel
theorem d2_16 : decode method_2_code 16 = .ok (.iconst 1, 1) := by decide +kernel
theorem d2_17 : decode method_2_code 17 = .ok (.if_icmp .ne 8, 3) := by decide +kernel
theorem d2_20 : decode method_2_code 20 = .ok (.iload_n 1, 1) := by decide +kernel
theorem d2_21 : decode method_2_code 21 = .ok (.invokestatic 12, 3) := by decide +kernel
theorem d2_24 : decode method_2_code 24 = .ok (.areturn, 1) := by decide +kernel
theorem d2_25 : decode method_2_code 25 = .ok (.new 7, 3) := by decide +kernel
theorem d2_28 : decode method_2_code 28 = .ok (.dup, 1) := by decide +kernel
theorem d2_29 : decode method_2_code 29 = .ok (.iconst 2, 1) := by decide +kernel
theorem d2_30 : decode method_2_code 30 = .ok (.newarray .char, 2) := by decide +kernel
theorem d2_32 : decode method_2_code 32 = .ok (.dup, 1) := by decide +kernel
theorem d2_33 : decode method_2_code 33 = .ok (.iconst 0, 1) := by decide +kernel
theorem d2_34 : decode method_2_code 34 = .ok (.iload_n 1, 1) := by decide +kernel
theorem d2_35 : decode method_2_code 35 = .ok (.castore, 1) := by decide +kernel
theorem d2_36 : decode method_2_code 36 = .ok (.dup, 1) := by decide +kernel
theorem d2_37 : decode method_2_code 37 = .ok (.iconst 1, 1) := by decide +kernel
theorem d2_38 : decode method_2_code 38 = .ok (.iload_n 2, 1) := by decide +kernel
theorem d2_39 : decode method_2_code 39 = .ok (.castore, 1) := by decide +kernel
theorem d2_40 : decode method_2_code 40 = .ok (.invokespecial 9, 3) := by decide +kernel
theorem d2_43 : decode method_2_code 43 = .ok (.areturn, 1) := by decide +kernel
theorem d3_0 : decode jdk_42_method_3_code 0 = .ok (.aload_n 0, 1) := by decide +kernel
theorem d3_1 : decode jdk_42_method_3_code 1 = .ok (.aload_n 1, 1) := by decide +kernel
theorem d3_2 : decode jdk_42_method_3_code 2 = .ok (.iconst 0, 1) := by decide +kernel
theorem d3_3 : decode jdk_42_method_3_code 3 = .ok (.aload_n 1, 1) := by decide +kernel
theorem d3_4 : decode jdk_42_method_3_code 4 = .ok (.arraylength, 1) := by decide +kernel
theorem d3_5 : decode jdk_42_method_3_code 5 = .ok (.aconst_null, 1) := by decide +kernel
theorem d3_6 : decode jdk_42_method_3_code 6 = .ok (.invokespecial 27, 3) := by decide +kernel
theorem d3_9 : decode jdk_42_method_3_code 9 = .ok (.return_, 1) := by decide +kernel
theorem d4_0 : decode jdk_42_method_149_code 0 = .ok (.aload_n 0, 1) := by decide +kernel
theorem d4_1 : decode jdk_42_method_149_code 1 = .ok (.invokespecial 1, 3) := by decide +kernel
theorem d4_4 : decode jdk_42_method_149_code 4 = .ok (.iload_n 3, 1) := by decide +kernel
theorem d4_5 : decode jdk_42_method_149_code 5 = .ok (.ifCond .ne 22, 3) := by decide +kernel
theorem d4_8 : decode jdk_42_method_149_code 8 = .ok (.aload_n 0, 1) := by decide +kernel
theorem d4_9 : decode jdk_42_method_149_code 9 = .ok (.ldc 7, 2) := by decide +kernel
theorem d4_11 : decode jdk_42_method_149_code 11 = .ok (.getfield 9, 3) := by decide +kernel
theorem d4_14 : decode jdk_42_method_149_code 14 = .ok (.putfield 9, 3) := by decide +kernel
theorem d4_17 : decode jdk_42_method_149_code 17 = .ok (.aload_n 0, 1) := by decide +kernel
theorem d4_18 : decode jdk_42_method_149_code 18 = .ok (.ldc 7, 2) := by decide +kernel
theorem d4_20 : decode jdk_42_method_149_code 20 = .ok (.getfield 15, 3) := by decide +kernel
theorem d4_23 : decode jdk_42_method_149_code 23 = .ok (.putfield 15, 3) := by decide +kernel
theorem d4_26 : decode jdk_42_method_149_code 26 = .ok (.return_, 1) := by decide +kernel
theorem d9_0 : decode prog_46_method_29_code 0 = .ok (.new 177, 3) := by decide +kernel
theorem d9_3 : decode prog_46_method_29_code 3 = .ok (.dup, 1) := by decide +kernel
theorem d9_4 : decode prog_46_method_29_code 4 = .ok (.iload_n 0, 1) := by decide +kernel
theorem d9_5 : decode prog_46_method_29_code 5 = .ok (.new 194, 3) := by decide +kernel
theorem d9_8 : decode prog_46_method_29_code 8 = .ok (.dup, 1) := by decide +kernel
theorem d9_9 : decode prog_46_method_29_code 9 = .ok (.invokespecial 196, 3) := by decide +kernel
theorem d9_12 : decode prog_46_method_29_code 12 = .ok (.aload_n 1, 1) := by decide +kernel
theorem d9_13 : decode prog_46_method_29_code 13 = .ok (.invokevirtual 199, 3) := by decide +kernel
theorem d9_16 : decode prog_46_method_29_code 16 = .ok (.ldc_w 494, 3) := by decide +kernel
theorem d9_19 : decode prog_46_method_29_code 19 = .ok (.invokevirtual 199, 3) := by decide +kernel
theorem d9_22 : decode prog_46_method_29_code 22 = .ok (.aload_n 2, 1) := by decide +kernel
theorem d9_23 : decode prog_46_method_29_code 23 = .ok (.invokevirtual 199, 3) := by decide +kernel
theorem d9_26 : decode prog_46_method_29_code 26 = .ok (.ldc_w 496, 3) := by decide +kernel
theorem d9_29 : decode prog_46_method_29_code 29 = .ok (.invokevirtual 199, 3) := by decide +kernel
theorem d9_32 : decode prog_46_method_29_code 32 = .ok (.invokevirtual 203, 3) := by decide +kernel
theorem d9_35 : decode prog_46_method_29_code 35 = .ok (.invokespecial 185, 3) := by decide +kernel
theorem d9_38 : decode prog_46_method_29_code 38 = .ok (.areturn, 1) := by decide +kernel
theorem d10_0 : decode jdk_67_method_1_code 0 = .ok (.aload_n 0, 1) := by decide +kernel
theorem d10_1 : decode jdk_67_method_1_code 1 = .ok (.bipush 16, 2) := by decide +kernel
theorem d10_3 : decode jdk_67_method_1_code 3 = .ok (.invokespecial 1, 3) := by decide +kernel
theorem d10_6 : decode jdk_67_method_1_code 6 = .ok (.return_, 1) := by decide +kernel
theorem d11_0 : decode jdk_68_method_2_code 0 = .ok (.aload_n 0, 1) := by decide +kernel
theorem d11_1 : decode jdk_68_method_2_code 1 = .ok (.invokespecial 3, 3) := by decide +kernel
theorem d11_4 : decode jdk_68_method_2_code 4 = .ok (.getstatic 18, 3) := by decide +kernel
theorem d11_7 : decode jdk_68_method_2_code 7 = .ok (.ifCond .eq 18, 3) := by decide +kernel
theorem d11_10 : decode jdk_68_method_2_code 10 = .ok (.aload_n 0, 1) := by decide +kernel
theorem d11_11 : decode jdk_68_method_2_code 11 = .ok (.iload_n 1, 1) := by decide +kernel
theorem d11_12 : decode jdk_68_method_2_code 12 = .ok (.newarray .byte, 2) := by decide +kernel
theorem d11_14 : decode jdk_68_method_2_code 14 = .ok (.putfield 15, 3) := by decide +kernel
theorem d11_17 : decode jdk_68_method_2_code 17 = .ok (.aload_n 0, 1) := by decide +kernel
theorem d11_18 : decode jdk_68_method_2_code 18 = .ok (.iconst 0, 1) := by decide +kernel
theorem d11_19 : decode jdk_68_method_2_code 19 = .ok (.putfield 22, 3) := by decide +kernel
theorem d11_22 : decode jdk_68_method_2_code 22 = .ok (.goto 16, 3) := by decide +kernel
theorem d11_38 : decode jdk_68_method_2_code 38 = .ok (.return_, 1) := by decide +kernel
theorem d12_0 : decode jdk_67_method_7_code 0 = .ok (.aload_n 0, 1) := by decide +kernel
theorem d12_1 : decode jdk_67_method_7_code 1 = .ok (.aload_n 1, 1) := by decide +kernel
theorem d12_2 : decode jdk_67_method_7_code 2 = .ok (.invokespecial 29, 3) := by decide +kernel
theorem d12_5 : decode jdk_67_method_7_code 5 = .ok (.pop, 1) := by decide +kernel
theorem d12_6 : decode jdk_67_method_7_code 6 = .ok (.aload_n 0, 1) := by decide +kernel
theorem d12_7 : decode jdk_67_method_7_code 7 = .ok (.areturn, 1) := by decide +kernel
theorem d13_0 : decode jdk_68_method_22_code 0 = .ok (.aload_n 1, 1) := by decide +kernel
theorem d13_1 : decode jdk_68_method_22_code 1 = .ok (.ifnonnull 8, 3) := by decide +kernel
theorem d13_9 : decode jdk_68_method_22_code 9 = .ok (.aload_n 1, 1) := by decide +kernel
theorem d13_10 : decode jdk_68_method_22_code 10 = .ok (.invokevirtual 32, 3) := by decide +kernel
theorem d13_13 : decode jdk_68_method_22_code 13 = .ok (.istore_n 2, 1) := by decide +kernel
theorem d13_14 : decode jdk_68_method_22_code 14 = .ok (.aload_n 0, 1) := by decide +kernel
theorem d13_15 : decode jdk_68_method_22_code 15 = .ok (.aload_n 0, 1) := by decide +kernel
theorem d13_16 : decode jdk_68_method_22_code 16 = .ok (.getfield 79, 3) := by decide +kernel
theorem d13_19 : decode jdk_68_method_22_code 19 = .ok (.iload_n 2, 1) := by decide +kernel
theorem d13_20 : decode jdk_68_method_22_code 20 = .ok (.iadd, 1) := by decide +kernel
theorem d13_21 : decode jdk_68_method_22_code 21 = .ok (.invokevirtual 100, 3) := by decide +kernel
theorem d13_24 : decode jdk_68_method_22_code 24 = .ok (.aload_n 0, 1) := by decide +kernel
theorem d13_25 : decode jdk_68_method_22_code 25 = .ok (.aload_n 0, 1) := by decide +kernel
theorem d13_26 : decode jdk_68_method_22_code 26 = .ok (.getfield 79, 3) := by decide +kernel
theorem d13_29 : decode jdk_68_method_22_code 29 = .ok (.aload_n 1, 1) := by decide +kernel
theorem d13_30 : decode jdk_68_method_22_code 30 = .ok (.invokevirtual 208, 3) := by decide +kernel
theorem d13_33 : decode jdk_68_method_22_code 33 = .ok (.aload_n 0, 1) := by decide +kernel
theorem d13_34 : decode jdk_68_method_22_code 34 = .ok (.dup, 1) := by decide +kernel
theorem d13_35 : decode jdk_68_method_22_code 35 = .ok (.getfield 79, 3) := by decide +kernel
theorem d13_38 : decode jdk_68_method_22_code 38 = .ok (.iload_n 2, 1) := by decide +kernel
theorem d13_39 : decode jdk_68_method_22_code 39 = .ok (.iadd, 1) := by decide +kernel
theorem d13_40 : decode jdk_68_method_22_code 40 = .ok (.putfield 79, 3) := by decide +kernel
theorem d13_43 : decode jdk_68_method_22_code 43 = .ok (.aload_n 0, 1) := by decide +kernel
theorem d13_44 : decode jdk_68_method_22_code 44 = .ok (.areturn, 1) := by decide +kernel
theorem d15_0 : decode jdk_42_method_152_code 0 = .ok (.getstatic 38, 3) := by decide +kernel
theorem d15_3 : decode jdk_42_method_152_code 3 = .ok (.ifCond .eq 10, 3) := by decide +kernel
theorem d15_6 : decode jdk_42_method_152_code 6 = .ok (.aload_n 0, 1) := by decide +kernel
theorem d15_7 : decode jdk_42_method_152_code 7 = .ok (.getfield 15, 3) := by decide +kernel
theorem d15_10 : decode jdk_42_method_152_code 10 = .ok (.goto 4, 3) := by decide +kernel
theorem d15_14 : decode jdk_42_method_152_code 14 = .ok (.ireturn, 1) := by decide +kernel
theorem d16_0 : decode jdk_68_method_9_code 0 = .ok (.aload_n 0, 1) := by decide +kernel
theorem d16_1 : decode jdk_68_method_9_code 1 = .ok (.getfield 15, 3) := by decide +kernel
theorem d16_4 : decode jdk_68_method_9_code 4 = .ok (.arraylength, 1) := by decide +kernel
theorem d16_5 : decode jdk_68_method_9_code 5 = .ok (.aload_n 0, 1) := by decide +kernel
theorem d16_6 : decode jdk_68_method_9_code 6 = .ok (.getfield 22, 3) := by decide +kernel
theorem d16_9 : decode jdk_68_method_9_code 9 = .ok (.ishr, 1) := by decide +kernel
theorem d16_10 : decode jdk_68_method_9_code 10 = .ok (.istore_n 2, 1) := by decide +kernel
theorem d16_11 : decode jdk_68_method_9_code 11 = .ok (.iload_n 1, 1) := by decide +kernel
theorem d16_12 : decode jdk_68_method_9_code 12 = .ok (.iload_n 2, 1) := by decide +kernel
theorem d16_13 : decode jdk_68_method_9_code 13 = .ok (.isub, 1) := by decide +kernel
theorem d16_14 : decode jdk_68_method_9_code 14 = .ok (.ifCond .le 24, 3) := by decide +kernel
theorem d16_17 : decode jdk_68_method_9_code 17 = .ok (.aload_n 0, 1) := by decide +kernel
theorem d16_18 : decode jdk_68_method_9_code 18 = .ok (.aload_n 0, 1) := by decide +kernel
theorem d16_19 : decode jdk_68_method_9_code 19 = .ok (.getfield 15, 3) := by decide +kernel
theorem d16_22 : decode jdk_68_method_9_code 22 = .ok (.aload_n 0, 1) := by decide +kernel
theorem d16_23 : decode jdk_68_method_9_code 23 = .ok (.iload_n 1, 1) := by decide +kernel
theorem d16_24 : decode jdk_68_method_9_code 24 = .ok (.invokevirtual 104, 3) := by decide +kernel
theorem d16_27 : decode jdk_68_method_9_code 27 = .ok (.aload_n 0, 1) := by decide +kernel
theorem d16_28 : decode jdk_68_method_9_code 28 = .ok (.getfield 22, 3) := by decide +kernel
theorem d16_31 : decode jdk_68_method_9_code 31 = .ok (.ishl, 1) := by decide +kernel
theorem d16_32 : decode jdk_68_method_9_code 32 = .ok (.invokestatic 108, 3) := by decide +kernel
theorem d16_35 : decode jdk_68_method_9_code 35 = .ok (.putfield 15, 3) := by decide +kernel
theorem d16_38 : decode jdk_68_method_9_code 38 = .ok (.return_, 1) := by decide +kernel
theorem d17_0 : decode jdk_68_method_73_code 0 = .ok (.aload_n 0, 1) := by decide +kernel
theorem d17_1 : decode jdk_68_method_73_code 1 = .ok (.aload_n 2, 1) := by decide +kernel
theorem d17_2 : decode jdk_68_method_73_code 2 = .ok (.invokevirtual 397, 3) := by decide +kernel
theorem d17_5 : decode jdk_68_method_73_code 5 = .ok (.aload_n 2, 1) := by decide +kernel
theorem d17_6 : decode jdk_68_method_73_code 6 = .ok (.aload_n 0, 1) := by decide +kernel
theorem d17_7 : decode jdk_68_method_73_code 7 = .ok (.getfield 15, 3) := by decide +kernel
theorem d17_10 : decode jdk_68_method_73_code 10 = .ok (.iload_n 1, 1) := by decide +kernel
theorem d17_11 : decode jdk_68_method_73_code 11 = .ok (.aload_n 0, 1) := by decide +kernel
theorem d17_12 : decode jdk_68_method_73_code 12 = .ok (.getfield 22, 3) := by decide +kernel
theorem d17_15 : decode jdk_68_method_73_code 15 = .ok (.invokevirtual 399, 3) := by decide +kernel
theorem d17_18 : decode jdk_68_method_73_code 18 = .ok (.return_, 1) := by decide +kernel
theorem d18_0 : decode jdk_68_method_71_code 0 = .ok (.getstatic 18, 3) := by decide +kernel
theorem d18_3 : decode jdk_68_method_71_code 3 = .ok (.ifCond .eq 18, 3) := by decide +kernel
theorem d18_6 : decode jdk_68_method_71_code 6 = .ok (.aload_n 0, 1) := by decide +kernel
theorem d18_7 : decode jdk_68_method_71_code 7 = .ok (.getfield 22, 3) := by decide +kernel
theorem d18_10 : decode jdk_68_method_71_code 10 = .ok (.aload_n 1, 1) := by decide +kernel
theorem d18_11 : decode jdk_68_method_71_code 11 = .ok (.invokevirtual 40, 3) := by decide +kernel
theorem d18_14 : decode jdk_68_method_71_code 14 = .ok (.if_icmp .eq 7, 3) := by decide +kernel
theorem d18_21 : decode jdk_68_method_71_code 21 = .ok (.return_, 1) := by decide +kernel
theorem d19_0 : decode jdk_42_method_147_code 0 = .ok (.aload_n 0, 1) := by decide +kernel
theorem d19_1 : decode jdk_42_method_147_code 1 = .ok (.invokevirtual 335, 3) := by decide +kernel
theorem d19_4 : decode jdk_42_method_147_code 4 = .ok (.iload_n 3, 1) := by decide +kernel
theorem d19_5 : decode jdk_42_method_147_code 5 = .ok (.if_icmp .ne 23, 3) := by decide +kernel
theorem d19_8 : decode jdk_42_method_147_code 8 = .ok (.aload_n 0, 1) := by decide +kernel
theorem d19_9 : decode jdk_42_method_147_code 9 = .ok (.getfield 9, 3) := by decide +kernel
theorem d19_12 : decode jdk_42_method_147_code 12 = .ok (.iconst 0, 1) := by decide +kernel
theorem d19_13 : decode jdk_42_method_147_code 13 = .ok (.aload_n 1, 1) := by decide +kernel
theorem d19_14 : decode jdk_42_method_147_code 14 = .ok (.iload_n 2, 1) := by decide +kernel
theorem d19_15 : decode jdk_42_method_147_code 15 = .ok (.iload_n 3, 1) := by decide +kernel
theorem d19_16 : decode jdk_42_method_147_code 16 = .ok (.ishl, 1) := by decide +kernel
theorem d19_17 : decode jdk_42_method_147_code 17 = .ok (.aload_n 0, 1) := by decide +kernel
theorem d19_18 : decode jdk_42_method_147_code 18 = .ok (.getfield 9, 3) := by decide +kernel
theorem d19_21 : decode jdk_42_method_147_code 21 = .ok (.arraylength, 1) := by decide +kernel
theorem d19_22 : decode jdk_42_method_147_code 22 = .ok (.invokestatic 212, 3) := by decide +kernel
theorem d19_25 : decode jdk_42_method_147_code 25 = .ok (.goto 18, 3) := by decide +kernel
theorem d19_43 : decode jdk_42_method_147_code 43 = .ok (.return_, 1) := by decide +kernel
theorem d20_0 : decode jdk_68_method_10_code 0 = .ok (.aload_n 0, 1) := by decide +kernel
theorem d20_1 : decode jdk_68_method_10_code 1 = .ok (.getfield 15, 3) := by decide +kernel
theorem d20_4 : decode jdk_68_method_10_code 4 = .ok (.arraylength, 1) := by decide +kernel
theorem d20_5 : decode jdk_68_method_10_code 5 = .ok (.istore_n 2, 1) := by decide +kernel
theorem d20_6 : decode jdk_68_method_10_code 6 = .ok (.iload_n 1, 1) := by decide +kernel
theorem d20_7 : decode jdk_68_method_10_code 7 = .ok (.aload_n 0, 1) := by decide +kernel
theorem d20_8 : decode jdk_68_method_10_code 8 = .ok (.getfield 22, 3) := by decide +kernel
theorem d20_11 : decode jdk_68_method_10_code 11 = .ok (.ishl, 1) := by decide +kernel
theorem d20_12 : decode jdk_68_method_10_code 12 = .ok (.istore_n 3, 1) := by decide +kernel
theorem d20_13 : decode jdk_68_method_10_code 13 = .ok (.iload_n 3, 1) := by decide +kernel
theorem d20_14 : decode jdk_68_method_10_code 14 = .ok (.iload_n 2, 1) := by decide +kernel
theorem d20_15 : decode jdk_68_method_10_code 15 = .ok (.isub, 1) := by decide +kernel
theorem d20_16 : decode jdk_68_method_10_code 16 = .ok (.istore 4, 2) := by decide +kernel
theorem d20_18 : decode jdk_68_method_10_code 18 = .ok (.iload_n 2, 1) := by decide +kernel
theorem d20_19 : decode jdk_68_method_10_code 19 = .ok (.iload 4, 2) := by decide +kernel
theorem d20_21 : decode jdk_68_method_10_code 21 = .ok (.iload_n 2, 1) := by decide +kernel
theorem d20_22 : decode jdk_68_method_10_code 22 = .ok (.iconst 2, 1) := by decide +kernel
theorem d20_23 : decode jdk_68_method_10_code 23 = .ok (.aload_n 0, 1) := by decide +kernel
theorem d20_24 : decode jdk_68_method_10_code 24 = .ok (.getfield 22, 3) := by decide +kernel
theorem d20_27 : decode jdk_68_method_10_code 27 = .ok (.ishl, 1) := by decide +kernel
theorem d20_28 : decode jdk_68_method_10_code 28 = .ok (.iadd, 1) := by decide +kernel
theorem d20_29 : decode jdk_68_method_10_code 29 = .ok (.invokestatic 114, 3) := by decide +kernel
theorem d20_32 : decode jdk_68_method_10_code 32 = .ok (.istore 5, 2) := by decide +kernel
theorem d20_34 : decode jdk_68_method_10_code 34 = .ok (.iload 5, 2) := by decide +kernel
theorem d20_36 : decode jdk_68_method_10_code 36 = .ok (.ldc 39, 2) := by decide +kernel
theorem d20_38 : decode jdk_68_method_10_code 38 = .ok (.if_icmp .ne 13, 3) := by decide +kernel
theorem d20_51 : decode jdk_68_method_10_code 51 = .ok (.iload 5, 2) := by decide +kernel
theorem d20_53 : decode jdk_68_method_10_code 53 = .ok (.aload_n 0, 1) := by decide +kernel
theorem d20_54 : decode jdk_68_method_10_code 54 = .ok (.getfield 22, 3) := by decide +kernel
theorem d20_57 : decode jdk_68_method_10_code 57 = .ok (.ishr, 1) := by decide +kernel
theorem d20_58 : decode jdk_68_method_10_code 58 = .ok (.ireturn, 1) := by decide +kernel
theorem d21_0 : decode jdk_48_method_27_code 0 = .ok (.iload_n 0, 1) := by decide +kernel
theorem d21_1 : decode jdk_48_method_27_code 1 = .ok (.iload_n 1, 1) := by decide +kernel
theorem d21_2 : decode jdk_48_method_27_code 2 = .ok (.iload_n 2, 1) := by decide +kernel
theorem d21_3 : decode jdk_48_method_27_code 3 = .ok (.invokestatic 194, 3) := by decide +kernel
theorem d21_6 : decode jdk_48_method_27_code 6 = .ok (.iadd, 1) := by decide +kernel
theorem d21_7 : decode jdk_48_method_27_code 7 = .ok (.istore_n 3, 1) := by decide +kernel
theorem d21_8 : decode jdk_48_method_27_code 8 = .ok (.iconst 0, 1) := by decide +kernel
theorem d21_9 : decode jdk_48_method_27_code 9 = .ok (.iload_n 3, 1) := by decide +kernel
theorem d21_10 : decode jdk_48_method_27_code 10 = .ok (.if_icmp .ge 11, 3) := by decide +kernel
theorem d21_13 : decode jdk_48_method_27_code 13 = .ok (.iload_n 3, 1) := by decide +kernel
theorem d21_14 : decode jdk_48_method_27_code 14 = .ok (.ldc 200, 2) := by decide +kernel
theorem d21_16 : decode jdk_48_method_27_code 16 = .ok (.if_icmp .gt 5, 3) := by decide +kernel
theorem d21_19 : decode jdk_48_method_27_code 19 = .ok (.iload_n 3, 1) := by decide +kernel
theorem d21_20 : decode jdk_48_method_27_code 20 = .ok (.ireturn, 1) := by decide +kernel
theorem d22_0 : decode jdk_29_method_65_code 0 = .ok (.iload_n 0, 1) := by decide +kernel
theorem d22_1 : decode jdk_29_method_65_code 1 = .ok (.iload_n 1, 1) := by decide +kernel
theorem d22_2 : decode jdk_29_method_65_code 2 = .ok (.if_icmp .lt 7, 3) := by decide +kernel
theorem d22_5 : decode jdk_29_method_65_code 5 = .ok (.iload_n 0, 1) := by decide +kernel
theorem d22_6 : decode jdk_29_method_65_code 6 = .ok (.goto 4, 3) := by decide +kernel
theorem d22_9 : decode jdk_29_method_65_code 9 = .ok (.iload_n 1, 1) := by decide +kernel
theorem d22_10 : decode jdk_29_method_65_code 10 = .ok (.ireturn, 1) := by decide +kernel
theorem d23_0 : decode jdk_65_method_121_code 0 = .ok (.iload_n 1, 1) := by decide +kernel
theorem d23_1 : decode jdk_65_method_121_code 1 = .ok (.aload_n 0, 1) := by decide +kernel
theorem d23_2 : decode jdk_65_method_121_code 2 = .ok (.arraylength, 1) := by decide +kernel
theorem d23_3 : decode jdk_65_method_121_code 3 = .ok (.if_icmp .ne 11, 3) := by decide +kernel
theorem d23_14 : decode jdk_65_method_121_code 14 = .ok (.iload_n 1, 1) := by decide +kernel
theorem d23_15 : decode jdk_65_method_121_code 15 = .ok (.newarray .byte, 2) := by decide +kernel
theorem d23_17 : decode jdk_65_method_121_code 17 = .ok (.astore_n 2, 1) := by decide +kernel
theorem d23_18 : decode jdk_65_method_121_code 18 = .ok (.aload_n 0, 1) := by decide +kernel
theorem d23_19 : decode jdk_65_method_121_code 19 = .ok (.iconst 0, 1) := by decide +kernel
theorem d23_20 : decode jdk_65_method_121_code 20 = .ok (.aload_n 2, 1) := by decide +kernel
theorem d23_21 : decode jdk_65_method_121_code 21 = .ok (.iconst 0, 1) := by decide +kernel
theorem d23_22 : decode jdk_65_method_121_code 22 = .ok (.aload_n 0, 1) := by decide +kernel
theorem d23_23 : decode jdk_65_method_121_code 23 = .ok (.arraylength, 1) := by decide +kernel
theorem d23_24 : decode jdk_65_method_121_code 24 = .ok (.iload_n 1, 1) := by decide +kernel
theorem d23_25 : decode jdk_65_method_121_code 25 = .ok (.invokestatic 304, 3) := by decide +kernel
theorem d23_28 : decode jdk_65_method_121_code 28 = .ok (.invokestatic 150, 3) := by decide +kernel
theorem d23_31 : decode jdk_65_method_121_code 31 = .ok (.aload_n 2, 1) := by decide +kernel
theorem d23_32 : decode jdk_65_method_121_code 32 = .ok (.areturn, 1) := by decide +kernel
theorem d24_0 : decode jdk_67_method_42_code 0 = .ok (.new 18, 3) := by decide +kernel
theorem d24_3 : decode jdk_67_method_42_code 3 = .ok (.dup, 1) := by decide +kernel
theorem d24_4 : decode jdk_67_method_42_code 4 = .ok (.aload_n 0, 1) := by decide +kernel
theorem d24_5 : decode jdk_67_method_42_code 5 = .ok (.invokespecial 137, 3) := by decide +kernel
theorem d24_8 : decode jdk_67_method_42_code 8 = .ok (.areturn, 1) := by decide +kernel
theorem d25_0 : decode jdk_42_method_53_code 0 = .ok (.aload_n 0, 1) := by decide +kernel
theorem d25_1 : decode jdk_42_method_53_code 1 = .ok (.aload_n 1, 1) := by decide +kernel
theorem d25_2 : decode jdk_42_method_53_code 2 = .ok (.aconst_null, 1) := by decide +kernel
theorem d25_3 : decode jdk_42_method_53_code 3 = .ok (.invokespecial 489, 3) := by decide +kernel
theorem d25_6 : decode jdk_42_method_53_code 6 = .ok (.return_, 1) := by decide +kernel
theorem d26_0 : decode jdk_42_method_150_code 0 = .ok (.aload_n 0, 1) := by decide +kernel
theorem d26_1 : decode jdk_42_method_150_code 1 = .ok (.invokespecial 1, 3) := by decide +kernel
theorem d26_4 : decode jdk_42_method_150_code 4 = .ok (.aload_n 1, 1) := by decide +kernel
theorem d26_5 : decode jdk_42_method_150_code 5 = .ok (.invokevirtual 552, 3) := by decide +kernel
theorem d26_8 : decode jdk_42_method_150_code 8 = .ok (.astore_n 3, 1) := by decide +kernel
theorem d26_9 : decode jdk_42_method_150_code 9 = .ok (.aload_n 1, 1) := by decide +kernel
theorem d26_10 : decode jdk_42_method_150_code 10 = .ok (.invokevirtual 549, 3) := by decide +kernel
theorem d26_13 : decode jdk_42_method_150_code 13 = .ok (.istore 4, 2) := by decide +kernel
theorem d26_15 : decode jdk_42_method_150_code 15 = .ok (.aload_n 1, 1) := by decide +kernel
theorem d26_16 : decode jdk_42_method_150_code 16 = .ok (.invokevirtual 1047, 3) := by decide +kernel
theorem d26_19 : decode jdk_42_method_150_code 19 = .ok (.ifCond .eq 22, 3) := by decide +kernel
theorem d26_22 : decode jdk_42_method_150_code 22 = .ok (.aload_n 0, 1) := by decide +kernel
theorem d26_23 : decode jdk_42_method_150_code 23 = .ok (.iconst 0, 1) := by decide +kernel
theorem d26_24 : decode jdk_42_method_150_code 24 = .ok (.putfield 15, 3) := by decide +kernel
theorem d26_27 : decode jdk_42_method_150_code 27 = .ok (.aload_n 0, 1) := by decide +kernel
theorem d26_28 : decode jdk_42_method_150_code 28 = .ok (.aload_n 3, 1) := by decide +kernel
theorem d26_29 : decode jdk_42_method_150_code 29 = .ok (.iconst 0, 1) := by decide +kernel
theorem d26_30 : decode jdk_42_method_150_code 30 = .ok (.iload 4, 2) := by decide +kernel
theorem d26_32 : decode jdk_42_method_150_code 32 = .ok (.invokestatic 54, 3) := by decide +kernel
theorem d26_35 : decode jdk_42_method_150_code 35 = .ok (.putfield 9, 3) := by decide +kernel
theorem d26_38 : decode jdk_42_method_150_code 38 = .ok (.goto 59, 3) := by decide +kernel
theorem d26_97 : decode jdk_42_method_150_code 97 = .ok (.return_, 1) := by decide +kernel
theorem d27_0 : decode jdk_68_method_64_code 0 = .ok (.aload_n 0, 1) := by decide +kernel
theorem d27_1 : decode jdk_68_method_64_code 1 = .ok (.getfield 15, 3) := by decide +kernel
theorem d27_4 : decode jdk_68_method_64_code 4 = .ok (.areturn, 1) := by decide +kernel
theorem d28_0 : decode jdk_67_method_93_code 0 = .ok (.aload_n 0, 1) := by decide +kernel
theorem d28_1 : decode jdk_67_method_93_code 1 = .ok (.invokespecial 343, 3) := by decide +kernel
theorem d28_4 : decode jdk_67_method_93_code 4 = .ok (.ireturn, 1) := by decide +kernel
theorem d29_0 : decode jdk_68_method_6_code 0 = .ok (.aload_n 0, 1) := by decide +kernel
theorem d29_1 : decode jdk_68_method_6_code 1 = .ok (.getfield 79, 3) := by decide +kernel
theorem d29_4 : decode jdk_68_method_6_code 4 = .ok (.ireturn, 1) := by decide +kernel
theorem d30_0 : decode jdk_68_method_68_code 0 = .ok (.getstatic 18, 3) := by decide +kernel
theorem d30_3 : decode jdk_68_method_68_code 3 = .ok (.ifCond .eq 14, 3) := by decide +kernel
theorem d30_6 : decode jdk_68_method_68_code 6 = .ok (.aload_n 0, 1) := by decide +kernel
theorem d30_7 : decode jdk_68_method_68_code 7 = .ok (.getfield 22, 3) := by decide +kernel
theorem d30_10 : decode jdk_68_method_68_code 10 = .ok (.ifCond .ne 7, 3) := by decide +kernel
theorem d30_13 : decode jdk_68_method_68_code 13 = .ok (.iconst 1, 1) := by decide +kernel
theorem d30_14 : decode jdk_68_method_68_code 14 = .ok (.goto 4, 3) := by decide +kernel
theorem d30_18 : decode jdk_68_method_68_code 18 = .ok (.ireturn, 1) := by decide +kernel
theorem d31_0 : decode jdk_65_method_132_code 0 = .ok (.iload_n 1, 1) := by decide +kernel
theorem d31_1 : decode jdk_65_method_132_code 1 = .ok (.ifCond .ne 9, 3) := by decide +kernel
theorem d31_4 : decode jdk_65_method_132_code 4 = .ok (.iload_n 2, 1) := by decide +kernel
theorem d31_5 : decode jdk_65_method_132_code 5 = .ok (.aload_n 0, 1) := by decide +kernel
theorem d31_6 : decode jdk_65_method_132_code 6 = .ok (.arraylength, 1) := by decide +kernel
theorem d31_7 : decode jdk_65_method_132_code 7 = .ok (.if_icmp .eq 10, 3) := by decide +kernel
theorem d31_10 : decode jdk_65_method_132_code 10 = .ok (.aload_n 0, 1) := by decide +kernel
theorem d31_11 : decode jdk_65_method_132_code 11 = .ok (.iload_n 1, 1) := by decide +kernel
theorem d31_12 : decode jdk_65_method_132_code 12 = .ok (.iload_n 2, 1) := by decide +kernel
theorem d31_13 : decode jdk_65_method_132_code 13 = .ok (.invokestatic 339, 3) := by decide +kernel
theorem d31_16 : decode jdk_65_method_132_code 16 = .ok (.areturn, 1) := by decide +kernel
theorem d32_0 : decode jdk_65_method_133_code 0 = .ok (.iload_n 1, 1) := by decide +kernel
theorem d32_1 : decode jdk_65_method_133_code 1 = .ok (.iload_n 2, 1) := by decide +kernel
theorem d32_2 : decode jdk_65_method_133_code 2 = .ok (.invokestatic 343, 3) := by decide +kernel
theorem d32_5 : decode jdk_65_method_133_code 5 = .ok (.iload_n 2, 1) := by decide +kernel
theorem d32_6 : decode jdk_65_method_133_code 6 = .ok (.iload_n 1, 1) := by decide +kernel
theorem d32_7 : decode jdk_65_method_133_code 7 = .ok (.isub, 1) := by decide +kernel
theorem d32_8 : decode jdk_65_method_133_code 8 = .ok (.istore_n 3, 1) := by decide +kernel
theorem d32_9 : decode jdk_65_method_133_code 9 = .ok (.iload_n 3, 1) := by decide +kernel
theorem d32_10 : decode jdk_65_method_133_code 10 = .ok (.newarray .byte, 2) := by decide +kernel
theorem d32_12 : decode jdk_65_method_133_code 12 = .ok (.astore 4, 2) := by decide +kernel
theorem d32_14 : decode jdk_65_method_133_code 14 = .ok (.aload_n 0, 1) := by decide +kernel
theorem d32_15 : decode jdk_65_method_133_code 15 = .ok (.iload_n 1, 1) := by decide +kernel
theorem d32_16 : decode jdk_65_method_133_code 16 = .ok (.aload 4, 2) := by decide +kernel
theorem d32_18 : decode jdk_65_method_133_code 18 = .ok (.iconst 0, 1) := by decide +kernel
theorem d32_19 : decode jdk_65_method_133_code 19 = .ok (.aload_n 0, 1) := by decide +kernel
theorem d32_20 : decode jdk_65_method_133_code 20 = .ok (.arraylength, 1) := by decide +kernel
theorem d32_21 : decode jdk_65_method_133_code 21 = .ok (.iload_n 1, 1) := by decide +kernel
theorem d32_22 : decode jdk_65_method_133_code 22 = .ok (.isub, 1) := by decide +kernel
theorem d32_23 : decode jdk_65_method_133_code 23 = .ok (.iload_n 3, 1) := by decide +kernel
theorem d32_24 : decode jdk_65_method_133_code 24 = .ok (.invokestatic 304, 3) := by decide +kernel
theorem d32_27 : decode jdk_65_method_133_code 27 = .ok (.invokestatic 150, 3) := by decide +kernel
theorem d32_30 : decode jdk_65_method_133_code 30 = .ok (.aload 4, 2) := by decide +kernel
theorem d32_32 : decode jdk_65_method_133_code 32 = .ok (.areturn, 1) := by decide +kernel
theorem d33_0 : decode jdk_65_method_131_code 0 = .ok (.iload_n 1, 1) := by decide +kernel
theorem d33_1 : decode jdk_65_method_131_code 1 = .ok (.iload_n 0, 1) := by decide +kernel
theorem d33_2 : decode jdk_65_method_131_code 2 = .ok (.if_icmp .ge 35, 3) := by decide +kernel
theorem d33_37 : decode jdk_65_method_131_code 37 = .ok (.return_, 1) := by decide +kernel
theorem d34_0 : decode prog_61_method_1_code 0 = .ok (.aload_n 0, 1) := by decide +kernel
theorem d34_1 : decode prog_61_method_1_code 1 = .ok (.aload_n 2, 1) := by decide +kernel
theorem d34_2 : decode prog_61_method_1_code 2 = .ok (.invokespecial 1, 3) := by decide +kernel
theorem d34_5 : decode prog_61_method_1_code 5 = .ok (.aload_n 0, 1) := by decide +kernel
theorem d34_6 : decode prog_61_method_1_code 6 = .ok (.iload_n 1, 1) := by decide +kernel
theorem d34_7 : decode prog_61_method_1_code 7 = .ok (.putfield 7, 3) := by decide +kernel
theorem d34_10 : decode prog_61_method_1_code 10 = .ok (.return_, 1) := by decide +kernel
theorem d35_0 : decode jdk_59_method_2_code 0 = .ok (.aload_n 0, 1) := by decide +kernel
theorem d35_1 : decode jdk_59_method_2_code 1 = .ok (.aload_n 1, 1) := by decide +kernel
theorem d35_2 : decode jdk_59_method_2_code 2 = .ok (.invokespecial 7, 3) := by decide +kernel
theorem d35_5 : decode jdk_59_method_2_code 5 = .ok (.return_, 1) := by decide +kernel
theorem d36_0 : decode jdk_78_method_2_code 0 = .ok (.aload_n 0, 1) := by decide +kernel
theorem d36_1 : decode jdk_78_method_2_code 1 = .ok (.invokespecial 1, 3) := by decide +kernel
theorem d36_4 : decode jdk_78_method_2_code 4 = .ok (.aload_n 0, 1) := by decide +kernel
theorem d36_5 : decode jdk_78_method_2_code 5 = .ok (.aload_n 0, 1) := by decide +kernel
theorem d36_6 : decode jdk_78_method_2_code 6 = .ok (.putfield 7, 3) := by decide +kernel
theorem d36_9 : decode jdk_78_method_2_code 9 = .ok (.aload_n 0, 1) := by decide +kernel
theorem d36_10 : decode jdk_78_method_2_code 10 = .ok (.getstatic 13, 3) := by decide +kernel
theorem d36_13 : decode jdk_78_method_2_code 13 = .ok (.putfield 17, 3) := by decide +kernel
theorem d36_16 : decode jdk_78_method_2_code 16 = .ok (.aload_n 0, 1) := by decide +kernel
theorem d36_17 : decode jdk_78_method_2_code 17 = .ok (.getstatic 20, 3) := by decide +kernel
theorem d36_20 : decode jdk_78_method_2_code 20 = .ok (.putfield 24, 3) := by decide +kernel
theorem d36_23 : decode jdk_78_method_2_code 23 = .ok (.aload_n 0, 1) := by decide +kernel
theorem d36_24 : decode jdk_78_method_2_code 24 = .ok (.invokevirtual 27, 3) := by decide +kernel
theorem d36_27 : decode jdk_78_method_2_code 27 = .ok (.pop, 1) := by decide +kernel
theorem d36_28 : decode jdk_78_method_2_code 28 = .ok (.aload_n 0, 1) := by decide +kernel
theorem d36_29 : decode jdk_78_method_2_code 29 = .ok (.aload_n 1, 1) := by decide +kernel
theorem d36_30 : decode jdk_78_method_2_code 30 = .ok (.putfield 31, 3) := by decide +kernel
theorem d36_33 : decode jdk_78_method_2_code 33 = .ok (.return_, 1) := by decide +kernel
theorem d38_0 : decode prog_61_method_2_code 0 = .ok (.aload_n 0, 1) := by decide +kernel
theorem d38_1 : decode prog_61_method_2_code 1 = .ok (.getfield 7, 3) := by decide +kernel
theorem d38_4 : decode prog_61_method_2_code 4 = .ok (.ireturn, 1) := by decide +kernel
theorem d39_0 : decode jdk_78_method_6_code 0 = .ok (.aload_n 0, 1) := by decide +kernel
theorem d39_1 : decode jdk_78_method_6_code 1 = .ok (.getfield 31, 3) := by decide +kernel
theorem d39_4 : decode jdk_78_method_6_code 4 = .ok (.areturn, 1) := by decide +kernel
theorem d45_0 : decode method_3_code 0 = .ok (.ldc 16, 2) := by decide +kernel
theorem d45_2 : decode method_3_code 2 = .ok (.astore_n 2, 1) := by decide +kernel
theorem d45_3 : decode method_3_code 3 = .ok (.aload_n 2, 1) := by decide +kernel
theorem d45_4 : decode method_3_code 4 = .ok (.invokevirtual 18, 3) := by decide +kernel
theorem d45_7 : decode method_3_code 7 = .ok (.bipush 16, 2) := by decide +kernel
theorem d45_9 : decode method_3_code 9 = .ok (.if_icmp .eq 5, 3) := by decide +kernel
theorem d45_14 : decode method_3_code 14 = .ok (.aload_n 0, 1) := by decide +kernel
theorem d45_15 : decode method_3_code 15 = .ok (.iload_n 1, 1) := by decide +kernel
theorem d45_16 : decode method_3_code 16 = .ok (.invokevirtual 22, 3) := by decide +kernel
theorem d45_19 : decode method_3_code 19 = .ok (.aload_n 2, 1) := by decide +kernel
theorem d45_20 : decode method_3_code 20 = .ok (.iconst 0, 1) := by decide +kernel
theorem d45_21 : decode method_3_code 21 = .ok (.invokevirtual 22, 3) := by decide +kernel
theorem d45_24 : decode method_3_code 24 = .ok (.if_icmp .ne 252, 3) := by decide +kernel
theorem d45_27 : decode method_3_code 27 = .ok (.aload_n 0, 1) := by decide +kernel
theorem d45_28 : decode method_3_code 28 = .ok (.iload_n 1, 1) := by decide +kernel
theorem d45_29 : decode method_3_code 29 = .ok (.iconst 1, 1) := by decide +kernel
theorem d45_30 : decode method_3_code 30 = .ok (.iadd, 1) := by decide +kernel
theorem d45_31 : decode method_3_code 31 = .ok (.invokevirtual 22, 3) := by decide +kernel
theorem d45_34 : decode method_3_code 34 = .ok (.aload_n 2, 1) := by decide +kernel
theorem d45_35 : decode method_3_code 35 = .ok (.iconst 1, 1) := by decide +kernel
theorem d45_36 : decode method_3_code 36 = .ok (.invokevirtual 22, 3) := by decide +kernel
theorem d45_39 : decode method_3_code 39 = .ok (.if_icmp .ne 237, 3) := by decide +kernel
theorem d45_42 : decode method_3_code 42 = .ok (.aload_n 0, 1) := by decide +kernel
theorem d45_43 : decode method_3_code 43 = .ok (.iload_n 1, 1) := by decide +kernel
theorem d45_44 : decode method_3_code 44 = .ok (.iconst 2, 1) := by decide +kernel
theorem d45_45 : decode method_3_code 45 = .ok (.iadd, 1) := by decide +kernel
theorem d45_46 : decode method_3_code 46 = .ok (.invokevirtual 22, 3) := by decide +kernel
theorem d45_49 : decode method_3_code 49 = .ok (.aload_n 2, 1) := by decide +kernel
theorem d45_50 : decode method_3_code 50 = .ok (.iconst 2, 1) := by decide +kernel
theorem d45_51 : decode method_3_code 51 = .ok (.invokevirtual 22, 3) := by decide +kernel
theorem d45_54 : decode method_3_code 54 = .ok (.if_icmp .ne 222, 3) := by decide +kernel
theorem d45_57 : decode method_3_code 57 = .ok (.aload_n 0, 1) := by decide +kernel
theorem d45_58 : decode method_3_code 58 = .ok (.iload_n 1, 1) := by decide +kernel
theorem d45_59 : decode method_3_code 59 = .ok (.iconst 3, 1) := by decide +kernel
theorem d45_60 : decode method_3_code 60 = .ok (.iadd, 1) := by decide +kernel
theorem d45_61 : decode method_3_code 61 = .ok (.invokevirtual 22, 3) := by decide +kernel
theorem d45_64 : decode method_3_code 64 = .ok (.aload_n 2, 1) := by decide +kernel
theorem d45_65 : decode method_3_code 65 = .ok (.iconst 3, 1) := by decide +kernel
theorem d45_66 : decode method_3_code 66 = .ok (.invokevirtual 22, 3) := by decide +kernel
theorem d45_69 : decode method_3_code 69 = .ok (.if_icmp .ne 207, 3) := by decide +kernel
theorem d45_72 : decode method_3_code 72 = .ok (.aload_n 0, 1) := by decide +kernel
theorem d45_73 : decode method_3_code 73 = .ok (.iload_n 1, 1) := by decide +kernel
theorem d45_74 : decode method_3_code 74 = .ok (.iconst 4, 1) := by decide +kernel
theorem d45_75 : decode method_3_code 75 = .ok (.iadd, 1) := by decide +kernel
theorem d45_76 : decode method_3_code 76 = .ok (.invokevirtual 22, 3) := by decide +kernel
theorem d45_79 : decode method_3_code 79 = .ok (.aload_n 2, 1) := by decide +kernel
theorem d45_80 : decode method_3_code 80 = .ok (.iconst 4, 1) := by decide +kernel
theorem d45_81 : decode method_3_code 81 = .ok (.invokevirtual 22, 3) := by decide +kernel
theorem d45_84 : decode method_3_code 84 = .ok (.if_icmp .ne 192, 3) := by decide +kernel
theorem d45_87 : decode method_3_code 87 = .ok (.aload_n 0, 1) := by decide +kernel
theorem d45_88 : decode method_3_code 88 = .ok (.iload_n 1, 1) := by decide +kernel
theorem d45_89 : decode method_3_code 89 = .ok (.iconst 5, 1) := by decide +kernel
theorem d45_90 : decode method_3_code 90 = .ok (.iadd, 1) := by decide +kernel
theorem d45_91 : decode method_3_code 91 = .ok (.invokevirtual 22, 3) := by decide +kernel
theorem d45_94 : decode method_3_code 94 = .ok (.aload_n 2, 1) := by decide +kernel
theorem d45_95 : decode method_3_code 95 = .ok (.iconst 5, 1) := by decide +kernel
theorem d45_96 : decode method_3_code 96 = .ok (.invokevirtual 22, 3) := by decide +kernel
theorem d45_99 : decode method_3_code 99 = .ok (.if_icmp .ne 177, 3) := by decide +kernel
theorem d45_102 : decode method_3_code 102 = .ok (.aload_n 0, 1) := by decide +kernel
theorem d45_103 : decode method_3_code 103 = .ok (.iload_n 1, 1) := by decide +kernel
theorem d45_104 : decode method_3_code 104 = .ok (.bipush 6, 2) := by decide +kernel
theorem d45_106 : decode method_3_code 106 = .ok (.iadd, 1) := by decide +kernel
theorem d45_107 : decode method_3_code 107 = .ok (.invokevirtual 22, 3) := by decide +kernel
theorem d45_110 : decode method_3_code 110 = .ok (.aload_n 2, 1) := by decide +kernel
theorem d45_111 : decode method_3_code 111 = .ok (.bipush 6, 2) := by decide +kernel
theorem d45_113 : decode method_3_code 113 = .ok (.invokevirtual 22, 3) := by decide +kernel
theorem d45_116 : decode method_3_code 116 = .ok (.if_icmp .ne 160, 3) := by decide +kernel
theorem d45_119 : decode method_3_code 119 = .ok (.aload_n 0, 1) := by decide +kernel
theorem d45_120 : decode method_3_code 120 = .ok (.iload_n 1, 1) := by decide +kernel
theorem d45_121 : decode method_3_code 121 = .ok (.bipush 7, 2) := by decide +kernel
theorem d45_123 : decode method_3_code 123 = .ok (.iadd, 1) := by decide +kernel
theorem d45_124 : decode method_3_code 124 = .ok (.invokevirtual 22, 3) := by decide +kernel
theorem d45_127 : decode method_3_code 127 = .ok (.aload_n 2, 1) := by decide +kernel
theorem d45_128 : decode method_3_code 128 = .ok (.bipush 7, 2) := by decide +kernel
theorem d45_130 : decode method_3_code 130 = .ok (.invokevirtual 22, 3) := by decide +kernel
theorem d45_133 : decode method_3_code 133 = .ok (.if_icmp .ne 143, 3) := by decide +kernel
theorem d45_136 : decode method_3_code 136 = .ok (.aload_n 0, 1) := by decide +kernel
theorem d45_137 : decode method_3_code 137 = .ok (.iload_n 1, 1) := by decide +kernel
theorem d45_138 : decode method_3_code 138 = .ok (.bipush 8, 2) := by decide +kernel
theorem d45_140 : decode method_3_code 140 = .ok (.iadd, 1) := by decide +kernel
theorem d45_141 : decode method_3_code 141 = .ok (.invokevirtual 22, 3) := by decide +kernel
theorem d45_144 : decode method_3_code 144 = .ok (.aload_n 2, 1) := by decide +kernel
theorem d45_145 : decode method_3_code 145 = .ok (.bipush 8, 2) := by decide +kernel
theorem d45_147 : decode method_3_code 147 = .ok (.invokevirtual 22, 3) := by decide +kernel
theorem d45_150 : decode method_3_code 150 = .ok (.if_icmp .ne 126, 3) := by decide +kernel
theorem d45_153 : decode method_3_code 153 = .ok (.aload_n 0, 1) := by decide +kernel
theorem d45_154 : decode method_3_code 154 = .ok (.iload_n 1, 1) := by decide +kernel
theorem d45_155 : decode method_3_code 155 = .ok (.bipush 9, 2) := by decide +kernel
theorem d45_157 : decode method_3_code 157 = .ok (.iadd, 1) := by decide +kernel
theorem d45_158 : decode method_3_code 158 = .ok (.invokevirtual 22, 3) := by decide +kernel
theorem d45_161 : decode method_3_code 161 = .ok (.aload_n 2, 1) := by decide +kernel
theorem d45_162 : decode method_3_code 162 = .ok (.bipush 9, 2) := by decide +kernel
theorem d45_164 : decode method_3_code 164 = .ok (.invokevirtual 22, 3) := by decide +kernel
theorem d45_167 : decode method_3_code 167 = .ok (.if_icmp .ne 109, 3) := by decide +kernel
theorem d45_170 : decode method_3_code 170 = .ok (.aload_n 0, 1) := by decide +kernel
theorem d45_171 : decode method_3_code 171 = .ok (.iload_n 1, 1) := by decide +kernel
theorem d45_172 : decode method_3_code 172 = .ok (.bipush 10, 2) := by decide +kernel
theorem d45_174 : decode method_3_code 174 = .ok (.iadd, 1) := by decide +kernel
theorem d45_175 : decode method_3_code 175 = .ok (.invokevirtual 22, 3) := by decide +kernel
theorem d45_178 : decode method_3_code 178 = .ok (.aload_n 2, 1) := by decide +kernel
theorem d45_179 : decode method_3_code 179 = .ok (.bipush 10, 2) := by decide +kernel
theorem d45_181 : decode method_3_code 181 = .ok (.invokevirtual 22, 3) := by decide +kernel
theorem d45_184 : decode method_3_code 184 = .ok (.if_icmp .ne 92, 3) := by decide +kernel
theorem d45_187 : decode method_3_code 187 = .ok (.aload_n 0, 1) := by decide +kernel
theorem d45_188 : decode method_3_code 188 = .ok (.iload_n 1, 1) := by decide +kernel
theorem d45_189 : decode method_3_code 189 = .ok (.bipush 11, 2) := by decide +kernel
theorem d45_191 : decode method_3_code 191 = .ok (.iadd, 1) := by decide +kernel
theorem d45_192 : decode method_3_code 192 = .ok (.invokevirtual 22, 3) := by decide +kernel
theorem d45_195 : decode method_3_code 195 = .ok (.aload_n 2, 1) := by decide +kernel
theorem d45_196 : decode method_3_code 196 = .ok (.bipush 11, 2) := by decide +kernel
theorem d45_198 : decode method_3_code 198 = .ok (.invokevirtual 22, 3) := by decide +kernel
theorem d45_201 : decode method_3_code 201 = .ok (.if_icmp .ne 75, 3) := by decide +kernel
theorem d45_204 : decode method_3_code 204 = .ok (.aload_n 0, 1) := by decide +kernel
theorem d45_205 : decode method_3_code 205 = .ok (.iload_n 1, 1) := by decide +kernel
theorem d45_206 : decode method_3_code 206 = .ok (.bipush 12, 2) := by decide +kernel
theorem d45_208 : decode method_3_code 208 = .ok (.iadd, 1) := by decide +kernel
theorem d45_209 : decode method_3_code 209 = .ok (.invokevirtual 22, 3) := by decide +kernel
theorem d45_212 : decode method_3_code 212 = .ok (.aload_n 2, 1) := by decide +kernel
theorem d45_213 : decode method_3_code 213 = .ok (.bipush 12, 2) := by decide +kernel
theorem d45_215 : decode method_3_code 215 = .ok (.invokevirtual 22, 3) := by decide +kernel
theorem d45_218 : decode method_3_code 218 = .ok (.if_icmp .ne 58, 3) := by decide +kernel
theorem d45_221 : decode method_3_code 221 = .ok (.aload_n 0, 1) := by decide +kernel
theorem d45_222 : decode method_3_code 222 = .ok (.iload_n 1, 1) := by decide +kernel
theorem d45_223 : decode method_3_code 223 = .ok (.bipush 13, 2) := by decide +kernel
theorem d45_225 : decode method_3_code 225 = .ok (.iadd, 1) := by decide +kernel
theorem d45_226 : decode method_3_code 226 = .ok (.invokevirtual 22, 3) := by decide +kernel
theorem d45_229 : decode method_3_code 229 = .ok (.aload_n 2, 1) := by decide +kernel
theorem d45_230 : decode method_3_code 230 = .ok (.bipush 13, 2) := by decide +kernel
theorem d45_232 : decode method_3_code 232 = .ok (.invokevirtual 22, 3) := by decide +kernel
theorem d45_235 : decode method_3_code 235 = .ok (.if_icmp .ne 41, 3) := by decide +kernel
theorem d45_238 : decode method_3_code 238 = .ok (.aload_n 0, 1) := by decide +kernel
theorem d45_239 : decode method_3_code 239 = .ok (.iload_n 1, 1) := by decide +kernel
theorem d45_240 : decode method_3_code 240 = .ok (.bipush 14, 2) := by decide +kernel
theorem d45_242 : decode method_3_code 242 = .ok (.iadd, 1) := by decide +kernel
theorem d45_243 : decode method_3_code 243 = .ok (.invokevirtual 22, 3) := by decide +kernel
theorem d45_246 : decode method_3_code 246 = .ok (.aload_n 2, 1) := by decide +kernel
theorem d45_247 : decode method_3_code 247 = .ok (.bipush 14, 2) := by decide +kernel
theorem d45_249 : decode method_3_code 249 = .ok (.invokevirtual 22, 3) := by decide +kernel
theorem d45_252 : decode method_3_code 252 = .ok (.if_icmp .ne 24, 3) := by decide +kernel
theorem d45_255 : decode method_3_code 255 = .ok (.aload_n 0, 1) := by decide +kernel
theorem d45_256 : decode method_3_code 256 = .ok (.iload_n 1, 1) := by decide +kernel
theorem d45_257 : decode method_3_code 257 = .ok (.bipush 15, 2) := by decide +kernel
theorem d45_259 : decode method_3_code 259 = .ok (.iadd, 1) := by decide +kernel
theorem d45_260 : decode method_3_code 260 = .ok (.invokevirtual 22, 3) := by decide +kernel
theorem d45_263 : decode method_3_code 263 = .ok (.aload_n 2, 1) := by decide +kernel
theorem d45_264 : decode method_3_code 264 = .ok (.bipush 15, 2) := by decide +kernel
theorem d45_266 : decode method_3_code 266 = .ok (.invokevirtual 22, 3) := by decide +kernel
theorem d45_269 : decode method_3_code 269 = .ok (.if_icmp .ne 7, 3) := by decide +kernel
theorem d45_272 : decode method_3_code 272 = .ok (.iconst 1, 1) := by decide +kernel
theorem d45_273 : decode method_3_code 273 = .ok (.goto 4, 3) := by decide +kernel
theorem d45_277 : decode method_3_code 277 = .ok (.ireturn, 1) := by decide +kernel
theorem d46_0 : decode jdk_42_method_139_code 0 = .ok (.getstatic 38, 3) := by decide +kernel
theorem d46_3 : decode jdk_42_method_139_code 3 = .ok (.ifCond .eq 23, 3) := by decide +kernel
theorem d46_6 : decode jdk_42_method_139_code 6 = .ok (.iload_n 0, 1) := by decide +kernel
theorem d46_7 : decode jdk_42_method_139_code 7 = .ok (.invokestatic 1015, 3) := by decide +kernel
theorem d46_10 : decode jdk_42_method_139_code 10 = .ok (.ifCond .eq 16, 3) := by decide +kernel
theorem d46_13 : decode jdk_42_method_139_code 13 = .ok (.new 10, 3) := by decide +kernel
theorem d46_16 : decode jdk_42_method_139_code 16 = .ok (.dup, 1) := by decide +kernel
theorem d46_17 : decode jdk_42_method_139_code 17 = .ok (.iload_n 0, 1) := by decide +kernel
theorem d46_18 : decode jdk_42_method_139_code 18 = .ok (.invokestatic 1018, 3) := by decide +kernel
theorem d46_21 : decode jdk_42_method_139_code 21 = .ok (.iconst 0, 1) := by decide +kernel
theorem d46_22 : decode jdk_42_method_139_code 22 = .ok (.invokespecial 209, 3) := by decide +kernel
theorem d46_25 : decode jdk_42_method_139_code 25 = .ok (.areturn, 1) := by decide +kernel
theorem d47_0 : decode jdk_43_method_3_code 0 = .ok (.iload_n 0, 1) := by decide +kernel
theorem d47_1 : decode jdk_43_method_3_code 1 = .ok (.sipush 255, 3) := by decide +kernel
theorem d47_4 : decode jdk_43_method_3_code 4 = .ok (.if_icmp .gt 7, 3) := by decide +kernel
theorem d47_7 : decode jdk_43_method_3_code 7 = .ok (.iconst 1, 1) := by decide +kernel
theorem d47_8 : decode jdk_43_method_3_code 8 = .ok (.goto 4, 3) := by decide +kernel
theorem d47_12 : decode jdk_43_method_3_code 12 = .ok (.ireturn, 1) := by decide +kernel
theorem d48_0 : decode jdk_43_method_46_code 0 = .ok (.iconst 1, 1) := by decide +kernel
theorem d48_1 : decode jdk_43_method_46_code 1 = .ok (.newarray .byte, 2) := by decide +kernel
theorem d48_3 : decode jdk_43_method_46_code 3 = .ok (.dup, 1) := by decide +kernel
theorem d48_4 : decode jdk_43_method_46_code 4 = .ok (.iconst 0, 1) := by decide +kernel
theorem d48_5 : decode jdk_43_method_46_code 5 = .ok (.iload_n 0, 1) := by decide +kernel
theorem d48_6 : decode jdk_43_method_46_code 6 = .ok (.i2b, 1) := by decide +kernel
theorem d48_7 : decode jdk_43_method_46_code 7 = .ok (.bastore, 1) := by decide +kernel
theorem d48_8 : decode jdk_43_method_46_code 8 = .ok (.areturn, 1) := by decide +kernel
theorem d49_0 : decode jdk_42_method_151_code 0 = .ok (.aload_n 0, 1) := by decide +kernel
theorem d49_1 : decode jdk_42_method_151_code 1 = .ok (.invokespecial 1, 3) := by decide +kernel
theorem d49_4 : decode jdk_42_method_151_code 4 = .ok (.aload_n 0, 1) := by decide +kernel
theorem d49_5 : decode jdk_42_method_151_code 5 = .ok (.aload_n 1, 1) := by decide +kernel
theorem d49_6 : decode jdk_42_method_151_code 6 = .ok (.putfield 9, 3) := by decide +kernel
theorem d49_9 : decode jdk_42_method_151_code 9 = .ok (.aload_n 0, 1) := by decide +kernel
theorem d49_10 : decode jdk_42_method_151_code 10 = .ok (.iload_n 2, 1) := by decide +kernel
theorem d49_11 : decode jdk_42_method_151_code 11 = .ok (.putfield 15, 3) := by decide +kernel
theorem d49_14 : decode jdk_42_method_151_code 14 = .ok (.return_, 1) := by decide +kernel
abbrev own_rN : Room := { frames := 1, cells := 0, slots := 0, locals := 12 }
abbrev own_r0 : Room := { frames := 0, cells := 0, slots := 0, locals := 0 }
theorem own_wlen {Z : State} {a0 : Array Value} (hw : ∀ d ∈ tables_1, d.before a0 Z = true) : ∀ d ∈ StrChars.Road.wordsLen, d.before a0 Z = true := fun d hd => hw d ((by decide +kernel : ∀ d ∈ StrChars.Road.wordsLen, d ∈ tables_1) d hd)
abbrev own_rBI : Room := { frames := 1, cells := 1, slots := 16, locals := 14 }
abbrev own_rBS : Room := { frames := 2, cells := 1, slots := 16, locals := 30 }
abbrev own_rIF : Room := { frames := 1, cells := 0, slots := 0, locals := 16 }
abbrev own_rGB : Room := { frames := 1, cells := 0, slots := 0, locals := 44 }
abbrev own_rPS : Room := { frames := 2, cells := 0, slots := 0, locals := 66 }
abbrev own_rAP : Room := { frames := 3, cells := 0, slots := 0, locals := 84 }
abbrev own_rSA : Room := { frames := 4, cells := 0, slots := 0, locals := 100 }
set_option maxRecDepth 65536 in
set_option maxHeartbeats 40000000 in
theorem own_asbi (l : Launch) (Z : State) (a0 : Array Value) (hw : ∀ d ∈ tables_1, d.before a0 Z = true) (sb : Nat) (z : Int32) (h0 : Heap) (n0 : Nat) (Z0 : n0 ≤ sb) (E : Exa Z h0 sb "java/lang/StringBuilder") (F_value : Fld Z h0 sb "java/lang/AbstractStringBuilder" "value" "[B" .null) (F_coder : Fld Z h0 sb "java/lang/AbstractStringBuilder" "coder" "B" (.int (0 : Int32))) (F_count : Fld Z h0 sb "java/lang/AbstractStringBuilder" "count" "I" (.int (0 : Int32))) (S : Sta Z Z.heap "java/lang/String" "COMPACT_STRINGS" "Z" (.int z)) (hz : ¬ z = 0) (O : Old Z n0 h0) :
    Ctr l Z (⟨"java/lang/AbstractStringBuilder", "<init>", "(I)V"⟩ : MethodName) jdk_68_method_2_code 2 none [] own_rBI #[(.ref sb), (.int (16 : Int32))] h0 (fun v h L => v = none ∧ Fr n0 L ∧ Keep h0 h [sb] ∧ ∃ (vb : Nat) (kb : ClassId), h0.size ≤ vb ∧ Sbo Z h sb vb kb [] 16) := by
  refine Ctr.intro (plainFor_of_name pn_0) #[.val (.ref sb), .val (.int (16 : Int32))] (fun m => by first | (simp [entryFrame, mkF, argsToLocals, Value.category]; done) | rfl) ?_
  intro p e s m below meth c T hx hby hml hown hnm hret hlk hZ hnamed X eT
  have hown : s.vm.findClass "java/lang/AbstractStringBuilder" = some m.cls := hown
  have N := Fr.nil n0
  have lsb : sb < h0.size := E.lt
  show Gl p e below s _ _ _ (T.setTop (mkF m 0 #[.val (.ref sb), .val (.int (16 : Int32))] []))
  refine Gl.by (fun t_ k_ => XS.aloadN X.here hx rfl (hb hby d11_0) rfl rfl k_) ?_
  show Gl p e below s _ _ _ (T.setTop (mkF m 1 #[.val (.ref sb), .val (.int (16 : Int32))] [(.ref sb)]))
  obtain ⟨T, X, eT, st⟩ := initO X hx hZ hown (hw _ (List.mem_of_getElem? (i := 57) rfl)) (hw _ (List.mem_of_getElem? (i := 20) rfl)) (hw _ (List.mem_of_getElem? (i := 21) rfl)) eT (g := (mkF m 1 #[.val (.ref sb), .val (.int (16 : Int32))] [(.ref sb)])) rfl (by rw [hml]; rfl) rfl (hb hby d11_1) (by decide) (W := 0) (by show 2 * 0 + _ ≤ _; exact Nat.le_of_eq rfl) (by decide)
  refine Gl.by st ?_
  show Gl p e below s _ _ _ (T.setTop (mkF m 4 #[.val (.ref sb), .val (.int (16 : Int32))] []))
  obtain ⟨T, X, eT, st⟩ := getS2 X hx hZ hown (host := "") (Or.inl (hw _ (List.mem_of_getElem? (i := 58) rfl))) Via.refl eT (S.ext O.2) (g := (mkF m 4 #[.val (.ref sb), .val (.int (16 : Int32))] [])) rfl (hb hby d11_4)
  refine Gl.by st ?_
  show Gl p e below s _ _ _ (T.setTop (mkF m 7 #[.val (.ref sb), .val (.int (16 : Int32))] [(.int z)]))
  refine Gl.by (fun t_ k_ => XS.ifNo X.here hx rfl (hb hby d11_7) rfl ((if0 _ _).trans (feq hz).1) k_) ?_
  show Gl p e below s _ _ _ (T.setTop (mkF m 10 #[.val (.ref sb), .val (.int (16 : Int32))] []))
  refine Gl.by (fun t_ k_ => XS.aloadN X.here hx rfl (hb hby d11_10) rfl rfl k_) ?_
  show Gl p e below s _ _ _ (T.setTop (mkF m 11 #[.val (.ref sb), .val (.int (16 : Int32))] [(.ref sb)]))
  refine Gl.by (fun t_ k_ => XS.iloadN X.here hx rfl (hb hby d11_11) rfl k_) ?_
  show Gl p e below s _ _ _ (T.setTop (mkF m 12 #[.val (.ref sb), .val (.int (16 : Int32))] [(.int (16 : Int32)), (.ref sb)]))
  obtain ⟨T, h1, k1, X, eT, E1, A1, st⟩ := newP X hx hZ (hw _ (List.mem_of_getElem? (i := 27) rfl)) eT (g := (mkF m 12 #[.val (.ref sb), .val (.int (16 : Int32))] [(.int (16 : Int32)), (.ref sb)])) rfl (hb hby d11_12) rfl (by decide) (cap := 16) (by decide) (by decide) (by decide) (by decide)
  obtain ⟨vb, g1⟩ : ∃ z, z = h0.size := ⟨_, rfl⟩
  rw [← g1] at A1 st
  have sz1 := E1.1
  have lt1 : vb < h1.size := A1.lt
  have V1 : Arv Z h1 vb k1 .byte (16 : Int32) [(.int (0 : Int32)), (.int (0 : Int32)), (.int (0 : Int32)), (.int (0 : Int32)), (.int (0 : Int32)), (.int (0 : Int32)), (.int (0 : Int32)), (.int (0 : Int32)), (.int (0 : Int32)), (.int (0 : Int32)), (.int (0 : Int32)), (.int (0 : Int32)), (.int (0 : Int32)), (.int (0 : Int32)), (.int (0 : Int32)), (.int (0 : Int32))] (.int (0 : Int32)) := (Arv.new A1 (by decide)).pad (pad_rep [] (.int (0 : Int32)) 16)
  refine Gl.by st ?_
  show Gl p e below s _ _ _ (T.setTop (mkF m 14 #[.val (.ref sb), .val (.int (16 : Int32))] [(.ref vb), (.ref sb)]))
  obtain ⟨T, h2, X, eT, W2, st⟩ := putF X hx hZ hown (host := "") (Or.inl (hw _ (List.mem_of_getElem? (i := 59) rfl))) Via.refl eT (F_value.ext E1) (E.ext E1) (Or.inl (hw _ (List.mem_of_getElem? (i := 60) rfl))) (hw _ (List.mem_of_getElem? (i := 46) rfl)) (ty := (.array .byte)) (by decide) rfl rfl (g := (mkF m 14 #[.val (.ref sb), .val (.int (16 : Int32))] [(.ref vb), (.ref sb)])) rfl rfl (hb hby d11_14)
  have F2_value : Fld Z h2 sb "java/lang/AbstractStringBuilder" "value" "[B" (.ref vb) := Fld.same W2 (F_value.ext E1)
  have sz2 := (Keep.of_wr W2).1
  have N := Fr.snoc X N (by omega)
  refine Gl.by st ?_
  show Gl p e below s _ _ _ (T.setTop (mkF m 17 #[.val (.ref sb), .val (.int (16 : Int32))] []))
  refine Gl.by (fun t_ k_ => XS.aloadN X.here hx rfl (hb hby d11_17) rfl rfl k_) ?_
  show Gl p e below s _ _ _ (T.setTop (mkF m 18 #[.val (.ref sb), .val (.int (16 : Int32))] [(.ref sb)]))
  refine Gl.by (fun t_ k_ => XS.iconst X.here hx rfl (hb hby d11_18) k_) ?_
  show Gl p e below s _ _ _ (T.setTop (mkF m 19 #[.val (.ref sb), .val (.int (16 : Int32))] [(.int (0 : Int32)), (.ref sb)]))
  obtain ⟨T, h3, X, eT, W3, st⟩ := putF X hx hZ hown (host := "") (Or.inl (hw _ (List.mem_of_getElem? (i := 61) rfl))) Via.refl eT ((F_coder.ext E1).other W2 (Or.inr (slot_ne (C := "java/lang/StringBuilder") (Or.inl (hw _ (List.mem_of_getElem? (i := 62) rfl))) (Or.inl (hw _ (List.mem_of_getElem? (i := 60) rfl))) (by decide) (t := .byte) (t' := (.array .byte)) (by decide) (by decide)))) ((E.ext E1).wr W2) (Or.inl (hw _ (List.mem_of_getElem? (i := 62) rfl))) (hw _ (List.mem_of_getElem? (i := 46) rfl)) (ty := .byte) (by decide) rfl rfl (g := (mkF m 19 #[.val (.ref sb), .val (.int (16 : Int32))] [(.int (0 : Int32)), (.ref sb)])) rfl rfl (hb hby d11_19)
  have F3_coder : Fld Z h3 sb "java/lang/AbstractStringBuilder" "coder" "B" (.int (0 : Int32)) := Fld.same W3 ((F_coder.ext E1).other W2 (Or.inr (slot_ne (C := "java/lang/StringBuilder") (Or.inl (hw _ (List.mem_of_getElem? (i := 62) rfl))) (Or.inl (hw _ (List.mem_of_getElem? (i := 60) rfl))) (by decide) (t := .byte) (t' := (.array .byte)) (by decide) (by decide))))
  have sz3 := (Keep.of_wr W3).1
  have N := Fr.snoc X N (by omega)
  refine Gl.by st ?_
  show Gl p e below s _ _ _ (T.setTop (mkF m 22 #[.val (.ref sb), .val (.int (16 : Int32))] []))
  refine Gl.by (fun t_ k_ => XS.goto X.here hx rfl (pc0 := 22) (pc' := 38) rfl (hb hby d11_22) (by decide) (by decide) k_) ?_
  show Gl p e below s _ _ _ (T.setTop (mkF m 38 #[.val (.ref sb), .val (.int (16 : Int32))] []))
  refine Gl.retV X hx hlk hret (hb hby d11_38) (by decide) (by decide) ?_
  rw [eT]
  exact ⟨rfl, N, ((((Keep.refl h0 [sb]).ext E1).wr W2 (Or.inl (by simp))).wr W3 (Or.inl (by simp))), vb, k1, by omega, (((E.ext E1).wr W2).wr W3), (F2_value.other W3 (Or.inr (slot_ne (C := "java/lang/StringBuilder") (Or.inl (hw _ (List.mem_of_getElem? (i := 60) rfl))) (Or.inl (hw _ (List.mem_of_getElem? (i := 62) rfl))) (by decide) (t := (.array .byte)) (t' := .byte) (by decide) (by decide)))), F3_coder, (((F_count.ext E1).other W2 (Or.inr (slot_ne (C := "java/lang/StringBuilder") (Or.inl (hw _ (List.mem_of_getElem? (i := 84) rfl))) (Or.inl (hw _ (List.mem_of_getElem? (i := 60) rfl))) (by decide) (t := .int) (t' := (.array .byte)) (by decide) (by decide)))).other W3 (Or.inr (slot_ne (C := "java/lang/StringBuilder") (Or.inl (hw _ (List.mem_of_getElem? (i := 84) rfl))) (Or.inl (hw _ (List.mem_of_getElem? (i := 62) rfl))) (by decide) (t := .int) (t' := .byte) (by decide) (by decide)))), ((V1.other W2 (ne_arv (E.ext E1) (hw _ (List.mem_of_getElem? (i := 46) rfl)) V1).symm).other W3 (ne_arv ((E.ext E1).wr W2) (hw _ (List.mem_of_getElem? (i := 46) rfl)) (V1.other W2 (ne_arv (E.ext E1) (hw _ (List.mem_of_getElem? (i := 46) rfl)) V1).symm)).symm), Nat.zero_le _, by decide, fun _ q => nomatch q⟩
set_option maxRecDepth 65536 in
set_option maxHeartbeats 40000000 in
theorem own_sbi (l : Launch) (Z : State) (a0 : Array Value) (hw : ∀ d ∈ tables_1, d.before a0 Z = true) (sb : Nat) (z : Int32) (h0 : Heap) (n0 : Nat) (Z0 : n0 ≤ sb) (E : Exa Z h0 sb "java/lang/StringBuilder") (F_value : Fld Z h0 sb "java/lang/AbstractStringBuilder" "value" "[B" .null) (F_coder : Fld Z h0 sb "java/lang/AbstractStringBuilder" "coder" "B" (.int (0 : Int32))) (F_count : Fld Z h0 sb "java/lang/AbstractStringBuilder" "count" "I" (.int (0 : Int32))) (S : Sta Z Z.heap "java/lang/String" "COMPACT_STRINGS" "Z" (.int z)) (hz : ¬ z = 0) (O : Old Z n0 h0) :
    Ctr l Z (⟨"java/lang/StringBuilder", "<init>", "()V"⟩ : MethodName) jdk_67_method_1_code 1 none [] own_rBS #[(.ref sb)] h0 (fun v h L => v = none ∧ Fr n0 L ∧ Keep h0 h [sb] ∧ ∃ (vb : Nat) (kb : ClassId), h0.size ≤ vb ∧ Sbo Z h sb vb kb [] 16) := by
  refine Ctr.intro (plainFor_of_name pn_1) #[.val (.ref sb)] (fun m => by first | (simp [entryFrame, mkF, argsToLocals, Value.category]; done) | rfl) ?_
  intro p e s m below meth c T hx hby hml hown hnm hret hlk hZ hnamed X eT
  have hown : s.vm.findClass "java/lang/StringBuilder" = some m.cls := hown
  have N := Fr.nil n0
  show Gl p e below s _ _ _ (T.setTop (mkF m 0 #[.val (.ref sb)] []))
  refine Gl.by (fun t_ k_ => XS.aloadN X.here hx rfl (hb hby d10_0) rfl rfl k_) ?_
  show Gl p e below s _ _ _ (T.setTop (mkF m 1 #[.val (.ref sb)] [(.ref sb)]))
  refine Gl.by (fun t_ k_ => XS.bipush X.here hx rfl (hb hby d10_1) k_) ?_
  show Gl p e below s _ _ _ (T.setTop (mkF m 3 #[.val (.ref sb)] [(.int (16 : Int32)), (.ref sb)]))
  refine Gl.spec X hx hZ rfl hown (hw _ (List.mem_of_getElem? (i := 51) rfl)) (hw _ (List.mem_of_getElem? (i := 52) rfl)) (hw _ (List.mem_of_getElem? (i := 56) rfl)) (by decide) (W := 0) (backC (own_asbi l Z a0 hw sb z h0 n0 Z0 E F_value F_coder F_count S hz O) hZ (hw _ (List.mem_of_getElem? (i := 56) rfl)) (hw _ (List.mem_of_getElem? (i := 55) rfl)) (by decide) (by decide)) eT (hb hby d10_3) (by rw [hml]; rfl) sb [(.int (16 : Int32))] [] (lenOf pd_0 rfl) rfl rfl (Nat.le_of_eq rfl) (by decide) (by decide) ?_
  intro v T L X hq
  obtain ⟨rfl, NQ, K1, vb, kb, ge, Q1⟩ := hq
  have N := Fr.app N NQ
  obtain ⟨h1, eT⟩ : ∃ z, T.heap = z := ⟨_, rfl⟩
  rw [eT] at K1 Q1
  have sz1 := K1.1
  show Gl p e below s _ _ _ (T.setTop (mkF m 6 #[.val (.ref sb)] []))
  refine Gl.retV X hx hlk hret (hb hby d10_6) (by decide) (by decide) ?_
  rw [eT]
  exact ⟨rfl, N, K1, vb, kb, ge, Q1⟩
set_option maxRecDepth 65536 in
set_option maxHeartbeats 40000000 in
theorem own_ens (l : Launch) (Z : State) (a0 : Array Value) (hw : ∀ d ∈ tables_1, d.before a0 Z = true) (sb vb : Nat) (kb : ClassId) (k n : Nat) (vs : List Value) (h0 : Heap) (n0 : Nat) (F1 : Fld Z h0 sb "java/lang/AbstractStringBuilder" "value" "[B" (.ref vb)) (F2 : Fld Z h0 sb "java/lang/AbstractStringBuilder" "coder" "B" (.int 0)) (V : Arv Z h0 vb kb .byte (Int32.ofNat n) vs (.int 0)) (hk : k ≤ n) (hn : n < 2 ^ 31) :
    Ctr l Z (⟨"java/lang/AbstractStringBuilder", "ensureCapacityInternal", "(I)V"⟩ : MethodName) jdk_68_method_9_code 3 none [] own_r0 #[(.ref sb), (.int (Int32.ofNat k))] h0 (fun v h L => v = none ∧ L = [] ∧ h = h0) := by
  refine Ctr.intro (plainFor_of_name pn_0) #[.val (.ref sb), .val (.int (Int32.ofNat k)), .unset] (fun m => by first | (simp [entryFrame, mkF, argsToLocals, Value.category]; done) | rfl) ?_
  intro p e s m below meth c T hx hby hml hown hnm hret hlk hZ hnamed X eT
  have hown : s.vm.findClass "java/lang/AbstractStringBuilder" = some m.cls := hown
  have N := Fr.nil n0
  show Gl p e below s _ _ _ (T.setTop (mkF m 0 #[.val (.ref sb), .val (.int (Int32.ofNat k)), .unset] []))
  refine Gl.by (fun t_ k_ => XS.aloadN X.here hx rfl (hb hby d16_0) rfl rfl k_) ?_
  show Gl p e below s _ _ _ (T.setTop (mkF m 1 #[.val (.ref sb), .val (.int (Int32.ofNat k)), .unset] [(.ref sb)]))
  obtain ⟨T, X, eT, st⟩ := getF X hx hZ hown (host := "") (Or.inl (hw _ (List.mem_of_getElem? (i := 59) rfl))) Via.refl eT F1 (g := (mkF m 1 #[.val (.ref sb), .val (.int (Int32.ofNat k)), .unset] [(.ref sb)])) rfl rfl (hb hby d16_1)
  refine Gl.by st ?_
  show Gl p e below s _ _ _ (T.setTop (mkF m 4 #[.val (.ref sb), .val (.int (Int32.ofNat k)), .unset] [(.ref vb)]))
  obtain ⟨cl1, Ar1, q1, S1, M1, H1, G1⟩ := (id (V) : Arv Z h0 vb kb .byte (Int32.ofNat n) vs (.int 0))
  refine Gl.by (X.arraylength hx (by rw [eT]; exact Ar1.1) (State.isArrayOf_alike hZ.alike Ar1.2.1) (g := (mkF m 4 #[.val (.ref sb), .val (.int (Int32.ofNat k)), .unset] [(.ref vb)])) rfl rfl (hb hby d16_4)) ?_
  rw [len_of S1 M1]
  show Gl p e below s _ _ _ (T.setTop (mkF m 5 #[.val (.ref sb), .val (.int (Int32.ofNat k)), .unset] [(.int (Int32.ofNat n))]))
  refine Gl.by (fun t_ k_ => XS.aloadN X.here hx rfl (hb hby d16_5) rfl rfl k_) ?_
  show Gl p e below s _ _ _ (T.setTop (mkF m 6 #[.val (.ref sb), .val (.int (Int32.ofNat k)), .unset] [(.ref sb), (.int (Int32.ofNat n))]))
  obtain ⟨T, X, eT, st⟩ := getF X hx hZ hown (host := "") (Or.inl (hw _ (List.mem_of_getElem? (i := 61) rfl))) Via.refl eT F2 (g := (mkF m 6 #[.val (.ref sb), .val (.int (Int32.ofNat k)), .unset] [(.ref sb), (.int (Int32.ofNat n))])) rfl rfl (hb hby d16_6)
  refine Gl.by st ?_
  show Gl p e below s _ _ _ (T.setTop (mkF m 9 #[.val (.ref sb), .val (.int (Int32.ofNat k)), .unset] [(.int (0 : Int32)), (.int (Int32.ofNat n))]))
  refine Gl.by (fun t_ k_ => XS.ishr X.here hx rfl (hb hby d16_9) rfl k_) ?_
  show Gl p e below s _ _ _ (T.setTop (mkF m 10 #[.val (.ref sb), .val (.int (Int32.ofNat k)), .unset] [(.int ((Int32.ofNat n) >>> ((0 : Int32) &&& 31)))]))
  rw [shr0 _]
  show Gl p e below s _ _ _ (T.setTop (mkF m 10 #[.val (.ref sb), .val (.int (Int32.ofNat k)), .unset] [(.int (Int32.ofNat n))]))
  refine Gl.by (fun t_ k_ => XS.istoreN X.here hx rfl (hb hby d16_10) rfl (l' := #[.val (.ref sb), .val (.int (Int32.ofNat k)), .val (.int (Int32.ofNat n))]) rfl k_) ?_
  show Gl p e below s _ _ _ (T.setTop (mkF m 11 #[.val (.ref sb), .val (.int (Int32.ofNat k)), .val (.int (Int32.ofNat n))] []))
  refine Gl.by (fun t_ k_ => XS.iloadN X.here hx rfl (hb hby d16_11) rfl k_) ?_
  show Gl p e below s _ _ _ (T.setTop (mkF m 12 #[.val (.ref sb), .val (.int (Int32.ofNat k)), .val (.int (Int32.ofNat n))] [(.int (Int32.ofNat k))]))
  refine Gl.by (fun t_ k_ => XS.iloadN X.here hx rfl (hb hby d16_12) rfl k_) ?_
  show Gl p e below s _ _ _ (T.setTop (mkF m 13 #[.val (.ref sb), .val (.int (Int32.ofNat k)), .val (.int (Int32.ofNat n))] [(.int (Int32.ofNat n)), (.int (Int32.ofNat k))]))
  refine Gl.by (fun t_ k_ => XS.isub X.here hx rfl (hb hby d16_13) rfl k_) ?_
  show Gl p e below s _ _ _ (T.setTop (mkF m 14 #[.val (.ref sb), .val (.int (Int32.ofNat k)), .val (.int (Int32.ofNat n))] [(.int ((Int32.ofNat k) - (Int32.ofNat n)))]))
  refine Gl.by (fun t_ k_ => XS.ifYes X.here hx rfl (pc0 := 14) (pc' := 38) rfl (hb hby d16_14) rfl ((if0 _ _).trans (flt (ens_le hk hn)).2.2.2) (by decide) (by decide) k_) ?_
  show Gl p e below s _ _ _ (T.setTop (mkF m 38 #[.val (.ref sb), .val (.int (Int32.ofNat k)), .val (.int (Int32.ofNat n))] []))
  exact Gl.retV X hx hlk hret (hb hby d16_38) (by decide) (by decide) ⟨rfl, rfl, eT⟩
set_option maxRecDepth 65536 in
set_option maxHeartbeats 40000000 in
theorem own_scod (l : Launch) (Z : State) (a0 : Array Value) (hw : ∀ d ∈ tables_1, d.before a0 Z = true) (x : Nat) (z : Int32) (h0 : Heap) (n0 : Nat) (F : Fld Z h0 x "java/lang/String" "coder" "B" (.int 0)) (S : Sta Z Z.heap "java/lang/String" "COMPACT_STRINGS" "Z" (.int z)) (hz : ¬ z = 0) (O : Old Z n0 h0) :
    Ctr l Z (⟨"java/lang/String", "coder", "()B"⟩ : MethodName) jdk_42_method_152_code 1 (some .byte) [] own_r0 #[(.ref x)] h0 (fun v h L => v = some (.int 0) ∧ L = [] ∧ h = h0) := by
  refine Ctr.intro (plainFor_of_name pn_2) #[.val (.ref x)] (fun m => by first | (simp [entryFrame, mkF, argsToLocals, Value.category]; done) | rfl) ?_
  intro p e s m below meth c T hx hby hml hown hnm hret hlk hZ hnamed X eT
  have hown : s.vm.findClass "java/lang/String" = some m.cls := hown
  have N := Fr.nil n0
  show Gl p e below s _ _ _ (T.setTop (mkF m 0 #[.val (.ref x)] []))
  obtain ⟨T, X, eT, st⟩ := getS2 X hx hZ hown (host := "") (Or.inl (hw _ (List.mem_of_getElem? (i := 22) rfl))) Via.refl eT (S.ext O.2) (g := (mkF m 0 #[.val (.ref x)] [])) rfl (hb hby d15_0)
  refine Gl.by st ?_
  show Gl p e below s _ _ _ (T.setTop (mkF m 3 #[.val (.ref x)] [(.int z)]))
  refine Gl.by (fun t_ k_ => XS.ifNo X.here hx rfl (hb hby d15_3) rfl ((if0 _ _).trans (feq hz).1) k_) ?_
  show Gl p e below s _ _ _ (T.setTop (mkF m 6 #[.val (.ref x)] []))
  refine Gl.by (fun t_ k_ => XS.aloadN X.here hx rfl (hb hby d15_6) rfl rfl k_) ?_
  show Gl p e below s _ _ _ (T.setTop (mkF m 7 #[.val (.ref x)] [(.ref x)]))
  obtain ⟨T, X, eT, st⟩ := getF X hx hZ hown (host := "") (Or.inl (hw _ (List.mem_of_getElem? (i := 34) rfl))) Via.refl eT F (g := (mkF m 7 #[.val (.ref x)] [(.ref x)])) rfl rfl (hb hby d15_7)
  refine Gl.by st ?_
  show Gl p e below s _ _ _ (T.setTop (mkF m 10 #[.val (.ref x)] [(.int (0 : Int32))]))
  refine Gl.by (fun t_ k_ => XS.goto X.here hx rfl (pc0 := 10) (pc' := 14) rfl (hb hby d15_10) (by decide) (by decide) k_) ?_
  show Gl p e below s _ _ _ (T.setTop (mkF m 14 #[.val (.ref x)] [(.int (0 : Int32))]))
  exact Gl.retZ X hx hlk hret (by simp) (hb hby d15_14) (by decide) (by decide) ⟨rfl, rfl, eT⟩
set_option maxRecDepth 65536 in
set_option maxHeartbeats 40000000 in
theorem own_infl (l : Launch) (Z : State) (a0 : Array Value) (hw : ∀ d ∈ tables_1, d.before a0 Z = true) (sb x : Nat) (ds : List Int32) (z : Int32) (h0 : Heap) (n0 : Nat) (F2 : Fld Z h0 sb "java/lang/AbstractStringBuilder" "coder" "B" (.int 0)) (A : Str Z h0 x ds) (S : Sta Z Z.heap "java/lang/String" "COMPACT_STRINGS" "Z" (.int z)) (hz : ¬ z = 0) (O : Old Z n0 h0) :
    Ctr l Z (⟨"java/lang/AbstractStringBuilder", "inflateIfNeededFor", "(Ljava/lang/String;)V"⟩ : MethodName) jdk_68_method_71_code 2 none [] own_rIF #[(.ref sb), (.ref x)] h0 (fun v h L => v = none ∧ L = [] ∧ h = h0) := by
  refine Ctr.intro (plainFor_of_name pn_0) #[.val (.ref sb), .val (.ref x)] (fun m => by first | (simp [entryFrame, mkF, argsToLocals, Value.category]; done) | rfl) ?_
  intro p e s m below meth c T hx hby hml hown hnm hret hlk hZ hnamed X eT
  have hown : s.vm.findClass "java/lang/AbstractStringBuilder" = some m.cls := hown
  have N := Fr.nil n0
  obtain ⟨U1, U2, U3, U4, tx, kx, U5, U6⟩ := (id A)
  show Gl p e below s _ _ _ (T.setTop (mkF m 0 #[.val (.ref sb), .val (.ref x)] []))
  obtain ⟨T, X, eT, st⟩ := getS2 X hx hZ hown (host := "") (Or.inl (hw _ (List.mem_of_getElem? (i := 58) rfl))) Via.refl eT (S.ext O.2) (g := (mkF m 0 #[.val (.ref sb), .val (.ref x)] [])) rfl (hb hby d18_0)
  refine Gl.by st ?_
  show Gl p e below s _ _ _ (T.setTop (mkF m 3 #[.val (.ref sb), .val (.ref x)] [(.int z)]))
  refine Gl.by (fun t_ k_ => XS.ifNo X.here hx rfl (hb hby d18_3) rfl ((if0 _ _).trans (feq hz).1) k_) ?_
  show Gl p e below s _ _ _ (T.setTop (mkF m 6 #[.val (.ref sb), .val (.ref x)] []))
  refine Gl.by (fun t_ k_ => XS.aloadN X.here hx rfl (hb hby d18_6) rfl rfl k_) ?_
  show Gl p e below s _ _ _ (T.setTop (mkF m 7 #[.val (.ref sb), .val (.ref x)] [(.ref sb)]))
  obtain ⟨T, X, eT, st⟩ := getF X hx hZ hown (host := "") (Or.inl (hw _ (List.mem_of_getElem? (i := 61) rfl))) Via.refl eT F2 (g := (mkF m 7 #[.val (.ref sb), .val (.ref x)] [(.ref sb)])) rfl rfl (hb hby d18_7)
  refine Gl.by st ?_
  show Gl p e below s _ _ _ (T.setTop (mkF m 10 #[.val (.ref sb), .val (.ref x)] [(.int (0 : Int32))]))
  refine Gl.by (fun t_ k_ => XS.aloadN X.here hx rfl (hb hby d18_10) rfl rfl k_) ?_
  show Gl p e below s _ _ _ (T.setTop (mkF m 11 #[.val (.ref sb), .val (.ref x)] [(.ref x), (.int (0 : Int32))]))
  refine Gl.virt X hx hZ hown (hw _ (List.mem_of_getElem? (i := 100) rfl)) (hw _ (List.mem_of_getElem? (i := 79) rfl)) (hw _ (List.mem_of_getElem? (i := 81) rfl)) (hw _ (List.mem_of_getElem? (i := 80) rfl)) (notFace_of_selects (args := #[]) (mvT hZ (hw _ (List.mem_of_getElem? (i := 81) rfl)))) (by decide) U1 (W := 1) (backC (own_scod l Z a0 hw x z h0 n0 U4 S hz O) hZ (hw _ (List.mem_of_getElem? (i := 82) rfl)) (hw _ (List.mem_of_getElem? (i := 10) rfl)) (by decide) (by decide)) eT (hb hby d18_11) (by rw [hml]; rfl) [] [(.int (0 : Int32))] (lenOf pd_1 rfl) rfl rfl (Nat.le_of_eq rfl) (by decide) (by decide) ?_
  intro v T L X hq
  obtain ⟨rfl, rfl, eT⟩ := hq
  have N := Fr.app N (Fr.nil n0)
  show Gl p e below s _ _ _ (T.setTop (mkF m 14 #[.val (.ref sb), .val (.ref x)] [(.int (0 : Int32)), (.int (0 : Int32))]))
  refine Gl.by (fun t_ k_ => XS.icmpYes X.here hx rfl (pc0 := 14) (pc' := 21) rfl (hb hby d18_14) rfl (teq (rfl : (0 : Int32) = 0)).1 (by decide) (by decide) k_) ?_
  show Gl p e below s _ _ _ (T.setTop (mkF m 21 #[.val (.ref sb), .val (.ref x)] []))
  exact Gl.retV X hx hlk hret (hb hby d18_21) (by decide) (by decide) ⟨rfl, rfl, eT⟩
set_option maxRecDepth 65536 in
set_option maxHeartbeats 40000000 in
theorem own_isl1 (l : Launch) (Z : State) (a0 : Array Value) (hw : ∀ d ∈ tables_1, d.before a0 Z = true) (sb : Nat) (z : Int32) (h0 : Heap) (n0 : Nat) (F2 : Fld Z h0 sb "java/lang/AbstractStringBuilder" "coder" "B" (.int 0)) (S : Sta Z Z.heap "java/lang/String" "COMPACT_STRINGS" "Z" (.int z)) (hz : ¬ z = 0) (O : Old Z n0 h0) :
    Ctr l Z (⟨"java/lang/AbstractStringBuilder", "isLatin1", "()Z"⟩ : MethodName) jdk_68_method_68_code 1 (some .boolean) [] own_r0 #[(.ref sb)] h0 (fun v h L => v = some (.int 1) ∧ L = [] ∧ h = h0) := by
  refine Ctr.intro (plainFor_of_name pn_0) #[.val (.ref sb)] (fun m => by first | (simp [entryFrame, mkF, argsToLocals, Value.category]; done) | rfl) ?_
  intro p e s m below meth c T hx hby hml hown hnm hret hlk hZ hnamed X eT
  have hown : s.vm.findClass "java/lang/AbstractStringBuilder" = some m.cls := hown
  have N := Fr.nil n0
  show Gl p e below s _ _ _ (T.setTop (mkF m 0 #[.val (.ref sb)] []))
  obtain ⟨T, X, eT, st⟩ := getS2 X hx hZ hown (host := "") (Or.inl (hw _ (List.mem_of_getElem? (i := 58) rfl))) Via.refl eT (S.ext O.2) (g := (mkF m 0 #[.val (.ref sb)] [])) rfl (hb hby d30_0)
  refine Gl.by st ?_
  show Gl p e below s _ _ _ (T.setTop (mkF m 3 #[.val (.ref sb)] [(.int z)]))
  refine Gl.by (fun t_ k_ => XS.ifNo X.here hx rfl (hb hby d30_3) rfl ((if0 _ _).trans (feq hz).1) k_) ?_
  show Gl p e below s _ _ _ (T.setTop (mkF m 6 #[.val (.ref sb)] []))
  refine Gl.by (fun t_ k_ => XS.aloadN X.here hx rfl (hb hby d30_6) rfl rfl k_) ?_
  show Gl p e below s _ _ _ (T.setTop (mkF m 7 #[.val (.ref sb)] [(.ref sb)]))
  obtain ⟨T, X, eT, st⟩ := getF X hx hZ hown (host := "") (Or.inl (hw _ (List.mem_of_getElem? (i := 61) rfl))) Via.refl eT F2 (g := (mkF m 7 #[.val (.ref sb)] [(.ref sb)])) rfl rfl (hb hby d30_7)
  refine Gl.by st ?_
  show Gl p e below s _ _ _ (T.setTop (mkF m 10 #[.val (.ref sb)] [(.int (0 : Int32))]))
  refine Gl.by (fun t_ k_ => XS.ifNo X.here hx rfl (hb hby d30_10) rfl ((if0 _ _).trans (teq (rfl : (0 : Int32) = 0)).2) k_) ?_
  show Gl p e below s _ _ _ (T.setTop (mkF m 13 #[.val (.ref sb)] []))
  refine Gl.by (fun t_ k_ => XS.iconst X.here hx rfl (hb hby d30_13) k_) ?_
  show Gl p e below s _ _ _ (T.setTop (mkF m 14 #[.val (.ref sb)] [(.int (1 : Int32))]))
  refine Gl.by (fun t_ k_ => XS.goto X.here hx rfl (pc0 := 14) (pc' := 18) rfl (hb hby d30_14) (by decide) (by decide) k_) ?_
  show Gl p e below s _ _ _ (T.setTop (mkF m 18 #[.val (.ref sb)] [(.int (1 : Int32))]))
  exact Gl.retZ X hx hlk hret (by simp) (hb hby d30_18) (by decide) (by decide) ⟨rfl, rfl, eT⟩
set_option maxRecDepth 65536 in
set_option maxHeartbeats 40000000 in
theorem own_getb (l : Launch) (Z : State) (a0 : Array Value) (hw : ∀ d ∈ tables_1, d.before a0 Z = true) (x vb : Nat) (kb : ClassId) (ds : List Int32) (d n : Nat) (vd : List Value) (z : Int32) (h0 : Heap) (n0 : Nat) (Z2 : n0 ≤ vb) (A : Str Z h0 x ds) (V : Arv Z h0 vb kb .byte (Int32.ofNat n) vd (.int 0)) (hvl : vd.length = n) (hd : d + ds.length ≤ n) (hn : n ≤ 4000) (S : Sta Z Z.heap "java/lang/String" "COMPACT_STRINGS" "Z" (.int z)) (hz : ¬ z = 0) (O : Old Z n0 h0) :
    Ctr l Z (⟨"java/lang/String", "getBytes", "([BIB)V"⟩ : MethodName) jdk_42_method_147_code 4 none [] own_rGB #[(.ref x), (.ref vb), (.int (Int32.ofNat d)), (.int (0 : Int32))] h0 (fun v h L => v = none ∧ Fr n0 L ∧ Keep h0 h [vb] ∧ Arv Z h vb kb .byte (Int32.ofNat n) (vd.take d ++ bts ds ++ vd.drop (d + ds.length)) (.int 0)) := by
  refine Ctr.intro (plainFor_of_name pn_2) #[.val (.ref x), .val (.ref vb), .val (.int (Int32.ofNat d)), .val (.int (0 : Int32))] (fun m => by first | (simp [entryFrame, mkF, argsToLocals, Value.category]; done) | rfl) ?_
  intro p e s m below meth c T hx hby hml hown hnm hret hlk hZ hnamed X eT
  have hown : s.vm.findClass "java/lang/String" = some m.cls := hown
  have N := Fr.nil n0
  obtain ⟨U1, U2, U3, U4, tx, kx, U5, U6⟩ := (id A)
  show Gl p e below s _ _ _ (T.setTop (mkF m 0 #[.val (.ref x), .val (.ref vb), .val (.int (Int32.ofNat d)), .val (.int (0 : Int32))] []))
  refine Gl.by (fun t_ k_ => XS.aloadN X.here hx rfl (hb hby d19_0) rfl rfl k_) ?_
  show Gl p e below s _ _ _ (T.setTop (mkF m 1 #[.val (.ref x), .val (.ref vb), .val (.int (Int32.ofNat d)), .val (.int (0 : Int32))] [(.ref x)]))
  refine Gl.virt X hx hZ hown (hw _ (List.mem_of_getElem? (i := 78) rfl)) (hw _ (List.mem_of_getElem? (i := 79) rfl)) (hw _ (List.mem_of_getElem? (i := 81) rfl)) (hw _ (List.mem_of_getElem? (i := 80) rfl)) (notFace_of_selects (args := #[]) (mvT hZ (hw _ (List.mem_of_getElem? (i := 81) rfl)))) (by decide) U1 (W := 0) (backC (own_scod l Z a0 hw x z h0 n0 U4 S hz O) hZ (hw _ (List.mem_of_getElem? (i := 82) rfl)) (hw _ (List.mem_of_getElem? (i := 10) rfl)) (by decide) (by decide)) eT (hb hby d19_1) (by rw [hml]; rfl) [] [] (lenOf pd_1 rfl) rfl rfl (Nat.le_of_eq rfl) (by decide) (by decide) ?_
  intro v T L X hq
  obtain ⟨rfl, rfl, eT⟩ := hq
  have N := Fr.app N (Fr.nil n0)
  show Gl p e below s _ _ _ (T.setTop (mkF m 4 #[.val (.ref x), .val (.ref vb), .val (.int (Int32.ofNat d)), .val (.int (0 : Int32))] [(.int (0 : Int32))]))
  refine Gl.by (fun t_ k_ => XS.iloadN X.here hx rfl (hb hby d19_4) rfl k_) ?_
  show Gl p e below s _ _ _ (T.setTop (mkF m 5 #[.val (.ref x), .val (.ref vb), .val (.int (Int32.ofNat d)), .val (.int (0 : Int32))] [(.int (0 : Int32)), (.int (0 : Int32))]))
  refine Gl.by (fun t_ k_ => XS.icmpNo X.here hx rfl (hb hby d19_5) rfl (teq (rfl : (0 : Int32) = 0)).2 k_) ?_
  show Gl p e below s _ _ _ (T.setTop (mkF m 8 #[.val (.ref x), .val (.ref vb), .val (.int (Int32.ofNat d)), .val (.int (0 : Int32))] []))
  refine Gl.by (fun t_ k_ => XS.aloadN X.here hx rfl (hb hby d19_8) rfl rfl k_) ?_
  show Gl p e below s _ _ _ (T.setTop (mkF m 9 #[.val (.ref x), .val (.ref vb), .val (.int (Int32.ofNat d)), .val (.int (0 : Int32))] [(.ref x)]))
  obtain ⟨T, X, eT, st⟩ := getF X hx hZ hown (host := "") (Or.inl (hw _ (List.mem_of_getElem? (i := 36) rfl))) Via.refl eT U5 (g := (mkF m 9 #[.val (.ref x), .val (.ref vb), .val (.int (Int32.ofNat d)), .val (.int (0 : Int32))] [(.ref x)])) rfl rfl (hb hby d19_9)
  refine Gl.by st ?_
  show Gl p e below s _ _ _ (T.setTop (mkF m 12 #[.val (.ref x), .val (.ref vb), .val (.int (Int32.ofNat d)), .val (.int (0 : Int32))] [(.ref tx)]))
  refine Gl.by (fun t_ k_ => XS.iconst X.here hx rfl (hb hby d19_12) k_) ?_
  show Gl p e below s _ _ _ (T.setTop (mkF m 13 #[.val (.ref x), .val (.ref vb), .val (.int (Int32.ofNat d)), .val (.int (0 : Int32))] [(.int (0 : Int32)), (.ref tx)]))
  refine Gl.by (fun t_ k_ => XS.aloadN X.here hx rfl (hb hby d19_13) rfl rfl k_) ?_
  show Gl p e below s _ _ _ (T.setTop (mkF m 14 #[.val (.ref x), .val (.ref vb), .val (.int (Int32.ofNat d)), .val (.int (0 : Int32))] [(.ref vb), (.int (0 : Int32)), (.ref tx)]))
  refine Gl.by (fun t_ k_ => XS.iloadN X.here hx rfl (hb hby d19_14) rfl k_) ?_
  show Gl p e below s _ _ _ (T.setTop (mkF m 15 #[.val (.ref x), .val (.ref vb), .val (.int (Int32.ofNat d)), .val (.int (0 : Int32))] [(.int (Int32.ofNat d)), (.ref vb), (.int (0 : Int32)), (.ref tx)]))
  refine Gl.by (fun t_ k_ => XS.iloadN X.here hx rfl (hb hby d19_15) rfl k_) ?_
  show Gl p e below s _ _ _ (T.setTop (mkF m 16 #[.val (.ref x), .val (.ref vb), .val (.int (Int32.ofNat d)), .val (.int (0 : Int32))] [(.int (0 : Int32)), (.int (Int32.ofNat d)), (.ref vb), (.int (0 : Int32)), (.ref tx)]))
  refine Gl.by (fun t_ k_ => XS.ishl X.here hx rfl (hb hby d19_16) rfl k_) ?_
  show Gl p e below s _ _ _ (T.setTop (mkF m 17 #[.val (.ref x), .val (.ref vb), .val (.int (Int32.ofNat d)), .val (.int (0 : Int32))] [(.int ((Int32.ofNat d) <<< ((0 : Int32) &&& 31))), (.ref vb), (.int (0 : Int32)), (.ref tx)]))
  rw [shl0 _]
  show Gl p e below s _ _ _ (T.setTop (mkF m 17 #[.val (.ref x), .val (.ref vb), .val (.int (Int32.ofNat d)), .val (.int (0 : Int32))] [(.int (Int32.ofNat d)), (.ref vb), (.int (0 : Int32)), (.ref tx)]))
  refine Gl.by (fun t_ k_ => XS.aloadN X.here hx rfl (hb hby d19_17) rfl rfl k_) ?_
  show Gl p e below s _ _ _ (T.setTop (mkF m 18 #[.val (.ref x), .val (.ref vb), .val (.int (Int32.ofNat d)), .val (.int (0 : Int32))] [(.ref x), (.int (Int32.ofNat d)), (.ref vb), (.int (0 : Int32)), (.ref tx)]))
  obtain ⟨T, X, eT, st⟩ := getF X hx hZ hown (host := "") (Or.inl (hw _ (List.mem_of_getElem? (i := 36) rfl))) Via.refl eT U5 (g := (mkF m 18 #[.val (.ref x), .val (.ref vb), .val (.int (Int32.ofNat d)), .val (.int (0 : Int32))] [(.ref x), (.int (Int32.ofNat d)), (.ref vb), (.int (0 : Int32)), (.ref tx)])) rfl rfl (hb hby d19_18)
  refine Gl.by st ?_
  show Gl p e below s _ _ _ (T.setTop (mkF m 21 #[.val (.ref x), .val (.ref vb), .val (.int (Int32.ofNat d)), .val (.int (0 : Int32))] [(.ref tx), (.int (Int32.ofNat d)), (.ref vb), (.int (0 : Int32)), (.ref tx)]))
  obtain ⟨cl1, Ar1, q1, S1, M1, H1, G1⟩ := (id (U6) : Arv Z h0 tx kx .byte (Int32.ofNat ds.length) ((ds.map (fun c => c.toInt8.toInt32)).map Value.int) (.int 0))
  refine Gl.by (X.arraylength hx (by rw [eT]; exact Ar1.1) (State.isArrayOf_alike hZ.alike Ar1.2.1) (g := (mkF m 21 #[.val (.ref x), .val (.ref vb), .val (.int (Int32.ofNat d)), .val (.int (0 : Int32))] [(.ref tx), (.int (Int32.ofNat d)), (.ref vb), (.int (0 : Int32)), (.ref tx)])) rfl rfl (hb hby d19_21)) ?_
  rw [len_of S1 M1]
  show Gl p e below s _ _ _ (T.setTop (mkF m 22 #[.val (.ref x), .val (.ref vb), .val (.int (Int32.ofNat d)), .val (.int (0 : Int32))] [(.int (Int32.ofNat ds.length)), (.int (Int32.ofNat d)), (.ref vb), (.int (0 : Int32)), (.ref tx)]))
  obtain ⟨T, h2, L, X, eT, N, K2, V2, st⟩ := cpN X hx hZ hown (hw _ (List.mem_of_getElem? (i := 106) rfl)) (hw _ (List.mem_of_getElem? (i := 109) rfl)) (hw _ (List.mem_of_getElem? (i := 107) rfl)) (hw _ (List.mem_of_getElem? (i := 108) rfl)) eT U6 V rfl 0 d ds.length (by omega) (by omega) (by omega) (by omega) hvl N (by omega) (g := (mkF m 22 #[.val (.ref x), .val (.ref vb), .val (.int (Int32.ofNat d)), .val (.int (0 : Int32))] [(.int (Int32.ofNat ds.length)), (.int (Int32.ofNat d)), (.ref vb), (.int (0 : Int32)), (.ref tx)])) rfl (by rw [hml]; rfl) rfl (hb hby d19_22) (by decide) (W := 0) (by show 2 * 0 + _ ≤ _; exact Nat.le_of_eq rfl) (by decide)
  have sz2 := K2.1
  refine Gl.by st ?_
  show Gl p e below s _ _ _ (T.setTop (mkF m 25 #[.val (.ref x), .val (.ref vb), .val (.int (Int32.ofNat d)), .val (.int (0 : Int32))] []))
  rw [range_bts] at V2
  refine Gl.by (fun t_ k_ => XS.goto X.here hx rfl (pc0 := 25) (pc' := 43) rfl (hb hby d19_25) (by decide) (by decide) k_) ?_
  show Gl p e below s _ _ _ (T.setTop (mkF m 43 #[.val (.ref x), .val (.ref vb), .val (.int (Int32.ofNat d)), .val (.int (0 : Int32))] []))
  refine Gl.retV X hx hlk hret (hb hby d19_43) (by decide) (by decide) ?_
  rw [eT]
  exact ⟨rfl, N, K2, V2⟩
set_option maxRecDepth 65536 in
set_option maxHeartbeats 40000000 in
theorem own_psa (l : Launch) (Z : State) (a0 : Array Value) (hw : ∀ d ∈ tables_1, d.before a0 Z = true) (sb : Nat) (x vb : Nat) (kb : ClassId) (ds : List Int32) (d n : Nat) (vd : List Value) (z : Int32) (h0 : Heap) (n0 : Nat) (E : Exa Z h0 sb "java/lang/StringBuilder") (F1 : Fld Z h0 sb "java/lang/AbstractStringBuilder" "value" "[B" (.ref vb)) (F2 : Fld Z h0 sb "java/lang/AbstractStringBuilder" "coder" "B" (.int 0)) (Z2 : n0 ≤ vb) (A : Str Z h0 x ds) (V : Arv Z h0 vb kb .byte (Int32.ofNat n) vd (.int 0)) (hvl : vd.length = n) (hd : d + ds.length ≤ n) (hn : n ≤ 4000) (S : Sta Z Z.heap "java/lang/String" "COMPACT_STRINGS" "Z" (.int z)) (hz : ¬ z = 0) (O : Old Z n0 h0) :
    Ctr l Z (⟨"java/lang/AbstractStringBuilder", "putStringAt", "(ILjava/lang/String;)V"⟩ : MethodName) jdk_68_method_73_code 3 none [] own_rPS #[(.ref sb), (.int (Int32.ofNat d)), (.ref x)] h0 (fun v h L => v = none ∧ Fr n0 L ∧ Keep h0 h [vb] ∧ Arv Z h vb kb .byte (Int32.ofNat n) (vd.take d ++ bts ds ++ vd.drop (d + ds.length)) (.int 0)) := by
  refine Ctr.intro (plainFor_of_name pn_0) #[.val (.ref sb), .val (.int (Int32.ofNat d)), .val (.ref x)] (fun m => by first | (simp [entryFrame, mkF, argsToLocals, Value.category]; done) | rfl) ?_
  intro p e s m below meth c T hx hby hml hown hnm hret hlk hZ hnamed X eT
  have hown : s.vm.findClass "java/lang/AbstractStringBuilder" = some m.cls := hown
  have N := Fr.nil n0
  show Gl p e below s _ _ _ (T.setTop (mkF m 0 #[.val (.ref sb), .val (.int (Int32.ofNat d)), .val (.ref x)] []))
  refine Gl.by (fun t_ k_ => XS.aloadN X.here hx rfl (hb hby d17_0) rfl rfl k_) ?_
  show Gl p e below s _ _ _ (T.setTop (mkF m 1 #[.val (.ref sb), .val (.int (Int32.ofNat d)), .val (.ref x)] [(.ref sb)]))
  refine Gl.by (fun t_ k_ => XS.aloadN X.here hx rfl (hb hby d17_1) rfl rfl k_) ?_
  show Gl p e below s _ _ _ (T.setTop (mkF m 2 #[.val (.ref sb), .val (.int (Int32.ofNat d)), .val (.ref x)] [(.ref x), (.ref sb)]))
  refine Gl.virt X hx hZ hown (hw _ (List.mem_of_getElem? (i := 95) rfl)) (declOf (hw _ (List.mem_of_getElem? (i := 96) rfl)) (hw _ (List.mem_of_getElem? (i := 99) rfl))) (hw _ (List.mem_of_getElem? (i := 98) rfl)) (hw _ (List.mem_of_getElem? (i := 96) rfl)) (notFace_of_selects (args := #[]) (mvT hZ (hw _ (List.mem_of_getElem? (i := 98) rfl)))) (by decide) E (W := 0) (backC (own_infl l Z a0 hw sb x ds z h0 n0 F2 A S hz O) hZ (hw _ (List.mem_of_getElem? (i := 99) rfl)) (hw _ (List.mem_of_getElem? (i := 55) rfl)) (by decide) (by decide)) eT (hb hby d17_2) (by rw [hml]; rfl) [(.ref x)] [] (lenOf pd_2 rfl) rfl rfl (Nat.le_of_eq rfl) (by decide) (by decide) ?_
  intro v T L X hq
  obtain ⟨rfl, rfl, eT⟩ := hq
  have N := Fr.app N (Fr.nil n0)
  show Gl p e below s _ _ _ (T.setTop (mkF m 5 #[.val (.ref sb), .val (.int (Int32.ofNat d)), .val (.ref x)] []))
  refine Gl.by (fun t_ k_ => XS.aloadN X.here hx rfl (hb hby d17_5) rfl rfl k_) ?_
  show Gl p e below s _ _ _ (T.setTop (mkF m 6 #[.val (.ref sb), .val (.int (Int32.ofNat d)), .val (.ref x)] [(.ref x)]))
  refine Gl.by (fun t_ k_ => XS.aloadN X.here hx rfl (hb hby d17_6) rfl rfl k_) ?_
  show Gl p e below s _ _ _ (T.setTop (mkF m 7 #[.val (.ref sb), .val (.int (Int32.ofNat d)), .val (.ref x)] [(.ref sb), (.ref x)]))
  obtain ⟨T, X, eT, st⟩ := getF X hx hZ hown (host := "") (Or.inl (hw _ (List.mem_of_getElem? (i := 59) rfl))) Via.refl eT F1 (g := (mkF m 7 #[.val (.ref sb), .val (.int (Int32.ofNat d)), .val (.ref x)] [(.ref sb), (.ref x)])) rfl rfl (hb hby d17_7)
  refine Gl.by st ?_
  show Gl p e below s _ _ _ (T.setTop (mkF m 10 #[.val (.ref sb), .val (.int (Int32.ofNat d)), .val (.ref x)] [(.ref vb), (.ref x)]))
  refine Gl.by (fun t_ k_ => XS.iloadN X.here hx rfl (hb hby d17_10) rfl k_) ?_
  show Gl p e below s _ _ _ (T.setTop (mkF m 11 #[.val (.ref sb), .val (.int (Int32.ofNat d)), .val (.ref x)] [(.int (Int32.ofNat d)), (.ref vb), (.ref x)]))
  refine Gl.by (fun t_ k_ => XS.aloadN X.here hx rfl (hb hby d17_11) rfl rfl k_) ?_
  show Gl p e below s _ _ _ (T.setTop (mkF m 12 #[.val (.ref sb), .val (.int (Int32.ofNat d)), .val (.ref x)] [(.ref sb), (.int (Int32.ofNat d)), (.ref vb), (.ref x)]))
  obtain ⟨T, X, eT, st⟩ := getF X hx hZ hown (host := "") (Or.inl (hw _ (List.mem_of_getElem? (i := 61) rfl))) Via.refl eT F2 (g := (mkF m 12 #[.val (.ref sb), .val (.int (Int32.ofNat d)), .val (.ref x)] [(.ref sb), (.int (Int32.ofNat d)), (.ref vb), (.ref x)])) rfl rfl (hb hby d17_12)
  refine Gl.by st ?_
  show Gl p e below s _ _ _ (T.setTop (mkF m 15 #[.val (.ref sb), .val (.int (Int32.ofNat d)), .val (.ref x)] [(.int (0 : Int32)), (.int (Int32.ofNat d)), (.ref vb), (.ref x)]))
  refine Gl.virt X hx hZ hown (hw _ (List.mem_of_getElem? (i := 101) rfl)) (hw _ (List.mem_of_getElem? (i := 102) rfl)) (hw _ (List.mem_of_getElem? (i := 104) rfl)) (hw _ (List.mem_of_getElem? (i := 103) rfl)) (notFace_of_selects (args := #[]) (mvT hZ (hw _ (List.mem_of_getElem? (i := 104) rfl)))) (by decide) A.1 (W := 0) (backC (own_getb l Z a0 hw x vb kb ds d n vd z h0 n0 Z2 A V hvl hd hn S hz O) hZ (hw _ (List.mem_of_getElem? (i := 105) rfl)) (hw _ (List.mem_of_getElem? (i := 10) rfl)) (by decide) (by decide)) eT (hb hby d17_15) (by rw [hml]; rfl) [(.ref vb), (.int (Int32.ofNat d)), (.int (0 : Int32))] [] (lenOf pd_3 rfl) rfl rfl (Nat.le_of_eq rfl) (by decide) (by decide) ?_
  intro v T L X hq
  obtain ⟨rfl, NQ, K1, Q1⟩ := hq
  have N := Fr.app N NQ
  obtain ⟨h1, eT⟩ : ∃ z, T.heap = z := ⟨_, rfl⟩
  rw [eT] at K1 Q1
  have sz1 := K1.1
  show Gl p e below s _ _ _ (T.setTop (mkF m 18 #[.val (.ref sb), .val (.int (Int32.ofNat d)), .val (.ref x)] []))
  refine Gl.retV X hx hlk hret (hb hby d17_18) (by decide) (by decide) ?_
  rw [eT]
  exact ⟨rfl, N, K1, Q1⟩
set_option maxRecDepth 65536 in
set_option maxHeartbeats 40000000 in
theorem own_asba (l : Launch) (Z : State) (a0 : Array Value) (hw : ∀ d ∈ tables_1, d.before a0 Z = true) (sb x vb : Nat) (kb : ClassId) (cs ds : List Int32) (n : Nat) (z : Int32) (h0 : Heap) (n0 : Nat) (Z1 : n0 ≤ sb) (Z2 : n0 ≤ vb) (G : Sbo Z h0 sb vb kb cs n) (A : Str Z h0 x ds) (hfit : cs.length + ds.length ≤ n) (S : Sta Z Z.heap "java/lang/String" "COMPACT_STRINGS" "Z" (.int z)) (hz : ¬ z = 0) (O : Old Z n0 h0) :
    Ctr l Z (⟨"java/lang/AbstractStringBuilder", "append", "(Ljava/lang/String;)Ljava/lang/AbstractStringBuilder;"⟩ : MethodName) jdk_68_method_22_code 3 (some (.object "java/lang/AbstractStringBuilder")) [] own_rAP #[(.ref sb), (.ref x)] h0 (fun v h L => v = some (.ref sb) ∧ Fr n0 L ∧ Keep h0 h [sb, vb] ∧ Sbo Z h sb vb kb (cs ++ ds) n) := by
  refine Ctr.intro (plainFor_of_name pn_0) #[.val (.ref sb), .val (.ref x), .unset] (fun m => by first | (simp [entryFrame, mkF, argsToLocals, Value.category]; done) | rfl) ?_
  intro p e s m below meth c T hx hby hml hown hnm hret hlk hZ hnamed X eT
  have hown : s.vm.findClass "java/lang/AbstractStringBuilder" = some m.cls := hown
  have N := Fr.nil n0
  have g1 := G.2.2.2.2.2.1
  have g2 := G.2.2.2.2.2.2.1
  have nsv : sb ≠ vb := ne_arv G.1 (hw _ (List.mem_of_getElem? (i := 46) rfl)) G.2.2.2.2.1
  show Gl p e below s _ _ _ (T.setTop (mkF m 0 #[.val (.ref sb), .val (.ref x), .unset] []))
  refine Gl.by (fun t_ k_ => XS.aloadN X.here hx rfl (hb hby d13_0) rfl rfl k_) ?_
  show Gl p e below s _ _ _ (T.setTop (mkF m 1 #[.val (.ref sb), .val (.ref x), .unset] [(.ref x)]))
  refine Gl.by (fun t_ k_ => XS.ifnonnullYes X.here hx rfl (pc0 := 1) (pc' := 9) rfl (hb hby d13_1) rfl (by decide) (by decide) k_) ?_
  show Gl p e below s _ _ _ (T.setTop (mkF m 9 #[.val (.ref sb), .val (.ref x), .unset] []))
  refine Gl.by (fun t_ k_ => XS.aloadN X.here hx rfl (hb hby d13_9) rfl rfl k_) ?_
  show Gl p e below s _ _ _ (T.setTop (mkF m 10 #[.val (.ref sb), .val (.ref x), .unset] [(.ref x)]))
  refine Gl.virt X hx hZ hown (hw _ (List.mem_of_getElem? (i := 73) rfl)) (hw _ (List.mem_of_getElem? (i := 74) rfl)) (hw _ (List.mem_of_getElem? (i := 76) rfl)) (hw _ (List.mem_of_getElem? (i := 75) rfl)) (notFace_of_selects (args := #[]) (mvT hZ (hw _ (List.mem_of_getElem? (i := 76) rfl)))) (by decide) A.1 (W := 0) (payLen (n0 := n0) hZ (own_wlen hw) (hw _ (List.mem_of_getElem? (i := 9) rfl)) A S hz O (by decide) (by decide)) eT (hb hby d13_10) (by rw [hml]; rfl) [] [] (lenOf pd_4 rfl) rfl rfl (Nat.le_of_eq rfl) (by decide) (by decide) ?_
  intro v T L X hq
  obtain ⟨rfl, rfl, eT⟩ := hq
  have N := Fr.app N (Fr.nil n0)
  show Gl p e below s _ _ _ (T.setTop (mkF m 13 #[.val (.ref sb), .val (.ref x), .unset] [(.int (Int32.ofNat ds.length))]))
  refine Gl.by (fun t_ k_ => XS.istoreN X.here hx rfl (hb hby d13_13) rfl (l' := #[.val (.ref sb), .val (.ref x), .val (.int (Int32.ofNat ds.length))]) rfl k_) ?_
  show Gl p e below s _ _ _ (T.setTop (mkF m 14 #[.val (.ref sb), .val (.ref x), .val (.int (Int32.ofNat ds.length))] []))
  refine Gl.by (fun t_ k_ => XS.aloadN X.here hx rfl (hb hby d13_14) rfl rfl k_) ?_
  show Gl p e below s _ _ _ (T.setTop (mkF m 15 #[.val (.ref sb), .val (.ref x), .val (.int (Int32.ofNat ds.length))] [(.ref sb)]))
  refine Gl.by (fun t_ k_ => XS.aloadN X.here hx rfl (hb hby d13_15) rfl rfl k_) ?_
  show Gl p e below s _ _ _ (T.setTop (mkF m 16 #[.val (.ref sb), .val (.ref x), .val (.int (Int32.ofNat ds.length))] [(.ref sb), (.ref sb)]))
  obtain ⟨T, X, eT, st⟩ := getF X hx hZ hown (host := "") (Or.inl (hw _ (List.mem_of_getElem? (i := 83) rfl))) Via.refl eT G.2.2.2.1 (g := (mkF m 16 #[.val (.ref sb), .val (.ref x), .val (.int (Int32.ofNat ds.length))] [(.ref sb), (.ref sb)])) rfl rfl (hb hby d13_16)
  refine Gl.by st ?_
  show Gl p e below s _ _ _ (T.setTop (mkF m 19 #[.val (.ref sb), .val (.ref x), .val (.int (Int32.ofNat ds.length))] [(.int (Int32.ofNat cs.length)), (.ref sb)]))
  refine Gl.by (fun t_ k_ => XS.iloadN X.here hx rfl (hb hby d13_19) rfl k_) ?_
  show Gl p e below s _ _ _ (T.setTop (mkF m 20 #[.val (.ref sb), .val (.ref x), .val (.int (Int32.ofNat ds.length))] [(.int (Int32.ofNat ds.length)), (.int (Int32.ofNat cs.length)), (.ref sb)]))
  refine Gl.by (fun t_ k_ => XS.iadd X.here hx rfl (hb hby d13_20) rfl k_) ?_
  show Gl p e below s _ _ _ (T.setTop (mkF m 21 #[.val (.ref sb), .val (.ref x), .val (.int (Int32.ofNat ds.length))] [(.int ((Int32.ofNat cs.length) + (Int32.ofNat ds.length))), (.ref sb)]))
  rw [ofn_add]
  show Gl p e below s _ _ _ (T.setTop (mkF m 21 #[.val (.ref sb), .val (.ref x), .val (.int (Int32.ofNat ds.length))] [(.int (Int32.ofNat (cs.length + ds.length))), (.ref sb)]))
  refine Gl.virt X hx hZ hown (hw _ (List.mem_of_getElem? (i := 85) rfl)) (declOf (hw _ (List.mem_of_getElem? (i := 86) rfl)) (hw _ (List.mem_of_getElem? (i := 89) rfl))) (hw _ (List.mem_of_getElem? (i := 88) rfl)) (hw _ (List.mem_of_getElem? (i := 86) rfl)) (notFace_of_selects (args := #[]) (mvT hZ (hw _ (List.mem_of_getElem? (i := 88) rfl)))) (by decide) G.1 (W := 0) (backC (own_ens l Z a0 hw sb vb kb (cs.length + ds.length) n _ h0 n0 G.2.1 G.2.2.1 G.2.2.2.2.1 hfit (by omega)) hZ (hw _ (List.mem_of_getElem? (i := 89) rfl)) (hw _ (List.mem_of_getElem? (i := 55) rfl)) (by decide) (by decide)) eT (hb hby d13_21) (by rw [hml]; rfl) [(.int (Int32.ofNat (cs.length + ds.length)))] [] (lenOf pd_0 rfl) rfl rfl (Nat.le_of_eq rfl) (by decide) (by decide) ?_
  intro v T L X hq
  obtain ⟨rfl, rfl, eT⟩ := hq
  have N := Fr.app N (Fr.nil n0)
  show Gl p e below s _ _ _ (T.setTop (mkF m 24 #[.val (.ref sb), .val (.ref x), .val (.int (Int32.ofNat ds.length))] []))
  refine Gl.by (fun t_ k_ => XS.aloadN X.here hx rfl (hb hby d13_24) rfl rfl k_) ?_
  show Gl p e below s _ _ _ (T.setTop (mkF m 25 #[.val (.ref sb), .val (.ref x), .val (.int (Int32.ofNat ds.length))] [(.ref sb)]))
  refine Gl.by (fun t_ k_ => XS.aloadN X.here hx rfl (hb hby d13_25) rfl rfl k_) ?_
  show Gl p e below s _ _ _ (T.setTop (mkF m 26 #[.val (.ref sb), .val (.ref x), .val (.int (Int32.ofNat ds.length))] [(.ref sb), (.ref sb)]))
  obtain ⟨T, X, eT, st⟩ := getF X hx hZ hown (host := "") (Or.inl (hw _ (List.mem_of_getElem? (i := 83) rfl))) Via.refl eT G.2.2.2.1 (g := (mkF m 26 #[.val (.ref sb), .val (.ref x), .val (.int (Int32.ofNat ds.length))] [(.ref sb), (.ref sb)])) rfl rfl (hb hby d13_26)
  refine Gl.by st ?_
  show Gl p e below s _ _ _ (T.setTop (mkF m 29 #[.val (.ref sb), .val (.ref x), .val (.int (Int32.ofNat ds.length))] [(.int (Int32.ofNat cs.length)), (.ref sb)]))
  refine Gl.by (fun t_ k_ => XS.aloadN X.here hx rfl (hb hby d13_29) rfl rfl k_) ?_
  show Gl p e below s _ _ _ (T.setTop (mkF m 30 #[.val (.ref sb), .val (.ref x), .val (.int (Int32.ofNat ds.length))] [(.ref x), (.int (Int32.ofNat cs.length)), (.ref sb)]))
  refine Gl.virt X hx hZ hown (hw _ (List.mem_of_getElem? (i := 90) rfl)) (declOf (hw _ (List.mem_of_getElem? (i := 91) rfl)) (hw _ (List.mem_of_getElem? (i := 94) rfl))) (hw _ (List.mem_of_getElem? (i := 93) rfl)) (hw _ (List.mem_of_getElem? (i := 91) rfl)) (notFace_of_selects (args := #[]) (mvT hZ (hw _ (List.mem_of_getElem? (i := 93) rfl)))) (by decide) G.1 (W := 0) (backC (own_psa l Z a0 hw sb x vb kb ds cs.length n _ z h0 n0 G.1 G.2.1 G.2.2.1 Z2 A G.2.2.2.2.1 (pads_len g1) hfit g2 S hz O) hZ (hw _ (List.mem_of_getElem? (i := 94) rfl)) (hw _ (List.mem_of_getElem? (i := 55) rfl)) (by decide) (by decide)) eT (hb hby d13_30) (by rw [hml]; rfl) [(.int (Int32.ofNat cs.length)), (.ref x)] [] (lenOf pd_5 rfl) rfl rfl (Nat.le_of_eq rfl) (by decide) (by decide) ?_
  intro v T L X hq
  obtain ⟨rfl, NQ, K1, V1⟩ := hq
  have N := Fr.app N NQ
  obtain ⟨h1, eT⟩ : ∃ z, T.heap = z := ⟨_, rfl⟩
  rw [eT] at K1 V1
  have sz1 := K1.1
  show Gl p e below s _ _ _ (T.setTop (mkF m 33 #[.val (.ref sb), .val (.ref x), .val (.int (Int32.ofNat ds.length))] []))
  rw [pads_app hfit] at V1
  refine Gl.by (fun t_ k_ => XS.aloadN X.here hx rfl (hb hby d13_33) rfl rfl k_) ?_
  show Gl p e below s _ _ _ (T.setTop (mkF m 34 #[.val (.ref sb), .val (.ref x), .val (.int (Int32.ofNat ds.length))] [(.ref sb)]))
  refine Gl.by (fun t_ k_ => XS.dup X.here hx rfl (hb hby d13_34) rfl rfl k_) ?_
  show Gl p e below s _ _ _ (T.setTop (mkF m 35 #[.val (.ref sb), .val (.ref x), .val (.int (Int32.ofNat ds.length))] [(.ref sb), (.ref sb)]))
  obtain ⟨T, X, eT, st⟩ := getF X hx hZ hown (host := "") (Or.inl (hw _ (List.mem_of_getElem? (i := 83) rfl))) Via.refl eT (G.2.2.2.1.keep K1 (ninS (nea (by omega)) nin0)) (g := (mkF m 35 #[.val (.ref sb), .val (.ref x), .val (.int (Int32.ofNat ds.length))] [(.ref sb), (.ref sb)])) rfl rfl (hb hby d13_35)
  refine Gl.by st ?_
  show Gl p e below s _ _ _ (T.setTop (mkF m 38 #[.val (.ref sb), .val (.ref x), .val (.int (Int32.ofNat ds.length))] [(.int (Int32.ofNat cs.length)), (.ref sb)]))
  refine Gl.by (fun t_ k_ => XS.iloadN X.here hx rfl (hb hby d13_38) rfl k_) ?_
  show Gl p e below s _ _ _ (T.setTop (mkF m 39 #[.val (.ref sb), .val (.ref x), .val (.int (Int32.ofNat ds.length))] [(.int (Int32.ofNat ds.length)), (.int (Int32.ofNat cs.length)), (.ref sb)]))
  refine Gl.by (fun t_ k_ => XS.iadd X.here hx rfl (hb hby d13_39) rfl k_) ?_
  show Gl p e below s _ _ _ (T.setTop (mkF m 40 #[.val (.ref sb), .val (.ref x), .val (.int (Int32.ofNat ds.length))] [(.int ((Int32.ofNat cs.length) + (Int32.ofNat ds.length))), (.ref sb)]))
  rw [ofn_add]
  show Gl p e below s _ _ _ (T.setTop (mkF m 40 #[.val (.ref sb), .val (.ref x), .val (.int (Int32.ofNat ds.length))] [(.int (Int32.ofNat (cs.length + ds.length))), (.ref sb)]))
  obtain ⟨T, h2, X, eT, W2, st⟩ := putF X hx hZ hown (host := "") (Or.inl (hw _ (List.mem_of_getElem? (i := 83) rfl))) Via.refl eT (G.2.2.2.1.keep K1 (ninS (nea (by omega)) nin0)) (G.1.keep K1) (Or.inl (hw _ (List.mem_of_getElem? (i := 84) rfl))) (hw _ (List.mem_of_getElem? (i := 46) rfl)) (ty := .int) (by decide) rfl rfl (g := (mkF m 40 #[.val (.ref sb), .val (.ref x), .val (.int (Int32.ofNat ds.length))] [(.int (Int32.ofNat (cs.length + ds.length))), (.ref sb)])) rfl rfl (hb hby d13_40)
  have F2_count : Fld Z h2 sb "java/lang/AbstractStringBuilder" "count" "I" (.int (Int32.ofNat (cs.length + ds.length))) := Fld.same W2 (G.2.2.2.1.keep K1 (ninS (nea (by omega)) nin0))
  have sz2 := (Keep.of_wr W2).1
  have N := Fr.snoc X N (by omega)
  refine Gl.by st ?_
  show Gl p e below s _ _ _ (T.setTop (mkF m 43 #[.val (.ref sb), .val (.ref x), .val (.int (Int32.ofNat ds.length))] []))
  refine Gl.by (fun t_ k_ => XS.aloadN X.here hx rfl (hb hby d13_43) rfl rfl k_) ?_
  show Gl p e below s _ _ _ (T.setTop (mkF m 44 #[.val (.ref sb), .val (.ref x), .val (.int (Int32.ofNat ds.length))] [(.ref sb)]))
  have FC : Fld Z h2 sb "java/lang/AbstractStringBuilder" "count" "I" (.int (Int32.ofNat (cs ++ ds).length)) := by rw [List.length_append]; exact F2_count
  refine Gl.retA X hx hlk hret rfl rfl (hb hby d13_44) (by decide) (by decide) ?_
  rw [eT]
  exact ⟨rfl, N, (((Keep.refl h0 [sb, vb]).trans K1 (allS (Or.inl (by simp)) all0)).wr W2 (Or.inl (by simp))), ((G.1.keep K1).wr W2), ((G.2.1.keep K1 (ninS (nea (by omega)) nin0)).other W2 (Or.inr (slot_ne (C := "java/lang/StringBuilder") (Or.inl (hw _ (List.mem_of_getElem? (i := 60) rfl))) (Or.inl (hw _ (List.mem_of_getElem? (i := 84) rfl))) (by decide) (t := (.array .byte)) (t' := .int) (by decide) (by decide)))), ((G.2.2.1.keep K1 (ninS (nea (by omega)) nin0)).other W2 (Or.inr (slot_ne (C := "java/lang/StringBuilder") (Or.inl (hw _ (List.mem_of_getElem? (i := 62) rfl))) (Or.inl (hw _ (List.mem_of_getElem? (i := 84) rfl))) (by decide) (t := .byte) (t' := .int) (by decide) (by decide)))), FC, (V1.other W2 (ne_arv (G.1.keep K1) (hw _ (List.mem_of_getElem? (i := 46) rfl)) V1).symm), by rw [List.length_append]; exact hfit, g2, chars_app G.2.2.2.2.2.2.2 A.2.1⟩
set_option maxRecDepth 65536 in
set_option maxHeartbeats 40000000 in
theorem own_sba (l : Launch) (Z : State) (a0 : Array Value) (hw : ∀ d ∈ tables_1, d.before a0 Z = true) (sb x vb : Nat) (kb : ClassId) (cs ds : List Int32) (n : Nat) (z : Int32) (h0 : Heap) (n0 : Nat) (Z1 : n0 ≤ sb) (Z2 : n0 ≤ vb) (G : Sbo Z h0 sb vb kb cs n) (A : Str Z h0 x ds) (hfit : cs.length + ds.length ≤ n) (S : Sta Z Z.heap "java/lang/String" "COMPACT_STRINGS" "Z" (.int z)) (hz : ¬ z = 0) (O : Old Z n0 h0) :
    Ctr l Z (⟨"java/lang/StringBuilder", "append", "(Ljava/lang/String;)Ljava/lang/StringBuilder;"⟩ : MethodName) jdk_67_method_7_code 2 (some (.object "java/lang/StringBuilder")) [] own_rSA #[(.ref sb), (.ref x)] h0 (fun v h L => v = some (.ref sb) ∧ Fr n0 L ∧ Keep h0 h [sb, vb] ∧ Sbo Z h sb vb kb (cs ++ ds) n) := by
  refine Ctr.intro (plainFor_of_name pn_1) #[.val (.ref sb), .val (.ref x)] (fun m => by first | (simp [entryFrame, mkF, argsToLocals, Value.category]; done) | rfl) ?_
  intro p e s m below meth c T hx hby hml hown hnm hret hlk hZ hnamed X eT
  have hown : s.vm.findClass "java/lang/StringBuilder" = some m.cls := hown
  have N := Fr.nil n0
  show Gl p e below s _ _ _ (T.setTop (mkF m 0 #[.val (.ref sb), .val (.ref x)] []))
  refine Gl.by (fun t_ k_ => XS.aloadN X.here hx rfl (hb hby d12_0) rfl rfl k_) ?_
  show Gl p e below s _ _ _ (T.setTop (mkF m 1 #[.val (.ref sb), .val (.ref x)] [(.ref sb)]))
  refine Gl.by (fun t_ k_ => XS.aloadN X.here hx rfl (hb hby d12_1) rfl rfl k_) ?_
  show Gl p e below s _ _ _ (T.setTop (mkF m 2 #[.val (.ref sb), .val (.ref x)] [(.ref x), (.ref sb)]))
  refine Gl.supr (a := sb) X hx hZ (by decide) hown (hw _ (List.mem_of_getElem? (i := 68) rfl)) (sameOf (hw _ (List.mem_of_getElem? (i := 69) rfl)) (hw _ (List.mem_of_getElem? (i := 88) rfl)) rfl (by decide)) (hw _ (List.mem_of_getElem? (i := 69) rfl)) (hw _ (List.mem_of_getElem? (i := 70) rfl)) (hw _ (List.mem_of_getElem? (i := 72) rfl)) (Ins.of_exa G.1 (hw _ (List.mem_of_getElem? (i := 54) rfl))) (W := 0) (backC (own_asba l Z a0 hw sb x vb kb cs ds n z h0 n0 Z1 Z2 G A hfit S hz O) hZ (hw _ (List.mem_of_getElem? (i := 72) rfl)) (hw _ (List.mem_of_getElem? (i := 55) rfl)) (by decide) (by decide)) eT (hb hby d12_2) (by rw [hml]; rfl) [(.ref x)] [] (lenOf pd_6 rfl) rfl rfl (Nat.le_of_eq rfl) (by decide) (by decide) ?_
  intro v T L X hq
  obtain ⟨rfl, NQ, K1, Q1⟩ := hq
  have N := Fr.app N NQ
  obtain ⟨h1, eT⟩ : ∃ z, T.heap = z := ⟨_, rfl⟩
  rw [eT] at K1 Q1
  have sz1 := K1.1
  show Gl p e below s _ _ _ (T.setTop (mkF m 5 #[.val (.ref sb), .val (.ref x)] [(.ref sb)]))
  refine Gl.by (fun t_ k_ => XS.pop X.here hx rfl (hb hby d12_5) rfl rfl k_) ?_
  show Gl p e below s _ _ _ (T.setTop (mkF m 6 #[.val (.ref sb), .val (.ref x)] []))
  refine Gl.by (fun t_ k_ => XS.aloadN X.here hx rfl (hb hby d12_6) rfl rfl k_) ?_
  show Gl p e below s _ _ _ (T.setTop (mkF m 7 #[.val (.ref sb), .val (.ref x)] [(.ref sb)]))
  refine Gl.retA X hx hlk hret rfl rfl (hb hby d12_7) (by decide) (by decide) ?_
  rw [eT]
  exact ⟨rfl, N, K1, Q1⟩
def own_maxv (i j : Int32) : Int32 := if i < j then j else i
def own_minv (i j : Int32) : Int32 := if j < i then j else i
set_option maxRecDepth 65536 in
set_option maxHeartbeats 40000000 in
theorem own_max (l : Launch) (Z : State) (a0 : Array Value) (hw : ∀ d ∈ tables_1, d.before a0 Z = true) (i j : Int32) (h0 : Heap) (n0 : Nat)  :
    Ctr l Z (⟨"java/lang/Math", "max", "(II)I"⟩ : MethodName) jdk_29_method_65_code 2 (some .int) [] own_r0 #[(.int i), (.int j)] h0 (fun v h L => v = some (.int (own_maxv i j)) ∧ L = [] ∧ h = h0) := by
  refine Ctr.intro (by decide +kernel) #[.val (.int i), .val (.int j)] (fun m => by first | (simp [entryFrame, mkF, argsToLocals, Value.category]; done) | rfl) ?_
  intro p e s m below meth c T hx hby hml hown hnm hret hlk hZ hnamed X eT
  have hown : s.vm.findClass "java/lang/Math" = some m.cls := hown
  have N := Fr.nil n0
  show Gl p e below s _ _ _ (T.setTop (mkF m 0 #[.val (.int i), .val (.int j)] []))
  refine Gl.by (fun t_ k_ => XS.iloadN X.here hx rfl (hb hby d22_0) rfl k_) ?_
  show Gl p e below s _ _ _ (T.setTop (mkF m 1 #[.val (.int i), .val (.int j)] [(.int i)]))
  refine Gl.by (fun t_ k_ => XS.iloadN X.here hx rfl (hb hby d22_1) rfl k_) ?_
  show Gl p e below s _ _ _ (T.setTop (mkF m 2 #[.val (.int i), .val (.int j)] [(.int j), (.int i)]))
  by_cases c1 : i < j
  · refine Gl.by (fun t_ k_ => XS.icmpYes X.here hx rfl (pc0 := 2) (pc' := 9) rfl (hb hby d22_2) rfl (tlt c1).1 (by decide) (by decide) k_) ?_
    show Gl p e below s _ _ _ (T.setTop (mkF m 9 #[.val (.int i), .val (.int j)] []))
    refine Gl.by (fun t_ k_ => XS.iloadN X.here hx rfl (hb hby d22_9) rfl k_) ?_
    show Gl p e below s _ _ _ (T.setTop (mkF m 10 #[.val (.int i), .val (.int j)] [(.int j)]))
    refine Gl.retI X hx hlk hret (hb hby d22_10) (by decide) (by decide) ⟨?_, rfl, eT⟩
    rw [own_maxv, if_pos c1]
  · refine Gl.by (fun t_ k_ => XS.icmpNo X.here hx rfl (hb hby d22_2) rfl (flt c1).1 k_) ?_
    show Gl p e below s _ _ _ (T.setTop (mkF m 5 #[.val (.int i), .val (.int j)] []))
    refine Gl.by (fun t_ k_ => XS.iloadN X.here hx rfl (hb hby d22_5) rfl k_) ?_
    show Gl p e below s _ _ _ (T.setTop (mkF m 6 #[.val (.int i), .val (.int j)] [(.int i)]))
    refine Gl.by (fun t_ k_ => XS.goto X.here hx rfl (pc0 := 6) (pc' := 10) rfl (hb hby d22_6) (by decide) (by decide) k_) ?_
    show Gl p e below s _ _ _ (T.setTop (mkF m 10 #[.val (.int i), .val (.int j)] [(.int i)]))
    refine Gl.retI X hx hlk hret (hb hby d22_10) (by decide) (by decide) ⟨?_, rfl, eT⟩
    rw [own_maxv, if_neg c1]
set_option maxRecDepth 65536 in
set_option maxHeartbeats 40000000 in
theorem own_min (l : Launch) (Z : State) (a0 : Array Value) (hw : ∀ d ∈ tables_1, d.before a0 Z = true) (i j : Int32) (h0 : Heap) (n0 : Nat)  :
    Ctr l Z (⟨"java/lang/Math", "min", "(II)I"⟩ : MethodName) jdk_29_method_69_code 2 (some .int) [] own_r0 #[(.int i), (.int j)] h0 (fun v h L => v = some (.int (own_minv i j)) ∧ L = [] ∧ h = h0) := by
  refine Ctr.intro (by decide +kernel) #[.val (.int i), .val (.int j)] (fun m => by first | (simp [entryFrame, mkF, argsToLocals, Value.category]; done) | rfl) ?_
  intro p e s m below meth c T hx hby hml hown hnm hret hlk hZ hnamed X eT
  have hown : s.vm.findClass "java/lang/Math" = some m.cls := hown
  have N := Fr.nil n0
  show Gl p e below s _ _ _ (T.setTop (mkF m 0 #[.val (.int i), .val (.int j)] []))
  refine Gl.by (fun t_ k_ => XS.iloadN X.here hx rfl (hb hby d1_0) rfl k_) ?_
  show Gl p e below s _ _ _ (T.setTop (mkF m 1 #[.val (.int i), .val (.int j)] [(.int i)]))
  refine Gl.by (fun t_ k_ => XS.iloadN X.here hx rfl (hb hby d1_1) rfl k_) ?_
  show Gl p e below s _ _ _ (T.setTop (mkF m 2 #[.val (.int i), .val (.int j)] [(.int j), (.int i)]))
  by_cases c1 : j < i
  · refine Gl.by (fun t_ k_ => XS.icmpYes X.here hx rfl (pc0 := 2) (pc' := 9) rfl (hb hby d1_2) rfl (tlt c1).2.2.1 (by decide) (by decide) k_) ?_
    show Gl p e below s _ _ _ (T.setTop (mkF m 9 #[.val (.int i), .val (.int j)] []))
    refine Gl.by (fun t_ k_ => XS.iloadN X.here hx rfl (hb hby d1_9) rfl k_) ?_
    show Gl p e below s _ _ _ (T.setTop (mkF m 10 #[.val (.int i), .val (.int j)] [(.int j)]))
    refine Gl.retI X hx hlk hret (hb hby d1_10) (by decide) (by decide) ⟨?_, rfl, eT⟩
    rw [own_minv, if_pos c1]
  · refine Gl.by (fun t_ k_ => XS.icmpNo X.here hx rfl (hb hby d1_2) rfl (flt c1).2.2.1 k_) ?_
    show Gl p e below s _ _ _ (T.setTop (mkF m 5 #[.val (.int i), .val (.int j)] []))
    refine Gl.by (fun t_ k_ => XS.iloadN X.here hx rfl (hb hby d1_5) rfl k_) ?_
    show Gl p e below s _ _ _ (T.setTop (mkF m 6 #[.val (.int i), .val (.int j)] [(.int i)]))
    refine Gl.by (fun t_ k_ => XS.goto X.here hx rfl (pc0 := 6) (pc' := 10) rfl (hb hby d1_6) (by decide) (by decide) k_) ?_
    show Gl p e below s _ _ _ (T.setTop (mkF m 10 #[.val (.int i), .val (.int j)] [(.int i)]))
    refine Gl.retI X hx hlk hret (hb hby d1_10) (by decide) (by decide) ⟨?_, rfl, eT⟩
    rw [own_minv, if_neg c1]
theorem own_min_le {c n : Nat} (h : c ≤ n) (hn : n < 2 ^ 31) : own_minv (Int32.ofNat n) (Int32.ofNat c) = Int32.ofNat c := by
  rw [own_minv]
  by_cases q : c = n
  · subst q; rw [ite_self]
  · rw [if_pos (ofn_lt (by omega) hn)]
abbrev own_rCL : Room := { frames := 1, cells := 1, slots := 40, locals := 60 }
abbrev own_rCR : Room := { frames := 2, cells := 1, slots := 40, locals := 80 }
abbrev own_rSV : Room := { frames := 3, cells := 1, slots := 40, locals := 110 }
abbrev own_rSS : Room := { frames := 4, cells := 1, slots := 40, locals := 128 }
abbrev own_rTS : Room := { frames := 5, cells := 2, slots := 44, locals := 146 }
abbrev own_rLN : Room := { frames := 1, cells := 0, slots := 0, locals := 16 }
set_option maxRecDepth 65536 in
set_option maxHeartbeats 40000000 in
theorem own_chkl (l : Launch) (Z : State) (a0 : Array Value) (hw : ∀ d ∈ tables_1, d.before a0 Z = true) (cq : Nat) (h0 : Heap) (n0 : Nat) (hc : cq < 2 ^ 31) :
    Ctr l Z (⟨"java/util/Arrays", "checkLength", "(II)V"⟩ : MethodName) jdk_65_method_131_code 2 none [] own_r0 #[(.int (0 : Int32)), (.int (Int32.ofNat cq))] h0 (fun v h L => v = none ∧ L = [] ∧ h = h0) := by
  refine Ctr.intro (plainFor_of_name pn_3) #[.val (.int (0 : Int32)), .val (.int (Int32.ofNat cq))] (fun m => by first | (simp [entryFrame, mkF, argsToLocals, Value.category]; done) | rfl) ?_
  intro p e s m below meth c T hx hby hml hown hnm hret hlk hZ hnamed X eT
  have hown : s.vm.findClass "java/util/Arrays" = some m.cls := hown
  have N := Fr.nil n0
  show Gl p e below s _ _ _ (T.setTop (mkF m 0 #[.val (.int (0 : Int32)), .val (.int (Int32.ofNat cq))] []))
  refine Gl.by (fun t_ k_ => XS.iloadN X.here hx rfl (hb hby d33_0) rfl k_) ?_
  show Gl p e below s _ _ _ (T.setTop (mkF m 1 #[.val (.int (0 : Int32)), .val (.int (Int32.ofNat cq))] [(.int (Int32.ofNat cq))]))
  refine Gl.by (fun t_ k_ => XS.iloadN X.here hx rfl (hb hby d33_1) rfl k_) ?_
  show Gl p e below s _ _ _ (T.setTop (mkF m 2 #[.val (.int (0 : Int32)), .val (.int (Int32.ofNat cq))] [(.int (0 : Int32)), (.int (Int32.ofNat cq))]))
  refine Gl.by (fun t_ k_ => XS.icmpYes X.here hx rfl (pc0 := 2) (pc' := 37) rfl (hb hby d33_2) rfl (flt (ofn_nn hc)).2.1 (by decide) (by decide) k_) ?_
  show Gl p e below s _ _ _ (T.setTop (mkF m 37 #[.val (.int (0 : Int32)), .val (.int (Int32.ofNat cq))] []))
  exact Gl.retV X hx hlk hret (hb hby d33_37) (by decide) (by decide) ⟨rfl, rfl, eT⟩
set_option maxRecDepth 65536 in
set_option maxHeartbeats 40000000 in
theorem own_corb (l : Launch) (Z : State) (a0 : Array Value) (hw : ∀ d ∈ tables_1, d.before a0 Z = true) (vb : Nat) (kb : ClassId) (cs : List Int32) (n : Nat) (h0 : Heap) (n0 : Nat) (Z0 : n0 ≤ h0.size) (V : Arv Z h0 vb kb .byte (Int32.ofNat n) (pads cs n) (.int 0)) (hc : cs.length ≤ n) (hn : n ≤ 4000) (h40 : cs.length ≤ 40) :
    Ctr l Z (⟨"java/util/Arrays", "copyOfRangeByte", "([BII)[B"⟩ : MethodName) jdk_65_method_133_code 5 (some (.array .byte)) [] own_rCL #[(.ref vb), (.int (0 : Int32)), (.int (Int32.ofNat cs.length))] h0 (fun v h L => Fr n0 L ∧ Keep h0 h [] ∧ ∃ (nb : Nat) (kn : ClassId), v = some (.ref nb) ∧ h0.size ≤ nb ∧ Arv Z h nb kn .byte (Int32.ofNat cs.length) (bts cs) (.int 0)) := by
  refine Ctr.intro (plainFor_of_name pn_3) #[.val (.ref vb), .val (.int (0 : Int32)), .val (.int (Int32.ofNat cs.length)), .unset, .unset] (fun m => by first | (simp [entryFrame, mkF, argsToLocals, Value.category]; done) | rfl) ?_
  intro p e s m below meth c T hx hby hml hown hnm hret hlk hZ hnamed X eT
  have hown : s.vm.findClass "java/util/Arrays" = some m.cls := hown
  have N := Fr.nil n0
  have lvb : vb < h0.size := V.lt
  show Gl p e below s _ _ _ (T.setTop (mkF m 0 #[.val (.ref vb), .val (.int (0 : Int32)), .val (.int (Int32.ofNat cs.length)), .unset, .unset] []))
  refine Gl.by (fun t_ k_ => XS.iloadN X.here hx rfl (hb hby d32_0) rfl k_) ?_
  show Gl p e below s _ _ _ (T.setTop (mkF m 1 #[.val (.ref vb), .val (.int (0 : Int32)), .val (.int (Int32.ofNat cs.length)), .unset, .unset] [(.int (0 : Int32))]))
  refine Gl.by (fun t_ k_ => XS.iloadN X.here hx rfl (hb hby d32_1) rfl k_) ?_
  show Gl p e below s _ _ _ (T.setTop (mkF m 2 #[.val (.ref vb), .val (.int (0 : Int32)), .val (.int (Int32.ofNat cs.length)), .unset, .unset] [(.int (Int32.ofNat cs.length)), (.int (0 : Int32))]))
  refine Gl.stat X hx hZ hown (hw _ (List.mem_of_getElem? (i := 170) rfl)) (hw _ (List.mem_of_getElem? (i := 171) rfl)) (hw _ (List.mem_of_getElem? (i := 130) rfl)) (hw _ (List.mem_of_getElem? (i := 172) rfl)) (by decide) (W := 0) (backC (own_chkl l Z a0 hw cs.length h0 n0 (by omega)) hZ (hw _ (List.mem_of_getElem? (i := 172) rfl)) (hw _ (List.mem_of_getElem? (i := 130) rfl)) (by decide) (by decide)) eT (hb hby d32_2) (by rw [hml]; rfl) [(.int (0 : Int32)), (.int (Int32.ofNat cs.length))] [] (lenOf pd_7 rfl) rfl rfl (Nat.le_of_eq rfl) (by decide) (by decide) ?_
  intro v T L X hq
  obtain ⟨rfl, rfl, eT⟩ := hq
  have N := Fr.app N (Fr.nil n0)
  show Gl p e below s _ _ _ (T.setTop (mkF m 5 #[.val (.ref vb), .val (.int (0 : Int32)), .val (.int (Int32.ofNat cs.length)), .unset, .unset] []))
  refine Gl.by (fun t_ k_ => XS.iloadN X.here hx rfl (hb hby d32_5) rfl k_) ?_
  show Gl p e below s _ _ _ (T.setTop (mkF m 6 #[.val (.ref vb), .val (.int (0 : Int32)), .val (.int (Int32.ofNat cs.length)), .unset, .unset] [(.int (Int32.ofNat cs.length))]))
  refine Gl.by (fun t_ k_ => XS.iloadN X.here hx rfl (hb hby d32_6) rfl k_) ?_
  show Gl p e below s _ _ _ (T.setTop (mkF m 7 #[.val (.ref vb), .val (.int (0 : Int32)), .val (.int (Int32.ofNat cs.length)), .unset, .unset] [(.int (0 : Int32)), (.int (Int32.ofNat cs.length))]))
  refine Gl.by (fun t_ k_ => XS.isub X.here hx rfl (hb hby d32_7) rfl k_) ?_
  show Gl p e below s _ _ _ (T.setTop (mkF m 8 #[.val (.ref vb), .val (.int (0 : Int32)), .val (.int (Int32.ofNat cs.length)), .unset, .unset] [(.int ((Int32.ofNat cs.length) - (0 : Int32)))]))
  rw [Int32.sub_zero]
  show Gl p e below s _ _ _ (T.setTop (mkF m 8 #[.val (.ref vb), .val (.int (0 : Int32)), .val (.int (Int32.ofNat cs.length)), .unset, .unset] [(.int (Int32.ofNat cs.length))]))
  refine Gl.by (fun t_ k_ => XS.istoreN X.here hx rfl (hb hby d32_8) rfl (l' := #[.val (.ref vb), .val (.int (0 : Int32)), .val (.int (Int32.ofNat cs.length)), .val (.int (Int32.ofNat cs.length)), .unset]) rfl k_) ?_
  show Gl p e below s _ _ _ (T.setTop (mkF m 9 #[.val (.ref vb), .val (.int (0 : Int32)), .val (.int (Int32.ofNat cs.length)), .val (.int (Int32.ofNat cs.length)), .unset] []))
  refine Gl.by (fun t_ k_ => XS.iloadN X.here hx rfl (hb hby d32_9) rfl k_) ?_
  show Gl p e below s _ _ _ (T.setTop (mkF m 10 #[.val (.ref vb), .val (.int (0 : Int32)), .val (.int (Int32.ofNat cs.length)), .val (.int (Int32.ofNat cs.length)), .unset] [(.int (Int32.ofNat cs.length))]))
  obtain ⟨T, h1, k1, X, eT, E1, A1, st⟩ := newP X hx hZ (hw _ (List.mem_of_getElem? (i := 27) rfl)) eT (g := (mkF m 10 #[.val (.ref vb), .val (.int (0 : Int32)), .val (.int (Int32.ofNat cs.length)), .val (.int (Int32.ofNat cs.length)), .unset] [(.int (Int32.ofNat cs.length))])) rfl (hb hby d32_10) rfl (ofn_nn (by omega)) (cap := 40) (by rw [ofn_nat (by omega)]; exact h40) (by decide) (by decide) (by decide)
  obtain ⟨nb, g1⟩ : ∃ z, z = h0.size := ⟨_, rfl⟩
  rw [← g1] at A1 st
  have sz1 := E1.1
  have lt1 : nb < h1.size := A1.lt
  have V1 : Arv Z h1 nb k1 .byte (Int32.ofNat cs.length) (List.replicate cs.length (.int (0 : Int32))) (.int (0 : Int32)) := (Arv.new A1 (ofn_nn (by omega))).pad (pad_rep [] (.int (0 : Int32)) cs.length)
  refine Gl.by st ?_
  show Gl p e below s _ _ _ (T.setTop (mkF m 12 #[.val (.ref vb), .val (.int (0 : Int32)), .val (.int (Int32.ofNat cs.length)), .val (.int (Int32.ofNat cs.length)), .unset] [(.ref nb)]))
  refine Gl.by (fun t_ k_ => XS.astore X.here hx rfl (hb hby d32_12) rfl rfl (l' := #[.val (.ref vb), .val (.int (0 : Int32)), .val (.int (Int32.ofNat cs.length)), .val (.int (Int32.ofNat cs.length)), .val (.ref nb)]) rfl k_) ?_
  show Gl p e below s _ _ _ (T.setTop (mkF m 14 #[.val (.ref vb), .val (.int (0 : Int32)), .val (.int (Int32.ofNat cs.length)), .val (.int (Int32.ofNat cs.length)), .val (.ref nb)] []))
  refine Gl.by (fun t_ k_ => XS.aloadN X.here hx rfl (hb hby d32_14) rfl rfl k_) ?_
  show Gl p e below s _ _ _ (T.setTop (mkF m 15 #[.val (.ref vb), .val (.int (0 : Int32)), .val (.int (Int32.ofNat cs.length)), .val (.int (Int32.ofNat cs.length)), .val (.ref nb)] [(.ref vb)]))
  refine Gl.by (fun t_ k_ => XS.iloadN X.here hx rfl (hb hby d32_15) rfl k_) ?_
  show Gl p e below s _ _ _ (T.setTop (mkF m 16 #[.val (.ref vb), .val (.int (0 : Int32)), .val (.int (Int32.ofNat cs.length)), .val (.int (Int32.ofNat cs.length)), .val (.ref nb)] [(.int (0 : Int32)), (.ref vb)]))
  refine Gl.by (fun t_ k_ => XS.aload X.here hx rfl (hb hby d32_16) rfl rfl k_) ?_
  show Gl p e below s _ _ _ (T.setTop (mkF m 18 #[.val (.ref vb), .val (.int (0 : Int32)), .val (.int (Int32.ofNat cs.length)), .val (.int (Int32.ofNat cs.length)), .val (.ref nb)] [(.ref nb), (.int (0 : Int32)), (.ref vb)]))
  refine Gl.by (fun t_ k_ => XS.iconst X.here hx rfl (hb hby d32_18) k_) ?_
  show Gl p e below s _ _ _ (T.setTop (mkF m 19 #[.val (.ref vb), .val (.int (0 : Int32)), .val (.int (Int32.ofNat cs.length)), .val (.int (Int32.ofNat cs.length)), .val (.ref nb)] [(.int (0 : Int32)), (.ref nb), (.int (0 : Int32)), (.ref vb)]))
  refine Gl.by (fun t_ k_ => XS.aloadN X.here hx rfl (hb hby d32_19) rfl rfl k_) ?_
  show Gl p e below s _ _ _ (T.setTop (mkF m 20 #[.val (.ref vb), .val (.int (0 : Int32)), .val (.int (Int32.ofNat cs.length)), .val (.int (Int32.ofNat cs.length)), .val (.ref nb)] [(.ref vb), (.int (0 : Int32)), (.ref nb), (.int (0 : Int32)), (.ref vb)]))
  obtain ⟨cl2, Ar2, q2, S2, M2, H2, G2⟩ := (id ((V.ext E1)) : Arv Z h1 vb kb .byte (Int32.ofNat n) (pads cs n) (.int 0))
  refine Gl.by (X.arraylength hx (by rw [eT]; exact Ar2.1) (State.isArrayOf_alike hZ.alike Ar2.2.1) (g := (mkF m 20 #[.val (.ref vb), .val (.int (0 : Int32)), .val (.int (Int32.ofNat cs.length)), .val (.int (Int32.ofNat cs.length)), .val (.ref nb)] [(.ref vb), (.int (0 : Int32)), (.ref nb), (.int (0 : Int32)), (.ref vb)])) rfl rfl (hb hby d32_20)) ?_
  rw [len_of S2 M2]
  show Gl p e below s _ _ _ (T.setTop (mkF m 21 #[.val (.ref vb), .val (.int (0 : Int32)), .val (.int (Int32.ofNat cs.length)), .val (.int (Int32.ofNat cs.length)), .val (.ref nb)] [(.int (Int32.ofNat n)), (.int (0 : Int32)), (.ref nb), (.int (0 : Int32)), (.ref vb)]))
  refine Gl.by (fun t_ k_ => XS.iloadN X.here hx rfl (hb hby d32_21) rfl k_) ?_
  show Gl p e below s _ _ _ (T.setTop (mkF m 22 #[.val (.ref vb), .val (.int (0 : Int32)), .val (.int (Int32.ofNat cs.length)), .val (.int (Int32.ofNat cs.length)), .val (.ref nb)] [(.int (0 : Int32)), (.int (Int32.ofNat n)), (.int (0 : Int32)), (.ref nb), (.int (0 : Int32)), (.ref vb)]))
  refine Gl.by (fun t_ k_ => XS.isub X.here hx rfl (hb hby d32_22) rfl k_) ?_
  show Gl p e below s _ _ _ (T.setTop (mkF m 23 #[.val (.ref vb), .val (.int (0 : Int32)), .val (.int (Int32.ofNat cs.length)), .val (.int (Int32.ofNat cs.length)), .val (.ref nb)] [(.int ((Int32.ofNat n) - (0 : Int32))), (.int (0 : Int32)), (.ref nb), (.int (0 : Int32)), (.ref vb)]))
  rw [Int32.sub_zero]
  show Gl p e below s _ _ _ (T.setTop (mkF m 23 #[.val (.ref vb), .val (.int (0 : Int32)), .val (.int (Int32.ofNat cs.length)), .val (.int (Int32.ofNat cs.length)), .val (.ref nb)] [(.int (Int32.ofNat n)), (.int (0 : Int32)), (.ref nb), (.int (0 : Int32)), (.ref vb)]))
  refine Gl.by (fun t_ k_ => XS.iloadN X.here hx rfl (hb hby d32_23) rfl k_) ?_
  show Gl p e below s _ _ _ (T.setTop (mkF m 24 #[.val (.ref vb), .val (.int (0 : Int32)), .val (.int (Int32.ofNat cs.length)), .val (.int (Int32.ofNat cs.length)), .val (.ref nb)] [(.int (Int32.ofNat cs.length)), (.int (Int32.ofNat n)), (.int (0 : Int32)), (.ref nb), (.int (0 : Int32)), (.ref vb)]))
  refine Gl.stat X hx hZ hown (hw _ (List.mem_of_getElem? (i := 132) rfl)) (hw _ (List.mem_of_getElem? (i := 1) rfl)) (hw _ (List.mem_of_getElem? (i := 2) rfl)) (hw _ (List.mem_of_getElem? (i := 3) rfl)) (by decide) (W := 4) (backC (own_min l Z a0 hw (Int32.ofNat n) (Int32.ofNat cs.length) h1 n0) hZ (hw _ (List.mem_of_getElem? (i := 3) rfl)) (hw _ (List.mem_of_getElem? (i := 2) rfl)) (by decide) (by decide)) eT (hb hby d32_24) (by rw [hml]; rfl) [(.int (Int32.ofNat n)), (.int (Int32.ofNat cs.length))] [(.int (0 : Int32)), (.ref nb), (.int (0 : Int32)), (.ref vb)] (lenOf pd_8 rfl) rfl rfl (Nat.le_of_eq rfl) (by decide) (by decide) ?_
  intro v T L X hq
  obtain ⟨rfl, rfl, eT⟩ := hq
  have N := Fr.app N (Fr.nil n0)
  show Gl p e below s _ _ _ (T.setTop (mkF m 27 #[.val (.ref vb), .val (.int (0 : Int32)), .val (.int (Int32.ofNat cs.length)), .val (.int (Int32.ofNat cs.length)), .val (.ref nb)] [(.int (own_minv (Int32.ofNat n) (Int32.ofNat cs.length))), (.int (0 : Int32)), (.ref nb), (.int (0 : Int32)), (.ref vb)]))
  rw [own_min_le hc (by omega)]
  show Gl p e below s _ _ _ (T.setTop (mkF m 27 #[.val (.ref vb), .val (.int (0 : Int32)), .val (.int (Int32.ofNat cs.length)), .val (.int (Int32.ofNat cs.length)), .val (.ref nb)] [(.int (Int32.ofNat cs.length)), (.int (0 : Int32)), (.ref nb), (.int (0 : Int32)), (.ref vb)]))
  obtain ⟨T, h3, L, X, eT, N, K3, V3, st⟩ := cpN X hx hZ hown (hw _ (List.mem_of_getElem? (i := 133) rfl)) (hw _ (List.mem_of_getElem? (i := 109) rfl)) (hw _ (List.mem_of_getElem? (i := 107) rfl)) (hw _ (List.mem_of_getElem? (i := 108) rfl)) eT (V.ext E1) V1 rfl 0 0 cs.length (by omega) (by omega) (by omega) (by omega) List.length_replicate N (by omega) (g := (mkF m 27 #[.val (.ref vb), .val (.int (0 : Int32)), .val (.int (Int32.ofNat cs.length)), .val (.int (Int32.ofNat cs.length)), .val (.ref nb)] [(.int (Int32.ofNat cs.length)), (.int (0 : Int32)), (.ref nb), (.int (0 : Int32)), (.ref vb)])) rfl (by rw [hml]; rfl) rfl (hb hby d32_27) (by decide) (W := 0) (by show 2 * 0 + _ ≤ _; exact Nat.le_of_eq rfl) (by decide)
  have sz3 := K3.1
  refine Gl.by st ?_
  show Gl p e below s _ _ _ (T.setTop (mkF m 30 #[.val (.ref vb), .val (.int (0 : Int32)), .val (.int (Int32.ofNat cs.length)), .val (.int (Int32.ofNat cs.length)), .val (.ref nb)] []))
  rw [copy_bts hc] at V3
  refine Gl.by (fun t_ k_ => XS.aload X.here hx rfl (hb hby d32_30) rfl rfl k_) ?_
  show Gl p e below s _ _ _ (T.setTop (mkF m 32 #[.val (.ref vb), .val (.int (0 : Int32)), .val (.int (Int32.ofNat cs.length)), .val (.int (Int32.ofNat cs.length)), .val (.ref nb)] [(.ref nb)]))
  refine Gl.retA X hx hlk hret rfl rfl (hb hby d32_32) (by decide) (by decide) ?_
  rw [eT]
  exact ⟨N, (((Keep.refl h0 []).ext E1).trans K3 (allS (Or.inr (by omega)) all0)), nb, k1, rfl, by omega, V3⟩
set_option maxRecDepth 65536 in
set_option maxHeartbeats 40000000 in
theorem own_cor (l : Launch) (Z : State) (a0 : Array Value) (hw : ∀ d ∈ tables_1, d.before a0 Z = true) (vb : Nat) (kb : ClassId) (cs : List Int32) (n : Nat) (h0 : Heap) (n0 : Nat) (Z0 : n0 ≤ h0.size) (V : Arv Z h0 vb kb .byte (Int32.ofNat n) (pads cs n) (.int 0)) (hc : cs.length ≤ n) (hn : n ≤ 4000) (h40 : cs.length ≤ 40) (hlt : cs.length < n) :
    Ctr l Z (⟨"java/util/Arrays", "copyOfRange", "([BII)[B"⟩ : MethodName) jdk_65_method_132_code 3 (some (.array .byte)) [] own_rCR #[(.ref vb), (.int (0 : Int32)), (.int (Int32.ofNat cs.length))] h0 (fun v h L => Fr n0 L ∧ Keep h0 h [] ∧ ∃ (nb : Nat) (kn : ClassId), v = some (.ref nb) ∧ h0.size ≤ nb ∧ Arv Z h nb kn .byte (Int32.ofNat cs.length) (bts cs) (.int 0)) := by
  refine Ctr.intro (plainFor_of_name pn_3) #[.val (.ref vb), .val (.int (0 : Int32)), .val (.int (Int32.ofNat cs.length))] (fun m => by first | (simp [entryFrame, mkF, argsToLocals, Value.category]; done) | rfl) ?_
  intro p e s m below meth c T hx hby hml hown hnm hret hlk hZ hnamed X eT
  have hown : s.vm.findClass "java/util/Arrays" = some m.cls := hown
  have N := Fr.nil n0
  show Gl p e below s _ _ _ (T.setTop (mkF m 0 #[.val (.ref vb), .val (.int (0 : Int32)), .val (.int (Int32.ofNat cs.length))] []))
  refine Gl.by (fun t_ k_ => XS.iloadN X.here hx rfl (hb hby d31_0) rfl k_) ?_
  show Gl p e below s _ _ _ (T.setTop (mkF m 1 #[.val (.ref vb), .val (.int (0 : Int32)), .val (.int (Int32.ofNat cs.length))] [(.int (0 : Int32))]))
  refine Gl.by (fun t_ k_ => XS.ifNo X.here hx rfl (hb hby d31_1) rfl ((if0 _ _).trans (teq (rfl : (0 : Int32) = 0)).2) k_) ?_
  show Gl p e below s _ _ _ (T.setTop (mkF m 4 #[.val (.ref vb), .val (.int (0 : Int32)), .val (.int (Int32.ofNat cs.length))] []))
  refine Gl.by (fun t_ k_ => XS.iloadN X.here hx rfl (hb hby d31_4) rfl k_) ?_
  show Gl p e below s _ _ _ (T.setTop (mkF m 5 #[.val (.ref vb), .val (.int (0 : Int32)), .val (.int (Int32.ofNat cs.length))] [(.int (Int32.ofNat cs.length))]))
  refine Gl.by (fun t_ k_ => XS.aloadN X.here hx rfl (hb hby d31_5) rfl rfl k_) ?_
  show Gl p e below s _ _ _ (T.setTop (mkF m 6 #[.val (.ref vb), .val (.int (0 : Int32)), .val (.int (Int32.ofNat cs.length))] [(.ref vb), (.int (Int32.ofNat cs.length))]))
  obtain ⟨cl1, Ar1, q1, S1, M1, H1, G1⟩ := (id (V) : Arv Z h0 vb kb .byte (Int32.ofNat n) (pads cs n) (.int 0))
  refine Gl.by (X.arraylength hx (by rw [eT]; exact Ar1.1) (State.isArrayOf_alike hZ.alike Ar1.2.1) (g := (mkF m 6 #[.val (.ref vb), .val (.int (0 : Int32)), .val (.int (Int32.ofNat cs.length))] [(.ref vb), (.int (Int32.ofNat cs.length))])) rfl rfl (hb hby d31_6)) ?_
  rw [len_of S1 M1]
  show Gl p e below s _ _ _ (T.setTop (mkF m 7 #[.val (.ref vb), .val (.int (0 : Int32)), .val (.int (Int32.ofNat cs.length))] [(.int (Int32.ofNat n)), (.int (Int32.ofNat cs.length))]))
  refine Gl.by (fun t_ k_ => XS.icmpNo X.here hx rfl (hb hby d31_7) rfl (feq (ofn_ne (by omega) (by omega) (by omega))).1 k_) ?_
  show Gl p e below s _ _ _ (T.setTop (mkF m 10 #[.val (.ref vb), .val (.int (0 : Int32)), .val (.int (Int32.ofNat cs.length))] []))
  refine Gl.by (fun t_ k_ => XS.aloadN X.here hx rfl (hb hby d31_10) rfl rfl k_) ?_
  show Gl p e below s _ _ _ (T.setTop (mkF m 11 #[.val (.ref vb), .val (.int (0 : Int32)), .val (.int (Int32.ofNat cs.length))] [(.ref vb)]))
  refine Gl.by (fun t_ k_ => XS.iloadN X.here hx rfl (hb hby d31_11) rfl k_) ?_
  show Gl p e below s _ _ _ (T.setTop (mkF m 12 #[.val (.ref vb), .val (.int (0 : Int32)), .val (.int (Int32.ofNat cs.length))] [(.int (0 : Int32)), (.ref vb)]))
  refine Gl.by (fun t_ k_ => XS.iloadN X.here hx rfl (hb hby d31_12) rfl k_) ?_
  show Gl p e below s _ _ _ (T.setTop (mkF m 13 #[.val (.ref vb), .val (.int (0 : Int32)), .val (.int (Int32.ofNat cs.length))] [(.int (Int32.ofNat cs.length)), (.int (0 : Int32)), (.ref vb)]))
  refine Gl.stat X hx hZ hown (hw _ (List.mem_of_getElem? (i := 167) rfl)) (hw _ (List.mem_of_getElem? (i := 168) rfl)) (hw _ (List.mem_of_getElem? (i := 130) rfl)) (hw _ (List.mem_of_getElem? (i := 169) rfl)) (by decide) (W := 0) (backC (own_corb l Z a0 hw vb kb cs n h0 n0 Z0 V hc hn h40) hZ (hw _ (List.mem_of_getElem? (i := 169) rfl)) (hw _ (List.mem_of_getElem? (i := 130) rfl)) (by decide) (by decide)) eT (hb hby d31_13) (by rw [hml]; rfl) [(.ref vb), (.int (0 : Int32)), (.int (Int32.ofNat cs.length))] [] (lenOf pd_9 rfl) rfl rfl (Nat.le_of_eq rfl) (by decide) (by decide) ?_
  intro v T L X hq
  obtain ⟨NQ, K1, nb, kn, rfl, Q1⟩ := hq
  have N := Fr.app N NQ
  obtain ⟨h1, eT⟩ : ∃ z, T.heap = z := ⟨_, rfl⟩
  rw [eT] at K1 Q1
  have sz1 := K1.1
  show Gl p e below s _ _ _ (T.setTop (mkF m 16 #[.val (.ref vb), .val (.int (0 : Int32)), .val (.int (Int32.ofNat cs.length))] [(.ref nb)]))
  refine Gl.retA X hx hlk hret rfl rfl (hb hby d31_16) (by decide) (by decide) ?_
  rw [eT]
  exact ⟨N, K1, nb, kn, rfl, Q1⟩
set_option maxRecDepth 65536 in
set_option maxHeartbeats 40000000 in
theorem own_getv (l : Launch) (Z : State) (a0 : Array Value) (hw : ∀ d ∈ tables_1, d.before a0 Z = true) (r : Nat) (vb : Nat) (h0 : Heap) (n0 : Nat)  (F : Fld Z h0 r "java/lang/AbstractStringBuilder" "value" "[B" (.ref vb)) :
    Ctr l Z (⟨"java/lang/AbstractStringBuilder", "getValue", "()[B"⟩ : MethodName) jdk_68_method_64_code 1 (some (.array .byte)) [] own_r0 #[(.ref r)] h0 (fun v h L => v = some (.ref vb) ∧ L = [] ∧ h = h0) := by
  refine Ctr.intro (plainFor_of_name pn_0) #[.val (.ref r)] (fun m => by first | (simp [entryFrame, mkF, argsToLocals, Value.category]; done) | rfl) ?_
  intro p e s m below meth c T hx hby hml hown hnm hret hlk hZ hnamed X eT
  have hown : s.vm.findClass "java/lang/AbstractStringBuilder" = some m.cls := hown
  have N := Fr.nil n0
  show Gl p e below s _ _ _ (T.setTop (mkF m 0 #[.val (.ref r)] []))
  refine Gl.by (fun t_ k_ => XS.aloadN X.here hx rfl (hb hby d27_0) rfl rfl k_) ?_
  show Gl p e below s _ _ _ (T.setTop (mkF m 1 #[.val (.ref r)] [(.ref r)]))
  obtain ⟨T, X, eT, st⟩ := getF X hx hZ hown (host := "") (Or.inl (hw _ (List.mem_of_getElem? (i := 59) rfl))) Via.refl eT F (g := (mkF m 1 #[.val (.ref r)] [(.ref r)])) rfl rfl (hb hby d27_1)
  refine Gl.by st ?_
  show Gl p e below s _ _ _ (T.setTop (mkF m 4 #[.val (.ref r)] [(.ref vb)]))
  exact Gl.retA X hx hlk hret rfl rfl (hb hby d27_4) (by decide) (by decide) ⟨rfl, rfl, eT⟩
set_option maxRecDepth 65536 in
set_option maxHeartbeats 40000000 in
theorem own_asbl (l : Launch) (Z : State) (a0 : Array Value) (hw : ∀ d ∈ tables_1, d.before a0 Z = true) (r : Nat) (i : Int32) (h0 : Heap) (n0 : Nat)  (F : Fld Z h0 r "java/lang/AbstractStringBuilder" "count" "I" (.int i)) :
    Ctr l Z (⟨"java/lang/AbstractStringBuilder", "length", "()I"⟩ : MethodName) jdk_68_method_6_code 1 (some .int) [] own_r0 #[(.ref r)] h0 (fun v h L => v = some (.int i) ∧ L = [] ∧ h = h0) := by
  refine Ctr.intro (plainFor_of_name pn_0) #[.val (.ref r)] (fun m => by first | (simp [entryFrame, mkF, argsToLocals, Value.category]; done) | rfl) ?_
  intro p e s m below meth c T hx hby hml hown hnm hret hlk hZ hnamed X eT
  have hown : s.vm.findClass "java/lang/AbstractStringBuilder" = some m.cls := hown
  have N := Fr.nil n0
  show Gl p e below s _ _ _ (T.setTop (mkF m 0 #[.val (.ref r)] []))
  refine Gl.by (fun t_ k_ => XS.aloadN X.here hx rfl (hb hby d29_0) rfl rfl k_) ?_
  show Gl p e below s _ _ _ (T.setTop (mkF m 1 #[.val (.ref r)] [(.ref r)]))
  obtain ⟨T, X, eT, st⟩ := getF X hx hZ hown (host := "") (Or.inl (hw _ (List.mem_of_getElem? (i := 83) rfl))) Via.refl eT F (g := (mkF m 1 #[.val (.ref r)] [(.ref r)])) rfl rfl (hb hby d29_1)
  refine Gl.by st ?_
  show Gl p e below s _ _ _ (T.setTop (mkF m 4 #[.val (.ref r)] [(.int i)]))
  exact Gl.retI X hx hlk hret (hb hby d29_4) (by decide) (by decide) ⟨rfl, rfl, eT⟩
set_option maxRecDepth 65536 in
set_option maxHeartbeats 40000000 in
theorem own_sbl (l : Launch) (Z : State) (a0 : Array Value) (hw : ∀ d ∈ tables_1, d.before a0 Z = true) (r : Nat) (i : Int32) (h0 : Heap) (n0 : Nat) (E : Exa Z h0 r "java/lang/StringBuilder") (F : Fld Z h0 r "java/lang/AbstractStringBuilder" "count" "I" (.int i)) :
    Ctr l Z (⟨"java/lang/StringBuilder", "length", "()I"⟩ : MethodName) jdk_67_method_93_code 1 (some .int) [] own_rLN #[(.ref r)] h0 (fun v h L => v = some (.int i) ∧ L = [] ∧ h = h0) := by
  refine Ctr.intro (plainFor_of_name pn_1) #[.val (.ref r)] (fun m => by first | (simp [entryFrame, mkF, argsToLocals, Value.category]; done) | rfl) ?_
  intro p e s m below meth c T hx hby hml hown hnm hret hlk hZ hnamed X eT
  have hown : s.vm.findClass "java/lang/StringBuilder" = some m.cls := hown
  have N := Fr.nil n0
  show Gl p e below s _ _ _ (T.setTop (mkF m 0 #[.val (.ref r)] []))
  refine Gl.by (fun t_ k_ => XS.aloadN X.here hx rfl (hb hby d28_0) rfl rfl k_) ?_
  show Gl p e below s _ _ _ (T.setTop (mkF m 1 #[.val (.ref r)] [(.ref r)]))
  refine Gl.supr (a := r) X hx hZ (by decide) hown (hw _ (List.mem_of_getElem? (i := 157) rfl)) (sameOf (hw _ (List.mem_of_getElem? (i := 153) rfl)) (hw _ (List.mem_of_getElem? (i := 88) rfl)) rfl (by decide)) (hw _ (List.mem_of_getElem? (i := 153) rfl)) (hw _ (List.mem_of_getElem? (i := 70) rfl)) (hw _ (List.mem_of_getElem? (i := 158) rfl)) (Ins.of_exa E (hw _ (List.mem_of_getElem? (i := 54) rfl))) (W := 0) (backC (own_asbl l Z a0 hw r i h0 n0 F) hZ (hw _ (List.mem_of_getElem? (i := 158) rfl)) (hw _ (List.mem_of_getElem? (i := 55) rfl)) (by decide) (by decide)) eT (hb hby d28_1) (by rw [hml]; rfl) [] [] (lenOf pd_4 rfl) rfl rfl (Nat.le_of_eq rfl) (by decide) (by decide) ?_
  intro v T L X hq
  obtain ⟨rfl, rfl, eT⟩ := hq
  have N := Fr.app N (Fr.nil n0)
  show Gl p e below s _ _ _ (T.setTop (mkF m 4 #[.val (.ref r)] [(.int i)]))
  exact Gl.retI X hx hlk hret (hb hby d28_4) (by decide) (by decide) ⟨rfl, rfl, eT⟩
set_option maxRecDepth 65536 in
set_option maxHeartbeats 40000000 in
theorem own_siv (l : Launch) (Z : State) (a0 : Array Value) (hw : ∀ d ∈ tables_1, d.before a0 Z = true) (sx sb vb : Nat) (kb : ClassId) (cs : List Int32) (n : Nat) (z : Int32) (h0 : Heap) (n0 : Nat) (Z0 : n0 ≤ sx) (E : Exa Z h0 sx "java/lang/String") (F_value : Fld Z h0 sx "java/lang/String" "value" "[B" .null) (F_coder : Fld Z h0 sx "java/lang/String" "coder" "B" (.int (0 : Int32))) (G : Sbo Z h0 sb vb kb cs n) (hlt : cs.length < n) (h40 : cs.length ≤ 40) (S : Sta Z Z.heap "java/lang/String" "COMPACT_STRINGS" "Z" (.int z)) (hz : ¬ z = 0) (O : Old Z n0 h0) :
    Ctr l Z (⟨"java/lang/String", "<init>", "(Ljava/lang/AbstractStringBuilder;Ljava/lang/Void;)V"⟩ : MethodName) jdk_42_method_150_code 5 none [] own_rSV #[(.ref sx), (.ref sb), .null] h0 (fun v h L => v = none ∧ Fr n0 L ∧ Keep h0 h [sx] ∧ Str Z h sx cs) := by
  refine Ctr.intro (plainFor_of_name pn_2) #[.val (.ref sx), .val (.ref sb), .val .null, .unset, .unset] (fun m => by first | (simp [entryFrame, mkF, argsToLocals, Value.category]; done) | rfl) ?_
  intro p e s m below meth c T hx hby hml hown hnm hret hlk hZ hnamed X eT
  have hown : s.vm.findClass "java/lang/String" = some m.cls := hown
  have N := Fr.nil n0
  have g1 := G.2.2.2.2.2.1
  have g2 := G.2.2.2.2.2.2.1
  have nsv : sb ≠ vb := ne_arv G.1 (hw _ (List.mem_of_getElem? (i := 46) rfl)) G.2.2.2.2.1
  have lsx : sx < h0.size := E.lt
  have lvb : vb < h0.size := G.2.2.2.2.1.lt
  show Gl p e below s _ _ _ (T.setTop (mkF m 0 #[.val (.ref sx), .val (.ref sb), .val .null, .unset, .unset] []))
  refine Gl.by (fun t_ k_ => XS.aloadN X.here hx rfl (hb hby d26_0) rfl rfl k_) ?_
  show Gl p e below s _ _ _ (T.setTop (mkF m 1 #[.val (.ref sx), .val (.ref sb), .val .null, .unset, .unset] [(.ref sx)]))
  obtain ⟨T, X, eT, st⟩ := initO X hx hZ hown (hw _ (List.mem_of_getElem? (i := 19) rfl)) (hw _ (List.mem_of_getElem? (i := 20) rfl)) (hw _ (List.mem_of_getElem? (i := 21) rfl)) eT (g := (mkF m 1 #[.val (.ref sx), .val (.ref sb), .val .null, .unset, .unset] [(.ref sx)])) rfl (by rw [hml]; rfl) rfl (hb hby d26_1) (by decide) (W := 0) (by show 2 * 0 + _ ≤ _; exact Nat.le_of_eq rfl) (by decide)
  refine Gl.by st ?_
  show Gl p e below s _ _ _ (T.setTop (mkF m 4 #[.val (.ref sx), .val (.ref sb), .val .null, .unset, .unset] []))
  refine Gl.by (fun t_ k_ => XS.aloadN X.here hx rfl (hb hby d26_4) rfl rfl k_) ?_
  show Gl p e below s _ _ _ (T.setTop (mkF m 5 #[.val (.ref sx), .val (.ref sb), .val .null, .unset, .unset] [(.ref sb)]))
  refine Gl.virt X hx hZ hown (hw _ (List.mem_of_getElem? (i := 146) rfl)) (hw _ (List.mem_of_getElem? (i := 147) rfl)) (hw _ (List.mem_of_getElem? (i := 149) rfl)) (hw _ (List.mem_of_getElem? (i := 148) rfl)) (notFace_of_selects (args := #[]) (mvT hZ (hw _ (List.mem_of_getElem? (i := 149) rfl)))) (by decide) G.1 (W := 0) (backC (own_getv l Z a0 hw sb vb h0 n0 G.2.1) hZ (hw _ (List.mem_of_getElem? (i := 150) rfl)) (hw _ (List.mem_of_getElem? (i := 55) rfl)) (by decide) (by decide)) eT (hb hby d26_5) (by rw [hml]; rfl) [] [] (lenOf pd_10 rfl) rfl rfl (Nat.le_of_eq rfl) (by decide) (by decide) ?_
  intro v T L X hq
  obtain ⟨rfl, rfl, eT⟩ := hq
  have N := Fr.app N (Fr.nil n0)
  show Gl p e below s _ _ _ (T.setTop (mkF m 8 #[.val (.ref sx), .val (.ref sb), .val .null, .unset, .unset] [(.ref vb)]))
  refine Gl.by (fun t_ k_ => XS.astoreN X.here hx rfl (hb hby d26_8) rfl rfl (l' := #[.val (.ref sx), .val (.ref sb), .val .null, .val (.ref vb), .unset]) rfl k_) ?_
  show Gl p e below s _ _ _ (T.setTop (mkF m 9 #[.val (.ref sx), .val (.ref sb), .val .null, .val (.ref vb), .unset] []))
  refine Gl.by (fun t_ k_ => XS.aloadN X.here hx rfl (hb hby d26_9) rfl rfl k_) ?_
  show Gl p e below s _ _ _ (T.setTop (mkF m 10 #[.val (.ref sx), .val (.ref sb), .val .null, .val (.ref vb), .unset] [(.ref sb)]))
  refine Gl.virt X hx hZ hown (hw _ (List.mem_of_getElem? (i := 151) rfl)) (hw _ (List.mem_of_getElem? (i := 152) rfl)) (hw _ (List.mem_of_getElem? (i := 154) rfl)) (hw _ (List.mem_of_getElem? (i := 155) rfl)) (nf_of_sel (args := #[]) (mvT hZ (hw _ (List.mem_of_getElem? (i := 88) rfl))) rfl) (by decide) G.1 (W := 0) (backC (own_sbl l Z a0 hw sb _ h0 n0 G.1 G.2.2.2.1) hZ (hw _ (List.mem_of_getElem? (i := 156) rfl)) (hw _ (List.mem_of_getElem? (i := 47) rfl)) (by decide) (by decide)) eT (hb hby d26_10) (by rw [hml]; rfl) [] [] (lenOf pd_4 rfl) rfl rfl (Nat.le_of_eq rfl) (by decide) (by decide) ?_
  intro v T L X hq
  obtain ⟨rfl, rfl, eT⟩ := hq
  have N := Fr.app N (Fr.nil n0)
  show Gl p e below s _ _ _ (T.setTop (mkF m 13 #[.val (.ref sx), .val (.ref sb), .val .null, .val (.ref vb), .unset] [(.int (Int32.ofNat cs.length))]))
  refine Gl.by (fun t_ k_ => XS.istore X.here hx rfl (hb hby d26_13) rfl (l' := #[.val (.ref sx), .val (.ref sb), .val .null, .val (.ref vb), .val (.int (Int32.ofNat cs.length))]) rfl k_) ?_
  show Gl p e below s _ _ _ (T.setTop (mkF m 15 #[.val (.ref sx), .val (.ref sb), .val .null, .val (.ref vb), .val (.int (Int32.ofNat cs.length))] []))
  refine Gl.by (fun t_ k_ => XS.aloadN X.here hx rfl (hb hby d26_15) rfl rfl k_) ?_
  show Gl p e below s _ _ _ (T.setTop (mkF m 16 #[.val (.ref sx), .val (.ref sb), .val .null, .val (.ref vb), .val (.int (Int32.ofNat cs.length))] [(.ref sb)]))
  refine Gl.virt X hx hZ hown (hw _ (List.mem_of_getElem? (i := 159) rfl)) (hw _ (List.mem_of_getElem? (i := 160) rfl)) (hw _ (List.mem_of_getElem? (i := 162) rfl)) (hw _ (List.mem_of_getElem? (i := 161) rfl)) (notFace_of_selects (args := #[]) (mvT hZ (hw _ (List.mem_of_getElem? (i := 162) rfl)))) (by decide) G.1 (W := 0) (backC (own_isl1 l Z a0 hw sb z h0 n0 G.2.2.1 S hz O) hZ (hw _ (List.mem_of_getElem? (i := 163) rfl)) (hw _ (List.mem_of_getElem? (i := 55) rfl)) (by decide) (by decide)) eT (hb hby d26_16) (by rw [hml]; rfl) [] [] (lenOf pd_11 rfl) rfl rfl (Nat.le_of_eq rfl) (by decide) (by decide) ?_
  intro v T L X hq
  obtain ⟨rfl, rfl, eT⟩ := hq
  have N := Fr.app N (Fr.nil n0)
  show Gl p e below s _ _ _ (T.setTop (mkF m 19 #[.val (.ref sx), .val (.ref sb), .val .null, .val (.ref vb), .val (.int (Int32.ofNat cs.length))] [(.int (1 : Int32))]))
  refine Gl.by (fun t_ k_ => XS.ifNo X.here hx rfl (hb hby d26_19) rfl ((if0 _ _).trans (feq (by decide : ¬ (1 : Int32) = 0)).1) k_) ?_
  show Gl p e below s _ _ _ (T.setTop (mkF m 22 #[.val (.ref sx), .val (.ref sb), .val .null, .val (.ref vb), .val (.int (Int32.ofNat cs.length))] []))
  refine Gl.by (fun t_ k_ => XS.aloadN X.here hx rfl (hb hby d26_22) rfl rfl k_) ?_
  show Gl p e below s _ _ _ (T.setTop (mkF m 23 #[.val (.ref sx), .val (.ref sb), .val .null, .val (.ref vb), .val (.int (Int32.ofNat cs.length))] [(.ref sx)]))
  refine Gl.by (fun t_ k_ => XS.iconst X.here hx rfl (hb hby d26_23) k_) ?_
  show Gl p e below s _ _ _ (T.setTop (mkF m 24 #[.val (.ref sx), .val (.ref sb), .val .null, .val (.ref vb), .val (.int (Int32.ofNat cs.length))] [(.int (0 : Int32)), (.ref sx)]))
  obtain ⟨T, h1, X, eT, W1, st⟩ := putF X hx hZ hown (host := "") (Or.inl (hw _ (List.mem_of_getElem? (i := 34) rfl))) Via.refl eT F_coder E (Or.inr ⟨(hw _ (List.mem_of_getElem? (i := 35) rfl)), rfl, hnm⟩) (hw _ (List.mem_of_getElem? (i := 9) rfl)) (ty := .byte) (by decide) rfl rfl (g := (mkF m 24 #[.val (.ref sx), .val (.ref sb), .val .null, .val (.ref vb), .val (.int (Int32.ofNat cs.length))] [(.int (0 : Int32)), (.ref sx)])) rfl rfl (hb hby d26_24)
  have F1_coder : Fld Z h1 sx "java/lang/String" "coder" "B" (.int (0 : Int32)) := Fld.same W1 F_coder
  have sz1 := (Keep.of_wr W1).1
  have N := Fr.snoc X N (by omega)
  refine Gl.by st ?_
  show Gl p e below s _ _ _ (T.setTop (mkF m 27 #[.val (.ref sx), .val (.ref sb), .val .null, .val (.ref vb), .val (.int (Int32.ofNat cs.length))] []))
  refine Gl.by (fun t_ k_ => XS.aloadN X.here hx rfl (hb hby d26_27) rfl rfl k_) ?_
  show Gl p e below s _ _ _ (T.setTop (mkF m 28 #[.val (.ref sx), .val (.ref sb), .val .null, .val (.ref vb), .val (.int (Int32.ofNat cs.length))] [(.ref sx)]))
  refine Gl.by (fun t_ k_ => XS.aloadN X.here hx rfl (hb hby d26_28) rfl rfl k_) ?_
  show Gl p e below s _ _ _ (T.setTop (mkF m 29 #[.val (.ref sx), .val (.ref sb), .val .null, .val (.ref vb), .val (.int (Int32.ofNat cs.length))] [(.ref vb), (.ref sx)]))
  refine Gl.by (fun t_ k_ => XS.iconst X.here hx rfl (hb hby d26_29) k_) ?_
  show Gl p e below s _ _ _ (T.setTop (mkF m 30 #[.val (.ref sx), .val (.ref sb), .val .null, .val (.ref vb), .val (.int (Int32.ofNat cs.length))] [(.int (0 : Int32)), (.ref vb), (.ref sx)]))
  refine Gl.by (fun t_ k_ => XS.iload X.here hx rfl (hb hby d26_30) rfl k_) ?_
  show Gl p e below s _ _ _ (T.setTop (mkF m 32 #[.val (.ref sx), .val (.ref sb), .val .null, .val (.ref vb), .val (.int (Int32.ofNat cs.length))] [(.int (Int32.ofNat cs.length)), (.int (0 : Int32)), (.ref vb), (.ref sx)]))
  refine Gl.stat X hx hZ hown (hw _ (List.mem_of_getElem? (i := 164) rfl)) (hw _ (List.mem_of_getElem? (i := 165) rfl)) (hw _ (List.mem_of_getElem? (i := 130) rfl)) (hw _ (List.mem_of_getElem? (i := 166) rfl)) (by decide) (W := 1) (backC (own_cor l Z a0 hw vb kb cs n h1 n0 (by omega) (G.2.2.2.2.1.other W1 (ne_arv E (hw _ (List.mem_of_getElem? (i := 9) rfl)) G.2.2.2.2.1).symm) g1 g2 h40 hlt) hZ (hw _ (List.mem_of_getElem? (i := 166) rfl)) (hw _ (List.mem_of_getElem? (i := 130) rfl)) (by decide) (by decide)) eT (hb hby d26_32) (by rw [hml]; rfl) [(.ref vb), (.int (0 : Int32)), (.int (Int32.ofNat cs.length))] [(.ref sx)] (lenOf pd_9 rfl) rfl rfl (Nat.le_of_eq rfl) (by decide) (by decide) ?_
  intro v T L X hq
  obtain ⟨NQ, K2, nb, kn, rfl, ge, Q2⟩ := hq
  have N := Fr.app N NQ
  obtain ⟨h2, eT⟩ : ∃ z, T.heap = z := ⟨_, rfl⟩
  rw [eT] at K2 Q2
  have sz2 := K2.1
  show Gl p e below s _ _ _ (T.setTop (mkF m 35 #[.val (.ref sx), .val (.ref sb), .val .null, .val (.ref vb), .val (.int (Int32.ofNat cs.length))] [(.ref nb), (.ref sx)]))
  obtain ⟨T, h3, X, eT, W3, st⟩ := putF X hx hZ hown (host := "") (Or.inl (hw _ (List.mem_of_getElem? (i := 36) rfl))) Via.refl eT ((F_value.other W1 (Or.inr (slot_ne (C := "java/lang/String") (Or.inr (hw _ (List.mem_of_getElem? (i := 37) rfl))) (Or.inr (hw _ (List.mem_of_getElem? (i := 35) rfl))) (by decide) (t := (.array .byte)) (t' := .byte) (by decide) (by decide)))).keep K2 nin0) ((E.wr W1).keep K2) (Or.inr ⟨(hw _ (List.mem_of_getElem? (i := 37) rfl)), rfl, hnm⟩) (hw _ (List.mem_of_getElem? (i := 9) rfl)) (ty := (.array .byte)) (by decide) rfl rfl (g := (mkF m 35 #[.val (.ref sx), .val (.ref sb), .val .null, .val (.ref vb), .val (.int (Int32.ofNat cs.length))] [(.ref nb), (.ref sx)])) rfl rfl (hb hby d26_35)
  have F3_value : Fld Z h3 sx "java/lang/String" "value" "[B" (.ref nb) := Fld.same W3 ((F_value.other W1 (Or.inr (slot_ne (C := "java/lang/String") (Or.inr (hw _ (List.mem_of_getElem? (i := 37) rfl))) (Or.inr (hw _ (List.mem_of_getElem? (i := 35) rfl))) (by decide) (t := (.array .byte)) (t' := .byte) (by decide) (by decide)))).keep K2 nin0)
  have sz3 := (Keep.of_wr W3).1
  have N := Fr.snoc X N (by omega)
  refine Gl.by st ?_
  show Gl p e below s _ _ _ (T.setTop (mkF m 38 #[.val (.ref sx), .val (.ref sb), .val .null, .val (.ref vb), .val (.int (Int32.ofNat cs.length))] []))
  refine Gl.by (fun t_ k_ => XS.goto X.here hx rfl (pc0 := 38) (pc' := 97) rfl (hb hby d26_38) (by decide) (by decide) k_) ?_
  show Gl p e below s _ _ _ (T.setTop (mkF m 97 #[.val (.ref sx), .val (.ref sb), .val .null, .val (.ref vb), .val (.int (Int32.ofNat cs.length))] []))
  refine Gl.retV X hx hlk hret (hb hby d26_97) (by decide) (by decide) ?_
  rw [eT]
  exact ⟨rfl, N, ((((Keep.refl h0 [sx]).wr W1 (Or.inl (by simp))).trans K2 all0).wr W3 (Or.inl (by simp))), (((E.wr W1).keep K2).wr W3), G.2.2.2.2.2.2.2, by omega, ((F1_coder.keep K2 nin0).other W3 (Or.inr (slot_ne (C := "java/lang/String") (Or.inr (hw _ (List.mem_of_getElem? (i := 35) rfl))) (Or.inr (hw _ (List.mem_of_getElem? (i := 37) rfl))) (by decide) (t := .byte) (t' := (.array .byte)) (by decide) (by decide)))), nb, kn, F3_value, (Q2.other W3 (ne_arv ((E.wr W1).keep K2) (hw _ (List.mem_of_getElem? (i := 9) rfl)) Q2).symm)⟩
set_option maxRecDepth 65536 in
set_option maxHeartbeats 40000000 in
theorem own_sis (l : Launch) (Z : State) (a0 : Array Value) (hw : ∀ d ∈ tables_1, d.before a0 Z = true) (sx sb vb : Nat) (kb : ClassId) (cs : List Int32) (n : Nat) (z : Int32) (h0 : Heap) (n0 : Nat) (Z0 : n0 ≤ sx) (E : Exa Z h0 sx "java/lang/String") (F_value : Fld Z h0 sx "java/lang/String" "value" "[B" .null) (F_coder : Fld Z h0 sx "java/lang/String" "coder" "B" (.int (0 : Int32))) (G : Sbo Z h0 sb vb kb cs n) (hlt : cs.length < n) (h40 : cs.length ≤ 40) (S : Sta Z Z.heap "java/lang/String" "COMPACT_STRINGS" "Z" (.int z)) (hz : ¬ z = 0) (O : Old Z n0 h0) :
    Ctr l Z (⟨"java/lang/String", "<init>", "(Ljava/lang/StringBuilder;)V"⟩ : MethodName) jdk_42_method_53_code 2 none [] own_rSS #[(.ref sx), (.ref sb)] h0 (fun v h L => v = none ∧ Fr n0 L ∧ Keep h0 h [sx] ∧ Str Z h sx cs) := by
  refine Ctr.intro (plainFor_of_name pn_2) #[.val (.ref sx), .val (.ref sb)] (fun m => by first | (simp [entryFrame, mkF, argsToLocals, Value.category]; done) | rfl) ?_
  intro p e s m below meth c T hx hby hml hown hnm hret hlk hZ hnamed X eT
  have hown : s.vm.findClass "java/lang/String" = some m.cls := hown
  have N := Fr.nil n0
  show Gl p e below s _ _ _ (T.setTop (mkF m 0 #[.val (.ref sx), .val (.ref sb)] []))
  refine Gl.by (fun t_ k_ => XS.aloadN X.here hx rfl (hb hby d25_0) rfl rfl k_) ?_
  show Gl p e below s _ _ _ (T.setTop (mkF m 1 #[.val (.ref sx), .val (.ref sb)] [(.ref sx)]))
  refine Gl.by (fun t_ k_ => XS.aloadN X.here hx rfl (hb hby d25_1) rfl rfl k_) ?_
  show Gl p e below s _ _ _ (T.setTop (mkF m 2 #[.val (.ref sx), .val (.ref sb)] [(.ref sb), (.ref sx)]))
  refine Gl.by (fun t_ k_ => XS.aconstNull X.here hx rfl (hb hby d25_2) k_) ?_
  show Gl p e below s _ _ _ (T.setTop (mkF m 3 #[.val (.ref sx), .val (.ref sb)] [.null, (.ref sb), (.ref sx)]))
  refine Gl.spec X hx hZ rfl hown (hw _ (List.mem_of_getElem? (i := 143) rfl)) (hw _ (List.mem_of_getElem? (i := 144) rfl)) (hw _ (List.mem_of_getElem? (i := 145) rfl)) (by decide) (W := 0) (backC (own_siv l Z a0 hw sx sb vb kb cs n z h0 n0 Z0 E F_value F_coder G hlt h40 S hz O) hZ (hw _ (List.mem_of_getElem? (i := 145) rfl)) (hw _ (List.mem_of_getElem? (i := 10) rfl)) (by decide) (by decide)) eT (hb hby d25_3) (by rw [hml]; rfl) sx [(.ref sb), .null] [] (lenOf pd_12 rfl) rfl rfl (Nat.le_of_eq rfl) (by decide) (by decide) ?_
  intro v T L X hq
  obtain ⟨rfl, NQ, K1, Q1⟩ := hq
  have N := Fr.app N NQ
  obtain ⟨h1, eT⟩ : ∃ z, T.heap = z := ⟨_, rfl⟩
  rw [eT] at K1 Q1
  have sz1 := K1.1
  show Gl p e below s _ _ _ (T.setTop (mkF m 6 #[.val (.ref sx), .val (.ref sb)] []))
  refine Gl.retV X hx hlk hret (hb hby d25_6) (by decide) (by decide) ?_
  rw [eT]
  exact ⟨rfl, N, K1, Q1⟩
set_option maxRecDepth 65536 in
set_option maxHeartbeats 40000000 in
theorem own_tos (l : Launch) (Z : State) (a0 : Array Value) (hw : ∀ d ∈ tables_1, d.before a0 Z = true) (sb vb : Nat) (kb : ClassId) (cs : List Int32) (n : Nat) (z : Int32) (h0 : Heap) (n0 : Nat) (Z0 : n0 ≤ h0.size) (G : Sbo Z h0 sb vb kb cs n) (hlt : cs.length < n) (h40 : cs.length ≤ 40) (S : Sta Z Z.heap "java/lang/String" "COMPACT_STRINGS" "Z" (.int z)) (hz : ¬ z = 0) (O : Old Z n0 h0) :
    Ctr l Z (⟨"java/lang/StringBuilder", "toString", "()Ljava/lang/String;"⟩ : MethodName) jdk_67_method_42_code 1 (some (.object "java/lang/String")) [] own_rTS #[(.ref sb)] h0 (fun v h L => Fr n0 L ∧ Keep h0 h [] ∧ ∃ sx : Nat, v = some (.ref sx) ∧ h0.size ≤ sx ∧ Str Z h sx cs) := by
  refine Ctr.intro (plainFor_of_name pn_1) #[.val (.ref sb)] (fun m => by first | (simp [entryFrame, mkF, argsToLocals, Value.category]; done) | rfl) ?_
  intro p e s m below meth c T hx hby hml hown hnm hret hlk hZ hnamed X eT
  have hown : s.vm.findClass "java/lang/StringBuilder" = some m.cls := hown
  have N := Fr.nil n0
  have lvb : vb < h0.size := G.2.2.2.2.1.lt
  have lsb : sb < h0.size := G.1.lt
  show Gl p e below s _ _ _ (T.setTop (mkF m 0 #[.val (.ref sb)] []))
  obtain ⟨T, h1, X, eT, E1, A1, D1, -, st⟩ := newO X hx hZ hown (hw _ (List.mem_of_getElem? (i := 139) rfl)) (hw _ (List.mem_of_getElem? (i := 9) rfl)) (hw _ (List.mem_of_getElem? (i := 10) rfl)) eT (g := (mkF m 0 #[.val (.ref sb)] [])) rfl (hb hby d24_0) (by decide) (by decide)
  obtain ⟨sx, g1⟩ : ∃ z, z = h0.size := ⟨_, rfl⟩
  rw [← g1] at A1 D1 st
  have sz1 := E1.1
  have lt1 : sx < h1.size := A1.lt
  refine Gl.by st ?_
  have F1_coder : Fld Z h1 sx "java/lang/String" "coder" "B" (.int (0 : Int32)) := D1 (Or.inr (hw _ (List.mem_of_getElem? (i := 35) rfl))) (ty := .byte) (by decide)
  have F1_value : Fld Z h1 sx "java/lang/String" "value" "[B" .null := D1 (Or.inr (hw _ (List.mem_of_getElem? (i := 37) rfl))) (ty := (.array .byte)) (by decide)
  show Gl p e below s _ _ _ (T.setTop (mkF m 3 #[.val (.ref sb)] [(.ref sx)]))
  refine Gl.by (fun t_ k_ => XS.dup X.here hx rfl (hb hby d24_3) rfl rfl k_) ?_
  show Gl p e below s _ _ _ (T.setTop (mkF m 4 #[.val (.ref sb)] [(.ref sx), (.ref sx)]))
  refine Gl.by (fun t_ k_ => XS.aloadN X.here hx rfl (hb hby d24_4) rfl rfl k_) ?_
  show Gl p e below s _ _ _ (T.setTop (mkF m 5 #[.val (.ref sb)] [(.ref sb), (.ref sx), (.ref sx)]))
  refine Gl.spec X hx hZ rfl hown (hw _ (List.mem_of_getElem? (i := 140) rfl)) (hw _ (List.mem_of_getElem? (i := 141) rfl)) (hw _ (List.mem_of_getElem? (i := 142) rfl)) (by decide) (W := 1) (backC (own_sis l Z a0 hw sx sb vb kb cs n z h1 n0 (by omega) A1 F1_value F1_coder ⟨(G.1.ext E1), (G.2.1.ext E1), (G.2.2.1.ext E1), (G.2.2.2.1.ext E1), (G.2.2.2.2.1.ext E1), G.2.2.2.2.2⟩ hlt h40 S hz (O.ext E1)) hZ (hw _ (List.mem_of_getElem? (i := 142) rfl)) (hw _ (List.mem_of_getElem? (i := 10) rfl)) (by decide) (by decide)) eT (hb hby d24_5) (by rw [hml]; rfl) sx [(.ref sb)] [(.ref sx)] (lenOf pd_13 rfl) rfl rfl (Nat.le_of_eq rfl) (by decide) (by decide) ?_
  intro v T L X hq
  obtain ⟨rfl, NQ, K2, Q2⟩ := hq
  have N := Fr.app N NQ
  obtain ⟨h2, eT⟩ : ∃ z, T.heap = z := ⟨_, rfl⟩
  rw [eT] at K2 Q2
  have sz2 := K2.1
  show Gl p e below s _ _ _ (T.setTop (mkF m 8 #[.val (.ref sb)] [(.ref sx)]))
  refine Gl.retA X hx hlk hret rfl rfl (hb hby d24_8) (by decide) (by decide) ?_
  rw [eT]
  exact ⟨N, (((Keep.refl h0 []).ext E1).trans K2 (allS (Or.inr (by omega)) all0)), sx, rfl, by omega, Q2⟩
theorem own_max_ge {g q : Nat} (h : g ≤ q) (hq : q < 2 ^ 31) : own_maxv (Int32.ofNat g) (Int32.ofNat q) = Int32.ofNat q := by
  rw [own_maxv]
  by_cases e : g = q
  · subst e; rw [ite_self]
  · rw [if_pos (ofn_lt (by omega) hq)]
theorem own_min_ge {n q : Nat} (h : n ≤ q) (hq : q < 2 ^ 31) : own_minv (Int32.ofNat n) (Int32.ofNat q) = Int32.ofNat n := by rw [own_minv, if_neg (ofn_nlt h hq)]
theorem ofn_pos {a : Nat} (h : 0 < a) (ha : a < 2 ^ 31) : (0 : Int32) < Int32.ofNat a := ofn_lt (a := 0) h ha
abbrev own_rNL : Room := { frames := 1, cells := 0, slots := 0, locals := 16 }
abbrev own_rNC : Room := { frames := 2, cells := 0, slots := 0, locals := 36 }
abbrev own_rCP : Room := { frames := 1, cells := 1, slots := 40, locals := 64 }
abbrev own_rEG : Room := { frames := 3, cells := 1, slots := 40, locals := 84 }
abbrev own_rAG : Room := { frames := 4, cells := 1, slots := 40, locals := 104 }
abbrev own_rSG : Room := { frames := 5, cells := 1, slots := 40, locals := 124 }
set_option maxRecDepth 65536 in
set_option maxHeartbeats 40000000 in
theorem own_nwl (l : Launch) (Z : State) (a0 : Array Value) (hw : ∀ d ∈ tables_1, d.before a0 Z = true) (n g q : Nat) (h0 : Heap) (n0 : Nat) (hg : g ≤ q) (hq : 0 < q) (hn : n + q ≤ 2147483639) :
    Ctr l Z (⟨"jdk/internal/util/ArraysSupport", "newLength", "(III)I"⟩ : MethodName) jdk_48_method_27_code 4 (some .int) [] own_rNL #[(.int (Int32.ofNat n)), (.int (Int32.ofNat g)), (.int (Int32.ofNat q))] h0 (fun v h L => v = some (.int (Int32.ofNat (n + q))) ∧ L = [] ∧ h = h0) := by
  refine Ctr.intro (plainFor_of_name pn_4) #[.val (.int (Int32.ofNat n)), .val (.int (Int32.ofNat g)), .val (.int (Int32.ofNat q)), .unset] (fun m => by first | (simp [entryFrame, mkF, argsToLocals, Value.category]; done) | rfl) ?_
  intro p e s m below meth c T hx hby hml hown hnm hret hlk hZ hnamed X eT
  have hown : s.vm.findClass "jdk/internal/util/ArraysSupport" = some m.cls := hown
  have N := Fr.nil n0
  show Gl p e below s _ _ _ (T.setTop (mkF m 0 #[.val (.int (Int32.ofNat n)), .val (.int (Int32.ofNat g)), .val (.int (Int32.ofNat q)), .unset] []))
  refine Gl.by (fun t_ k_ => XS.iloadN X.here hx rfl (hb hby d21_0) rfl k_) ?_
  show Gl p e below s _ _ _ (T.setTop (mkF m 1 #[.val (.int (Int32.ofNat n)), .val (.int (Int32.ofNat g)), .val (.int (Int32.ofNat q)), .unset] [(.int (Int32.ofNat n))]))
  refine Gl.by (fun t_ k_ => XS.iloadN X.here hx rfl (hb hby d21_1) rfl k_) ?_
  show Gl p e below s _ _ _ (T.setTop (mkF m 2 #[.val (.int (Int32.ofNat n)), .val (.int (Int32.ofNat g)), .val (.int (Int32.ofNat q)), .unset] [(.int (Int32.ofNat g)), (.int (Int32.ofNat n))]))
  refine Gl.by (fun t_ k_ => XS.iloadN X.here hx rfl (hb hby d21_2) rfl k_) ?_
  show Gl p e below s _ _ _ (T.setTop (mkF m 3 #[.val (.int (Int32.ofNat n)), .val (.int (Int32.ofNat g)), .val (.int (Int32.ofNat q)), .unset] [(.int (Int32.ofNat q)), (.int (Int32.ofNat g)), (.int (Int32.ofNat n))]))
  refine Gl.stat X hx hZ hown (hw _ (List.mem_of_getElem? (i := 123) rfl)) (hw _ (List.mem_of_getElem? (i := 124) rfl)) (hw _ (List.mem_of_getElem? (i := 2) rfl)) (hw _ (List.mem_of_getElem? (i := 125) rfl)) (by decide) (W := 1) (backC (own_max l Z a0 hw (Int32.ofNat g) (Int32.ofNat q) h0 n0) hZ (hw _ (List.mem_of_getElem? (i := 125) rfl)) (hw _ (List.mem_of_getElem? (i := 2) rfl)) (by decide) (by decide)) eT (hb hby d21_3) (by rw [hml]; rfl) [(.int (Int32.ofNat g)), (.int (Int32.ofNat q))] [(.int (Int32.ofNat n))] (lenOf pd_8 rfl) rfl rfl (Nat.le_of_eq rfl) (by decide) (by decide) ?_
  intro v T L X hq
  obtain ⟨rfl, rfl, eT⟩ := hq
  have N := Fr.app N (Fr.nil n0)
  show Gl p e below s _ _ _ (T.setTop (mkF m 6 #[.val (.int (Int32.ofNat n)), .val (.int (Int32.ofNat g)), .val (.int (Int32.ofNat q)), .unset] [(.int (own_maxv (Int32.ofNat g) (Int32.ofNat q))), (.int (Int32.ofNat n))]))
  rw [own_max_ge hg (by omega)]
  show Gl p e below s _ _ _ (T.setTop (mkF m 6 #[.val (.int (Int32.ofNat n)), .val (.int (Int32.ofNat g)), .val (.int (Int32.ofNat q)), .unset] [(.int (Int32.ofNat q)), (.int (Int32.ofNat n))]))
  refine Gl.by (fun t_ k_ => XS.iadd X.here hx rfl (hb hby d21_6) rfl k_) ?_
  show Gl p e below s _ _ _ (T.setTop (mkF m 7 #[.val (.int (Int32.ofNat n)), .val (.int (Int32.ofNat g)), .val (.int (Int32.ofNat q)), .unset] [(.int ((Int32.ofNat n) + (Int32.ofNat q)))]))
  rw [ofn_add]
  show Gl p e below s _ _ _ (T.setTop (mkF m 7 #[.val (.int (Int32.ofNat n)), .val (.int (Int32.ofNat g)), .val (.int (Int32.ofNat q)), .unset] [(.int (Int32.ofNat (n + q)))]))
  refine Gl.by (fun t_ k_ => XS.istoreN X.here hx rfl (hb hby d21_7) rfl (l' := #[.val (.int (Int32.ofNat n)), .val (.int (Int32.ofNat g)), .val (.int (Int32.ofNat q)), .val (.int (Int32.ofNat (n + q)))]) rfl k_) ?_
  show Gl p e below s _ _ _ (T.setTop (mkF m 8 #[.val (.int (Int32.ofNat n)), .val (.int (Int32.ofNat g)), .val (.int (Int32.ofNat q)), .val (.int (Int32.ofNat (n + q)))] []))
  refine Gl.by (fun t_ k_ => XS.iconst X.here hx rfl (hb hby d21_8) k_) ?_
  show Gl p e below s _ _ _ (T.setTop (mkF m 9 #[.val (.int (Int32.ofNat n)), .val (.int (Int32.ofNat g)), .val (.int (Int32.ofNat q)), .val (.int (Int32.ofNat (n + q)))] [(.int (0 : Int32))]))
  refine Gl.by (fun t_ k_ => XS.iloadN X.here hx rfl (hb hby d21_9) rfl k_) ?_
  show Gl p e below s _ _ _ (T.setTop (mkF m 10 #[.val (.int (Int32.ofNat n)), .val (.int (Int32.ofNat g)), .val (.int (Int32.ofNat q)), .val (.int (Int32.ofNat (n + q)))] [(.int (Int32.ofNat (n + q))), (.int (0 : Int32))]))
  refine Gl.by (fun t_ k_ => XS.icmpNo X.here hx rfl (hb hby d21_10) rfl (tlt (ofn_pos (by omega) (by omega))).2.1 k_) ?_
  show Gl p e below s _ _ _ (T.setTop (mkF m 13 #[.val (.int (Int32.ofNat n)), .val (.int (Int32.ofNat g)), .val (.int (Int32.ofNat q)), .val (.int (Int32.ofNat (n + q)))] []))
  refine Gl.by (fun t_ k_ => XS.iloadN X.here hx rfl (hb hby d21_13) rfl k_) ?_
  show Gl p e below s _ _ _ (T.setTop (mkF m 14 #[.val (.int (Int32.ofNat n)), .val (.int (Int32.ofNat g)), .val (.int (Int32.ofNat q)), .val (.int (Int32.ofNat (n + q)))] [(.int (Int32.ofNat (n + q)))]))
  refine Gl.by (fun t_ k_ => X.ldcInt hx hown (mvT hZ (hw _ (List.mem_of_getElem? (i := 126) rfl))) (g := (mkF m 14 #[.val (.int (Int32.ofNat n)), .val (.int (Int32.ofNat g)), .val (.int (Int32.ofNat q)), .val (.int (Int32.ofNat (n + q)))] [(.int (Int32.ofNat (n + q)))])) rfl (hb hby d21_14) _ k_) ?_
  show Gl p e below s _ _ _ (T.setTop (mkF m 16 #[.val (.int (Int32.ofNat n)), .val (.int (Int32.ofNat g)), .val (.int (Int32.ofNat q)), .val (.int (Int32.ofNat (n + q)))] [(.int (2147483639 : Int32)), (.int (Int32.ofNat (n + q)))]))
  refine Gl.by (fun t_ k_ => XS.icmpNo X.here hx rfl (hb hby d21_16) rfl (flt (ofn_nlt (a := 2147483639) (b := n + q) (by omega) (by decide))).2.2.1 k_) ?_
  show Gl p e below s _ _ _ (T.setTop (mkF m 19 #[.val (.int (Int32.ofNat n)), .val (.int (Int32.ofNat g)), .val (.int (Int32.ofNat q)), .val (.int (Int32.ofNat (n + q)))] []))
  refine Gl.by (fun t_ k_ => XS.iloadN X.here hx rfl (hb hby d21_19) rfl k_) ?_
  show Gl p e below s _ _ _ (T.setTop (mkF m 20 #[.val (.int (Int32.ofNat n)), .val (.int (Int32.ofNat g)), .val (.int (Int32.ofNat q)), .val (.int (Int32.ofNat (n + q)))] [(.int (Int32.ofNat (n + q)))]))
  exact Gl.retI X hx hlk hret (hb hby d21_20) (by decide) (by decide) ⟨rfl, rfl, eT⟩
set_option maxRecDepth 65536 in
set_option maxHeartbeats 40000000 in
theorem own_nwc (l : Launch) (Z : State) (a0 : Array Value) (hw : ∀ d ∈ tables_1, d.before a0 Z = true) (sb vb : Nat) (kb : ClassId) (k n : Nat) (vs : List Value) (h0 : Heap) (n0 : Nat) (F1 : Fld Z h0 sb "java/lang/AbstractStringBuilder" "value" "[B" (.ref vb)) (F2 : Fld Z h0 sb "java/lang/AbstractStringBuilder" "coder" "B" (.int 0)) (V : Arv Z h0 vb kb .byte (Int32.ofNat n) vs (.int 0)) (hlt : n ≤ k) (hk : k ≤ n + (n + 2)) (hn : n ≤ 4000) :
    Ctr l Z (⟨"java/lang/AbstractStringBuilder", "newCapacity", "(I)I"⟩ : MethodName) jdk_68_method_10_code 6 (some .int) [] own_rNC #[(.ref sb), (.int (Int32.ofNat k))] h0 (fun v h L => v = some (.int (Int32.ofNat (n + (n + 2)))) ∧ L = [] ∧ h = h0) := by
  refine Ctr.intro (plainFor_of_name pn_0) #[.val (.ref sb), .val (.int (Int32.ofNat k)), .unset, .unset, .unset, .unset] (fun m => by first | (simp [entryFrame, mkF, argsToLocals, Value.category]; done) | rfl) ?_
  intro p e s m below meth c T hx hby hml hown hnm hret hlk hZ hnamed X eT
  have hown : s.vm.findClass "java/lang/AbstractStringBuilder" = some m.cls := hown
  have N := Fr.nil n0
  show Gl p e below s _ _ _ (T.setTop (mkF m 0 #[.val (.ref sb), .val (.int (Int32.ofNat k)), .unset, .unset, .unset, .unset] []))
  refine Gl.by (fun t_ k_ => XS.aloadN X.here hx rfl (hb hby d20_0) rfl rfl k_) ?_
  show Gl p e below s _ _ _ (T.setTop (mkF m 1 #[.val (.ref sb), .val (.int (Int32.ofNat k)), .unset, .unset, .unset, .unset] [(.ref sb)]))
  obtain ⟨T, X, eT, st⟩ := getF X hx hZ hown (host := "") (Or.inl (hw _ (List.mem_of_getElem? (i := 59) rfl))) Via.refl eT F1 (g := (mkF m 1 #[.val (.ref sb), .val (.int (Int32.ofNat k)), .unset, .unset, .unset, .unset] [(.ref sb)])) rfl rfl (hb hby d20_1)
  refine Gl.by st ?_
  show Gl p e below s _ _ _ (T.setTop (mkF m 4 #[.val (.ref sb), .val (.int (Int32.ofNat k)), .unset, .unset, .unset, .unset] [(.ref vb)]))
  obtain ⟨cl1, Ar1, q1, S1, M1, H1, G1⟩ := (id (V) : Arv Z h0 vb kb .byte (Int32.ofNat n) vs (.int 0))
  refine Gl.by (X.arraylength hx (by rw [eT]; exact Ar1.1) (State.isArrayOf_alike hZ.alike Ar1.2.1) (g := (mkF m 4 #[.val (.ref sb), .val (.int (Int32.ofNat k)), .unset, .unset, .unset, .unset] [(.ref vb)])) rfl rfl (hb hby d20_4)) ?_
  rw [len_of S1 M1]
  show Gl p e below s _ _ _ (T.setTop (mkF m 5 #[.val (.ref sb), .val (.int (Int32.ofNat k)), .unset, .unset, .unset, .unset] [(.int (Int32.ofNat n))]))
  refine Gl.by (fun t_ k_ => XS.istoreN X.here hx rfl (hb hby d20_5) rfl (l' := #[.val (.ref sb), .val (.int (Int32.ofNat k)), .val (.int (Int32.ofNat n)), .unset, .unset, .unset]) rfl k_) ?_
  show Gl p e below s _ _ _ (T.setTop (mkF m 6 #[.val (.ref sb), .val (.int (Int32.ofNat k)), .val (.int (Int32.ofNat n)), .unset, .unset, .unset] []))
  refine Gl.by (fun t_ k_ => XS.iloadN X.here hx rfl (hb hby d20_6) rfl k_) ?_
  show Gl p e below s _ _ _ (T.setTop (mkF m 7 #[.val (.ref sb), .val (.int (Int32.ofNat k)), .val (.int (Int32.ofNat n)), .unset, .unset, .unset] [(.int (Int32.ofNat k))]))
  refine Gl.by (fun t_ k_ => XS.aloadN X.here hx rfl (hb hby d20_7) rfl rfl k_) ?_
  show Gl p e below s _ _ _ (T.setTop (mkF m 8 #[.val (.ref sb), .val (.int (Int32.ofNat k)), .val (.int (Int32.ofNat n)), .unset, .unset, .unset] [(.ref sb), (.int (Int32.ofNat k))]))
  obtain ⟨T, X, eT, st⟩ := getF X hx hZ hown (host := "") (Or.inl (hw _ (List.mem_of_getElem? (i := 61) rfl))) Via.refl eT F2 (g := (mkF m 8 #[.val (.ref sb), .val (.int (Int32.ofNat k)), .val (.int (Int32.ofNat n)), .unset, .unset, .unset] [(.ref sb), (.int (Int32.ofNat k))])) rfl rfl (hb hby d20_8)
  refine Gl.by st ?_
  show Gl p e below s _ _ _ (T.setTop (mkF m 11 #[.val (.ref sb), .val (.int (Int32.ofNat k)), .val (.int (Int32.ofNat n)), .unset, .unset, .unset] [(.int (0 : Int32)), (.int (Int32.ofNat k))]))
  refine Gl.by (fun t_ k_ => XS.ishl X.here hx rfl (hb hby d20_11) rfl k_) ?_
  show Gl p e below s _ _ _ (T.setTop (mkF m 12 #[.val (.ref sb), .val (.int (Int32.ofNat k)), .val (.int (Int32.ofNat n)), .unset, .unset, .unset] [(.int ((Int32.ofNat k) <<< ((0 : Int32) &&& 31)))]))
  rw [shl0 _]
  show Gl p e below s _ _ _ (T.setTop (mkF m 12 #[.val (.ref sb), .val (.int (Int32.ofNat k)), .val (.int (Int32.ofNat n)), .unset, .unset, .unset] [(.int (Int32.ofNat k))]))
  refine Gl.by (fun t_ k_ => XS.istoreN X.here hx rfl (hb hby d20_12) rfl (l' := #[.val (.ref sb), .val (.int (Int32.ofNat k)), .val (.int (Int32.ofNat n)), .val (.int (Int32.ofNat k)), .unset, .unset]) rfl k_) ?_
  show Gl p e below s _ _ _ (T.setTop (mkF m 13 #[.val (.ref sb), .val (.int (Int32.ofNat k)), .val (.int (Int32.ofNat n)), .val (.int (Int32.ofNat k)), .unset, .unset] []))
  refine Gl.by (fun t_ k_ => XS.iloadN X.here hx rfl (hb hby d20_13) rfl k_) ?_
  show Gl p e below s _ _ _ (T.setTop (mkF m 14 #[.val (.ref sb), .val (.int (Int32.ofNat k)), .val (.int (Int32.ofNat n)), .val (.int (Int32.ofNat k)), .unset, .unset] [(.int (Int32.ofNat k))]))
  refine Gl.by (fun t_ k_ => XS.iloadN X.here hx rfl (hb hby d20_14) rfl k_) ?_
  show Gl p e below s _ _ _ (T.setTop (mkF m 15 #[.val (.ref sb), .val (.int (Int32.ofNat k)), .val (.int (Int32.ofNat n)), .val (.int (Int32.ofNat k)), .unset, .unset] [(.int (Int32.ofNat n)), (.int (Int32.ofNat k))]))
  refine Gl.by (fun t_ k_ => XS.isub X.here hx rfl (hb hby d20_15) rfl k_) ?_
  show Gl p e below s _ _ _ (T.setTop (mkF m 16 #[.val (.ref sb), .val (.int (Int32.ofNat k)), .val (.int (Int32.ofNat n)), .val (.int (Int32.ofNat k)), .unset, .unset] [(.int ((Int32.ofNat k) - (Int32.ofNat n)))]))
  rw [ofn_sub hlt]
  show Gl p e below s _ _ _ (T.setTop (mkF m 16 #[.val (.ref sb), .val (.int (Int32.ofNat k)), .val (.int (Int32.ofNat n)), .val (.int (Int32.ofNat k)), .unset, .unset] [(.int (Int32.ofNat (k - n)))]))
  refine Gl.by (fun t_ k_ => XS.istore X.here hx rfl (hb hby d20_16) rfl (l' := #[.val (.ref sb), .val (.int (Int32.ofNat k)), .val (.int (Int32.ofNat n)), .val (.int (Int32.ofNat k)), .val (.int (Int32.ofNat (k - n))), .unset]) rfl k_) ?_
  show Gl p e below s _ _ _ (T.setTop (mkF m 18 #[.val (.ref sb), .val (.int (Int32.ofNat k)), .val (.int (Int32.ofNat n)), .val (.int (Int32.ofNat k)), .val (.int (Int32.ofNat (k - n))), .unset] []))
  refine Gl.by (fun t_ k_ => XS.iloadN X.here hx rfl (hb hby d20_18) rfl k_) ?_
  show Gl p e below s _ _ _ (T.setTop (mkF m 19 #[.val (.ref sb), .val (.int (Int32.ofNat k)), .val (.int (Int32.ofNat n)), .val (.int (Int32.ofNat k)), .val (.int (Int32.ofNat (k - n))), .unset] [(.int (Int32.ofNat n))]))
  refine Gl.by (fun t_ k_ => XS.iload X.here hx rfl (hb hby d20_19) rfl k_) ?_
  show Gl p e below s _ _ _ (T.setTop (mkF m 21 #[.val (.ref sb), .val (.int (Int32.ofNat k)), .val (.int (Int32.ofNat n)), .val (.int (Int32.ofNat k)), .val (.int (Int32.ofNat (k - n))), .unset] [(.int (Int32.ofNat (k - n))), (.int (Int32.ofNat n))]))
  refine Gl.by (fun t_ k_ => XS.iloadN X.here hx rfl (hb hby d20_21) rfl k_) ?_
  show Gl p e below s _ _ _ (T.setTop (mkF m 22 #[.val (.ref sb), .val (.int (Int32.ofNat k)), .val (.int (Int32.ofNat n)), .val (.int (Int32.ofNat k)), .val (.int (Int32.ofNat (k - n))), .unset] [(.int (Int32.ofNat n)), (.int (Int32.ofNat (k - n))), (.int (Int32.ofNat n))]))
  refine Gl.by (fun t_ k_ => XS.iconst X.here hx rfl (hb hby d20_22) k_) ?_
  show Gl p e below s _ _ _ (T.setTop (mkF m 23 #[.val (.ref sb), .val (.int (Int32.ofNat k)), .val (.int (Int32.ofNat n)), .val (.int (Int32.ofNat k)), .val (.int (Int32.ofNat (k - n))), .unset] [(.int (2 : Int32)), (.int (Int32.ofNat n)), (.int (Int32.ofNat (k - n))), (.int (Int32.ofNat n))]))
  refine Gl.by (fun t_ k_ => XS.aloadN X.here hx rfl (hb hby d20_23) rfl rfl k_) ?_
  show Gl p e below s _ _ _ (T.setTop (mkF m 24 #[.val (.ref sb), .val (.int (Int32.ofNat k)), .val (.int (Int32.ofNat n)), .val (.int (Int32.ofNat k)), .val (.int (Int32.ofNat (k - n))), .unset] [(.ref sb), (.int (2 : Int32)), (.int (Int32.ofNat n)), (.int (Int32.ofNat (k - n))), (.int (Int32.ofNat n))]))
  obtain ⟨T, X, eT, st⟩ := getF X hx hZ hown (host := "") (Or.inl (hw _ (List.mem_of_getElem? (i := 61) rfl))) Via.refl eT F2 (g := (mkF m 24 #[.val (.ref sb), .val (.int (Int32.ofNat k)), .val (.int (Int32.ofNat n)), .val (.int (Int32.ofNat k)), .val (.int (Int32.ofNat (k - n))), .unset] [(.ref sb), (.int (2 : Int32)), (.int (Int32.ofNat n)), (.int (Int32.ofNat (k - n))), (.int (Int32.ofNat n))])) rfl rfl (hb hby d20_24)
  refine Gl.by st ?_
  show Gl p e below s _ _ _ (T.setTop (mkF m 27 #[.val (.ref sb), .val (.int (Int32.ofNat k)), .val (.int (Int32.ofNat n)), .val (.int (Int32.ofNat k)), .val (.int (Int32.ofNat (k - n))), .unset] [(.int (0 : Int32)), (.int (2 : Int32)), (.int (Int32.ofNat n)), (.int (Int32.ofNat (k - n))), (.int (Int32.ofNat n))]))
  refine Gl.by (fun t_ k_ => XS.ishl X.here hx rfl (hb hby d20_27) rfl k_) ?_
  show Gl p e below s _ _ _ (T.setTop (mkF m 28 #[.val (.ref sb), .val (.int (Int32.ofNat k)), .val (.int (Int32.ofNat n)), .val (.int (Int32.ofNat k)), .val (.int (Int32.ofNat (k - n))), .unset] [(.int ((2 : Int32) <<< ((0 : Int32) &&& 31))), (.int (Int32.ofNat n)), (.int (Int32.ofNat (k - n))), (.int (Int32.ofNat n))]))
  rw [shl0 _]
  show Gl p e below s _ _ _ (T.setTop (mkF m 28 #[.val (.ref sb), .val (.int (Int32.ofNat k)), .val (.int (Int32.ofNat n)), .val (.int (Int32.ofNat k)), .val (.int (Int32.ofNat (k - n))), .unset] [(.int (2 : Int32)), (.int (Int32.ofNat n)), (.int (Int32.ofNat (k - n))), (.int (Int32.ofNat n))]))
  refine Gl.by (fun t_ k_ => XS.iadd X.here hx rfl (hb hby d20_28) rfl k_) ?_
  show Gl p e below s _ _ _ (T.setTop (mkF m 29 #[.val (.ref sb), .val (.int (Int32.ofNat k)), .val (.int (Int32.ofNat n)), .val (.int (Int32.ofNat k)), .val (.int (Int32.ofNat (k - n))), .unset] [(.int ((Int32.ofNat n) + (2 : Int32))), (.int (Int32.ofNat (k - n))), (.int (Int32.ofNat n))]))
  rw [show (Int32.ofNat n) + (2 : Int32) = Int32.ofNat (n + 2) from ofn_add n 2]
  show Gl p e below s _ _ _ (T.setTop (mkF m 29 #[.val (.ref sb), .val (.int (Int32.ofNat k)), .val (.int (Int32.ofNat n)), .val (.int (Int32.ofNat k)), .val (.int (Int32.ofNat (k - n))), .unset] [(.int (Int32.ofNat (n + 2))), (.int (Int32.ofNat (k - n))), (.int (Int32.ofNat n))]))
  refine Gl.stat X hx hZ hown (hw _ (List.mem_of_getElem? (i := 119) rfl)) (hw _ (List.mem_of_getElem? (i := 120) rfl)) (hw _ (List.mem_of_getElem? (i := 121) rfl)) (hw _ (List.mem_of_getElem? (i := 122) rfl)) (by decide) (W := 0) (backC (own_nwl l Z a0 hw n (k - n) (n + 2) h0 n0 (by omega) (by omega) (by omega)) hZ (hw _ (List.mem_of_getElem? (i := 122) rfl)) (hw _ (List.mem_of_getElem? (i := 121) rfl)) (by decide) (by decide)) eT (hb hby d20_29) (by rw [hml]; rfl) [(.int (Int32.ofNat n)), (.int (Int32.ofNat (k - n))), (.int (Int32.ofNat (n + 2)))] [] (lenOf pd_14 rfl) rfl rfl (Nat.le_of_eq rfl) (by decide) (by decide) ?_
  intro v T L X hq
  obtain ⟨rfl, rfl, eT⟩ := hq
  have N := Fr.app N (Fr.nil n0)
  show Gl p e below s _ _ _ (T.setTop (mkF m 32 #[.val (.ref sb), .val (.int (Int32.ofNat k)), .val (.int (Int32.ofNat n)), .val (.int (Int32.ofNat k)), .val (.int (Int32.ofNat (k - n))), .unset] [(.int (Int32.ofNat (n + (n + 2))))]))
  refine Gl.by (fun t_ k_ => XS.istore X.here hx rfl (hb hby d20_32) rfl (l' := #[.val (.ref sb), .val (.int (Int32.ofNat k)), .val (.int (Int32.ofNat n)), .val (.int (Int32.ofNat k)), .val (.int (Int32.ofNat (k - n))), .val (.int (Int32.ofNat (n + (n + 2))))]) rfl k_) ?_
  show Gl p e below s _ _ _ (T.setTop (mkF m 34 #[.val (.ref sb), .val (.int (Int32.ofNat k)), .val (.int (Int32.ofNat n)), .val (.int (Int32.ofNat k)), .val (.int (Int32.ofNat (k - n))), .val (.int (Int32.ofNat (n + (n + 2))))] []))
  refine Gl.by (fun t_ k_ => XS.iload X.here hx rfl (hb hby d20_34) rfl k_) ?_
  show Gl p e below s _ _ _ (T.setTop (mkF m 36 #[.val (.ref sb), .val (.int (Int32.ofNat k)), .val (.int (Int32.ofNat n)), .val (.int (Int32.ofNat k)), .val (.int (Int32.ofNat (k - n))), .val (.int (Int32.ofNat (n + (n + 2))))] [(.int (Int32.ofNat (n + (n + 2))))]))
  refine Gl.by (fun t_ k_ => X.ldcInt hx hown (mvT hZ (hw _ (List.mem_of_getElem? (i := 127) rfl))) (g := (mkF m 36 #[.val (.ref sb), .val (.int (Int32.ofNat k)), .val (.int (Int32.ofNat n)), .val (.int (Int32.ofNat k)), .val (.int (Int32.ofNat (k - n))), .val (.int (Int32.ofNat (n + (n + 2))))] [(.int (Int32.ofNat (n + (n + 2))))])) rfl (hb hby d20_36) _ k_) ?_
  show Gl p e below s _ _ _ (T.setTop (mkF m 38 #[.val (.ref sb), .val (.int (Int32.ofNat k)), .val (.int (Int32.ofNat n)), .val (.int (Int32.ofNat k)), .val (.int (Int32.ofNat (k - n))), .val (.int (Int32.ofNat (n + (n + 2))))] [(.int (2147483647 : Int32)), (.int (Int32.ofNat (n + (n + 2))))]))
  refine Gl.by (fun t_ k_ => XS.icmpYes X.here hx rfl (pc0 := 38) (pc' := 51) rfl (hb hby d20_38) rfl (feq (ofn_ne (a := n + (n + 2)) (b := 2147483647) (by omega) (by decide) (by omega))).2 (by decide) (by decide) k_) ?_
  show Gl p e below s _ _ _ (T.setTop (mkF m 51 #[.val (.ref sb), .val (.int (Int32.ofNat k)), .val (.int (Int32.ofNat n)), .val (.int (Int32.ofNat k)), .val (.int (Int32.ofNat (k - n))), .val (.int (Int32.ofNat (n + (n + 2))))] []))
  refine Gl.by (fun t_ k_ => XS.iload X.here hx rfl (hb hby d20_51) rfl k_) ?_
  show Gl p e below s _ _ _ (T.setTop (mkF m 53 #[.val (.ref sb), .val (.int (Int32.ofNat k)), .val (.int (Int32.ofNat n)), .val (.int (Int32.ofNat k)), .val (.int (Int32.ofNat (k - n))), .val (.int (Int32.ofNat (n + (n + 2))))] [(.int (Int32.ofNat (n + (n + 2))))]))
  refine Gl.by (fun t_ k_ => XS.aloadN X.here hx rfl (hb hby d20_53) rfl rfl k_) ?_
  show Gl p e below s _ _ _ (T.setTop (mkF m 54 #[.val (.ref sb), .val (.int (Int32.ofNat k)), .val (.int (Int32.ofNat n)), .val (.int (Int32.ofNat k)), .val (.int (Int32.ofNat (k - n))), .val (.int (Int32.ofNat (n + (n + 2))))] [(.ref sb), (.int (Int32.ofNat (n + (n + 2))))]))
  obtain ⟨T, X, eT, st⟩ := getF X hx hZ hown (host := "") (Or.inl (hw _ (List.mem_of_getElem? (i := 61) rfl))) Via.refl eT F2 (g := (mkF m 54 #[.val (.ref sb), .val (.int (Int32.ofNat k)), .val (.int (Int32.ofNat n)), .val (.int (Int32.ofNat k)), .val (.int (Int32.ofNat (k - n))), .val (.int (Int32.ofNat (n + (n + 2))))] [(.ref sb), (.int (Int32.ofNat (n + (n + 2))))])) rfl rfl (hb hby d20_54)
  refine Gl.by st ?_
  show Gl p e below s _ _ _ (T.setTop (mkF m 57 #[.val (.ref sb), .val (.int (Int32.ofNat k)), .val (.int (Int32.ofNat n)), .val (.int (Int32.ofNat k)), .val (.int (Int32.ofNat (k - n))), .val (.int (Int32.ofNat (n + (n + 2))))] [(.int (0 : Int32)), (.int (Int32.ofNat (n + (n + 2))))]))
  refine Gl.by (fun t_ k_ => XS.ishr X.here hx rfl (hb hby d20_57) rfl k_) ?_
  show Gl p e below s _ _ _ (T.setTop (mkF m 58 #[.val (.ref sb), .val (.int (Int32.ofNat k)), .val (.int (Int32.ofNat n)), .val (.int (Int32.ofNat k)), .val (.int (Int32.ofNat (k - n))), .val (.int (Int32.ofNat (n + (n + 2))))] [(.int ((Int32.ofNat (n + (n + 2))) >>> ((0 : Int32) &&& 31)))]))
  rw [shr0 _]
  show Gl p e below s _ _ _ (T.setTop (mkF m 58 #[.val (.ref sb), .val (.int (Int32.ofNat k)), .val (.int (Int32.ofNat n)), .val (.int (Int32.ofNat k)), .val (.int (Int32.ofNat (k - n))), .val (.int (Int32.ofNat (n + (n + 2))))] [(.int (Int32.ofNat (n + (n + 2))))]))
  exact Gl.retI X hx hlk hret (hb hby d20_58) (by decide) (by decide) ⟨rfl, rfl, eT⟩
set_option maxRecDepth 65536 in
set_option maxHeartbeats 40000000 in
theorem own_cpo (l : Launch) (Z : State) (a0 : Array Value) (hw : ∀ d ∈ tables_1, d.before a0 Z = true) (vb : Nat) (kb : ClassId) (cs : List Int32) (n q : Nat) (h0 : Heap) (n0 : Nat) (Z0 : n0 ≤ h0.size) (V : Arv Z h0 vb kb .byte (Int32.ofNat n) (pads cs n) (.int 0)) (hc : cs.length ≤ n) (hq : n < q) (h40 : q ≤ 40) :
    Ctr l Z (⟨"java/util/Arrays", "copyOf", "([BI)[B"⟩ : MethodName) jdk_65_method_121_code 3 (some (.array .byte)) [] own_rCP #[(.ref vb), (.int (Int32.ofNat q))] h0 (fun v h L => Fr n0 L ∧ Keep h0 h [] ∧ ∃ (nb : Nat) (kn : ClassId), v = some (.ref nb) ∧ h0.size ≤ nb ∧ Arv Z h nb kn .byte (Int32.ofNat q) (pads cs q) (.int 0)) := by
  refine Ctr.intro (plainFor_of_name pn_3) #[.val (.ref vb), .val (.int (Int32.ofNat q)), .unset] (fun m => by first | (simp [entryFrame, mkF, argsToLocals, Value.category]; done) | rfl) ?_
  intro p e s m below meth c T hx hby hml hown hnm hret hlk hZ hnamed X eT
  have hown : s.vm.findClass "java/util/Arrays" = some m.cls := hown
  have N := Fr.nil n0
  have lvb : vb < h0.size := V.lt
  show Gl p e below s _ _ _ (T.setTop (mkF m 0 #[.val (.ref vb), .val (.int (Int32.ofNat q)), .unset] []))
  refine Gl.by (fun t_ k_ => XS.iloadN X.here hx rfl (hb hby d23_0) rfl k_) ?_
  show Gl p e below s _ _ _ (T.setTop (mkF m 1 #[.val (.ref vb), .val (.int (Int32.ofNat q)), .unset] [(.int (Int32.ofNat q))]))
  refine Gl.by (fun t_ k_ => XS.aloadN X.here hx rfl (hb hby d23_1) rfl rfl k_) ?_
  show Gl p e below s _ _ _ (T.setTop (mkF m 2 #[.val (.ref vb), .val (.int (Int32.ofNat q)), .unset] [(.ref vb), (.int (Int32.ofNat q))]))
  obtain ⟨cl1, Ar1, q1, S1, M1, H1, G1⟩ := (id (V) : Arv Z h0 vb kb .byte (Int32.ofNat n) (pads cs n) (.int 0))
  refine Gl.by (X.arraylength hx (by rw [eT]; exact Ar1.1) (State.isArrayOf_alike hZ.alike Ar1.2.1) (g := (mkF m 2 #[.val (.ref vb), .val (.int (Int32.ofNat q)), .unset] [(.ref vb), (.int (Int32.ofNat q))])) rfl rfl (hb hby d23_2)) ?_
  rw [len_of S1 M1]
  show Gl p e below s _ _ _ (T.setTop (mkF m 3 #[.val (.ref vb), .val (.int (Int32.ofNat q)), .unset] [(.int (Int32.ofNat n)), (.int (Int32.ofNat q))]))
  refine Gl.by (fun t_ k_ => XS.icmpYes X.here hx rfl (pc0 := 3) (pc' := 14) rfl (hb hby d23_3) rfl (feq (ofn_ne (by omega) (by omega) (by omega))).2 (by decide) (by decide) k_) ?_
  show Gl p e below s _ _ _ (T.setTop (mkF m 14 #[.val (.ref vb), .val (.int (Int32.ofNat q)), .unset] []))
  refine Gl.by (fun t_ k_ => XS.iloadN X.here hx rfl (hb hby d23_14) rfl k_) ?_
  show Gl p e below s _ _ _ (T.setTop (mkF m 15 #[.val (.ref vb), .val (.int (Int32.ofNat q)), .unset] [(.int (Int32.ofNat q))]))
  obtain ⟨T, h2, k2, X, eT, E2, A2, st⟩ := newP X hx hZ (hw _ (List.mem_of_getElem? (i := 27) rfl)) eT (g := (mkF m 15 #[.val (.ref vb), .val (.int (Int32.ofNat q)), .unset] [(.int (Int32.ofNat q))])) rfl (hb hby d23_15) rfl (ofn_nn (by omega)) (cap := 40) (by rw [ofn_nat (by omega)]; exact h40) (by decide) (by decide) (by decide)
  obtain ⟨nb, g2⟩ : ∃ z, z = h0.size := ⟨_, rfl⟩
  rw [← g2] at A2 st
  have sz2 := E2.1
  have lt2 : nb < h2.size := A2.lt
  have V2 : Arv Z h2 nb k2 .byte (Int32.ofNat q) (List.replicate q (.int (0 : Int32))) (.int (0 : Int32)) := (Arv.new A2 (ofn_nn (by omega))).pad (pad_rep [] (.int (0 : Int32)) q)
  refine Gl.by st ?_
  show Gl p e below s _ _ _ (T.setTop (mkF m 17 #[.val (.ref vb), .val (.int (Int32.ofNat q)), .unset] [(.ref nb)]))
  refine Gl.by (fun t_ k_ => XS.astoreN X.here hx rfl (hb hby d23_17) rfl rfl (l' := #[.val (.ref vb), .val (.int (Int32.ofNat q)), .val (.ref nb)]) rfl k_) ?_
  show Gl p e below s _ _ _ (T.setTop (mkF m 18 #[.val (.ref vb), .val (.int (Int32.ofNat q)), .val (.ref nb)] []))
  refine Gl.by (fun t_ k_ => XS.aloadN X.here hx rfl (hb hby d23_18) rfl rfl k_) ?_
  show Gl p e below s _ _ _ (T.setTop (mkF m 19 #[.val (.ref vb), .val (.int (Int32.ofNat q)), .val (.ref nb)] [(.ref vb)]))
  refine Gl.by (fun t_ k_ => XS.iconst X.here hx rfl (hb hby d23_19) k_) ?_
  show Gl p e below s _ _ _ (T.setTop (mkF m 20 #[.val (.ref vb), .val (.int (Int32.ofNat q)), .val (.ref nb)] [(.int (0 : Int32)), (.ref vb)]))
  refine Gl.by (fun t_ k_ => XS.aloadN X.here hx rfl (hb hby d23_20) rfl rfl k_) ?_
  show Gl p e below s _ _ _ (T.setTop (mkF m 21 #[.val (.ref vb), .val (.int (Int32.ofNat q)), .val (.ref nb)] [(.ref nb), (.int (0 : Int32)), (.ref vb)]))
  refine Gl.by (fun t_ k_ => XS.iconst X.here hx rfl (hb hby d23_21) k_) ?_
  show Gl p e below s _ _ _ (T.setTop (mkF m 22 #[.val (.ref vb), .val (.int (Int32.ofNat q)), .val (.ref nb)] [(.int (0 : Int32)), (.ref nb), (.int (0 : Int32)), (.ref vb)]))
  refine Gl.by (fun t_ k_ => XS.aloadN X.here hx rfl (hb hby d23_22) rfl rfl k_) ?_
  show Gl p e below s _ _ _ (T.setTop (mkF m 23 #[.val (.ref vb), .val (.int (Int32.ofNat q)), .val (.ref nb)] [(.ref vb), (.int (0 : Int32)), (.ref nb), (.int (0 : Int32)), (.ref vb)]))
  obtain ⟨cl3, Ar3, q3, S3, M3, H3, G3⟩ := (id ((V.ext E2)) : Arv Z h2 vb kb .byte (Int32.ofNat n) (pads cs n) (.int 0))
  refine Gl.by (X.arraylength hx (by rw [eT]; exact Ar3.1) (State.isArrayOf_alike hZ.alike Ar3.2.1) (g := (mkF m 23 #[.val (.ref vb), .val (.int (Int32.ofNat q)), .val (.ref nb)] [(.ref vb), (.int (0 : Int32)), (.ref nb), (.int (0 : Int32)), (.ref vb)])) rfl rfl (hb hby d23_23)) ?_
  rw [len_of S3 M3]
  show Gl p e below s _ _ _ (T.setTop (mkF m 24 #[.val (.ref vb), .val (.int (Int32.ofNat q)), .val (.ref nb)] [(.int (Int32.ofNat n)), (.int (0 : Int32)), (.ref nb), (.int (0 : Int32)), (.ref vb)]))
  refine Gl.by (fun t_ k_ => XS.iloadN X.here hx rfl (hb hby d23_24) rfl k_) ?_
  show Gl p e below s _ _ _ (T.setTop (mkF m 25 #[.val (.ref vb), .val (.int (Int32.ofNat q)), .val (.ref nb)] [(.int (Int32.ofNat q)), (.int (Int32.ofNat n)), (.int (0 : Int32)), (.ref nb), (.int (0 : Int32)), (.ref vb)]))
  refine Gl.stat X hx hZ hown (hw _ (List.mem_of_getElem? (i := 132) rfl)) (hw _ (List.mem_of_getElem? (i := 1) rfl)) (hw _ (List.mem_of_getElem? (i := 2) rfl)) (hw _ (List.mem_of_getElem? (i := 3) rfl)) (by decide) (W := 4) (backC (own_min l Z a0 hw (Int32.ofNat n) (Int32.ofNat q) h2 n0) hZ (hw _ (List.mem_of_getElem? (i := 3) rfl)) (hw _ (List.mem_of_getElem? (i := 2) rfl)) (by decide) (by decide)) eT (hb hby d23_25) (by rw [hml]; rfl) [(.int (Int32.ofNat n)), (.int (Int32.ofNat q))] [(.int (0 : Int32)), (.ref nb), (.int (0 : Int32)), (.ref vb)] (lenOf pd_8 rfl) rfl rfl (Nat.le_of_eq rfl) (by decide) (by decide) ?_
  intro v T L X hq
  obtain ⟨rfl, rfl, eT⟩ := hq
  have N := Fr.app N (Fr.nil n0)
  show Gl p e below s _ _ _ (T.setTop (mkF m 28 #[.val (.ref vb), .val (.int (Int32.ofNat q)), .val (.ref nb)] [(.int (own_minv (Int32.ofNat n) (Int32.ofNat q))), (.int (0 : Int32)), (.ref nb), (.int (0 : Int32)), (.ref vb)]))
  rw [own_min_ge (by omega) (by omega)]
  show Gl p e below s _ _ _ (T.setTop (mkF m 28 #[.val (.ref vb), .val (.int (Int32.ofNat q)), .val (.ref nb)] [(.int (Int32.ofNat n)), (.int (0 : Int32)), (.ref nb), (.int (0 : Int32)), (.ref vb)]))
  obtain ⟨T, h4, L, X, eT, N, K4, V4, st⟩ := cpN X hx hZ hown (hw _ (List.mem_of_getElem? (i := 133) rfl)) (hw _ (List.mem_of_getElem? (i := 109) rfl)) (hw _ (List.mem_of_getElem? (i := 107) rfl)) (hw _ (List.mem_of_getElem? (i := 108) rfl)) eT (V.ext E2) V2 rfl 0 0 n (by omega) (by omega) (by omega) (by omega) List.length_replicate N (by omega) (g := (mkF m 28 #[.val (.ref vb), .val (.int (Int32.ofNat q)), .val (.ref nb)] [(.int (Int32.ofNat n)), (.int (0 : Int32)), (.ref nb), (.int (0 : Int32)), (.ref vb)])) rfl (by rw [hml]; rfl) rfl (hb hby d23_28) (by decide) (W := 0) (by show 2 * 0 + _ ≤ _; exact Nat.le_of_eq rfl) (by decide)
  have sz4 := K4.1
  refine Gl.by st ?_
  show Gl p e below s _ _ _ (T.setTop (mkF m 31 #[.val (.ref vb), .val (.int (Int32.ofNat q)), .val (.ref nb)] []))
  rw [grow_bts hc (by omega)] at V4
  refine Gl.by (fun t_ k_ => XS.aloadN X.here hx rfl (hb hby d23_31) rfl rfl k_) ?_
  show Gl p e below s _ _ _ (T.setTop (mkF m 32 #[.val (.ref vb), .val (.int (Int32.ofNat q)), .val (.ref nb)] [(.ref nb)]))
  refine Gl.retA X hx hlk hret rfl rfl (hb hby d23_32) (by decide) (by decide) ?_
  rw [eT]
  exact ⟨N, (((Keep.refl h0 []).ext E2).trans K4 (allS (Or.inr (by omega)) all0)), nb, k2, rfl, by omega, V4⟩
set_option maxRecDepth 65536 in
set_option maxHeartbeats 40000000 in
theorem own_eng (l : Launch) (Z : State) (a0 : Array Value) (hw : ∀ d ∈ tables_1, d.before a0 Z = true) (sb vb : Nat) (kb : ClassId) (cs : List Int32) (k n : Nat) (h0 : Heap) (n0 : Nat) (Z1 : n0 ≤ sb) (G : Sbo Z h0 sb vb kb cs n) (hlt : n < k) (hk : k ≤ (n + (n + 2))) (h40 : (n + (n + 2)) ≤ 40) :
    Ctr l Z (⟨"java/lang/AbstractStringBuilder", "ensureCapacityInternal", "(I)V"⟩ : MethodName) jdk_68_method_9_code 3 none [] own_rEG #[(.ref sb), (.int (Int32.ofNat k))] h0 (fun v h L => v = none ∧ Fr n0 L ∧ Keep h0 h [sb] ∧ ∃ (nb : Nat) (kn : ClassId), h0.size ≤ nb ∧ Sbo Z h sb nb kn cs (n + (n + 2))) := by
  refine Ctr.intro (plainFor_of_name pn_0) #[.val (.ref sb), .val (.int (Int32.ofNat k)), .unset] (fun m => by first | (simp [entryFrame, mkF, argsToLocals, Value.category]; done) | rfl) ?_
  intro p e s m below meth c T hx hby hml hown hnm hret hlk hZ hnamed X eT
  have hown : s.vm.findClass "java/lang/AbstractStringBuilder" = some m.cls := hown
  have N := Fr.nil n0
  have lsb : sb < h0.size := G.1.lt
  have g1 := G.2.2.2.2.2.1
  show Gl p e below s _ _ _ (T.setTop (mkF m 0 #[.val (.ref sb), .val (.int (Int32.ofNat k)), .unset] []))
  refine Gl.by (fun t_ k_ => XS.aloadN X.here hx rfl (hb hby d16_0) rfl rfl k_) ?_
  show Gl p e below s _ _ _ (T.setTop (mkF m 1 #[.val (.ref sb), .val (.int (Int32.ofNat k)), .unset] [(.ref sb)]))
  obtain ⟨T, X, eT, st⟩ := getF X hx hZ hown (host := "") (Or.inl (hw _ (List.mem_of_getElem? (i := 59) rfl))) Via.refl eT G.2.1 (g := (mkF m 1 #[.val (.ref sb), .val (.int (Int32.ofNat k)), .unset] [(.ref sb)])) rfl rfl (hb hby d16_1)
  refine Gl.by st ?_
  show Gl p e below s _ _ _ (T.setTop (mkF m 4 #[.val (.ref sb), .val (.int (Int32.ofNat k)), .unset] [(.ref vb)]))
  obtain ⟨cl1, Ar1, q1, S1, M1, H1, G1⟩ := (id (G.2.2.2.2.1) : Arv Z h0 vb kb .byte (Int32.ofNat n) (pads cs n) (.int 0))
  refine Gl.by (X.arraylength hx (by rw [eT]; exact Ar1.1) (State.isArrayOf_alike hZ.alike Ar1.2.1) (g := (mkF m 4 #[.val (.ref sb), .val (.int (Int32.ofNat k)), .unset] [(.ref vb)])) rfl rfl (hb hby d16_4)) ?_
  rw [len_of S1 M1]
  show Gl p e below s _ _ _ (T.setTop (mkF m 5 #[.val (.ref sb), .val (.int (Int32.ofNat k)), .unset] [(.int (Int32.ofNat n))]))
  refine Gl.by (fun t_ k_ => XS.aloadN X.here hx rfl (hb hby d16_5) rfl rfl k_) ?_
  show Gl p e below s _ _ _ (T.setTop (mkF m 6 #[.val (.ref sb), .val (.int (Int32.ofNat k)), .unset] [(.ref sb), (.int (Int32.ofNat n))]))
  obtain ⟨T, X, eT, st⟩ := getF X hx hZ hown (host := "") (Or.inl (hw _ (List.mem_of_getElem? (i := 61) rfl))) Via.refl eT G.2.2.1 (g := (mkF m 6 #[.val (.ref sb), .val (.int (Int32.ofNat k)), .unset] [(.ref sb), (.int (Int32.ofNat n))])) rfl rfl (hb hby d16_6)
  refine Gl.by st ?_
  show Gl p e below s _ _ _ (T.setTop (mkF m 9 #[.val (.ref sb), .val (.int (Int32.ofNat k)), .unset] [(.int (0 : Int32)), (.int (Int32.ofNat n))]))
  refine Gl.by (fun t_ k_ => XS.ishr X.here hx rfl (hb hby d16_9) rfl k_) ?_
  show Gl p e below s _ _ _ (T.setTop (mkF m 10 #[.val (.ref sb), .val (.int (Int32.ofNat k)), .unset] [(.int ((Int32.ofNat n) >>> ((0 : Int32) &&& 31)))]))
  rw [shr0 _]
  show Gl p e below s _ _ _ (T.setTop (mkF m 10 #[.val (.ref sb), .val (.int (Int32.ofNat k)), .unset] [(.int (Int32.ofNat n))]))
  refine Gl.by (fun t_ k_ => XS.istoreN X.here hx rfl (hb hby d16_10) rfl (l' := #[.val (.ref sb), .val (.int (Int32.ofNat k)), .val (.int (Int32.ofNat n))]) rfl k_) ?_
  show Gl p e below s _ _ _ (T.setTop (mkF m 11 #[.val (.ref sb), .val (.int (Int32.ofNat k)), .val (.int (Int32.ofNat n))] []))
  refine Gl.by (fun t_ k_ => XS.iloadN X.here hx rfl (hb hby d16_11) rfl k_) ?_
  show Gl p e below s _ _ _ (T.setTop (mkF m 12 #[.val (.ref sb), .val (.int (Int32.ofNat k)), .val (.int (Int32.ofNat n))] [(.int (Int32.ofNat k))]))
  refine Gl.by (fun t_ k_ => XS.iloadN X.here hx rfl (hb hby d16_12) rfl k_) ?_
  show Gl p e below s _ _ _ (T.setTop (mkF m 13 #[.val (.ref sb), .val (.int (Int32.ofNat k)), .val (.int (Int32.ofNat n))] [(.int (Int32.ofNat n)), (.int (Int32.ofNat k))]))
  refine Gl.by (fun t_ k_ => XS.isub X.here hx rfl (hb hby d16_13) rfl k_) ?_
  show Gl p e below s _ _ _ (T.setTop (mkF m 14 #[.val (.ref sb), .val (.int (Int32.ofNat k)), .val (.int (Int32.ofNat n))] [(.int ((Int32.ofNat k) - (Int32.ofNat n)))]))
  refine Gl.by (fun t_ k_ => XS.ifNo X.here hx rfl (hb hby d16_14) rfl ((if0 _ _).trans (tlt (ens_gt hlt (by omega))).2.2.2) k_) ?_
  show Gl p e below s _ _ _ (T.setTop (mkF m 17 #[.val (.ref sb), .val (.int (Int32.ofNat k)), .val (.int (Int32.ofNat n))] []))
  refine Gl.by (fun t_ k_ => XS.aloadN X.here hx rfl (hb hby d16_17) rfl rfl k_) ?_
  show Gl p e below s _ _ _ (T.setTop (mkF m 18 #[.val (.ref sb), .val (.int (Int32.ofNat k)), .val (.int (Int32.ofNat n))] [(.ref sb)]))
  refine Gl.by (fun t_ k_ => XS.aloadN X.here hx rfl (hb hby d16_18) rfl rfl k_) ?_
  show Gl p e below s _ _ _ (T.setTop (mkF m 19 #[.val (.ref sb), .val (.int (Int32.ofNat k)), .val (.int (Int32.ofNat n))] [(.ref sb), (.ref sb)]))
  obtain ⟨T, X, eT, st⟩ := getF X hx hZ hown (host := "") (Or.inl (hw _ (List.mem_of_getElem? (i := 59) rfl))) Via.refl eT G.2.1 (g := (mkF m 19 #[.val (.ref sb), .val (.int (Int32.ofNat k)), .val (.int (Int32.ofNat n))] [(.ref sb), (.ref sb)])) rfl rfl (hb hby d16_19)
  refine Gl.by st ?_
  show Gl p e below s _ _ _ (T.setTop (mkF m 22 #[.val (.ref sb), .val (.int (Int32.ofNat k)), .val (.int (Int32.ofNat n))] [(.ref vb), (.ref sb)]))
  refine Gl.by (fun t_ k_ => XS.aloadN X.here hx rfl (hb hby d16_22) rfl rfl k_) ?_
  show Gl p e below s _ _ _ (T.setTop (mkF m 23 #[.val (.ref sb), .val (.int (Int32.ofNat k)), .val (.int (Int32.ofNat n))] [(.ref sb), (.ref vb), (.ref sb)]))
  refine Gl.by (fun t_ k_ => XS.iloadN X.here hx rfl (hb hby d16_23) rfl k_) ?_
  show Gl p e below s _ _ _ (T.setTop (mkF m 24 #[.val (.ref sb), .val (.int (Int32.ofNat k)), .val (.int (Int32.ofNat n))] [(.int (Int32.ofNat k)), (.ref sb), (.ref vb), (.ref sb)]))
  refine Gl.virt X hx hZ hown (hw _ (List.mem_of_getElem? (i := 114) rfl)) (declOf (hw _ (List.mem_of_getElem? (i := 115) rfl)) (hw _ (List.mem_of_getElem? (i := 118) rfl))) (hw _ (List.mem_of_getElem? (i := 117) rfl)) (hw _ (List.mem_of_getElem? (i := 115) rfl)) (notFace_of_selects (args := #[]) (mvT hZ (hw _ (List.mem_of_getElem? (i := 117) rfl)))) (by decide) G.1 (W := 2) (backC (own_nwc l Z a0 hw sb vb kb k n _ h0 n0 G.2.1 G.2.2.1 G.2.2.2.2.1 (by omega) hk (by omega)) hZ (hw _ (List.mem_of_getElem? (i := 118) rfl)) (hw _ (List.mem_of_getElem? (i := 55) rfl)) (by decide) (by decide)) eT (hb hby d16_24) (by rw [hml]; rfl) [(.int (Int32.ofNat k))] [(.ref vb), (.ref sb)] (lenOf pd_15 rfl) rfl rfl (Nat.le_of_eq rfl) (by decide) (by decide) ?_
  intro v T L X hq
  obtain ⟨rfl, rfl, eT⟩ := hq
  have N := Fr.app N (Fr.nil n0)
  show Gl p e below s _ _ _ (T.setTop (mkF m 27 #[.val (.ref sb), .val (.int (Int32.ofNat k)), .val (.int (Int32.ofNat n))] [(.int (Int32.ofNat (n + (n + 2)))), (.ref vb), (.ref sb)]))
  refine Gl.by (fun t_ k_ => XS.aloadN X.here hx rfl (hb hby d16_27) rfl rfl k_) ?_
  show Gl p e below s _ _ _ (T.setTop (mkF m 28 #[.val (.ref sb), .val (.int (Int32.ofNat k)), .val (.int (Int32.ofNat n))] [(.ref sb), (.int (Int32.ofNat (n + (n + 2)))), (.ref vb), (.ref sb)]))
  obtain ⟨T, X, eT, st⟩ := getF X hx hZ hown (host := "") (Or.inl (hw _ (List.mem_of_getElem? (i := 61) rfl))) Via.refl eT G.2.2.1 (g := (mkF m 28 #[.val (.ref sb), .val (.int (Int32.ofNat k)), .val (.int (Int32.ofNat n))] [(.ref sb), (.int (Int32.ofNat (n + (n + 2)))), (.ref vb), (.ref sb)])) rfl rfl (hb hby d16_28)
  refine Gl.by st ?_
  show Gl p e below s _ _ _ (T.setTop (mkF m 31 #[.val (.ref sb), .val (.int (Int32.ofNat k)), .val (.int (Int32.ofNat n))] [(.int (0 : Int32)), (.int (Int32.ofNat (n + (n + 2)))), (.ref vb), (.ref sb)]))
  refine Gl.by (fun t_ k_ => XS.ishl X.here hx rfl (hb hby d16_31) rfl k_) ?_
  show Gl p e below s _ _ _ (T.setTop (mkF m 32 #[.val (.ref sb), .val (.int (Int32.ofNat k)), .val (.int (Int32.ofNat n))] [(.int ((Int32.ofNat (n + (n + 2))) <<< ((0 : Int32) &&& 31))), (.ref vb), (.ref sb)]))
  rw [shl0 _]
  show Gl p e below s _ _ _ (T.setTop (mkF m 32 #[.val (.ref sb), .val (.int (Int32.ofNat k)), .val (.int (Int32.ofNat n))] [(.int (Int32.ofNat (n + (n + 2)))), (.ref vb), (.ref sb)]))
  refine Gl.stat X hx hZ hown (hw _ (List.mem_of_getElem? (i := 128) rfl)) (hw _ (List.mem_of_getElem? (i := 129) rfl)) (hw _ (List.mem_of_getElem? (i := 130) rfl)) (hw _ (List.mem_of_getElem? (i := 131) rfl)) (by decide) (W := 1) (backC (own_cpo l Z a0 hw vb kb cs n (n + (n + 2)) h0 n0 (by omega) G.2.2.2.2.1 g1 (by omega) h40) hZ (hw _ (List.mem_of_getElem? (i := 131) rfl)) (hw _ (List.mem_of_getElem? (i := 130) rfl)) (by decide) (by decide)) eT (hb hby d16_32) (by rw [hml]; rfl) [(.ref vb), (.int (Int32.ofNat (n + (n + 2))))] [(.ref sb)] (lenOf pd_16 rfl) rfl rfl (Nat.le_of_eq rfl) (by decide) (by decide) ?_
  intro v T L X hq
  obtain ⟨NQ, K2, nb, kn, rfl, ge, V2⟩ := hq
  have N := Fr.app N NQ
  obtain ⟨h2, eT⟩ : ∃ z, T.heap = z := ⟨_, rfl⟩
  rw [eT] at K2 V2
  have sz2 := K2.1
  show Gl p e below s _ _ _ (T.setTop (mkF m 35 #[.val (.ref sb), .val (.int (Int32.ofNat k)), .val (.int (Int32.ofNat n))] [(.ref nb), (.ref sb)]))
  obtain ⟨T, h3, X, eT, W3, st⟩ := putF X hx hZ hown (host := "") (Or.inl (hw _ (List.mem_of_getElem? (i := 59) rfl))) Via.refl eT (G.2.1.keep K2 nin0) (G.1.keep K2) (Or.inl (hw _ (List.mem_of_getElem? (i := 60) rfl))) (hw _ (List.mem_of_getElem? (i := 46) rfl)) (ty := (.array .byte)) (by decide) rfl rfl (g := (mkF m 35 #[.val (.ref sb), .val (.int (Int32.ofNat k)), .val (.int (Int32.ofNat n))] [(.ref nb), (.ref sb)])) rfl rfl (hb hby d16_35)
  have F3_value : Fld Z h3 sb "java/lang/AbstractStringBuilder" "value" "[B" (.ref nb) := Fld.same W3 (G.2.1.keep K2 nin0)
  have sz3 := (Keep.of_wr W3).1
  have N := Fr.snoc X N (by omega)
  refine Gl.by st ?_
  show Gl p e below s _ _ _ (T.setTop (mkF m 38 #[.val (.ref sb), .val (.int (Int32.ofNat k)), .val (.int (Int32.ofNat n))] []))
  refine Gl.retV X hx hlk hret (hb hby d16_38) (by decide) (by decide) ?_
  rw [eT]
  exact ⟨rfl, N, (((Keep.refl h0 [sb]).trans K2 all0).wr W3 (Or.inl (by simp))), nb, kn, by omega, ((G.1.keep K2).wr W3), F3_value, ((G.2.2.1.keep K2 nin0).other W3 (Or.inr (slot_ne (C := "java/lang/StringBuilder") (Or.inl (hw _ (List.mem_of_getElem? (i := 62) rfl))) (Or.inl (hw _ (List.mem_of_getElem? (i := 60) rfl))) (by decide) (t := .byte) (t' := (.array .byte)) (by decide) (by decide)))), ((G.2.2.2.1.keep K2 nin0).other W3 (Or.inr (slot_ne (C := "java/lang/StringBuilder") (Or.inl (hw _ (List.mem_of_getElem? (i := 84) rfl))) (Or.inl (hw _ (List.mem_of_getElem? (i := 60) rfl))) (by decide) (t := .int) (t' := (.array .byte)) (by decide) (by decide)))), (V2.other W3 (ne_arv (G.1.keep K2) (hw _ (List.mem_of_getElem? (i := 46) rfl)) V2).symm), by omega, by omega, G.2.2.2.2.2.2.2⟩
set_option maxRecDepth 65536 in
set_option maxHeartbeats 40000000 in
theorem own_asbg (l : Launch) (Z : State) (a0 : Array Value) (hw : ∀ d ∈ tables_1, d.before a0 Z = true) (sb x vb : Nat) (kb : ClassId) (cs ds : List Int32) (n : Nat) (z : Int32) (h0 : Heap) (n0 : Nat) (Z1 : n0 ≤ sb) (G : Sbo Z h0 sb vb kb cs n) (A : Str Z h0 x ds) (hlt : n < cs.length + ds.length) (hk : cs.length + ds.length ≤ (n + (n + 2))) (h40 : (n + (n + 2)) ≤ 40) (S : Sta Z Z.heap "java/lang/String" "COMPACT_STRINGS" "Z" (.int z)) (hz : ¬ z = 0) (O : Old Z n0 h0) :
    Ctr l Z (⟨"java/lang/AbstractStringBuilder", "append", "(Ljava/lang/String;)Ljava/lang/AbstractStringBuilder;"⟩ : MethodName) jdk_68_method_22_code 3 (some (.object "java/lang/AbstractStringBuilder")) [] own_rAG #[(.ref sb), (.ref x)] h0 (fun v h L => v = some (.ref sb) ∧ Fr n0 L ∧ Keep h0 h [sb] ∧ ∃ (nb : Nat) (kn : ClassId), h0.size ≤ nb ∧ Sbo Z h sb nb kn (cs ++ ds) (n + (n + 2))) := by
  refine Ctr.intro (plainFor_of_name pn_0) #[.val (.ref sb), .val (.ref x), .unset] (fun m => by first | (simp [entryFrame, mkF, argsToLocals, Value.category]; done) | rfl) ?_
  intro p e s m below meth c T hx hby hml hown hnm hret hlk hZ hnamed X eT
  have hown : s.vm.findClass "java/lang/AbstractStringBuilder" = some m.cls := hown
  have N := Fr.nil n0
  have lsb : sb < h0.size := G.1.lt
  show Gl p e below s _ _ _ (T.setTop (mkF m 0 #[.val (.ref sb), .val (.ref x), .unset] []))
  refine Gl.by (fun t_ k_ => XS.aloadN X.here hx rfl (hb hby d13_0) rfl rfl k_) ?_
  show Gl p e below s _ _ _ (T.setTop (mkF m 1 #[.val (.ref sb), .val (.ref x), .unset] [(.ref x)]))
  refine Gl.by (fun t_ k_ => XS.ifnonnullYes X.here hx rfl (pc0 := 1) (pc' := 9) rfl (hb hby d13_1) rfl (by decide) (by decide) k_) ?_
  show Gl p e below s _ _ _ (T.setTop (mkF m 9 #[.val (.ref sb), .val (.ref x), .unset] []))
  refine Gl.by (fun t_ k_ => XS.aloadN X.here hx rfl (hb hby d13_9) rfl rfl k_) ?_
  show Gl p e below s _ _ _ (T.setTop (mkF m 10 #[.val (.ref sb), .val (.ref x), .unset] [(.ref x)]))
  refine Gl.virt X hx hZ hown (hw _ (List.mem_of_getElem? (i := 73) rfl)) (hw _ (List.mem_of_getElem? (i := 74) rfl)) (hw _ (List.mem_of_getElem? (i := 76) rfl)) (hw _ (List.mem_of_getElem? (i := 75) rfl)) (notFace_of_selects (args := #[]) (mvT hZ (hw _ (List.mem_of_getElem? (i := 76) rfl)))) (by decide) A.1 (W := 0) (payLen (n0 := n0) hZ (own_wlen hw) (hw _ (List.mem_of_getElem? (i := 9) rfl)) A S hz O (by decide) (by decide)) eT (hb hby d13_10) (by rw [hml]; rfl) [] [] (lenOf pd_4 rfl) rfl rfl (Nat.le_of_eq rfl) (by decide) (by decide) ?_
  intro v T L X hq
  obtain ⟨rfl, rfl, eT⟩ := hq
  have N := Fr.app N (Fr.nil n0)
  show Gl p e below s _ _ _ (T.setTop (mkF m 13 #[.val (.ref sb), .val (.ref x), .unset] [(.int (Int32.ofNat ds.length))]))
  refine Gl.by (fun t_ k_ => XS.istoreN X.here hx rfl (hb hby d13_13) rfl (l' := #[.val (.ref sb), .val (.ref x), .val (.int (Int32.ofNat ds.length))]) rfl k_) ?_
  show Gl p e below s _ _ _ (T.setTop (mkF m 14 #[.val (.ref sb), .val (.ref x), .val (.int (Int32.ofNat ds.length))] []))
  refine Gl.by (fun t_ k_ => XS.aloadN X.here hx rfl (hb hby d13_14) rfl rfl k_) ?_
  show Gl p e below s _ _ _ (T.setTop (mkF m 15 #[.val (.ref sb), .val (.ref x), .val (.int (Int32.ofNat ds.length))] [(.ref sb)]))
  refine Gl.by (fun t_ k_ => XS.aloadN X.here hx rfl (hb hby d13_15) rfl rfl k_) ?_
  show Gl p e below s _ _ _ (T.setTop (mkF m 16 #[.val (.ref sb), .val (.ref x), .val (.int (Int32.ofNat ds.length))] [(.ref sb), (.ref sb)]))
  obtain ⟨T, X, eT, st⟩ := getF X hx hZ hown (host := "") (Or.inl (hw _ (List.mem_of_getElem? (i := 83) rfl))) Via.refl eT G.2.2.2.1 (g := (mkF m 16 #[.val (.ref sb), .val (.ref x), .val (.int (Int32.ofNat ds.length))] [(.ref sb), (.ref sb)])) rfl rfl (hb hby d13_16)
  refine Gl.by st ?_
  show Gl p e below s _ _ _ (T.setTop (mkF m 19 #[.val (.ref sb), .val (.ref x), .val (.int (Int32.ofNat ds.length))] [(.int (Int32.ofNat cs.length)), (.ref sb)]))
  refine Gl.by (fun t_ k_ => XS.iloadN X.here hx rfl (hb hby d13_19) rfl k_) ?_
  show Gl p e below s _ _ _ (T.setTop (mkF m 20 #[.val (.ref sb), .val (.ref x), .val (.int (Int32.ofNat ds.length))] [(.int (Int32.ofNat ds.length)), (.int (Int32.ofNat cs.length)), (.ref sb)]))
  refine Gl.by (fun t_ k_ => XS.iadd X.here hx rfl (hb hby d13_20) rfl k_) ?_
  show Gl p e below s _ _ _ (T.setTop (mkF m 21 #[.val (.ref sb), .val (.ref x), .val (.int (Int32.ofNat ds.length))] [(.int ((Int32.ofNat cs.length) + (Int32.ofNat ds.length))), (.ref sb)]))
  rw [ofn_add]
  show Gl p e below s _ _ _ (T.setTop (mkF m 21 #[.val (.ref sb), .val (.ref x), .val (.int (Int32.ofNat ds.length))] [(.int (Int32.ofNat (cs.length + ds.length))), (.ref sb)]))
  refine Gl.virt X hx hZ hown (hw _ (List.mem_of_getElem? (i := 85) rfl)) (declOf (hw _ (List.mem_of_getElem? (i := 86) rfl)) (hw _ (List.mem_of_getElem? (i := 89) rfl))) (hw _ (List.mem_of_getElem? (i := 88) rfl)) (hw _ (List.mem_of_getElem? (i := 86) rfl)) (notFace_of_selects (args := #[]) (mvT hZ (hw _ (List.mem_of_getElem? (i := 88) rfl)))) (by decide) G.1 (W := 0) (backC (own_eng l Z a0 hw sb vb kb cs (cs.length + ds.length) n h0 n0 Z1 G hlt hk h40) hZ (hw _ (List.mem_of_getElem? (i := 89) rfl)) (hw _ (List.mem_of_getElem? (i := 55) rfl)) (by decide) (by decide)) eT (hb hby d13_21) (by rw [hml]; rfl) [(.int (Int32.ofNat (cs.length + ds.length)))] [] (lenOf pd_0 rfl) rfl rfl (Nat.le_of_eq rfl) (by decide) (by decide) ?_
  intro v T L X hq
  obtain ⟨rfl, NQ, K1, nb, kn, ge, G1⟩ := hq
  have N := Fr.app N NQ
  obtain ⟨h1, eT⟩ : ∃ z, T.heap = z := ⟨_, rfl⟩
  rw [eT] at K1 G1
  have sz1 := K1.1
  show Gl p e below s _ _ _ (T.setTop (mkF m 24 #[.val (.ref sb), .val (.ref x), .val (.int (Int32.ofNat ds.length))] []))
  have lnb : nb < h1.size := G1.2.2.2.2.1.lt
  have g1 := G1.2.2.2.2.2.1
  have g2 := G1.2.2.2.2.2.2.1
  have Ax := (Str.keep (a0 := a0) A ((Keep.refl h0 [sb]).trans K1 (allS (Or.inl (by simp)) all0)) (allS (Or.inr ⟨_, _, (by decide), G.1, (hw _ (List.mem_of_getElem? (i := 46) rfl))⟩) all0))
  refine Gl.by (fun t_ k_ => XS.aloadN X.here hx rfl (hb hby d13_24) rfl rfl k_) ?_
  show Gl p e below s _ _ _ (T.setTop (mkF m 25 #[.val (.ref sb), .val (.ref x), .val (.int (Int32.ofNat ds.length))] [(.ref sb)]))
  refine Gl.by (fun t_ k_ => XS.aloadN X.here hx rfl (hb hby d13_25) rfl rfl k_) ?_
  show Gl p e below s _ _ _ (T.setTop (mkF m 26 #[.val (.ref sb), .val (.ref x), .val (.int (Int32.ofNat ds.length))] [(.ref sb), (.ref sb)]))
  obtain ⟨T, X, eT, st⟩ := getF X hx hZ hown (host := "") (Or.inl (hw _ (List.mem_of_getElem? (i := 83) rfl))) Via.refl eT G1.2.2.2.1 (g := (mkF m 26 #[.val (.ref sb), .val (.ref x), .val (.int (Int32.ofNat ds.length))] [(.ref sb), (.ref sb)])) rfl rfl (hb hby d13_26)
  refine Gl.by st ?_
  show Gl p e below s _ _ _ (T.setTop (mkF m 29 #[.val (.ref sb), .val (.ref x), .val (.int (Int32.ofNat ds.length))] [(.int (Int32.ofNat cs.length)), (.ref sb)]))
  refine Gl.by (fun t_ k_ => XS.aloadN X.here hx rfl (hb hby d13_29) rfl rfl k_) ?_
  show Gl p e below s _ _ _ (T.setTop (mkF m 30 #[.val (.ref sb), .val (.ref x), .val (.int (Int32.ofNat ds.length))] [(.ref x), (.int (Int32.ofNat cs.length)), (.ref sb)]))
  refine Gl.virt X hx hZ hown (hw _ (List.mem_of_getElem? (i := 90) rfl)) (declOf (hw _ (List.mem_of_getElem? (i := 91) rfl)) (hw _ (List.mem_of_getElem? (i := 94) rfl))) (hw _ (List.mem_of_getElem? (i := 93) rfl)) (hw _ (List.mem_of_getElem? (i := 91) rfl)) (notFace_of_selects (args := #[]) (mvT hZ (hw _ (List.mem_of_getElem? (i := 93) rfl)))) (by decide) G1.1 (W := 0) (backC (own_psa l Z a0 hw sb x nb kn ds cs.length (n + (n + 2)) _ z h1 n0 G1.1 G1.2.1 G1.2.2.1 (by omega) Ax G1.2.2.2.2.1 (pads_len g1) hk g2 S hz (O.keep K1 (allS (by omega) all0))) hZ (hw _ (List.mem_of_getElem? (i := 94) rfl)) (hw _ (List.mem_of_getElem? (i := 55) rfl)) (by decide) (by decide)) eT (hb hby d13_30) (by rw [hml]; rfl) [(.int (Int32.ofNat cs.length)), (.ref x)] [] (lenOf pd_5 rfl) rfl rfl (Nat.le_of_eq rfl) (by decide) (by decide) ?_
  intro v T L X hq
  obtain ⟨rfl, NQ, K2, V2⟩ := hq
  have N := Fr.app N NQ
  obtain ⟨h2, eT⟩ : ∃ z, T.heap = z := ⟨_, rfl⟩
  rw [eT] at K2 V2
  have sz2 := K2.1
  show Gl p e below s _ _ _ (T.setTop (mkF m 33 #[.val (.ref sb), .val (.ref x), .val (.int (Int32.ofNat ds.length))] []))
  rw [pads_app hk] at V2
  refine Gl.by (fun t_ k_ => XS.aloadN X.here hx rfl (hb hby d13_33) rfl rfl k_) ?_
  show Gl p e below s _ _ _ (T.setTop (mkF m 34 #[.val (.ref sb), .val (.ref x), .val (.int (Int32.ofNat ds.length))] [(.ref sb)]))
  refine Gl.by (fun t_ k_ => XS.dup X.here hx rfl (hb hby d13_34) rfl rfl k_) ?_
  show Gl p e below s _ _ _ (T.setTop (mkF m 35 #[.val (.ref sb), .val (.ref x), .val (.int (Int32.ofNat ds.length))] [(.ref sb), (.ref sb)]))
  obtain ⟨T, X, eT, st⟩ := getF X hx hZ hown (host := "") (Or.inl (hw _ (List.mem_of_getElem? (i := 83) rfl))) Via.refl eT (G1.2.2.2.1.keep K2 (ninS (nea (by omega)) nin0)) (g := (mkF m 35 #[.val (.ref sb), .val (.ref x), .val (.int (Int32.ofNat ds.length))] [(.ref sb), (.ref sb)])) rfl rfl (hb hby d13_35)
  refine Gl.by st ?_
  show Gl p e below s _ _ _ (T.setTop (mkF m 38 #[.val (.ref sb), .val (.ref x), .val (.int (Int32.ofNat ds.length))] [(.int (Int32.ofNat cs.length)), (.ref sb)]))
  refine Gl.by (fun t_ k_ => XS.iloadN X.here hx rfl (hb hby d13_38) rfl k_) ?_
  show Gl p e below s _ _ _ (T.setTop (mkF m 39 #[.val (.ref sb), .val (.ref x), .val (.int (Int32.ofNat ds.length))] [(.int (Int32.ofNat ds.length)), (.int (Int32.ofNat cs.length)), (.ref sb)]))
  refine Gl.by (fun t_ k_ => XS.iadd X.here hx rfl (hb hby d13_39) rfl k_) ?_
  show Gl p e below s _ _ _ (T.setTop (mkF m 40 #[.val (.ref sb), .val (.ref x), .val (.int (Int32.ofNat ds.length))] [(.int ((Int32.ofNat cs.length) + (Int32.ofNat ds.length))), (.ref sb)]))
  rw [ofn_add]
  show Gl p e below s _ _ _ (T.setTop (mkF m 40 #[.val (.ref sb), .val (.ref x), .val (.int (Int32.ofNat ds.length))] [(.int (Int32.ofNat (cs.length + ds.length))), (.ref sb)]))
  obtain ⟨T, h3, X, eT, W3, st⟩ := putF X hx hZ hown (host := "") (Or.inl (hw _ (List.mem_of_getElem? (i := 83) rfl))) Via.refl eT (G1.2.2.2.1.keep K2 (ninS (nea (by omega)) nin0)) (G1.1.keep K2) (Or.inl (hw _ (List.mem_of_getElem? (i := 84) rfl))) (hw _ (List.mem_of_getElem? (i := 46) rfl)) (ty := .int) (by decide) rfl rfl (g := (mkF m 40 #[.val (.ref sb), .val (.ref x), .val (.int (Int32.ofNat ds.length))] [(.int (Int32.ofNat (cs.length + ds.length))), (.ref sb)])) rfl rfl (hb hby d13_40)
  have F3_count : Fld Z h3 sb "java/lang/AbstractStringBuilder" "count" "I" (.int (Int32.ofNat (cs.length + ds.length))) := Fld.same W3 (G1.2.2.2.1.keep K2 (ninS (nea (by omega)) nin0))
  have sz3 := (Keep.of_wr W3).1
  have N := Fr.snoc X N (by omega)
  refine Gl.by st ?_
  show Gl p e below s _ _ _ (T.setTop (mkF m 43 #[.val (.ref sb), .val (.ref x), .val (.int (Int32.ofNat ds.length))] []))
  refine Gl.by (fun t_ k_ => XS.aloadN X.here hx rfl (hb hby d13_43) rfl rfl k_) ?_
  show Gl p e below s _ _ _ (T.setTop (mkF m 44 #[.val (.ref sb), .val (.ref x), .val (.int (Int32.ofNat ds.length))] [(.ref sb)]))
  have FC : Fld Z h3 sb "java/lang/AbstractStringBuilder" "count" "I" (.int (Int32.ofNat (cs ++ ds).length)) := by rw [List.length_append]; exact F3_count
  refine Gl.retA X hx hlk hret rfl rfl (hb hby d13_44) (by decide) (by decide) ?_
  rw [eT]
  exact ⟨rfl, N, ((((Keep.refl h0 [sb]).trans K1 (allS (Or.inl (by simp)) all0)).trans K2 (allS (Or.inr (by omega)) all0)).wr W3 (Or.inl (by simp))), nb, kn, by omega, ((G1.1.keep K2).wr W3), ((G1.2.1.keep K2 (ninS (nea (by omega)) nin0)).other W3 (Or.inr (slot_ne (C := "java/lang/StringBuilder") (Or.inl (hw _ (List.mem_of_getElem? (i := 60) rfl))) (Or.inl (hw _ (List.mem_of_getElem? (i := 84) rfl))) (by decide) (t := (.array .byte)) (t' := .int) (by decide) (by decide)))), ((G1.2.2.1.keep K2 (ninS (nea (by omega)) nin0)).other W3 (Or.inr (slot_ne (C := "java/lang/StringBuilder") (Or.inl (hw _ (List.mem_of_getElem? (i := 62) rfl))) (Or.inl (hw _ (List.mem_of_getElem? (i := 84) rfl))) (by decide) (t := .byte) (t' := .int) (by decide) (by decide)))), FC, (V2.other W3 (ne_arv (G1.1.keep K2) (hw _ (List.mem_of_getElem? (i := 46) rfl)) V2).symm), by rw [List.length_append]; exact hk, g2, chars_app G.2.2.2.2.2.2.2 A.2.1⟩
set_option maxRecDepth 65536 in
set_option maxHeartbeats 40000000 in
theorem own_sbg (l : Launch) (Z : State) (a0 : Array Value) (hw : ∀ d ∈ tables_1, d.before a0 Z = true) (sb x vb : Nat) (kb : ClassId) (cs ds : List Int32) (n : Nat) (z : Int32) (h0 : Heap) (n0 : Nat) (Z1 : n0 ≤ sb) (G : Sbo Z h0 sb vb kb cs n) (A : Str Z h0 x ds) (hlt : n < cs.length + ds.length) (hk : cs.length + ds.length ≤ (n + (n + 2))) (h40 : (n + (n + 2)) ≤ 40) (S : Sta Z Z.heap "java/lang/String" "COMPACT_STRINGS" "Z" (.int z)) (hz : ¬ z = 0) (O : Old Z n0 h0) :
    Ctr l Z (⟨"java/lang/StringBuilder", "append", "(Ljava/lang/String;)Ljava/lang/StringBuilder;"⟩ : MethodName) jdk_67_method_7_code 2 (some (.object "java/lang/StringBuilder")) [] own_rSG #[(.ref sb), (.ref x)] h0 (fun v h L => v = some (.ref sb) ∧ Fr n0 L ∧ Keep h0 h [sb] ∧ ∃ (nb : Nat) (kn : ClassId), h0.size ≤ nb ∧ Sbo Z h sb nb kn (cs ++ ds) (n + (n + 2))) := by
  refine Ctr.intro (plainFor_of_name pn_1) #[.val (.ref sb), .val (.ref x)] (fun m => by first | (simp [entryFrame, mkF, argsToLocals, Value.category]; done) | rfl) ?_
  intro p e s m below meth c T hx hby hml hown hnm hret hlk hZ hnamed X eT
  have hown : s.vm.findClass "java/lang/StringBuilder" = some m.cls := hown
  have N := Fr.nil n0
  show Gl p e below s _ _ _ (T.setTop (mkF m 0 #[.val (.ref sb), .val (.ref x)] []))
  refine Gl.by (fun t_ k_ => XS.aloadN X.here hx rfl (hb hby d12_0) rfl rfl k_) ?_
  show Gl p e below s _ _ _ (T.setTop (mkF m 1 #[.val (.ref sb), .val (.ref x)] [(.ref sb)]))
  refine Gl.by (fun t_ k_ => XS.aloadN X.here hx rfl (hb hby d12_1) rfl rfl k_) ?_
  show Gl p e below s _ _ _ (T.setTop (mkF m 2 #[.val (.ref sb), .val (.ref x)] [(.ref x), (.ref sb)]))
  refine Gl.supr (a := sb) X hx hZ (by decide) hown (hw _ (List.mem_of_getElem? (i := 68) rfl)) (sameOf (hw _ (List.mem_of_getElem? (i := 69) rfl)) (hw _ (List.mem_of_getElem? (i := 88) rfl)) rfl (by decide)) (hw _ (List.mem_of_getElem? (i := 69) rfl)) (hw _ (List.mem_of_getElem? (i := 70) rfl)) (hw _ (List.mem_of_getElem? (i := 72) rfl)) (Ins.of_exa G.1 (hw _ (List.mem_of_getElem? (i := 54) rfl))) (W := 0) (backC (own_asbg l Z a0 hw sb x vb kb cs ds n z h0 n0 Z1 G A hlt hk h40 S hz O) hZ (hw _ (List.mem_of_getElem? (i := 72) rfl)) (hw _ (List.mem_of_getElem? (i := 55) rfl)) (by decide) (by decide)) eT (hb hby d12_2) (by rw [hml]; rfl) [(.ref x)] [] (lenOf pd_6 rfl) rfl rfl (Nat.le_of_eq rfl) (by decide) (by decide) ?_
  intro v T L X hq
  obtain ⟨rfl, NQ, K1, nb, kn, ge, Q1⟩ := hq
  have N := Fr.app N NQ
  obtain ⟨h1, eT⟩ : ∃ z, T.heap = z := ⟨_, rfl⟩
  rw [eT] at K1 Q1
  have sz1 := K1.1
  show Gl p e below s _ _ _ (T.setTop (mkF m 5 #[.val (.ref sb), .val (.ref x)] [(.ref sb)]))
  refine Gl.by (fun t_ k_ => XS.pop X.here hx rfl (hb hby d12_5) rfl rfl k_) ?_
  show Gl p e below s _ _ _ (T.setTop (mkF m 6 #[.val (.ref sb), .val (.ref x)] []))
  refine Gl.by (fun t_ k_ => XS.aloadN X.here hx rfl (hb hby d12_6) rfl rfl k_) ?_
  show Gl p e below s _ _ _ (T.setTop (mkF m 7 #[.val (.ref sb), .val (.ref x)] [(.ref sb)]))
  refine Gl.retA X hx hlk hret rfl rfl (hb hby d12_7) (by decide) (by decide) ?_
  rw [eT]
  exact ⟨rfl, N, K1, nb, kn, ge, Q1⟩
abbrev own_EL : List (String × Nat) := [("com/example/intentio/intentio/hddl/Declarations", 494), ("com/example/intentio/intentio/hddl/Declarations", 496), ("com/example/intentio/intentio/hddl/DeclarationsNotDeclaredPinLaw", 16), ("java/lang/String", 7)]
theorem own_ew {Z : State} {a0 : Array Value} (hw : ∀ d ∈ tables_1, d.before a0 Z = true) : EW Z a0 own_EL := (EW.cons (hw _ (List.mem_of_getElem? (i := 110) rfl)) (by decide +kernel) (EW.cons (hw _ (List.mem_of_getElem? (i := 113) rfl)) (by decide +kernel) (EW.cons (hw _ (List.mem_of_getElem? (i := 263) rfl)) (by decide +kernel) (EW.cons (hw _ (List.mem_of_getElem? (i := 264) rfl)) (by decide +kernel) EW.nil))))
theorem own_wS {Z : State} {a0 : Array Value} (hw : ∀ d ∈ tables_1, d.before a0 Z = true) : ∀ a ∈ Bundle.stringAtoms, a.before a0 Z = true := fun d hd => hw d ((by decide +kernel : ∀ d ∈ Bundle.stringAtoms, d ∈ tables_1) d hd)
theorem own_words {Z : State} {a0 : Array Value} (hw : ∀ d ∈ tables_1, d.before a0 Z = true) : ∀ d ∈ StrChars.Road.words, d.before a0 Z = true := fun d hd => hw d ((by decide +kernel : ∀ d ∈ StrChars.Road.words, d ∈ tables_1) d hd)
abbrev own_rS4 : Room := { frames := 1, cells := 4, slots := 8, locals := 20 }
abbrev own_rSI : Room := { frames := 2, cells := 4, slots := 8, locals := 44 }
set_option maxRecDepth 65536 in
set_option maxHeartbeats 40000000 in
theorem own_si4 (l : Launch) (Z : State) (a0 : Array Value) (hw : ∀ d ∈ tables_1, d.before a0 Z = true) (sx ch : Nat) (h0 : Heap) (n0 : Nat) (Z0 : n0 ≤ sx) (E : Exa Z h0 sx "java/lang/String") (F_value : Fld Z h0 sx "java/lang/String" "value" "[B" .null) (F_coder : Fld Z h0 sx "java/lang/String" "coder" "B" (.int (0 : Int32))) :
    CtrH l Z own_EL [sx] (⟨"java/lang/String", "<init>", "([CIILjava/lang/Void;)V"⟩ : MethodName) jdk_42_method_149_code 6 none [] own_rS4 #[(.ref sx), (.ref ch), (.int (0 : Int32)), (.int (0 : Int32)), .null] h0 (fun v h L => v = none ∧ Fr n0 L ∧ Keep h0 h [sx] ∧ Str Z h sx []) := by
  have hEL := own_ew hw
  refine CtrH.intro (plainFor_of_name pn_2) #[.val (.ref sx), .val (.ref ch), .val (.int (0 : Int32)), .val (.int (0 : Int32)), .val .null, .unset] (fun m => by first | (simp [entryFrame, mkF, argsToLocals, Value.category]; done) | rfl) ?_
  intro p e sT m below meth c s T hx hby hml hown hnm hret hlk hZ hnamed X eT B SF
  have hown : s.vm.findClass "java/lang/String" = some m.cls := hown
  have N := Fr.nil n0
  obtain ⟨lsx, SF_sx⟩ := SF sx (List.mem_singleton.mpr rfl)
  have lsx : (sx : Nat) < h0.size := lsx
  show GlH p e below _ _ sT _ _ _ _ (T.setTop (mkF m 0 #[.val (.ref sx), .val (.ref ch), .val (.int (0 : Int32)), .val (.int (0 : Int32)), .val .null, .unset] []))
  refine GlH.by (fun t_ k_ => XS.aloadN X.here hx rfl (hb hby d4_0) rfl rfl k_) ?_
  show GlH p e below _ _ sT _ _ _ _ (T.setTop (mkF m 1 #[.val (.ref sx), .val (.ref ch), .val (.int (0 : Int32)), .val (.int (0 : Int32)), .val .null, .unset] [(.ref sx)]))
  obtain ⟨T, X, eT, st⟩ := initO X hx hZ hown (hw _ (List.mem_of_getElem? (i := 19) rfl)) (hw _ (List.mem_of_getElem? (i := 20) rfl)) (hw _ (List.mem_of_getElem? (i := 21) rfl)) eT (g := (mkF m 1 #[.val (.ref sx), .val (.ref ch), .val (.int (0 : Int32)), .val (.int (0 : Int32)), .val .null, .unset] [(.ref sx)])) rfl (by rw [hml]; rfl) rfl (hb hby d4_1) (by decide) (W := 0) (by show 2 * 0 + _ ≤ _; exact Nat.le_of_eq rfl) (by decide)
  refine GlH.by st ?_
  show GlH p e below _ _ sT _ _ _ _ (T.setTop (mkF m 4 #[.val (.ref sx), .val (.ref ch), .val (.int (0 : Int32)), .val (.int (0 : Int32)), .val .null, .unset] []))
  refine GlH.by (fun t_ k_ => XS.iloadN X.here hx rfl (hb hby d4_4) rfl k_) ?_
  show GlH p e below _ _ sT _ _ _ _ (T.setTop (mkF m 5 #[.val (.ref sx), .val (.ref ch), .val (.int (0 : Int32)), .val (.int (0 : Int32)), .val .null, .unset] [(.int (0 : Int32))]))
  refine GlH.by (fun t_ k_ => XS.ifNo X.here hx rfl (hb hby d4_5) rfl ((if0 _ _).trans (teq (rfl : (0 : Int32) = 0)).2) k_) ?_
  show GlH p e below _ _ sT _ _ _ _ (T.setTop (mkF m 8 #[.val (.ref sx), .val (.ref ch), .val (.int (0 : Int32)), .val (.int (0 : Int32)), .val .null, .unset] []))
  refine GlH.by (fun t_ k_ => XS.aloadN X.here hx rfl (hb hby d4_8) rfl rfl k_) ?_
  show GlH p e below _ _ sT _ _ _ _ (T.setTop (mkF m 9 #[.val (.ref sx), .val (.ref ch), .val (.int (0 : Int32)), .val (.int (0 : Int32)), .val .null, .unset] [(.ref sx)]))
  obtain ⟨q1, b1, k1, T, s, h1, X, eT, E1, B, hZ, hown, CB, A1, Fc1, Fv1, V1, ne1, st⟩ := ldcH X hx hZ hown (hw _ (List.mem_of_getElem? (i := 264) rfl)) (own_wS hw) eT B hEL (by decide) (vs := []) (z := 0) ⟨by decide +kernel, by decide +kernel⟩ (by decide) (by decide) (g := (mkF m 9 #[.val (.ref sx), .val (.ref ch), .val (.int (0 : Int32)), .val (.int (0 : Int32)), .val .null, .unset] [(.ref sx)])) rfl (hb hby d4_9) (n := 0) (by decide +kernel) (by decide) (by decide) (by decide)
  have sz1 := E1.1
  have SF_sx := CB.safe (ltA (by omega)) SF_sx
  refine GlH.by st ?_
  show GlH p e below _ _ sT _ _ _ _ (T.setTop (mkF m 11 #[.val (.ref sx), .val (.ref ch), .val (.int (0 : Int32)), .val (.int (0 : Int32)), .val .null, .unset] [(.ref q1), (.ref sx)]))
  obtain ⟨T, X, eT, st⟩ := getF X hx hZ hown (host := "") (Or.inl (hw _ (List.mem_of_getElem? (i := 36) rfl))) Via.refl eT Fv1 (g := (mkF m 11 #[.val (.ref sx), .val (.ref ch), .val (.int (0 : Int32)), .val (.int (0 : Int32)), .val .null, .unset] [(.ref q1), (.ref sx)])) rfl rfl (hb hby d4_11)
  refine GlH.by st ?_
  show GlH p e below _ _ sT _ _ _ _ (T.setTop (mkF m 14 #[.val (.ref sx), .val (.ref ch), .val (.int (0 : Int32)), .val (.int (0 : Int32)), .val .null, .unset] [(.ref b1), (.ref sx)]))
  obtain ⟨T, h2, X, eT, W2, st⟩ := putF X hx hZ hown (host := "") (Or.inl (hw _ (List.mem_of_getElem? (i := 36) rfl))) Via.refl eT (F_value.ext E1) (E.ext E1) (Or.inr ⟨(hw _ (List.mem_of_getElem? (i := 37) rfl)), rfl, hnm⟩) (hw _ (List.mem_of_getElem? (i := 9) rfl)) (ty := (.array .byte)) (by decide) rfl rfl (g := (mkF m 14 #[.val (.ref sx), .val (.ref ch), .val (.int (0 : Int32)), .val (.int (0 : Int32)), .val .null, .unset] [(.ref b1), (.ref sx)])) rfl rfl (hb hby d4_14)
  have F2_value : Fld Z h2 sx "java/lang/String" "value" "[B" (.ref b1) := Fld.same W2 (F_value.ext E1)
  have sz2 := (Keep.of_wr W2).1
  have N := Fr.snoc X N (by omega)
  refine GlH.by st ?_
  have SG_sx := SafeX.wr SF_sx B W2 SF_sx
  have B := B.wr W2 SF_sx
  have SF_sx := SG_sx
  show GlH p e below _ _ sT _ _ _ _ (T.setTop (mkF m 17 #[.val (.ref sx), .val (.ref ch), .val (.int (0 : Int32)), .val (.int (0 : Int32)), .val .null, .unset] []))
  refine GlH.by (fun t_ k_ => XS.aloadN X.here hx rfl (hb hby d4_17) rfl rfl k_) ?_
  show GlH p e below _ _ sT _ _ _ _ (T.setTop (mkF m 18 #[.val (.ref sx), .val (.ref ch), .val (.int (0 : Int32)), .val (.int (0 : Int32)), .val .null, .unset] [(.ref sx)]))
  obtain ⟨q2, b2, k3, T, s, h3, X, eT, E3, B, hZ, hown, CB, A3, Fc3, Fv3, V3, ne3, st⟩ := ldcH X hx hZ hown (hw _ (List.mem_of_getElem? (i := 264) rfl)) (own_wS hw) eT B hEL (by decide) (vs := []) (z := 0) ⟨by decide +kernel, by decide +kernel⟩ (by decide) (by decide) (g := (mkF m 18 #[.val (.ref sx), .val (.ref ch), .val (.int (0 : Int32)), .val (.int (0 : Int32)), .val .null, .unset] [(.ref sx)])) rfl (hb hby d4_18) (n := 0) (by decide +kernel) (by decide) (by decide) (by decide)
  have sz3 := E3.1
  have SF_sx := CB.safe (ltA (by omega)) SF_sx
  refine GlH.by st ?_
  show GlH p e below _ _ sT _ _ _ _ (T.setTop (mkF m 20 #[.val (.ref sx), .val (.ref ch), .val (.int (0 : Int32)), .val (.int (0 : Int32)), .val .null, .unset] [(.ref q2), (.ref sx)]))
  obtain ⟨T, X, eT, st⟩ := getF X hx hZ hown (host := "") (Or.inl (hw _ (List.mem_of_getElem? (i := 34) rfl))) Via.refl eT Fc3 (g := (mkF m 20 #[.val (.ref sx), .val (.ref ch), .val (.int (0 : Int32)), .val (.int (0 : Int32)), .val .null, .unset] [(.ref q2), (.ref sx)])) rfl rfl (hb hby d4_20)
  refine GlH.by st ?_
  show GlH p e below _ _ sT _ _ _ _ (T.setTop (mkF m 23 #[.val (.ref sx), .val (.ref ch), .val (.int (0 : Int32)), .val (.int (0 : Int32)), .val .null, .unset] [(.int (0 : Int32)), (.ref sx)]))
  obtain ⟨T, h4, X, eT, W4, st⟩ := putF X hx hZ hown (host := "") (Or.inl (hw _ (List.mem_of_getElem? (i := 34) rfl))) Via.refl eT (((F_coder.ext E1).other W2 (Or.inr (slot_ne (C := "java/lang/String") (Or.inr (hw _ (List.mem_of_getElem? (i := 35) rfl))) (Or.inr (hw _ (List.mem_of_getElem? (i := 37) rfl))) (by decide) (t := .byte) (t' := (.array .byte)) (by decide) (by decide)))).ext E3) (((E.ext E1).wr W2).ext E3) (Or.inr ⟨(hw _ (List.mem_of_getElem? (i := 35) rfl)), rfl, hnm⟩) (hw _ (List.mem_of_getElem? (i := 9) rfl)) (ty := .byte) (by decide) rfl rfl (g := (mkF m 23 #[.val (.ref sx), .val (.ref ch), .val (.int (0 : Int32)), .val (.int (0 : Int32)), .val .null, .unset] [(.int (0 : Int32)), (.ref sx)])) rfl rfl (hb hby d4_23)
  have F4_coder : Fld Z h4 sx "java/lang/String" "coder" "B" (.int (0 : Int32)) := Fld.same W4 (((F_coder.ext E1).other W2 (Or.inr (slot_ne (C := "java/lang/String") (Or.inr (hw _ (List.mem_of_getElem? (i := 35) rfl))) (Or.inr (hw _ (List.mem_of_getElem? (i := 37) rfl))) (by decide) (t := .byte) (t' := (.array .byte)) (by decide) (by decide)))).ext E3)
  have sz4 := (Keep.of_wr W4).1
  have N := Fr.snoc X N (by omega)
  refine GlH.by st ?_
  have SG_sx := SafeX.wr SF_sx B W4 SF_sx
  have B := B.wr W4 SF_sx
  have SF_sx := SG_sx
  show GlH p e below _ _ sT _ _ _ _ (T.setTop (mkF m 26 #[.val (.ref sx), .val (.ref ch), .val (.int (0 : Int32)), .val (.int (0 : Int32)), .val .null, .unset] []))
  refine GlH.retV X B eT hZ hEL hx hlk hret (hb hby d4_26) (by decide) (by decide) ?_
  rw [eT]
  exact ⟨rfl, N, (((((Keep.refl h0 [sx]).ext E1).wr W2 (Or.inl (by simp))).ext E3).wr W4 (Or.inl (by simp))), ((((E.ext E1).wr W2).ext E3).wr W4), (fun _ q => nomatch q), Nat.zero_le _, F4_coder, b1, k1, ((F2_value.ext E3).other W4 (Or.inr (slot_ne (C := "java/lang/String") (Or.inr (hw _ (List.mem_of_getElem? (i := 37) rfl))) (Or.inr (hw _ (List.mem_of_getElem? (i := 35) rfl))) (by decide) (t := (.array .byte)) (t' := .byte) (by decide) (by decide)))), (((V1.other W2 (ne_arv (E.ext E1) (hw _ (List.mem_of_getElem? (i := 9) rfl)) V1).symm).ext E3).other W4 (ne_arv (((E.ext E1).wr W2).ext E3) (hw _ (List.mem_of_getElem? (i := 9) rfl)) ((V1.other W2 (ne_arv (E.ext E1) (hw _ (List.mem_of_getElem? (i := 9) rfl)) V1).symm).ext E3)).symm)⟩
set_option maxRecDepth 65536 in
set_option maxHeartbeats 40000000 in
theorem own_si (l : Launch) (Z : State) (a0 : Array Value) (hw : ∀ d ∈ tables_1, d.before a0 Z = true) (sx ch : Nat) (k : ClassId) (h0 : Heap) (n0 : Nat) (Z0 : n0 ≤ sx) (E : Exa Z h0 sx "java/lang/String") (F_value : Fld Z h0 sx "java/lang/String" "value" "[B" .null) (F_coder : Fld Z h0 sx "java/lang/String" "coder" "B" (.int (0 : Int32))) (V : Arv Z h0 ch k .char 0 [] (.int (0 : Int32))) :
    CtrH l Z own_EL [sx] (⟨"java/lang/String", "<init>", "([C)V"⟩ : MethodName) jdk_42_method_3_code 2 none [] own_rSI #[(.ref sx), (.ref ch)] h0 (fun v h L => v = none ∧ Fr n0 L ∧ Keep h0 h [sx] ∧ Str Z h sx []) := by
  have hEL := own_ew hw
  refine CtrH.intro (plainFor_of_name pn_2) #[.val (.ref sx), .val (.ref ch)] (fun m => by first | (simp [entryFrame, mkF, argsToLocals, Value.category]; done) | rfl) ?_
  intro p e sT m below meth c s T hx hby hml hown hnm hret hlk hZ hnamed X eT B SF
  have hown : s.vm.findClass "java/lang/String" = some m.cls := hown
  have N := Fr.nil n0
  obtain ⟨lsx, SF_sx⟩ := SF sx (List.mem_singleton.mpr rfl)
  have lsx : (sx : Nat) < h0.size := lsx
  show GlH p e below _ _ sT _ _ _ _ (T.setTop (mkF m 0 #[.val (.ref sx), .val (.ref ch)] []))
  refine GlH.by (fun t_ k_ => XS.aloadN X.here hx rfl (hb hby d3_0) rfl rfl k_) ?_
  show GlH p e below _ _ sT _ _ _ _ (T.setTop (mkF m 1 #[.val (.ref sx), .val (.ref ch)] [(.ref sx)]))
  refine GlH.by (fun t_ k_ => XS.aloadN X.here hx rfl (hb hby d3_1) rfl rfl k_) ?_
  show GlH p e below _ _ sT _ _ _ _ (T.setTop (mkF m 2 #[.val (.ref sx), .val (.ref ch)] [(.ref ch), (.ref sx)]))
  refine GlH.by (fun t_ k_ => XS.iconst X.here hx rfl (hb hby d3_2) k_) ?_
  show GlH p e below _ _ sT _ _ _ _ (T.setTop (mkF m 3 #[.val (.ref sx), .val (.ref ch)] [(.int (0 : Int32)), (.ref ch), (.ref sx)]))
  refine GlH.by (fun t_ k_ => XS.aloadN X.here hx rfl (hb hby d3_3) rfl rfl k_) ?_
  show GlH p e below _ _ sT _ _ _ _ (T.setTop (mkF m 4 #[.val (.ref sx), .val (.ref ch)] [(.ref ch), (.int (0 : Int32)), (.ref ch), (.ref sx)]))
  obtain ⟨cl1, Ar1, q1, S1, M1, H1, G1⟩ := (id (V) : Arv Z h0 ch k .char (0 : Int32) [] (.int (0 : Int32)))
  refine GlH.by (X.arraylength hx (by rw [eT]; exact Ar1.1) (State.isArrayOf_alike hZ.alike Ar1.2.1) (g := (mkF m 4 #[.val (.ref sx), .val (.ref ch)] [(.ref ch), (.int (0 : Int32)), (.ref ch), (.ref sx)])) rfl rfl (hb hby d3_4)) ?_
  rw [len_of S1 M1]
  show GlH p e below _ _ sT _ _ _ _ (T.setTop (mkF m 5 #[.val (.ref sx), .val (.ref ch)] [(.int (0 : Int32)), (.int (0 : Int32)), (.ref ch), (.ref sx)]))
  refine GlH.by (fun t_ k_ => XS.aconstNull X.here hx rfl (hb hby d3_5) k_) ?_
  show GlH p e below _ _ sT _ _ _ _ (T.setTop (mkF m 6 #[.val (.ref sx), .val (.ref ch)] [.null, (.int (0 : Int32)), (.int (0 : Int32)), (.ref ch), (.ref sx)]))
  refine GlH.specS X hx hZ rfl hown (hw _ (List.mem_of_getElem? (i := 15) rfl)) (hw _ (List.mem_of_getElem? (i := 16) rfl)) (hw _ (List.mem_of_getElem? (i := 18) rfl)) (by decide) (W := 0) B (backH (own_si4 l Z a0 hw sx ch h0 n0 Z0 E F_value F_coder) B hEL (fun x hx => by rw [List.mem_singleton.mp hx]; exact ⟨ltA (by omega), SF_sx⟩) hZ (hw _ (List.mem_of_getElem? (i := 18) rfl)) (hw _ (List.mem_of_getElem? (i := 10) rfl)) (by decide) (by decide)) eT (hb hby d3_6) (by rw [hml]; rfl) sx [(.ref ch), (.int (0 : Int32)), (.int (0 : Int32)), .null] [] (lenOf pd_17 rfl) rfl rfl (Nat.le_of_eq rfl) (by decide) (by decide) ?_
  intro v T L s X B hZ hown CB hq
  obtain ⟨rfl, NQ, K1, Q1⟩ := hq
  have N := Fr.app N NQ
  obtain ⟨h1, eT⟩ : ∃ z, T.heap = z := ⟨_, rfl⟩
  rw [eT] at K1 B CB Q1
  have sz1 := K1.1
  have SF_sx := CB.safe (ltA (by omega)) SF_sx
  show GlH p e below _ _ sT _ _ _ _ (T.setTop (mkF m 9 #[.val (.ref sx), .val (.ref ch)] []))
  refine GlH.retV X B eT hZ hEL hx hlk hret (hb hby d3_9) (by decide) (by decide) ?_
  rw [eT]
  exact ⟨rfl, N, K1, Q1⟩
abbrev own_TL : List Int32 := [32, 105, 115, 32, 110, 111, 116, 32, 100, 101, 99, 108, 97, 114, 101, 100]
def mkL (k a b : Int32) : List Int32 := if k = 0 then [] else if k = 1 then [a] else [a, b]
theorem mkL0 (a b : Int32) : mkL 0 a b = [] := rfl
theorem mkL1 (a b : Int32) : mkL 1 a b = [a] := rfl
theorem mkL2 (a b : Int32) : mkL 2 a b = [a, b] := rfl
theorem mkL_le (k a b : Int32) : (mkL k a b).length ≤ 2 := by
  rw [mkL]; split
  · exact Nat.zero_le _
  · split
    · exact Nat.le_succ _
    · exact Nat.le_refl _
theorem own_nar_b (x : Int32) : nar .byte (x.toInt8.toInt32) = x.toInt8.toInt32 := by simp [nar]
theorem own_wch {Z : State} {a0 : Array Value} (hw : ∀ d ∈ tables_1, d.before a0 Z = true) : ∀ d ∈ StrChars.Road.wordsChN, d.before a0 Z = true := fun d hd => hw d ((by decide +kernel : ∀ d ∈ StrChars.Road.wordsChN, d ∈ tables_1) d hd)
theorem own_and3 (x : Int32) : (x &&& 3) = Int32.ofNat (x &&& 3).toBitVec.toNat ∧ (x &&& 3).toBitVec.toNat < 4 := by
  constructor
  · apply Int32.toBitVec_inj.mp
    show _ = BitVec.ofNat 32 _
    rw [BitVec.ofNat_toNat]; simp
  · simp only [Int32.toBitVec_and, BitVec.toNat_and]
    exact Nat.lt_succ_of_le Nat.and_le_right
theorem own_m3 (q : Int32) : own_minv (q &&& 3) 2 = 0 ∨ own_minv (q &&& 3) 2 = 1 ∨ own_minv (q &&& 3) 2 = 2 := by
  have t : ∀ k : Fin 4, own_minv (Int32.ofNat k.val) 2 = 0 ∨ own_minv (Int32.ofNat k.val) 2 = 1 ∨ own_minv (Int32.ofNat k.val) 2 = 2 := by decide +kernel
  obtain ⟨e, hl⟩ := own_and3 q
  rw [e]; exact t ⟨_, hl⟩
theorem own_cs_len (ks ns : List Int32) : (((ks ++ [32]) ++ ns) ++ own_TL).length = ks.length + 1 + ns.length + 16 := by
  rw [List.length_append, List.length_append, List.length_append]; rfl
theorem own_cs_tail (ks ns : List Int32) (i : Nat) : (((ks ++ [32]) ++ ns) ++ own_TL).getD ((ks.length + 1 + ns.length) + i) 0 = own_TL.getD i 0 := by
  have e : ((ks ++ [32]) ++ ns).length = ks.length + 1 + ns.length := by rw [List.length_append, List.length_append]; rfl
  rw [List.getD_eq_getElem?_getD, List.getD_eq_getElem?_getD, List.getElem?_append_right (by omega), e, Nat.add_sub_cancel_left]
theorem own_len17 {k n : Int32} (hk : k = 0 ∨ k = 1 ∨ k = 2) (hn : n = 0 ∨ n = 1 ∨ n = 2) (a b c d : Int32) : Int32.ofNat (((mkL k a b ++ [32]) ++ mkL n c d) ++ own_TL).length = k + n + 17 := by
  rw [own_cs_len]
  rcases hk with rfl | rfl | rfl <;> rcases hn with rfl | rfl | rfl <;> rfl
theorem own_thw {Z : State} {a0 : Array Value} (hw : ∀ d ∈ tables_1, d.before a0 Z = true) : ∀ d ∈ thWords "com/example/intentio/intentio/hddl/HddlException", d.before a0 Z = true := fun d hd => hw d ((by decide +kernel : ∀ d ∈ thWords "com/example/intentio/intentio/hddl/HddlException", d ∈ tables_1) d hd)
set_option maxRecDepth 65536 in
set_option maxHeartbeats 40000000 in
theorem own_cenc (l : Launch) (Z : State) (a0 : Array Value) (hw : ∀ d ∈ tables_1, d.before a0 Z = true) (ch : Int32) (h0 : Heap) (n0 : Nat) (hc2 : ¬ (255 : Int32) < ch) :
    Ctr l Z (⟨"java/lang/StringLatin1", "canEncode", "(C)Z"⟩ : MethodName) jdk_43_method_3_code 1 (some .boolean) [] own_r0 #[(.int ch)] h0 (fun v h L => v = some (.int 1) ∧ L = [] ∧ h = h0) := by
  refine Ctr.intro (plainFor_of_name pn_5) #[.val (.int ch)] (fun m => by first | (simp [entryFrame, mkF, argsToLocals, Value.category]; done) | rfl) ?_
  intro p e s m below meth c T hx hby hml hown hnm hret hlk hZ hnamed X eT
  have hown : s.vm.findClass "java/lang/StringLatin1" = some m.cls := hown
  have N := Fr.nil n0
  show Gl p e below s _ _ _ (T.setTop (mkF m 0 #[.val (.int ch)] []))
  refine Gl.by (fun t_ k_ => XS.iloadN X.here hx rfl (hb hby d47_0) rfl k_) ?_
  show Gl p e below s _ _ _ (T.setTop (mkF m 1 #[.val (.int ch)] [(.int ch)]))
  refine Gl.by (fun t_ k_ => XS.sipush X.here hx rfl (hb hby d47_1) k_) ?_
  show Gl p e below s _ _ _ (T.setTop (mkF m 4 #[.val (.int ch)] [(.int (255 : Int32)), (.int ch)]))
  refine Gl.by (fun t_ k_ => XS.icmpNo X.here hx rfl (hb hby d47_4) rfl (flt hc2).2.2.1 k_) ?_
  show Gl p e below s _ _ _ (T.setTop (mkF m 7 #[.val (.int ch)] []))
  refine Gl.by (fun t_ k_ => XS.iconst X.here hx rfl (hb hby d47_7) k_) ?_
  show Gl p e below s _ _ _ (T.setTop (mkF m 8 #[.val (.int ch)] [(.int (1 : Int32))]))
  refine Gl.by (fun t_ k_ => XS.goto X.here hx rfl (pc0 := 8) (pc' := 12) rfl (hb hby d47_8) (by decide) (by decide) k_) ?_
  show Gl p e below s _ _ _ (T.setTop (mkF m 12 #[.val (.int ch)] [(.int (1 : Int32))]))
  exact Gl.retZ X hx hlk hret (by simp) (hb hby d47_12) (by decide) (by decide) ⟨rfl, rfl, eT⟩
abbrev own_rTB : Room := { frames := 0, cells := 1, slots := 1, locals := 0 }
abbrev own_rVO : Room := { frames := 2, cells := 2, slots := 5, locals := 44 }
set_option maxRecDepth 65536 in
set_option maxHeartbeats 40000000 in
theorem own_tob (l : Launch) (Z : State) (a0 : Array Value) (hw : ∀ d ∈ tables_1, d.before a0 Z = true) (ch : Int32) (h0 : Heap) (n0 : Nat) (Z0 : n0 ≤ h0.size) :
    Ctr l Z (⟨"java/lang/StringLatin1", "toBytes", "(C)[B"⟩ : MethodName) jdk_43_method_46_code 1 (some (.array .byte)) [] own_rTB #[(.int ch)] h0 (fun v h L => Fr n0 L ∧ Keep h0 h [] ∧ ∃ (bb : Nat) (kb : ClassId), v = some (.ref bb) ∧ h0.size ≤ bb ∧ Arv Z h bb kb .byte (Int32.ofNat ([ch] : List Int32).length) (([ch].map (fun c => c.toInt8.toInt32)).map Value.int) (.int 0)) := by
  refine Ctr.intro (plainFor_of_name pn_5) #[.val (.int ch)] (fun m => by first | (simp [entryFrame, mkF, argsToLocals, Value.category]; done) | rfl) ?_
  intro p e s m below meth c T hx hby hml hown hnm hret hlk hZ hnamed X eT
  have hown : s.vm.findClass "java/lang/StringLatin1" = some m.cls := hown
  have N := Fr.nil n0
  show Gl p e below s _ _ _ (T.setTop (mkF m 0 #[.val (.int ch)] []))
  refine Gl.by (fun t_ k_ => XS.iconst X.here hx rfl (hb hby d48_0) k_) ?_
  show Gl p e below s _ _ _ (T.setTop (mkF m 1 #[.val (.int ch)] [(.int (1 : Int32))]))
  obtain ⟨T, h1, k1, X, eT, E1, A1, st⟩ := newP X hx hZ (hw _ (List.mem_of_getElem? (i := 27) rfl)) eT (g := (mkF m 1 #[.val (.int ch)] [(.int (1 : Int32))])) rfl (hb hby d48_1) rfl (by decide) (cap := 1) (by decide) (by decide) (by decide) (by decide)
  obtain ⟨bb, g1⟩ : ∃ z, z = h0.size := ⟨_, rfl⟩
  rw [← g1] at A1 st
  have sz1 := E1.1
  have lt1 : bb < h1.size := A1.lt
  have V1 : Arv Z h1 bb k1 .byte (1 : Int32) [(.int (0 : Int32))] (.int (0 : Int32)) := (Arv.new A1 (by decide)).pad (pad_rep [] (.int (0 : Int32)) 1)
  refine Gl.by st ?_
  show Gl p e below s _ _ _ (T.setTop (mkF m 3 #[.val (.int ch)] [(.ref bb)]))
  refine Gl.by (fun t_ k_ => XS.dup X.here hx rfl (hb hby d48_3) rfl rfl k_) ?_
  show Gl p e below s _ _ _ (T.setTop (mkF m 4 #[.val (.int ch)] [(.ref bb), (.ref bb)]))
  refine Gl.by (fun t_ k_ => XS.iconst X.here hx rfl (hb hby d48_4) k_) ?_
  show Gl p e below s _ _ _ (T.setTop (mkF m 5 #[.val (.int ch)] [(.int (0 : Int32)), (.ref bb), (.ref bb)]))
  refine Gl.by (fun t_ k_ => XS.iloadN X.here hx rfl (hb hby d48_5) rfl k_) ?_
  show Gl p e below s _ _ _ (T.setTop (mkF m 6 #[.val (.int ch)] [(.int ch), (.int (0 : Int32)), (.ref bb), (.ref bb)]))
  refine Gl.by (fun t_ k_ => XS.i2b X.here hx rfl (hb hby d48_6) rfl k_) ?_
  show Gl p e below s _ _ _ (T.setTop (mkF m 7 #[.val (.int ch)] [(.int (ch.toInt8.toInt32)), (.int (0 : Int32)), (.ref bb), (.ref bb)]))
  obtain ⟨cl2, Ar2, q2, S2, M2, H2, G2⟩ := (id (V1) : Arv Z h1 bb k1 .byte (1 : Int32) [(.int (0 : Int32))] (.int (0 : Int32)))
  obtain ⟨T, h2, X, eT, W2, st⟩ := stB X hx hZ eT Ar2 (j := (0 : Int32)) (inb_of S2 ⟨by decide, by decide⟩) (g := (mkF m 7 #[.val (.int ch)] [(.int (ch.toInt8.toInt32)), (.int (0 : Int32)), (.ref bb), (.ref bb)])) rfl rfl (hb hby d48_7)
  have V2 : Arv Z h2 bb k1 .byte (1 : Int32) [(.int (nar .byte (ch.toInt8.toInt32)))] (.int (0 : Int32)) := Arv.set Ar2 q2 S2 M2 H2 G2 (fits_nar_byte _) W2 0 rfl (Nat.le_of_ble_eq_true rfl)
  have sz2 := (Keep.of_wr W2).1
  have N := Fr.snoc X N (by omega)
  refine Gl.by st ?_
  show Gl p e below s _ _ _ (T.setTop (mkF m 8 #[.val (.int ch)] [(.ref bb)]))
  have VB := V2
  rw [own_nar_b] at VB
  refine Gl.retA X hx hlk hret rfl rfl (hb hby d48_8) (by decide) (by decide) ?_
  rw [eT]
  exact ⟨N, (((Keep.refl h0 []).ext E1).wr W2 (Or.inr (by omega))), bb, k1, rfl, by omega, VB⟩
set_option maxRecDepth 65536 in
set_option maxHeartbeats 40000000 in
theorem own_sbb (l : Launch) (Z : State) (a0 : Array Value) (hw : ∀ d ∈ tables_1, d.before a0 Z = true) (sx bb : Nat) (h0 : Heap) (n0 : Nat) (Z0 : n0 ≤ sx) (E : Exa Z h0 sx "java/lang/String") (F_value : Fld Z h0 sx "java/lang/String" "value" "[B" .null) (F_coder : Fld Z h0 sx "java/lang/String" "coder" "B" (.int (0 : Int32)))  :
    Ctr l Z (⟨"java/lang/String", "<init>", "([BB)V"⟩ : MethodName) jdk_42_method_151_code 3 none [] own_rN #[(.ref sx), (.ref bb), (.int (0 : Int32))] h0 (fun v h L => v = none ∧ Fr n0 L ∧ Keep h0 h [sx] ∧ Exa Z h sx "java/lang/String" ∧ Fld Z h sx "java/lang/String" "value" "[B" (.ref bb) ∧ Fld Z h sx "java/lang/String" "coder" "B" (.int 0)) := by
  refine Ctr.intro (plainFor_of_name pn_2) #[.val (.ref sx), .val (.ref bb), .val (.int (0 : Int32))] (fun m => by first | (simp [entryFrame, mkF, argsToLocals, Value.category]; done) | rfl) ?_
  intro p e s m below meth c T hx hby hml hown hnm hret hlk hZ hnamed X eT
  have hown : s.vm.findClass "java/lang/String" = some m.cls := hown
  have N := Fr.nil n0
  show Gl p e below s _ _ _ (T.setTop (mkF m 0 #[.val (.ref sx), .val (.ref bb), .val (.int (0 : Int32))] []))
  refine Gl.by (fun t_ k_ => XS.aloadN X.here hx rfl (hb hby d49_0) rfl rfl k_) ?_
  show Gl p e below s _ _ _ (T.setTop (mkF m 1 #[.val (.ref sx), .val (.ref bb), .val (.int (0 : Int32))] [(.ref sx)]))
  obtain ⟨T, X, eT, st⟩ := initO X hx hZ hown (hw _ (List.mem_of_getElem? (i := 19) rfl)) (hw _ (List.mem_of_getElem? (i := 20) rfl)) (hw _ (List.mem_of_getElem? (i := 21) rfl)) eT (g := (mkF m 1 #[.val (.ref sx), .val (.ref bb), .val (.int (0 : Int32))] [(.ref sx)])) rfl (by rw [hml]; rfl) rfl (hb hby d49_1) (by decide) (W := 0) (by show 2 * 0 + _ ≤ _; exact Nat.le_of_eq rfl) (by decide)
  refine Gl.by st ?_
  show Gl p e below s _ _ _ (T.setTop (mkF m 4 #[.val (.ref sx), .val (.ref bb), .val (.int (0 : Int32))] []))
  refine Gl.by (fun t_ k_ => XS.aloadN X.here hx rfl (hb hby d49_4) rfl rfl k_) ?_
  show Gl p e below s _ _ _ (T.setTop (mkF m 5 #[.val (.ref sx), .val (.ref bb), .val (.int (0 : Int32))] [(.ref sx)]))
  refine Gl.by (fun t_ k_ => XS.aloadN X.here hx rfl (hb hby d49_5) rfl rfl k_) ?_
  show Gl p e below s _ _ _ (T.setTop (mkF m 6 #[.val (.ref sx), .val (.ref bb), .val (.int (0 : Int32))] [(.ref bb), (.ref sx)]))
  obtain ⟨T, h1, X, eT, W1, st⟩ := putF X hx hZ hown (host := "") (Or.inl (hw _ (List.mem_of_getElem? (i := 36) rfl))) Via.refl eT F_value E (Or.inr ⟨(hw _ (List.mem_of_getElem? (i := 37) rfl)), rfl, hnm⟩) (hw _ (List.mem_of_getElem? (i := 9) rfl)) (ty := (.array .byte)) (by decide) rfl rfl (g := (mkF m 6 #[.val (.ref sx), .val (.ref bb), .val (.int (0 : Int32))] [(.ref bb), (.ref sx)])) rfl rfl (hb hby d49_6)
  have F1_value : Fld Z h1 sx "java/lang/String" "value" "[B" (.ref bb) := Fld.same W1 F_value
  have sz1 := (Keep.of_wr W1).1
  have N := Fr.snoc X N (by omega)
  refine Gl.by st ?_
  show Gl p e below s _ _ _ (T.setTop (mkF m 9 #[.val (.ref sx), .val (.ref bb), .val (.int (0 : Int32))] []))
  refine Gl.by (fun t_ k_ => XS.aloadN X.here hx rfl (hb hby d49_9) rfl rfl k_) ?_
  show Gl p e below s _ _ _ (T.setTop (mkF m 10 #[.val (.ref sx), .val (.ref bb), .val (.int (0 : Int32))] [(.ref sx)]))
  refine Gl.by (fun t_ k_ => XS.iloadN X.here hx rfl (hb hby d49_10) rfl k_) ?_
  show Gl p e below s _ _ _ (T.setTop (mkF m 11 #[.val (.ref sx), .val (.ref bb), .val (.int (0 : Int32))] [(.int (0 : Int32)), (.ref sx)]))
  obtain ⟨T, h2, X, eT, W2, st⟩ := putF X hx hZ hown (host := "") (Or.inl (hw _ (List.mem_of_getElem? (i := 34) rfl))) Via.refl eT (F_coder.other W1 (Or.inr (slot_ne (C := "java/lang/String") (Or.inr (hw _ (List.mem_of_getElem? (i := 35) rfl))) (Or.inr (hw _ (List.mem_of_getElem? (i := 37) rfl))) (by decide) (t := .byte) (t' := (.array .byte)) (by decide) (by decide)))) (E.wr W1) (Or.inr ⟨(hw _ (List.mem_of_getElem? (i := 35) rfl)), rfl, hnm⟩) (hw _ (List.mem_of_getElem? (i := 9) rfl)) (ty := .byte) (by decide) rfl rfl (g := (mkF m 11 #[.val (.ref sx), .val (.ref bb), .val (.int (0 : Int32))] [(.int (0 : Int32)), (.ref sx)])) rfl rfl (hb hby d49_11)
  have F2_coder : Fld Z h2 sx "java/lang/String" "coder" "B" (.int (0 : Int32)) := Fld.same W2 (F_coder.other W1 (Or.inr (slot_ne (C := "java/lang/String") (Or.inr (hw _ (List.mem_of_getElem? (i := 35) rfl))) (Or.inr (hw _ (List.mem_of_getElem? (i := 37) rfl))) (by decide) (t := .byte) (t' := (.array .byte)) (by decide) (by decide))))
  have sz2 := (Keep.of_wr W2).1
  have N := Fr.snoc X N (by omega)
  refine Gl.by st ?_
  show Gl p e below s _ _ _ (T.setTop (mkF m 14 #[.val (.ref sx), .val (.ref bb), .val (.int (0 : Int32))] []))
  refine Gl.retV X hx hlk hret (hb hby d49_14) (by decide) (by decide) ?_
  rw [eT]
  exact ⟨rfl, N, (((Keep.refl h0 [sx]).wr W1 (Or.inl (by simp))).wr W2 (Or.inl (by simp))), ((E.wr W1).wr W2), (F1_value.other W2 (Or.inr (slot_ne (C := "java/lang/String") (Or.inr (hw _ (List.mem_of_getElem? (i := 37) rfl))) (Or.inr (hw _ (List.mem_of_getElem? (i := 35) rfl))) (by decide) (t := (.array .byte)) (t' := .byte) (by decide) (by decide)))), F2_coder⟩
set_option maxRecDepth 65536 in
set_option maxHeartbeats 40000000 in
theorem own_vof (l : Launch) (Z : State) (a0 : Array Value) (hw : ∀ d ∈ tables_1, d.before a0 Z = true) (ch z : Int32) (h0 : Heap) (n0 : Nat) (Z0 : n0 ≤ h0.size) (hc : ¬ ch < 0 ∧ ¬ (255 : Int32) < ch) (S : Sta Z Z.heap "java/lang/String" "COMPACT_STRINGS" "Z" (.int z)) (hz : ¬ z = 0) (O : Old Z n0 h0) :
    Ctr l Z (⟨"java/lang/String", "valueOf", "(C)Ljava/lang/String;"⟩ : MethodName) jdk_42_method_139_code 1 (some (.object "java/lang/String")) [] own_rVO #[(.int ch)] h0 (fun v h L => Fr n0 L ∧ Keep h0 h [] ∧ ∃ sx : Nat, v = some (.ref sx) ∧ Str Z h sx [ch]) := by
  refine Ctr.intro (plainFor_of_name pn_2) #[.val (.int ch)] (fun m => by first | (simp [entryFrame, mkF, argsToLocals, Value.category]; done) | rfl) ?_
  intro p e s m below meth c T hx hby hml hown hnm hret hlk hZ hnamed X eT
  have hown : s.vm.findClass "java/lang/String" = some m.cls := hown
  have N := Fr.nil n0
  show Gl p e below s _ _ _ (T.setTop (mkF m 0 #[.val (.int ch)] []))
  obtain ⟨T, X, eT, st⟩ := getS2 X hx hZ hown (host := "") (Or.inl (hw _ (List.mem_of_getElem? (i := 22) rfl))) Via.refl eT (S.ext O.2) (g := (mkF m 0 #[.val (.int ch)] [])) rfl (hb hby d46_0)
  refine Gl.by st ?_
  show Gl p e below s _ _ _ (T.setTop (mkF m 3 #[.val (.int ch)] [(.int z)]))
  refine Gl.by (fun t_ k_ => XS.ifNo X.here hx rfl (hb hby d46_3) rfl ((if0 _ _).trans (feq hz).1) k_) ?_
  show Gl p e below s _ _ _ (T.setTop (mkF m 6 #[.val (.int ch)] []))
  refine Gl.by (fun t_ k_ => XS.iloadN X.here hx rfl (hb hby d46_6) rfl k_) ?_
  show Gl p e below s _ _ _ (T.setTop (mkF m 7 #[.val (.int ch)] [(.int ch)]))
  refine Gl.stat X hx hZ hown (hw _ (List.mem_of_getElem? (i := 268) rfl)) (hw _ (List.mem_of_getElem? (i := 269) rfl)) (hw _ (List.mem_of_getElem? (i := 250) rfl)) (hw _ (List.mem_of_getElem? (i := 270) rfl)) (by decide) (W := 0) (backC (own_cenc l Z a0 hw ch h0 n0 hc.2) hZ (hw _ (List.mem_of_getElem? (i := 270) rfl)) (hw _ (List.mem_of_getElem? (i := 250) rfl)) (by decide) (by decide)) eT (hb hby d46_7) (by rw [hml]; rfl) [(.int ch)] [] (lenOf pd_18 rfl) rfl rfl (Nat.le_of_eq rfl) (by decide) (by decide) ?_
  intro v T L X hq
  obtain ⟨rfl, rfl, eT⟩ := hq
  have N := Fr.app N (Fr.nil n0)
  show Gl p e below s _ _ _ (T.setTop (mkF m 10 #[.val (.int ch)] [(.int (1 : Int32))]))
  refine Gl.by (fun t_ k_ => XS.ifNo X.here hx rfl (hb hby d46_10) rfl ((if0 _ _).trans (feq (by decide : ¬ (1 : Int32) = 0)).1) k_) ?_
  show Gl p e below s _ _ _ (T.setTop (mkF m 13 #[.val (.int ch)] []))
  obtain ⟨T, h1, X, eT, E1, A1, D1, -, st⟩ := newO X hx hZ hown (hw _ (List.mem_of_getElem? (i := 271) rfl)) (hw _ (List.mem_of_getElem? (i := 9) rfl)) (hw _ (List.mem_of_getElem? (i := 10) rfl)) eT (g := (mkF m 13 #[.val (.int ch)] [])) rfl (hb hby d46_13) (by decide) (by decide)
  obtain ⟨sx, g1⟩ : ∃ z, z = h0.size := ⟨_, rfl⟩
  rw [← g1] at A1 D1 st
  have sz1 := E1.1
  have lt1 : sx < h1.size := A1.lt
  refine Gl.by st ?_
  have F1_coder : Fld Z h1 sx "java/lang/String" "coder" "B" (.int (0 : Int32)) := D1 (Or.inr (hw _ (List.mem_of_getElem? (i := 35) rfl))) (ty := .byte) (by decide)
  have F1_value : Fld Z h1 sx "java/lang/String" "value" "[B" .null := D1 (Or.inr (hw _ (List.mem_of_getElem? (i := 37) rfl))) (ty := (.array .byte)) (by decide)
  show Gl p e below s _ _ _ (T.setTop (mkF m 16 #[.val (.int ch)] [(.ref sx)]))
  refine Gl.by (fun t_ k_ => XS.dup X.here hx rfl (hb hby d46_16) rfl rfl k_) ?_
  show Gl p e below s _ _ _ (T.setTop (mkF m 17 #[.val (.int ch)] [(.ref sx), (.ref sx)]))
  refine Gl.by (fun t_ k_ => XS.iloadN X.here hx rfl (hb hby d46_17) rfl k_) ?_
  show Gl p e below s _ _ _ (T.setTop (mkF m 18 #[.val (.int ch)] [(.int ch), (.ref sx), (.ref sx)]))
  refine Gl.stat X hx hZ hown (hw _ (List.mem_of_getElem? (i := 272) rfl)) (hw _ (List.mem_of_getElem? (i := 273) rfl)) (hw _ (List.mem_of_getElem? (i := 250) rfl)) (hw _ (List.mem_of_getElem? (i := 274) rfl)) (by decide) (W := 2) (backC (own_tob l Z a0 hw ch h1 n0 (by omega)) hZ (hw _ (List.mem_of_getElem? (i := 274) rfl)) (hw _ (List.mem_of_getElem? (i := 250) rfl)) (by decide) (by decide)) eT (hb hby d46_18) (by rw [hml]; rfl) [(.int ch)] [(.ref sx), (.ref sx)] (lenOf pd_19 rfl) rfl rfl (Nat.le_of_eq rfl) (by decide) (by decide) ?_
  intro v T L X hq
  obtain ⟨NQ, K2, bb, kb, rfl, ge, V2⟩ := hq
  have N := Fr.app N NQ
  obtain ⟨h2, eT⟩ : ∃ z, T.heap = z := ⟨_, rfl⟩
  rw [eT] at K2 V2
  have sz2 := K2.1
  show Gl p e below s _ _ _ (T.setTop (mkF m 21 #[.val (.int ch)] [(.ref bb), (.ref sx), (.ref sx)]))
  refine Gl.by (fun t_ k_ => XS.iconst X.here hx rfl (hb hby d46_21) k_) ?_
  show Gl p e below s _ _ _ (T.setTop (mkF m 22 #[.val (.int ch)] [(.int (0 : Int32)), (.ref bb), (.ref sx), (.ref sx)]))
  refine Gl.spec X hx hZ rfl hown (hw _ (List.mem_of_getElem? (i := 275) rfl)) (hw _ (List.mem_of_getElem? (i := 276) rfl)) (hw _ (List.mem_of_getElem? (i := 277) rfl)) (by decide) (W := 1) (backC (own_sbb l Z a0 hw sx bb h2 n0 (by omega) (A1.keep K2) (F1_value.keep K2 nin0) (F1_coder.keep K2 nin0)) hZ (hw _ (List.mem_of_getElem? (i := 277) rfl)) (hw _ (List.mem_of_getElem? (i := 10) rfl)) (by decide) (by decide)) eT (hb hby d46_22) (by rw [hml]; rfl) sx [(.ref bb), (.int (0 : Int32))] [(.ref sx)] (lenOf pd_20 rfl) rfl rfl (Nat.le_of_eq rfl) (by decide) (by decide) ?_
  intro v T L X hq
  obtain ⟨rfl, NQ, K3, Q3, Qv3, Qc3⟩ := hq
  have N := Fr.app N NQ
  obtain ⟨h3, eT⟩ : ∃ z, T.heap = z := ⟨_, rfl⟩
  rw [eT] at K3 Q3 Qv3 Qc3
  have sz3 := K3.1
  show Gl p e below s _ _ _ (T.setTop (mkF m 25 #[.val (.int ch)] [(.ref sx)]))
  refine Gl.retA X hx hlk hret rfl rfl (hb hby d46_25) (by decide) (by decide) ?_
  rw [eT]
  exact ⟨N, ((((Keep.refl h0 []).ext E1).trans K2 all0).trans K3 (allS (Or.inr (by omega)) all0)), sx, rfl, Q3, (fun c q => by rw [List.mem_singleton.mp q]; exact hc), (by show 1 ≤ 4000; decide), Qc3, bb, kb, Qv3, (V2.keep K3 (ninS (ne_arv (A1.keep K2) (hw _ (List.mem_of_getElem? (i := 9) rfl)) V2).symm nin0))⟩
abbrev own_rMK : Room := { frames := 4, cells := 6, slots := 12, locals := 80 }
set_option maxRecDepth 65536 in
set_option maxHeartbeats 40000000 in
theorem own_mk (l : Launch) (Z : State) (a0 : Array Value) (hw : ∀ d ∈ tables_1, d.before a0 Z = true) (kl ca cb z : Int32) (h0 : Heap) (n0 : Nat) (Z0 : n0 ≤ h0.size) (hk : kl = 0 ∨ kl = 1 ∨ kl = 2) (ha : nar .char ca = ca ∧ ¬ ca < 0 ∧ ¬ (255 : Int32) < ca) (hb_ : nar .char cb = cb ∧ ¬ cb < 0 ∧ ¬ (255 : Int32) < cb) (S : Sta Z Z.heap "java/lang/String" "COMPACT_STRINGS" "Z" (.int z)) (hz : ¬ z = 0) (O : Old Z n0 h0) :
    CtrH l Z own_EL [] (⟨"com/example/intentio/intentio/hddl/DeclarationsNotDeclaredPinLaw", "mk", "(ICC)Ljava/lang/String;"⟩ : MethodName) method_2_code 3 (some (.object "java/lang/String")) [] own_rMK #[(.int kl), (.int ca), (.int cb)] h0 (fun v h L => Fr n0 L ∧ Keep h0 h [] ∧ ∃ sx : Nat, v = some (.ref sx) ∧ Str Z h sx (mkL kl ca cb)) := by
  have hEL := own_ew hw
  refine CtrH.intro (plainFor_of_name pn_6) #[.val (.int kl), .val (.int ca), .val (.int cb)] (fun m => by first | (simp [entryFrame, mkF, argsToLocals, Value.category]; done) | rfl) ?_
  intro p e sT m below meth c s T hx hby hml hown hnm hret hlk hZ hnamed X eT B SF
  have hown : s.vm.findClass "com/example/intentio/intentio/hddl/DeclarationsNotDeclaredPinLaw" = some m.cls := hown
  have N := Fr.nil n0
  have hp : ∀ c ∈ ([ca, cb] : List Int32), ¬ c < 0 ∧ ¬ (255 : Int32) < c := by
    intro c hc
    simp only [List.mem_cons, List.not_mem_nil, or_false] at hc
    rcases hc with rfl | rfl
    · exact ha.2
    · exact hb_.2
  rcases hk with rfl | rfl | rfl
  · show GlH p e below _ _ sT _ _ _ _ (T.setTop (mkF m 0 #[.val (.int (0 : Int32)), .val (.int ca), .val (.int cb)] []))
    refine GlH.by (fun t_ k_ => XS.iloadN X.here hx rfl (hb hby d2_0) rfl k_) ?_
    show GlH p e below _ _ sT _ _ _ _ (T.setTop (mkF m 1 #[.val (.int (0 : Int32)), .val (.int ca), .val (.int cb)] [(.int (0 : Int32))]))
    refine GlH.by (fun t_ k_ => XS.ifNo X.here hx rfl (hb hby d2_1) rfl ((if0 _ _).trans (teq (rfl : (0 : Int32) = 0)).2) k_) ?_
    show GlH p e below _ _ sT _ _ _ _ (T.setTop (mkF m 4 #[.val (.int (0 : Int32)), .val (.int ca), .val (.int cb)] []))
    obtain ⟨T, h1, X, eT, E1, A1, D1, -, st⟩ := newO X hx hZ hown (hw _ (List.mem_of_getElem? (i := 8) rfl)) (hw _ (List.mem_of_getElem? (i := 9) rfl)) (hw _ (List.mem_of_getElem? (i := 10) rfl)) eT (g := (mkF m 4 #[.val (.int (0 : Int32)), .val (.int ca), .val (.int cb)] [])) rfl (hb hby d2_4) (by decide) (by decide)
    obtain ⟨sx, g1⟩ : ∃ z, z = h0.size := ⟨_, rfl⟩
    rw [← g1] at A1 D1 st
    have sz1 := E1.1
    have lt1 : sx < h1.size := A1.lt
    refine GlH.by st ?_
    have SF_sx := SafeX.ext (Safe.new (x := sx) (by omega)) B E1
    have B := B.ext E1
    have F1_coder : Fld Z h1 sx "java/lang/String" "coder" "B" (.int (0 : Int32)) := D1 (Or.inr (hw _ (List.mem_of_getElem? (i := 35) rfl))) (ty := .byte) (by decide)
    have F1_value : Fld Z h1 sx "java/lang/String" "value" "[B" .null := D1 (Or.inr (hw _ (List.mem_of_getElem? (i := 37) rfl))) (ty := (.array .byte)) (by decide)
    show GlH p e below _ _ sT _ _ _ _ (T.setTop (mkF m 7 #[.val (.int (0 : Int32)), .val (.int ca), .val (.int cb)] [(.ref sx)]))
    refine GlH.by (fun t_ k_ => XS.dup X.here hx rfl (hb hby d2_7) rfl rfl k_) ?_
    show GlH p e below _ _ sT _ _ _ _ (T.setTop (mkF m 8 #[.val (.int (0 : Int32)), .val (.int ca), .val (.int cb)] [(.ref sx), (.ref sx)]))
    refine GlH.by (fun t_ k_ => XS.iconst X.here hx rfl (hb hby d2_8) k_) ?_
    show GlH p e below _ _ sT _ _ _ _ (T.setTop (mkF m 9 #[.val (.int (0 : Int32)), .val (.int ca), .val (.int cb)] [(.int (0 : Int32)), (.ref sx), (.ref sx)]))
    obtain ⟨T, h2, k2, X, eT, E2, A2, st⟩ := newP X hx hZ (hw _ (List.mem_of_getElem? (i := 11) rfl)) eT (g := (mkF m 9 #[.val (.int (0 : Int32)), .val (.int ca), .val (.int cb)] [(.int (0 : Int32)), (.ref sx), (.ref sx)])) rfl (hb hby d2_9) rfl (by decide) (cap := 0) (by decide) (by decide) (by decide) (by decide)
    obtain ⟨ch, g2⟩ : ∃ z, z = h1.size := ⟨_, rfl⟩
    rw [← g2] at A2 st
    have sz2 := E2.1
    have lt2 : ch < h2.size := A2.lt
    have V2 : Arv Z h2 ch k2 .char (0 : Int32) [] (.int (0 : Int32)) := (Arv.new A2 (by decide)).pad (pad_rep [] (.int (0 : Int32)) 0)
    refine GlH.by st ?_
    have SG_sx := SafeX.ext SF_sx B E2
    have B := B.ext E2
    have SF_sx := SG_sx
    show GlH p e below _ _ sT _ _ _ _ (T.setTop (mkF m 11 #[.val (.int (0 : Int32)), .val (.int ca), .val (.int cb)] [(.ref ch), (.ref sx), (.ref sx)]))
    refine GlH.specS X hx hZ rfl hown (hw _ (List.mem_of_getElem? (i := 12) rfl)) (hw _ (List.mem_of_getElem? (i := 13) rfl)) (hw _ (List.mem_of_getElem? (i := 14) rfl)) (by decide) (W := 1) B (backH (own_si l Z a0 hw sx ch _ h2 n0 (by omega) (A1.ext E2) (F1_value.ext E2) (F1_coder.ext E2) V2) B hEL (fun x hx => by rw [List.mem_singleton.mp hx]; exact ⟨ltA (by omega), SF_sx⟩) hZ (hw _ (List.mem_of_getElem? (i := 14) rfl)) (hw _ (List.mem_of_getElem? (i := 10) rfl)) (by decide) (by decide)) eT (hb hby d2_11) (by rw [hml]; rfl) sx [(.ref ch)] [(.ref sx)] (lenOf pd_21 rfl) rfl rfl (Nat.le_of_eq rfl) (by decide) (by decide) ?_
    intro v T L s X B hZ hown CB hq
    obtain ⟨rfl, NQ, K3, Q3⟩ := hq
    have N := Fr.app N NQ
    obtain ⟨h3, eT⟩ : ∃ z, T.heap = z := ⟨_, rfl⟩
    rw [eT] at K3 B CB Q3
    have sz3 := K3.1
    have SF_sx := CB.safe (ltA (by omega)) SF_sx
    show GlH p e below _ _ sT _ _ _ _ (T.setTop (mkF m 14 #[.val (.int (0 : Int32)), .val (.int ca), .val (.int cb)] [(.ref sx)]))
    refine GlH.retA X B eT hZ hEL hx hlk hret rfl rfl (hb hby d2_14) (by decide) (by decide) ?_
    rw [eT]
    exact ⟨N, ((((Keep.refl h0 []).ext E1).ext E2).trans K3 (allS (Or.inr (by omega)) all0)), sx, rfl, Q3⟩
  · show GlH p e below _ _ sT _ _ _ _ (T.setTop (mkF m 0 #[.val (.int (1 : Int32)), .val (.int ca), .val (.int cb)] []))
    refine GlH.by (fun t_ k_ => XS.iloadN X.here hx rfl (hb hby d2_0) rfl k_) ?_
    show GlH p e below _ _ sT _ _ _ _ (T.setTop (mkF m 1 #[.val (.int (1 : Int32)), .val (.int ca), .val (.int cb)] [(.int (1 : Int32))]))
    refine GlH.by (fun t_ k_ => XS.ifYes X.here hx rfl (pc0 := 1) (pc' := 15) rfl (hb hby d2_1) rfl ((if0 _ _).trans (feq (by decide : ¬ (1 : Int32) = 0)).2) (by decide) (by decide) k_) ?_
    show GlH p e below _ _ sT _ _ _ _ (T.setTop (mkF m 15 #[.val (.int (1 : Int32)), .val (.int ca), .val (.int cb)] []))
    refine GlH.by (fun t_ k_ => XS.iloadN X.here hx rfl (hb hby d2_15) rfl k_) ?_
    show GlH p e below _ _ sT _ _ _ _ (T.setTop (mkF m 16 #[.val (.int (1 : Int32)), .val (.int ca), .val (.int cb)] [(.int (1 : Int32))]))
    refine GlH.by (fun t_ k_ => XS.iconst X.here hx rfl (hb hby d2_16) k_) ?_
    show GlH p e below _ _ sT _ _ _ _ (T.setTop (mkF m 17 #[.val (.int (1 : Int32)), .val (.int ca), .val (.int cb)] [(.int (1 : Int32)), (.int (1 : Int32))]))
    refine GlH.by (fun t_ k_ => XS.icmpNo X.here hx rfl (hb hby d2_17) rfl (teq (rfl : (1 : Int32) = 1)).2 k_) ?_
    show GlH p e below _ _ sT _ _ _ _ (T.setTop (mkF m 20 #[.val (.int (1 : Int32)), .val (.int ca), .val (.int cb)] []))
    refine GlH.by (fun t_ k_ => XS.iloadN X.here hx rfl (hb hby d2_20) rfl k_) ?_
    show GlH p e below _ _ sT _ _ _ _ (T.setTop (mkF m 21 #[.val (.int (1 : Int32)), .val (.int ca), .val (.int cb)] [(.int ca)]))
    refine GlH.stat X hx hZ hown (hw _ (List.mem_of_getElem? (i := 265) rfl)) (hw _ (List.mem_of_getElem? (i := 266) rfl)) (hw _ (List.mem_of_getElem? (i := 10) rfl)) (hw _ (List.mem_of_getElem? (i := 267) rfl)) (by decide) (W := 0) (backC (own_vof l Z a0 hw ca z h0 n0 Z0 ha.2 S hz O) hZ (hw _ (List.mem_of_getElem? (i := 267) rfl)) (hw _ (List.mem_of_getElem? (i := 10) rfl)) (by decide) (by decide)) eT (hb hby d2_21) (by rw [hml]; rfl) [(.int ca)] [] (lenOf pd_22 rfl) rfl rfl (Nat.le_of_eq rfl) (by decide) (by decide) ?_
    intro v T L X hq
    obtain ⟨NQ, K4, sx, rfl, Q4⟩ := hq
    have N := Fr.app N NQ
    obtain ⟨h4, eT⟩ : ∃ z, T.heap = z := ⟨_, rfl⟩
    rw [eT] at K4 Q4
    have sz4 := K4.1
    have B := B.keep K4 (fun _ q => by cases q)
    show GlH p e below _ _ sT _ _ _ _ (T.setTop (mkF m 24 #[.val (.int (1 : Int32)), .val (.int ca), .val (.int cb)] [(.ref sx)]))
    refine GlH.retA X B eT hZ hEL hx hlk hret rfl rfl (hb hby d2_24) (by decide) (by decide) ?_
    rw [eT]
    exact ⟨N, ((Keep.refl h0 []).trans K4 all0), sx, rfl, Q4⟩
  · show GlH p e below _ _ sT _ _ _ _ (T.setTop (mkF m 0 #[.val (.int (2 : Int32)), .val (.int ca), .val (.int cb)] []))
    refine GlH.by (fun t_ k_ => XS.iloadN X.here hx rfl (hb hby d2_0) rfl k_) ?_
    show GlH p e below _ _ sT _ _ _ _ (T.setTop (mkF m 1 #[.val (.int (2 : Int32)), .val (.int ca), .val (.int cb)] [(.int (2 : Int32))]))
    refine GlH.by (fun t_ k_ => XS.ifYes X.here hx rfl (pc0 := 1) (pc' := 15) rfl (hb hby d2_1) rfl ((if0 _ _).trans (feq (by decide : ¬ (2 : Int32) = 0)).2) (by decide) (by decide) k_) ?_
    show GlH p e below _ _ sT _ _ _ _ (T.setTop (mkF m 15 #[.val (.int (2 : Int32)), .val (.int ca), .val (.int cb)] []))
    refine GlH.by (fun t_ k_ => XS.iloadN X.here hx rfl (hb hby d2_15) rfl k_) ?_
    show GlH p e below _ _ sT _ _ _ _ (T.setTop (mkF m 16 #[.val (.int (2 : Int32)), .val (.int ca), .val (.int cb)] [(.int (2 : Int32))]))
    refine GlH.by (fun t_ k_ => XS.iconst X.here hx rfl (hb hby d2_16) k_) ?_
    show GlH p e below _ _ sT _ _ _ _ (T.setTop (mkF m 17 #[.val (.int (2 : Int32)), .val (.int ca), .val (.int cb)] [(.int (1 : Int32)), (.int (2 : Int32))]))
    refine GlH.by (fun t_ k_ => XS.icmpYes X.here hx rfl (pc0 := 17) (pc' := 25) rfl (hb hby d2_17) rfl (feq (by decide : ¬ (2 : Int32) = 1)).2 (by decide) (by decide) k_) ?_
    show GlH p e below _ _ sT _ _ _ _ (T.setTop (mkF m 25 #[.val (.int (2 : Int32)), .val (.int ca), .val (.int cb)] []))
    obtain ⟨T, h5, X, eT, E5, A5, D5, -, st⟩ := newO X hx hZ hown (hw _ (List.mem_of_getElem? (i := 8) rfl)) (hw _ (List.mem_of_getElem? (i := 9) rfl)) (hw _ (List.mem_of_getElem? (i := 10) rfl)) eT (g := (mkF m 25 #[.val (.int (2 : Int32)), .val (.int ca), .val (.int cb)] [])) rfl (hb hby d2_25) (by decide) (by decide)
    obtain ⟨sx, g5⟩ : ∃ z, z = h0.size := ⟨_, rfl⟩
    rw [← g5] at A5 D5 st
    have sz5 := E5.1
    have lt5 : sx < h5.size := A5.lt
    refine GlH.by st ?_
    have SF_sx := SafeX.ext (Safe.new (x := sx) (by omega)) B E5
    have B := B.ext E5
    have F5_coder : Fld Z h5 sx "java/lang/String" "coder" "B" (.int (0 : Int32)) := D5 (Or.inr (hw _ (List.mem_of_getElem? (i := 35) rfl))) (ty := .byte) (by decide)
    have F5_value : Fld Z h5 sx "java/lang/String" "value" "[B" .null := D5 (Or.inr (hw _ (List.mem_of_getElem? (i := 37) rfl))) (ty := (.array .byte)) (by decide)
    show GlH p e below _ _ sT _ _ _ _ (T.setTop (mkF m 28 #[.val (.int (2 : Int32)), .val (.int ca), .val (.int cb)] [(.ref sx)]))
    refine GlH.by (fun t_ k_ => XS.dup X.here hx rfl (hb hby d2_28) rfl rfl k_) ?_
    show GlH p e below _ _ sT _ _ _ _ (T.setTop (mkF m 29 #[.val (.int (2 : Int32)), .val (.int ca), .val (.int cb)] [(.ref sx), (.ref sx)]))
    refine GlH.by (fun t_ k_ => XS.iconst X.here hx rfl (hb hby d2_29) k_) ?_
    show GlH p e below _ _ sT _ _ _ _ (T.setTop (mkF m 30 #[.val (.int (2 : Int32)), .val (.int ca), .val (.int cb)] [(.int (2 : Int32)), (.ref sx), (.ref sx)]))
    obtain ⟨T, h6, k6, X, eT, E6, A6, st⟩ := newP X hx hZ (hw _ (List.mem_of_getElem? (i := 11) rfl)) eT (g := (mkF m 30 #[.val (.int (2 : Int32)), .val (.int ca), .val (.int cb)] [(.int (2 : Int32)), (.ref sx), (.ref sx)])) rfl (hb hby d2_30) rfl (by decide) (cap := 2) (by decide) (by decide) (by decide) (by decide)
    obtain ⟨ch, g6⟩ : ∃ z, z = h5.size := ⟨_, rfl⟩
    rw [← g6] at A6 st
    have sz6 := E6.1
    have lt6 : ch < h6.size := A6.lt
    have V6 : Arv Z h6 ch k6 .char (2 : Int32) [(.int (0 : Int32)), (.int (0 : Int32))] (.int (0 : Int32)) := (Arv.new A6 (by decide)).pad (pad_rep [] (.int (0 : Int32)) 2)
    refine GlH.by st ?_
    have SG_sx := SafeX.ext SF_sx B E6
    have B := B.ext E6
    have SF_sx := SG_sx
    show GlH p e below _ _ sT _ _ _ _ (T.setTop (mkF m 32 #[.val (.int (2 : Int32)), .val (.int ca), .val (.int cb)] [(.ref ch), (.ref sx), (.ref sx)]))
    refine GlH.by (fun t_ k_ => XS.dup X.here hx rfl (hb hby d2_32) rfl rfl k_) ?_
    show GlH p e below _ _ sT _ _ _ _ (T.setTop (mkF m 33 #[.val (.int (2 : Int32)), .val (.int ca), .val (.int cb)] [(.ref ch), (.ref ch), (.ref sx), (.ref sx)]))
    refine GlH.by (fun t_ k_ => XS.iconst X.here hx rfl (hb hby d2_33) k_) ?_
    show GlH p e below _ _ sT _ _ _ _ (T.setTop (mkF m 34 #[.val (.int (2 : Int32)), .val (.int ca), .val (.int cb)] [(.int (0 : Int32)), (.ref ch), (.ref ch), (.ref sx), (.ref sx)]))
    refine GlH.by (fun t_ k_ => XS.iloadN X.here hx rfl (hb hby d2_34) rfl k_) ?_
    show GlH p e below _ _ sT _ _ _ _ (T.setTop (mkF m 35 #[.val (.int (2 : Int32)), .val (.int ca), .val (.int cb)] [(.int ca), (.int (0 : Int32)), (.ref ch), (.ref ch), (.ref sx), (.ref sx)]))
    obtain ⟨cl7, Ar7, q7, S7, M7, H7, G7⟩ := (id (V6) : Arv Z h6 ch k6 .char (2 : Int32) [(.int (0 : Int32)), (.int (0 : Int32))] (.int (0 : Int32)))
    obtain ⟨T, h7, X, eT, W7, st⟩ := stC X hx hZ eT Ar7 (j := (0 : Int32)) (inb_of S7 ⟨by decide, by decide⟩) (g := (mkF m 35 #[.val (.int (2 : Int32)), .val (.int ca), .val (.int cb)] [(.int ca), (.int (0 : Int32)), (.ref ch), (.ref ch), (.ref sx), (.ref sx)])) rfl rfl (hb hby d2_35)
    have V7 : Arv Z h7 ch k6 .char (2 : Int32) [(.int (nar .char ca)), (.int (0 : Int32))] (.int (0 : Int32)) := Arv.set Ar7 q7 S7 M7 H7 G7 (fits_nar_char _) W7 0 rfl (Nat.le_of_ble_eq_true rfl)
    have sz7 := (Keep.of_wr W7).1
    have N := Fr.snoc X N (by omega)
    refine GlH.by st ?_
    have SG_sx := SafeX.wr SF_sx B W7 (safe_arv hZ V6 (by decide))
    have B := B.wr W7 (safe_arv hZ V6 (by decide))
    have SF_sx := SG_sx
    show GlH p e below _ _ sT _ _ _ _ (T.setTop (mkF m 36 #[.val (.int (2 : Int32)), .val (.int ca), .val (.int cb)] [(.ref ch), (.ref sx), (.ref sx)]))
    refine GlH.by (fun t_ k_ => XS.dup X.here hx rfl (hb hby d2_36) rfl rfl k_) ?_
    show GlH p e below _ _ sT _ _ _ _ (T.setTop (mkF m 37 #[.val (.int (2 : Int32)), .val (.int ca), .val (.int cb)] [(.ref ch), (.ref ch), (.ref sx), (.ref sx)]))
    refine GlH.by (fun t_ k_ => XS.iconst X.here hx rfl (hb hby d2_37) k_) ?_
    show GlH p e below _ _ sT _ _ _ _ (T.setTop (mkF m 38 #[.val (.int (2 : Int32)), .val (.int ca), .val (.int cb)] [(.int (1 : Int32)), (.ref ch), (.ref ch), (.ref sx), (.ref sx)]))
    refine GlH.by (fun t_ k_ => XS.iloadN X.here hx rfl (hb hby d2_38) rfl k_) ?_
    show GlH p e below _ _ sT _ _ _ _ (T.setTop (mkF m 39 #[.val (.int (2 : Int32)), .val (.int ca), .val (.int cb)] [(.int cb), (.int (1 : Int32)), (.ref ch), (.ref ch), (.ref sx), (.ref sx)]))
    obtain ⟨cl8, Ar8, q8, S8, M8, H8, G8⟩ := (id (V7) : Arv Z h7 ch k6 .char (2 : Int32) [(.int (nar .char ca)), (.int (0 : Int32))] (.int (0 : Int32)))
    obtain ⟨T, h8, X, eT, W8, st⟩ := stC X hx hZ eT Ar8 (j := (1 : Int32)) (inb_of S8 ⟨by decide, by decide⟩) (g := (mkF m 39 #[.val (.int (2 : Int32)), .val (.int ca), .val (.int cb)] [(.int cb), (.int (1 : Int32)), (.ref ch), (.ref ch), (.ref sx), (.ref sx)])) rfl rfl (hb hby d2_39)
    have V8 : Arv Z h8 ch k6 .char (2 : Int32) [(.int (nar .char ca)), (.int (nar .char cb))] (.int (0 : Int32)) := Arv.set Ar8 q8 S8 M8 H8 G8 (fits_nar_char _) W8 1 rfl (Nat.le_of_ble_eq_true rfl)
    have sz8 := (Keep.of_wr W8).1
    have N := Fr.snoc X N (by omega)
    refine GlH.by st ?_
    have SG_sx := SafeX.wr SF_sx B W8 (safe_arv hZ V7 (by decide))
    have B := B.wr W8 (safe_arv hZ V7 (by decide))
    have SF_sx := SG_sx
    show GlH p e below _ _ sT _ _ _ _ (T.setTop (mkF m 40 #[.val (.int (2 : Int32)), .val (.int ca), .val (.int cb)] [(.ref ch), (.ref sx), (.ref sx)]))
    have V9 : Arv Z h8 ch k6 .char (2 : Int32) (([ca, cb] : List Int32).map Value.int) (.int 0) := by
      have q := V8
      rw [ha.1, hb_.1] at q
      exact q
    have O9 := ((((O.ext E5).ext E6).wr W7 (by omega)).wr W8 (by omega))
    refine GlH.spec X hx hZ rfl hown (hw _ (List.mem_of_getElem? (i := 12) rfl)) (hw _ (List.mem_of_getElem? (i := 13) rfl)) (hw _ (List.mem_of_getElem? (i := 14) rfl)) (by decide) (W := 1) (payNew (n := 2) (n0 := n0) hZ (own_words hw) (hw _ (List.mem_of_getElem? (i := 9) rfl)) ([ca, cb] : List Int32) (by omega) (by omega) (((A5.ext E6).wr W7).wr W8) (((F5_value.ext E6).other W7 (Or.inl (nea (by omega)))).other W8 (Or.inl (nea (by omega)))) (((F5_coder.ext E6).other W7 (Or.inl (nea (by omega)))).other W8 (Or.inl (nea (by omega)))) V9 S hz O9 rfl rfl (by decide) (by decide) hp (by decide) (by decide)) eT (hb hby d2_40) (by rw [hml]; rfl) sx [(.ref ch)] [(.ref sx)] (lenOf pd_21 rfl) rfl rfl (Nat.le_of_eq rfl) (by decide) (by decide) ?_
    intro v T L X hq
    obtain ⟨rfl, NQ, K10, SQ10⟩ := hq
    have N := Fr.app N NQ
    obtain ⟨h10, eT⟩ : ∃ z, T.heap = z := ⟨_, rfl⟩
    rw [eT] at K10 SQ10
    have sz10 := K10.1
    have SG_sx := SafeX.keep SF_sx B K10 (fun x hx => by rw [List.mem_singleton.mp hx]; exact SF_sx)
    have B := B.keep K10 (fun x hx => by rw [List.mem_singleton.mp hx]; exact SF_sx)
    have SF_sx := SG_sx
    show GlH p e below _ _ sT _ _ _ _ (T.setTop (mkF m 43 #[.val (.int (2 : Int32)), .val (.int ca), .val (.int cb)] [(.ref sx)]))
    refine GlH.retA X B eT hZ hEL hx hlk hret rfl rfl (hb hby d2_43) (by decide) (by decide) ?_
    rw [eT]
    exact ⟨N, ((((((Keep.refl h0 []).ext E5).ext E6).wr W7 (Or.inr (by omega))).wr W8 (Or.inr (by omega))).trans K10 (allS (Or.inr (by omega)) all0)), sx, rfl, SQ10⟩
abbrev own_rTI : Room := { frames := 3, cells := 1, slots := 2752, locals := 44 }
abbrev own_rEI : Room := { frames := 4, cells := 1, slots := 2752, locals := 60 }
abbrev own_rHE : Room := { frames := 5, cells := 1, slots := 2752, locals := 76 }
set_option maxRecDepth 65536 in
set_option maxHeartbeats 40000000 in
theorem own_thi (l : Launch) (Z : State) (a0 : Array Value) (hw : ∀ d ∈ tables_1, d.before a0 Z = true) (ex mx : Nat) (uv sv : Value) (h0 : Heap) (n0 : Nat) (Z0 : n0 ≤ ex) (O : Old Z n0 h0) (E : Exa Z h0 ex "com/example/intentio/intentio/hddl/HddlException") (U0 : Unt h0 ex) (F_cause : Fld Z h0 ex "java/lang/Throwable" "cause" "Ljava/lang/Throwable;" .null) (F_stackTrace : Fld Z h0 ex "java/lang/Throwable" "stackTrace" "[Ljava/lang/StackTraceElement;" .null) (F_suppressedExceptions : Fld Z h0 ex "java/lang/Throwable" "suppressedExceptions" "Ljava/util/List;" .null) (F_backtrace : Fld Z h0 ex "java/lang/Throwable" "backtrace" "Ljava/lang/Object;" .null) (F_detailMessage : Fld Z h0 ex "java/lang/Throwable" "detailMessage" "Ljava/lang/String;" .null) (F_line : Fld Z h0 ex "com/example/intentio/intentio/hddl/HddlException" "line" "I" (.int (0 : Int32))) (hst : l.stackTraces = true) (SU : Sta Z Z.heap "java/lang/Throwable" "UNASSIGNED_STACK" "[Ljava/lang/StackTraceElement;" uv) (hru : uv.isRef = true) (SS : Sta Z Z.heap "java/lang/Throwable" "SUPPRESSED_SENTINEL" "Ljava/util/List;" sv) (hrs : sv.isRef = true) :
    CtrK l Z (⟨"java/lang/Throwable", "<init>", "(Ljava/lang/String;)V"⟩ : MethodName) jdk_78_method_2_code 2 none [] own_rTI #[(.ref ex), (.ref mx)] h0 (fun v h L => v = none ∧ Fr n0 L ∧ Keep h0 h [ex] ∧ Exa Z h ex "com/example/intentio/intentio/hddl/HddlException" ∧ Fld Z h ex "com/example/intentio/intentio/hddl/HddlException" "line" "I" (.int 0) ∧ Fld Z h ex "java/lang/Throwable" "detailMessage" "Ljava/lang/String;" (.ref mx)) := by
  refine CtrK.intro (plainFor_of_name pn_7) #[.val (.ref ex), .val (.ref mx)] (fun m => by first | (simp [entryFrame, mkF, argsToLocals, Value.category]; done) | rfl) ?_
  intro p e s m below meth c T hx hby hml hown hnm hret hlk hZ hnamed X eT hsh kn
  have hown : s.vm.findClass "java/lang/Throwable" = some m.cls := hown
  have N := Fr.nil n0
  have lex : ex < h0.size := E.lt
  show Gl p e below s _ _ _ (T.setTop (mkF m 0 #[.val (.ref ex), .val (.ref mx)] []))
  refine Gl.by (fun t_ k_ => XS.aloadN X.here hx rfl (hb hby d36_0) rfl rfl k_) ?_
  show Gl p e below s _ _ _ (T.setTop (mkF m 1 #[.val (.ref ex), .val (.ref mx)] [(.ref ex)]))
  obtain ⟨T, X, eT, st⟩ := initO X hx hZ hown (hw _ (List.mem_of_getElem? (i := 187) rfl)) (hw _ (List.mem_of_getElem? (i := 20) rfl)) (hw _ (List.mem_of_getElem? (i := 21) rfl)) eT (g := (mkF m 1 #[.val (.ref ex), .val (.ref mx)] [(.ref ex)])) rfl (by rw [hml]; rfl) rfl (hb hby d36_1) (by decide) (W := 0) (by show 2 * 0 + _ ≤ _; exact Nat.le_of_eq rfl) (by decide)
  refine Gl.by st ?_
  show Gl p e below s _ _ _ (T.setTop (mkF m 4 #[.val (.ref ex), .val (.ref mx)] []))
  refine Gl.by (fun t_ k_ => XS.aloadN X.here hx rfl (hb hby d36_4) rfl rfl k_) ?_
  show Gl p e below s _ _ _ (T.setTop (mkF m 5 #[.val (.ref ex), .val (.ref mx)] [(.ref ex)]))
  refine Gl.by (fun t_ k_ => XS.aloadN X.here hx rfl (hb hby d36_5) rfl rfl k_) ?_
  show Gl p e below s _ _ _ (T.setTop (mkF m 6 #[.val (.ref ex), .val (.ref mx)] [(.ref ex), (.ref ex)]))
  obtain ⟨T, h1, X, eT, W1, st⟩ := putF X hx hZ hown (host := "") (Or.inl (hw _ (List.mem_of_getElem? (i := 188) rfl))) Via.refl eT F_cause E (Or.inl (hw _ (List.mem_of_getElem? (i := 189) rfl))) (hw _ (List.mem_of_getElem? (i := 43) rfl)) (ty := (.object "java/lang/Throwable")) (by decide) rfl rfl (g := (mkF m 6 #[.val (.ref ex), .val (.ref mx)] [(.ref ex), (.ref ex)])) rfl rfl (hb hby d36_6)
  have F1_cause : Fld Z h1 ex "java/lang/Throwable" "cause" "Ljava/lang/Throwable;" (.ref ex) := Fld.same W1 F_cause
  have sz1 := (Keep.of_wr W1).1
  have N := Fr.snoc X N (by omega)
  refine Gl.by st ?_
  show Gl p e below s _ _ _ (T.setTop (mkF m 9 #[.val (.ref ex), .val (.ref mx)] []))
  refine Gl.by (fun t_ k_ => XS.aloadN X.here hx rfl (hb hby d36_9) rfl rfl k_) ?_
  show Gl p e below s _ _ _ (T.setTop (mkF m 10 #[.val (.ref ex), .val (.ref mx)] [(.ref ex)]))
  obtain ⟨T, X, eT, st⟩ := getS2 X hx hZ hown (host := "") (Or.inl (hw _ (List.mem_of_getElem? (i := 190) rfl))) Via.refl eT ((SU.ext O.2).wr W1) (g := (mkF m 10 #[.val (.ref ex), .val (.ref mx)] [(.ref ex)])) rfl (hb hby d36_10)
  refine Gl.by st ?_
  show Gl p e below s _ _ _ (T.setTop (mkF m 13 #[.val (.ref ex), .val (.ref mx)] [uv, (.ref ex)]))
  obtain ⟨T, h2, X, eT, W2, st⟩ := putF X hx hZ hown (host := "") (Or.inl (hw _ (List.mem_of_getElem? (i := 191) rfl))) Via.refl eT (F_stackTrace.other W1 (Or.inr (slot_ne (C := "com/example/intentio/intentio/hddl/HddlException") (Or.inl (hw _ (List.mem_of_getElem? (i := 192) rfl))) (Or.inl (hw _ (List.mem_of_getElem? (i := 189) rfl))) (by decide) (t := (.array (.object "java/lang/StackTraceElement"))) (t' := (.object "java/lang/Throwable")) (by decide) (by decide)))) (E.wr W1) (Or.inl (hw _ (List.mem_of_getElem? (i := 192) rfl))) (hw _ (List.mem_of_getElem? (i := 43) rfl)) (ty := (.array (.object "java/lang/StackTraceElement"))) (by decide) (narrow_isRef _ hru) (fits_refV_array _ (⟨uv, hru⟩ : RefV)) (g := (mkF m 13 #[.val (.ref ex), .val (.ref mx)] [uv, (.ref ex)])) rfl rfl (hb hby d36_13)
  have F2_stackTrace : Fld Z h2 ex "java/lang/Throwable" "stackTrace" "[Ljava/lang/StackTraceElement;" uv := Fld.same W2 (F_stackTrace.other W1 (Or.inr (slot_ne (C := "com/example/intentio/intentio/hddl/HddlException") (Or.inl (hw _ (List.mem_of_getElem? (i := 192) rfl))) (Or.inl (hw _ (List.mem_of_getElem? (i := 189) rfl))) (by decide) (t := (.array (.object "java/lang/StackTraceElement"))) (t' := (.object "java/lang/Throwable")) (by decide) (by decide))))
  have sz2 := (Keep.of_wr W2).1
  have N := Fr.snoc X N (by omega)
  refine Gl.by st ?_
  show Gl p e below s _ _ _ (T.setTop (mkF m 16 #[.val (.ref ex), .val (.ref mx)] []))
  refine Gl.by (fun t_ k_ => XS.aloadN X.here hx rfl (hb hby d36_16) rfl rfl k_) ?_
  show Gl p e below s _ _ _ (T.setTop (mkF m 17 #[.val (.ref ex), .val (.ref mx)] [(.ref ex)]))
  obtain ⟨T, X, eT, st⟩ := getS2 X hx hZ hown (host := "") (Or.inl (hw _ (List.mem_of_getElem? (i := 193) rfl))) Via.refl eT (((SS.ext O.2).wr W1).wr W2) (g := (mkF m 17 #[.val (.ref ex), .val (.ref mx)] [(.ref ex)])) rfl (hb hby d36_17)
  refine Gl.by st ?_
  show Gl p e below s _ _ _ (T.setTop (mkF m 20 #[.val (.ref ex), .val (.ref mx)] [sv, (.ref ex)]))
  obtain ⟨T, h3, X, eT, W3, st⟩ := putF X hx hZ hown (host := "") (Or.inl (hw _ (List.mem_of_getElem? (i := 194) rfl))) Via.refl eT ((F_suppressedExceptions.other W1 (Or.inr (slot_ne (C := "com/example/intentio/intentio/hddl/HddlException") (Or.inl (hw _ (List.mem_of_getElem? (i := 195) rfl))) (Or.inl (hw _ (List.mem_of_getElem? (i := 189) rfl))) (by decide) (t := (.object "java/util/List")) (t' := (.object "java/lang/Throwable")) (by decide) (by decide)))).other W2 (Or.inr (slot_ne (C := "com/example/intentio/intentio/hddl/HddlException") (Or.inl (hw _ (List.mem_of_getElem? (i := 195) rfl))) (Or.inl (hw _ (List.mem_of_getElem? (i := 192) rfl))) (by decide) (t := (.object "java/util/List")) (t' := (.array (.object "java/lang/StackTraceElement"))) (by decide) (by decide)))) ((E.wr W1).wr W2) (Or.inl (hw _ (List.mem_of_getElem? (i := 195) rfl))) (hw _ (List.mem_of_getElem? (i := 43) rfl)) (ty := (.object "java/util/List")) (by decide) narR (fitsR hrs) (g := (mkF m 20 #[.val (.ref ex), .val (.ref mx)] [sv, (.ref ex)])) rfl rfl (hb hby d36_20)
  have F3_suppressedExceptions : Fld Z h3 ex "java/lang/Throwable" "suppressedExceptions" "Ljava/util/List;" sv := Fld.same W3 ((F_suppressedExceptions.other W1 (Or.inr (slot_ne (C := "com/example/intentio/intentio/hddl/HddlException") (Or.inl (hw _ (List.mem_of_getElem? (i := 195) rfl))) (Or.inl (hw _ (List.mem_of_getElem? (i := 189) rfl))) (by decide) (t := (.object "java/util/List")) (t' := (.object "java/lang/Throwable")) (by decide) (by decide)))).other W2 (Or.inr (slot_ne (C := "com/example/intentio/intentio/hddl/HddlException") (Or.inl (hw _ (List.mem_of_getElem? (i := 195) rfl))) (Or.inl (hw _ (List.mem_of_getElem? (i := 192) rfl))) (by decide) (t := (.object "java/util/List")) (t' := (.array (.object "java/lang/StackTraceElement"))) (by decide) (by decide))))
  have sz3 := (Keep.of_wr W3).1
  have N := Fr.snoc X N (by omega)
  refine Gl.by st ?_
  show Gl p e below s _ _ _ (T.setTop (mkF m 23 #[.val (.ref ex), .val (.ref mx)] []))
  refine Gl.by (fun t_ k_ => XS.aloadN X.here hx rfl (hb hby d36_23) rfl rfl k_) ?_
  show Gl p e below s _ _ _ (T.setTop (mkF m 24 #[.val (.ref ex), .val (.ref mx)] [(.ref ex)]))
  obtain ⟨T, h4, L_, X, eT, N, K4, TR4, st⟩ := fill_step X hx hst hZ kn hown (rc := "com/example/intentio/intentio/hddl/HddlException") (own_thw hw) (hw _ (List.mem_of_getElem? (i := 43) rfl)) O hsh eT (a := ex) (by simp) (by rw [wr_size W3, wr_size W2, wr_size W1]) N Z0 (((E.wr W1).wr W2).wr W3) (Unt.wr W3 (Unt.wr W2 (Unt.wr W1 U0))) hru ((((SU.ext O.2).wr W1).wr W2).wr W3) (F2_stackTrace.other W3 (Or.inr (slot_ne (C := "com/example/intentio/intentio/hddl/HddlException") (Or.inl (hw _ (List.mem_of_getElem? (i := 192) rfl))) (Or.inl (hw _ (List.mem_of_getElem? (i := 195) rfl))) (by decide) (t := (.array (.object "java/lang/StackTraceElement"))) (t' := (.object "java/util/List")) (by decide) (by decide)))) (((F_backtrace.other W1 (Or.inr (slot_ne (C := "com/example/intentio/intentio/hddl/HddlException") (Or.inl (hw _ (List.mem_of_getElem? (i := 220) rfl))) (Or.inl (hw _ (List.mem_of_getElem? (i := 189) rfl))) (by decide) (t := (.object "java/lang/Object")) (t' := (.object "java/lang/Throwable")) (by decide) (by decide)))).other W2 (Or.inr (slot_ne (C := "com/example/intentio/intentio/hddl/HddlException") (Or.inl (hw _ (List.mem_of_getElem? (i := 220) rfl))) (Or.inl (hw _ (List.mem_of_getElem? (i := 192) rfl))) (by decide) (t := (.object "java/lang/Object")) (t' := (.array (.object "java/lang/StackTraceElement"))) (by decide) (by decide)))).other W3 (Or.inr (slot_ne (C := "com/example/intentio/intentio/hddl/HddlException") (Or.inl (hw _ (List.mem_of_getElem? (i := 220) rfl))) (Or.inl (hw _ (List.mem_of_getElem? (i := 195) rfl))) (by decide) (t := (.object "java/lang/Object")) (t' := (.object "java/util/List")) (by decide) (by decide)))) (pc := 24) (Ls := #[.val (.ref ex), .val (.ref mx)]) (by rw [hml]; rfl) (hb hby d36_24) (by decide) (by decide) (by decide) (by decide)
  have sz4 := K4.1
  have FT_line : Fld Z h4 ex "com/example/intentio/intentio/hddl/HddlException" "line" "I" (.int (0 : Int32)) := (TR4 (((F_line.other W1 (Or.inr (slot_ne (C := "com/example/intentio/intentio/hddl/HddlException") (Or.inr (hw _ (List.mem_of_getElem? (i := 225) rfl))) (Or.inl (hw _ (List.mem_of_getElem? (i := 189) rfl))) (by decide) (t := .int) (t' := (.object "java/lang/Throwable")) (by decide) (by decide)))).other W2 (Or.inr (slot_ne (C := "com/example/intentio/intentio/hddl/HddlException") (Or.inr (hw _ (List.mem_of_getElem? (i := 225) rfl))) (Or.inl (hw _ (List.mem_of_getElem? (i := 192) rfl))) (by decide) (t := .int) (t' := (.array (.object "java/lang/StackTraceElement"))) (by decide) (by decide)))).other W3 (Or.inr (slot_ne (C := "com/example/intentio/intentio/hddl/HddlException") (Or.inr (hw _ (List.mem_of_getElem? (i := 225) rfl))) (Or.inl (hw _ (List.mem_of_getElem? (i := 195) rfl))) (by decide) (t := .int) (t' := (.object "java/util/List")) (by decide) (by decide)))) (slot_ne (C := "com/example/intentio/intentio/hddl/HddlException") (Or.inl (hw _ (List.mem_of_getElem? (i := 220) rfl))) (Or.inr (hw _ (List.mem_of_getElem? (i := 225) rfl))) (by decide) (t := (.object "java/lang/Object")) (t' := .int) (by decide) (by decide)) (slot_ne (C := "com/example/intentio/intentio/hddl/HddlException") (Or.inl (hw _ (List.mem_of_getElem? (i := 221) rfl))) (Or.inr (hw _ (List.mem_of_getElem? (i := 225) rfl))) (by decide) (t := .int) (t' := .int) (by decide) (by decide)) (slot_ne (C := "com/example/intentio/intentio/hddl/HddlException") (Or.inl (hw _ (List.mem_of_getElem? (i := 192) rfl))) (Or.inr (hw _ (List.mem_of_getElem? (i := 225) rfl))) (by decide) (t := (.array (.object "java/lang/StackTraceElement"))) (t' := .int) (by decide) (by decide)))
  have FT_detailMessage : Fld Z h4 ex "java/lang/Throwable" "detailMessage" "Ljava/lang/String;" .null := (TR4 (((F_detailMessage.other W1 (Or.inr (slot_ne (C := "com/example/intentio/intentio/hddl/HddlException") (Or.inl (hw _ (List.mem_of_getElem? (i := 219) rfl))) (Or.inl (hw _ (List.mem_of_getElem? (i := 189) rfl))) (by decide) (t := (.object "java/lang/String")) (t' := (.object "java/lang/Throwable")) (by decide) (by decide)))).other W2 (Or.inr (slot_ne (C := "com/example/intentio/intentio/hddl/HddlException") (Or.inl (hw _ (List.mem_of_getElem? (i := 219) rfl))) (Or.inl (hw _ (List.mem_of_getElem? (i := 192) rfl))) (by decide) (t := (.object "java/lang/String")) (t' := (.array (.object "java/lang/StackTraceElement"))) (by decide) (by decide)))).other W3 (Or.inr (slot_ne (C := "com/example/intentio/intentio/hddl/HddlException") (Or.inl (hw _ (List.mem_of_getElem? (i := 219) rfl))) (Or.inl (hw _ (List.mem_of_getElem? (i := 195) rfl))) (by decide) (t := (.object "java/lang/String")) (t' := (.object "java/util/List")) (by decide) (by decide)))) (slot_ne (C := "com/example/intentio/intentio/hddl/HddlException") (Or.inl (hw _ (List.mem_of_getElem? (i := 220) rfl))) (Or.inl (hw _ (List.mem_of_getElem? (i := 219) rfl))) (by decide) (t := (.object "java/lang/Object")) (t' := (.object "java/lang/String")) (by decide) (by decide)) (slot_ne (C := "com/example/intentio/intentio/hddl/HddlException") (Or.inl (hw _ (List.mem_of_getElem? (i := 221) rfl))) (Or.inl (hw _ (List.mem_of_getElem? (i := 219) rfl))) (by decide) (t := .int) (t' := (.object "java/lang/String")) (by decide) (by decide)) (slot_ne (C := "com/example/intentio/intentio/hddl/HddlException") (Or.inl (hw _ (List.mem_of_getElem? (i := 192) rfl))) (Or.inl (hw _ (List.mem_of_getElem? (i := 219) rfl))) (by decide) (t := (.array (.object "java/lang/StackTraceElement"))) (t' := (.object "java/lang/String")) (by decide) (by decide)))
  refine Gl.by st ?_
  show Gl p e below s _ _ _ (T.setTop (mkF m 27 #[.val (.ref ex), .val (.ref mx)] [(.ref ex)]))
  refine Gl.by (fun t_ k_ => XS.pop X.here hx rfl (hb hby d36_27) rfl rfl k_) ?_
  show Gl p e below s _ _ _ (T.setTop (mkF m 28 #[.val (.ref ex), .val (.ref mx)] []))
  refine Gl.by (fun t_ k_ => XS.aloadN X.here hx rfl (hb hby d36_28) rfl rfl k_) ?_
  show Gl p e below s _ _ _ (T.setTop (mkF m 29 #[.val (.ref ex), .val (.ref mx)] [(.ref ex)]))
  refine Gl.by (fun t_ k_ => XS.aloadN X.here hx rfl (hb hby d36_29) rfl rfl k_) ?_
  show Gl p e below s _ _ _ (T.setTop (mkF m 30 #[.val (.ref ex), .val (.ref mx)] [(.ref mx), (.ref ex)]))
  obtain ⟨T, h5, X, eT, W5, st⟩ := putF X hx hZ hown (host := "") (Or.inl (hw _ (List.mem_of_getElem? (i := 223) rfl))) Via.refl eT FT_detailMessage ((((E.wr W1).wr W2).wr W3).keep K4) (Or.inl (hw _ (List.mem_of_getElem? (i := 219) rfl))) (hw _ (List.mem_of_getElem? (i := 43) rfl)) (ty := (.object "java/lang/String")) (by decide) rfl rfl (g := (mkF m 30 #[.val (.ref ex), .val (.ref mx)] [(.ref mx), (.ref ex)])) rfl rfl (hb hby d36_30)
  have F5_detailMessage : Fld Z h5 ex "java/lang/Throwable" "detailMessage" "Ljava/lang/String;" (.ref mx) := Fld.same W5 FT_detailMessage
  have sz5 := (Keep.of_wr W5).1
  have N := Fr.snoc X N (by omega)
  refine Gl.by st ?_
  show Gl p e below s _ _ _ (T.setTop (mkF m 33 #[.val (.ref ex), .val (.ref mx)] []))
  refine Gl.retV X hx hlk hret (hb hby d36_33) (by decide) (by decide) ?_
  rw [eT]
  exact ⟨rfl, N, ((((((Keep.refl h0 [ex]).wr W1 (Or.inl (by simp))).wr W2 (Or.inl (by simp))).wr W3 (Or.inl (by simp))).trans K4 (allS (Or.inl (by simp)) all0)).wr W5 (Or.inl (by simp))), (((((E.wr W1).wr W2).wr W3).keep K4).wr W5), (FT_line.other W5 (Or.inr (slot_ne (C := "com/example/intentio/intentio/hddl/HddlException") (Or.inr (hw _ (List.mem_of_getElem? (i := 225) rfl))) (Or.inl (hw _ (List.mem_of_getElem? (i := 219) rfl))) (by decide) (t := .int) (t' := (.object "java/lang/String")) (by decide) (by decide)))), F5_detailMessage⟩
set_option maxRecDepth 65536 in
set_option maxHeartbeats 40000000 in
theorem own_exi (l : Launch) (Z : State) (a0 : Array Value) (hw : ∀ d ∈ tables_1, d.before a0 Z = true) (ex mx : Nat) (uv sv : Value) (h0 : Heap) (n0 : Nat) (Z0 : n0 ≤ ex) (O : Old Z n0 h0) (E : Exa Z h0 ex "com/example/intentio/intentio/hddl/HddlException") (U0 : Unt h0 ex) (F_cause : Fld Z h0 ex "java/lang/Throwable" "cause" "Ljava/lang/Throwable;" .null) (F_stackTrace : Fld Z h0 ex "java/lang/Throwable" "stackTrace" "[Ljava/lang/StackTraceElement;" .null) (F_suppressedExceptions : Fld Z h0 ex "java/lang/Throwable" "suppressedExceptions" "Ljava/util/List;" .null) (F_backtrace : Fld Z h0 ex "java/lang/Throwable" "backtrace" "Ljava/lang/Object;" .null) (F_detailMessage : Fld Z h0 ex "java/lang/Throwable" "detailMessage" "Ljava/lang/String;" .null) (F_line : Fld Z h0 ex "com/example/intentio/intentio/hddl/HddlException" "line" "I" (.int (0 : Int32))) (hst : l.stackTraces = true) (SU : Sta Z Z.heap "java/lang/Throwable" "UNASSIGNED_STACK" "[Ljava/lang/StackTraceElement;" uv) (hru : uv.isRef = true) (SS : Sta Z Z.heap "java/lang/Throwable" "SUPPRESSED_SENTINEL" "Ljava/util/List;" sv) (hrs : sv.isRef = true) :
    CtrK l Z (⟨"java/lang/Exception", "<init>", "(Ljava/lang/String;)V"⟩ : MethodName) jdk_59_method_2_code 2 none [] own_rEI #[(.ref ex), (.ref mx)] h0 (fun v h L => v = none ∧ Fr n0 L ∧ Keep h0 h [ex] ∧ Exa Z h ex "com/example/intentio/intentio/hddl/HddlException" ∧ Fld Z h ex "com/example/intentio/intentio/hddl/HddlException" "line" "I" (.int 0) ∧ Fld Z h ex "java/lang/Throwable" "detailMessage" "Ljava/lang/String;" (.ref mx)) := by
  refine CtrK.intro (plainFor_of_name pn_8) #[.val (.ref ex), .val (.ref mx)] (fun m => by first | (simp [entryFrame, mkF, argsToLocals, Value.category]; done) | rfl) ?_
  intro p e s m below meth c T hx hby hml hown hnm hret hlk hZ hnamed X eT hsh kn
  have hown : s.vm.findClass "java/lang/Exception" = some m.cls := hown
  have N := Fr.nil n0
  show Gl p e below s _ _ _ (T.setTop (mkF m 0 #[.val (.ref ex), .val (.ref mx)] []))
  refine Gl.by (fun t_ k_ => XS.aloadN X.here hx rfl (hb hby d35_0) rfl rfl k_) ?_
  show Gl p e below s _ _ _ (T.setTop (mkF m 1 #[.val (.ref ex), .val (.ref mx)] [(.ref ex)]))
  refine Gl.by (fun t_ k_ => XS.aloadN X.here hx rfl (hb hby d35_1) rfl rfl k_) ?_
  show Gl p e below s _ _ _ (T.setTop (mkF m 2 #[.val (.ref ex), .val (.ref mx)] [(.ref mx), (.ref ex)]))
  refine Gl.spec X hx hZ rfl hown (hw _ (List.mem_of_getElem? (i := 181) rfl)) (hw _ (List.mem_of_getElem? (i := 182) rfl)) (hw _ (List.mem_of_getElem? (i := 186) rfl)) (by decide) (W := 0) (backK (own_thi l Z a0 hw ex mx uv sv h0 n0 Z0 O E U0 F_cause F_stackTrace F_suppressedExceptions F_backtrace F_detailMessage F_line hst SU hru SS hrs) kn hZ (hw _ (List.mem_of_getElem? (i := 186) rfl)) (hw _ (List.mem_of_getElem? (i := 185) rfl)) (by decide) (by decide)) eT (hb hby d35_2) (by rw [hml]; rfl) ex [(.ref mx)] [] (lenOf pd_2 rfl) rfl rfl (Nat.le_of_eq rfl) (by decide) (by decide) ?_
  intro v T L X hq
  obtain ⟨rfl, NQ, K1, Q1⟩ := hq
  have N := Fr.app N NQ
  obtain ⟨h1, eT⟩ : ∃ z, T.heap = z := ⟨_, rfl⟩
  rw [eT] at K1 Q1
  have sz1 := K1.1
  show Gl p e below s _ _ _ (T.setTop (mkF m 5 #[.val (.ref ex), .val (.ref mx)] []))
  refine Gl.retV X hx hlk hret (hb hby d35_5) (by decide) (by decide) ?_
  rw [eT]
  exact ⟨rfl, N, K1, Q1⟩
set_option maxRecDepth 65536 in
set_option maxHeartbeats 40000000 in
theorem own_hei (l : Launch) (Z : State) (a0 : Array Value) (hw : ∀ d ∈ tables_1, d.before a0 Z = true) (ex mx : Nat) (li : Int32) (uv sv : Value) (h0 : Heap) (n0 : Nat) (Z0 : n0 ≤ ex) (O : Old Z n0 h0) (E : Exa Z h0 ex "com/example/intentio/intentio/hddl/HddlException") (U0 : Unt h0 ex) (F_cause : Fld Z h0 ex "java/lang/Throwable" "cause" "Ljava/lang/Throwable;" .null) (F_stackTrace : Fld Z h0 ex "java/lang/Throwable" "stackTrace" "[Ljava/lang/StackTraceElement;" .null) (F_suppressedExceptions : Fld Z h0 ex "java/lang/Throwable" "suppressedExceptions" "Ljava/util/List;" .null) (F_backtrace : Fld Z h0 ex "java/lang/Throwable" "backtrace" "Ljava/lang/Object;" .null) (F_detailMessage : Fld Z h0 ex "java/lang/Throwable" "detailMessage" "Ljava/lang/String;" .null) (F_line : Fld Z h0 ex "com/example/intentio/intentio/hddl/HddlException" "line" "I" (.int (0 : Int32))) (hst : l.stackTraces = true) (SU : Sta Z Z.heap "java/lang/Throwable" "UNASSIGNED_STACK" "[Ljava/lang/StackTraceElement;" uv) (hru : uv.isRef = true) (SS : Sta Z Z.heap "java/lang/Throwable" "SUPPRESSED_SENTINEL" "Ljava/util/List;" sv) (hrs : sv.isRef = true) :
    CtrK l Z (⟨"com/example/intentio/intentio/hddl/HddlException", "<init>", "(ILjava/lang/String;)V"⟩ : MethodName) prog_61_method_1_code 3 none [] own_rHE #[(.ref ex), (.int li), (.ref mx)] h0 (fun v h L => v = none ∧ Fr n0 L ∧ Keep h0 h [ex] ∧ Exa Z h ex "com/example/intentio/intentio/hddl/HddlException" ∧ Fld Z h ex "com/example/intentio/intentio/hddl/HddlException" "line" "I" (.int li) ∧ Fld Z h ex "java/lang/Throwable" "detailMessage" "Ljava/lang/String;" (.ref mx)) := by
  refine CtrK.intro (plainFor_of_name pn_9) #[.val (.ref ex), .val (.int li), .val (.ref mx)] (fun m => by first | (simp [entryFrame, mkF, argsToLocals, Value.category]; done) | rfl) ?_
  intro p e s m below meth c T hx hby hml hown hnm hret hlk hZ hnamed X eT hsh kn
  have hown : s.vm.findClass "com/example/intentio/intentio/hddl/HddlException" = some m.cls := hown
  have N := Fr.nil n0
  have lex : ex < h0.size := E.lt
  show Gl p e below s _ _ _ (T.setTop (mkF m 0 #[.val (.ref ex), .val (.int li), .val (.ref mx)] []))
  refine Gl.by (fun t_ k_ => XS.aloadN X.here hx rfl (hb hby d34_0) rfl rfl k_) ?_
  show Gl p e below s _ _ _ (T.setTop (mkF m 1 #[.val (.ref ex), .val (.int li), .val (.ref mx)] [(.ref ex)]))
  refine Gl.by (fun t_ k_ => XS.aloadN X.here hx rfl (hb hby d34_1) rfl rfl k_) ?_
  show Gl p e below s _ _ _ (T.setTop (mkF m 2 #[.val (.ref ex), .val (.int li), .val (.ref mx)] [(.ref mx), (.ref ex)]))
  refine Gl.spec X hx hZ rfl hown (hw _ (List.mem_of_getElem? (i := 176) rfl)) (hw _ (List.mem_of_getElem? (i := 177) rfl)) (hw _ (List.mem_of_getElem? (i := 180) rfl)) (by decide) (W := 0) (backK (own_exi l Z a0 hw ex mx uv sv h0 n0 Z0 O E U0 F_cause F_stackTrace F_suppressedExceptions F_backtrace F_detailMessage F_line hst SU hru SS hrs) kn hZ (hw _ (List.mem_of_getElem? (i := 180) rfl)) (hw _ (List.mem_of_getElem? (i := 179) rfl)) (by decide) (by decide)) eT (hb hby d34_2) (by rw [hml]; rfl) ex [(.ref mx)] [] (lenOf pd_2 rfl) rfl rfl (Nat.le_of_eq rfl) (by decide) (by decide) ?_
  intro v T L X hq
  obtain ⟨rfl, NQ, K1, QE1, QL1, QM1⟩ := hq
  have N := Fr.app N NQ
  obtain ⟨h1, eT⟩ : ∃ z, T.heap = z := ⟨_, rfl⟩
  rw [eT] at K1 QE1 QL1 QM1
  have sz1 := K1.1
  show Gl p e below s _ _ _ (T.setTop (mkF m 5 #[.val (.ref ex), .val (.int li), .val (.ref mx)] []))
  refine Gl.by (fun t_ k_ => XS.aloadN X.here hx rfl (hb hby d34_5) rfl rfl k_) ?_
  show Gl p e below s _ _ _ (T.setTop (mkF m 6 #[.val (.ref ex), .val (.int li), .val (.ref mx)] [(.ref ex)]))
  refine Gl.by (fun t_ k_ => XS.iloadN X.here hx rfl (hb hby d34_6) rfl k_) ?_
  show Gl p e below s _ _ _ (T.setTop (mkF m 7 #[.val (.ref ex), .val (.int li), .val (.ref mx)] [(.int li), (.ref ex)]))
  obtain ⟨T, h2, X, eT, W2, st⟩ := putF X hx hZ hown (host := "") (Or.inl (hw _ (List.mem_of_getElem? (i := 224) rfl))) Via.refl eT QL1 QE1 (Or.inr ⟨(hw _ (List.mem_of_getElem? (i := 225) rfl)), rfl, hnm⟩) (hw _ (List.mem_of_getElem? (i := 43) rfl)) (ty := .int) (by decide) rfl rfl (g := (mkF m 7 #[.val (.ref ex), .val (.int li), .val (.ref mx)] [(.int li), (.ref ex)])) rfl rfl (hb hby d34_7)
  have F2_line : Fld Z h2 ex "com/example/intentio/intentio/hddl/HddlException" "line" "I" (.int li) := Fld.same W2 QL1
  have sz2 := (Keep.of_wr W2).1
  have N := Fr.snoc X N (by omega)
  refine Gl.by st ?_
  show Gl p e below s _ _ _ (T.setTop (mkF m 10 #[.val (.ref ex), .val (.int li), .val (.ref mx)] []))
  refine Gl.retV X hx hlk hret (hb hby d34_10) (by decide) (by decide) ?_
  rw [eT]
  exact ⟨rfl, N, (((Keep.refl h0 [ex]).trans K1 (allS (Or.inl (by simp)) all0)).wr W2 (Or.inl (by simp))), (QE1.wr W2), F2_line, (QM1.other W2 (Or.inr (slot_ne (C := "com/example/intentio/intentio/hddl/HddlException") (Or.inl (hw _ (List.mem_of_getElem? (i := 219) rfl))) (Or.inr (hw _ (List.mem_of_getElem? (i := 225) rfl))) (by decide) (t := (.object "java/lang/String")) (t' := .int) (by decide) (by decide))))⟩
set_option maxRecDepth 65536 in
set_option maxHeartbeats 40000000 in
theorem own_line (l : Launch) (Z : State) (a0 : Array Value) (hw : ∀ d ∈ tables_1, d.before a0 Z = true) (r : Nat) (i : Int32) (h0 : Heap) (n0 : Nat)  (F : Fld Z h0 r "com/example/intentio/intentio/hddl/HddlException" "line" "I" (.int i)) :
    Ctr l Z (⟨"com/example/intentio/intentio/hddl/HddlException", "line", "()I"⟩ : MethodName) prog_61_method_2_code 1 (some .int) [] own_r0 #[(.ref r)] h0 (fun v h L => v = some (.int i) ∧ L = [] ∧ h = h0) := by
  refine Ctr.intro (plainFor_of_name pn_9) #[.val (.ref r)] (fun m => by first | (simp [entryFrame, mkF, argsToLocals, Value.category]; done) | rfl) ?_
  intro p e s m below meth c T hx hby hml hown hnm hret hlk hZ hnamed X eT
  have hown : s.vm.findClass "com/example/intentio/intentio/hddl/HddlException" = some m.cls := hown
  have N := Fr.nil n0
  show Gl p e below s _ _ _ (T.setTop (mkF m 0 #[.val (.ref r)] []))
  refine Gl.by (fun t_ k_ => XS.aloadN X.here hx rfl (hb hby d38_0) rfl rfl k_) ?_
  show Gl p e below s _ _ _ (T.setTop (mkF m 1 #[.val (.ref r)] [(.ref r)]))
  obtain ⟨T, X, eT, st⟩ := getF X hx hZ hown (host := "") (Or.inl (hw _ (List.mem_of_getElem? (i := 224) rfl))) Via.refl eT F (g := (mkF m 1 #[.val (.ref r)] [(.ref r)])) rfl rfl (hb hby d38_1)
  refine Gl.by st ?_
  show Gl p e below s _ _ _ (T.setTop (mkF m 4 #[.val (.ref r)] [(.int i)]))
  exact Gl.retI X hx hlk hret (hb hby d38_4) (by decide) (by decide) ⟨rfl, rfl, eT⟩
set_option maxRecDepth 65536 in
set_option maxHeartbeats 40000000 in
theorem own_gm (l : Launch) (Z : State) (a0 : Array Value) (hw : ∀ d ∈ tables_1, d.before a0 Z = true) (r : Nat) (mx : Nat) (h0 : Heap) (n0 : Nat)  (F : Fld Z h0 r "java/lang/Throwable" "detailMessage" "Ljava/lang/String;" (.ref mx)) :
    Ctr l Z (⟨"java/lang/Throwable", "getMessage", "()Ljava/lang/String;"⟩ : MethodName) jdk_78_method_6_code 1 (some (.object "java/lang/String")) [] own_r0 #[(.ref r)] h0 (fun v h L => v = some (.ref mx) ∧ L = [] ∧ h = h0) := by
  refine Ctr.intro (plainFor_of_name pn_7) #[.val (.ref r)] (fun m => by first | (simp [entryFrame, mkF, argsToLocals, Value.category]; done) | rfl) ?_
  intro p e s m below meth c T hx hby hml hown hnm hret hlk hZ hnamed X eT
  have hown : s.vm.findClass "java/lang/Throwable" = some m.cls := hown
  have N := Fr.nil n0
  show Gl p e below s _ _ _ (T.setTop (mkF m 0 #[.val (.ref r)] []))
  refine Gl.by (fun t_ k_ => XS.aloadN X.here hx rfl (hb hby d39_0) rfl rfl k_) ?_
  show Gl p e below s _ _ _ (T.setTop (mkF m 1 #[.val (.ref r)] [(.ref r)]))
  obtain ⟨T, X, eT, st⟩ := getF X hx hZ hown (host := "") (Or.inl (hw _ (List.mem_of_getElem? (i := 223) rfl))) Via.refl eT F (g := (mkF m 1 #[.val (.ref r)] [(.ref r)])) rfl rfl (hb hby d39_1)
  refine Gl.by st ?_
  show Gl p e below s _ _ _ (T.setTop (mkF m 4 #[.val (.ref r)] [(.ref mx)]))
  exact Gl.retA X hx hlk hret rfl rfl (hb hby d39_4) (by decide) (by decide) ⟨rfl, rfl, eT⟩
abbrev own_rND : Room := { frames := 7, cells := 11, slots := 2939, locals := 176 }
set_option maxRecDepth 65536 in
set_option maxHeartbeats 40000000 in
theorem own_nd (l : Launch) (Z : State) (a0 : Array Value) (hw : ∀ d ∈ tables_1, d.before a0 Z = true) (x1 x2 : Nat) (ks ns : List Int32) (li z : Int32) (uv sv : Value) (h0 : Heap) (n0 : Nat) (Z0 : n0 ≤ h0.size) (A1_ : Str Z h0 x1 ks) (A2_ : Str Z h0 x2 ns) (hk2 : ks.length ≤ 2) (hn2 : ns.length ≤ 2) (hst : l.stackTraces = true) (SU : Sta Z Z.heap "java/lang/Throwable" "UNASSIGNED_STACK" "[Ljava/lang/StackTraceElement;" uv) (hru : uv.isRef = true) (SS : Sta Z Z.heap "java/lang/Throwable" "SUPPRESSED_SENTINEL" "Ljava/util/List;" sv) (hrs : sv.isRef = true) (S : Sta Z Z.heap "java/lang/String" "COMPACT_STRINGS" "Z" (.int z)) (hz : ¬ z = 0) (O : Old Z n0 h0) :
    CtrHK l Z own_EL (⟨"com/example/intentio/intentio/hddl/Declarations", "notDeclared", "(ILjava/lang/String;Ljava/lang/String;)Lcom/example/intentio/intentio/hddl/HddlException;"⟩ : MethodName) prog_46_method_29_code 3 (some (.object "com/example/intentio/intentio/hddl/HddlException")) [] own_rND #[(.int li), (.ref x1), (.ref x2)] h0 (fun v h L => Fr n0 L ∧ Keep h0 h [] ∧ ∃ ex mx : Nat, v = some (.ref ex) ∧ Exa Z h ex "com/example/intentio/intentio/hddl/HddlException" ∧ Fld Z h ex "com/example/intentio/intentio/hddl/HddlException" "line" "I" (.int li) ∧ Fld Z h ex "java/lang/Throwable" "detailMessage" "Ljava/lang/String;" (.ref mx) ∧ Str Z h mx (((ks ++ [32]) ++ ns) ++ own_TL)) := by
  have hEL := own_ew hw
  refine CtrHK.intro (plainFor_of_name pn_10) #[.val (.int li), .val (.ref x1), .val (.ref x2)] (fun m => by first | (simp [entryFrame, mkF, argsToLocals, Value.category]; done) | rfl) ?_
  intro p e sT m below meth c s T hx hby hml hown hnm hret hlk hZ hnamed X eT B kn
  have hown : s.vm.findClass "com/example/intentio/intentio/hddl/Declarations" = some m.cls := hown
  have N := Fr.nil n0
  show GlH p e below _ _ sT _ _ _ _ (T.setTop (mkF m 0 #[.val (.int li), .val (.ref x1), .val (.ref x2)] []))
  obtain ⟨T, h1, X, eT, E1, A1, D1, U1, st⟩ := newO X hx hZ hown (hw _ (List.mem_of_getElem? (i := 42) rfl)) (hw _ (List.mem_of_getElem? (i := 43) rfl)) (hw _ (List.mem_of_getElem? (i := 44) rfl)) eT (g := (mkF m 0 #[.val (.int li), .val (.ref x1), .val (.ref x2)] [])) rfl (hb hby d9_0) (by decide) (by decide)
  obtain ⟨ex, g1⟩ : ∃ z, z = h0.size := ⟨_, rfl⟩
  rw [← g1] at A1 D1 U1 st
  have sz1 := E1.1
  have lt1 : ex < h1.size := A1.lt
  refine GlH.by st ?_
  have B := B.ext E1
  have U1 : Unt h1 ex := U1
  have F1_cause : Fld Z h1 ex "java/lang/Throwable" "cause" "Ljava/lang/Throwable;" .null := D1 (Or.inl (hw _ (List.mem_of_getElem? (i := 189) rfl))) (ty := (.object "java/lang/Throwable")) (by decide)
  have F1_stackTrace : Fld Z h1 ex "java/lang/Throwable" "stackTrace" "[Ljava/lang/StackTraceElement;" .null := D1 (Or.inl (hw _ (List.mem_of_getElem? (i := 192) rfl))) (ty := (.array (.object "java/lang/StackTraceElement"))) (by decide)
  have F1_suppressedExceptions : Fld Z h1 ex "java/lang/Throwable" "suppressedExceptions" "Ljava/util/List;" .null := D1 (Or.inl (hw _ (List.mem_of_getElem? (i := 195) rfl))) (ty := (.object "java/util/List")) (by decide)
  have F1_backtrace : Fld Z h1 ex "java/lang/Throwable" "backtrace" "Ljava/lang/Object;" .null := D1 (Or.inl (hw _ (List.mem_of_getElem? (i := 220) rfl))) (ty := (.object "java/lang/Object")) (by decide)
  have F1_detailMessage : Fld Z h1 ex "java/lang/Throwable" "detailMessage" "Ljava/lang/String;" .null := D1 (Or.inl (hw _ (List.mem_of_getElem? (i := 219) rfl))) (ty := (.object "java/lang/String")) (by decide)
  have F1_line : Fld Z h1 ex "com/example/intentio/intentio/hddl/HddlException" "line" "I" (.int (0 : Int32)) := D1 (Or.inr (hw _ (List.mem_of_getElem? (i := 225) rfl))) (ty := .int) (by decide)
  show GlH p e below _ _ sT _ _ _ _ (T.setTop (mkF m 3 #[.val (.int li), .val (.ref x1), .val (.ref x2)] [(.ref ex)]))
  refine GlH.by (fun t_ k_ => XS.dup X.here hx rfl (hb hby d9_3) rfl rfl k_) ?_
  show GlH p e below _ _ sT _ _ _ _ (T.setTop (mkF m 4 #[.val (.int li), .val (.ref x1), .val (.ref x2)] [(.ref ex), (.ref ex)]))
  refine GlH.by (fun t_ k_ => XS.iloadN X.here hx rfl (hb hby d9_4) rfl k_) ?_
  show GlH p e below _ _ sT _ _ _ _ (T.setTop (mkF m 5 #[.val (.int li), .val (.ref x1), .val (.ref x2)] [(.int li), (.ref ex), (.ref ex)]))
  obtain ⟨T, h2, X, eT, E2, A2, D2, -, st⟩ := newO X hx hZ hown (hw _ (List.mem_of_getElem? (i := 45) rfl)) (hw _ (List.mem_of_getElem? (i := 46) rfl)) (hw _ (List.mem_of_getElem? (i := 47) rfl)) eT (g := (mkF m 5 #[.val (.int li), .val (.ref x1), .val (.ref x2)] [(.int li), (.ref ex), (.ref ex)])) rfl (hb hby d9_5) (by decide) (by decide)
  obtain ⟨sb, g2⟩ : ∃ z, z = h1.size := ⟨_, rfl⟩
  rw [← g2] at A2 D2 st
  have sz2 := E2.1
  have lt2 : sb < h2.size := A2.lt
  refine GlH.by st ?_
  have B := B.ext E2
  have F2_value : Fld Z h2 sb "java/lang/AbstractStringBuilder" "value" "[B" .null := D2 (Or.inl (hw _ (List.mem_of_getElem? (i := 60) rfl))) (ty := (.array .byte)) (by decide)
  have F2_coder : Fld Z h2 sb "java/lang/AbstractStringBuilder" "coder" "B" (.int (0 : Int32)) := D2 (Or.inl (hw _ (List.mem_of_getElem? (i := 62) rfl))) (ty := .byte) (by decide)
  have F2_count : Fld Z h2 sb "java/lang/AbstractStringBuilder" "count" "I" (.int (0 : Int32)) := D2 (Or.inl (hw _ (List.mem_of_getElem? (i := 84) rfl))) (ty := .int) (by decide)
  show GlH p e below _ _ sT _ _ _ _ (T.setTop (mkF m 8 #[.val (.int li), .val (.ref x1), .val (.ref x2)] [(.ref sb), (.int li), (.ref ex), (.ref ex)]))
  refine GlH.by (fun t_ k_ => XS.dup X.here hx rfl (hb hby d9_8) rfl rfl k_) ?_
  show GlH p e below _ _ sT _ _ _ _ (T.setTop (mkF m 9 #[.val (.int li), .val (.ref x1), .val (.ref x2)] [(.ref sb), (.ref sb), (.int li), (.ref ex), (.ref ex)]))
  refine GlH.spec X hx hZ rfl hown (hw _ (List.mem_of_getElem? (i := 48) rfl)) (hw _ (List.mem_of_getElem? (i := 49) rfl)) (hw _ (List.mem_of_getElem? (i := 50) rfl)) (by decide) (W := 4) (backC (own_sbi l Z a0 hw sb z h2 n0 (by omega) A2 F2_value F2_coder F2_count S hz ((O.ext E1).ext E2)) hZ (hw _ (List.mem_of_getElem? (i := 50) rfl)) (hw _ (List.mem_of_getElem? (i := 47) rfl)) (by decide) (by decide)) eT (hb hby d9_9) (by rw [hml]; rfl) sb [] [(.ref sb), (.int li), (.ref ex), (.ref ex)] (lenOf pd_23 rfl) rfl rfl (Nat.le_of_eq rfl) (by decide) (by decide) ?_
  intro v T L X hq
  obtain ⟨rfl, NQ, K3, vb, kb, ge, G3⟩ := hq
  have N := Fr.app N NQ
  obtain ⟨h3, eT⟩ : ∃ z, T.heap = z := ⟨_, rfl⟩
  rw [eT] at K3 G3
  have sz3 := K3.1
  have SF_vb : Safe Z own_EL s.vm h2 vb := Safe.new (by omega)
  have SG_vb := SafeX.keep SF_vb B K3 (fun x hx => by rw [List.mem_singleton.mp hx]; exact (Safe.exa hZ.alike A2 (by decide) (by decide)))
  have B := B.keep K3 (fun x hx => by rw [List.mem_singleton.mp hx]; exact (Safe.exa hZ.alike A2 (by decide) (by decide)))
  have SF_vb := SG_vb
  show GlH p e below _ _ sT _ _ _ _ (T.setTop (mkF m 12 #[.val (.int li), .val (.ref x1), .val (.ref x2)] [(.ref sb), (.int li), (.ref ex), (.ref ex)]))
  have lvb : vb < h3.size := G3.2.2.2.2.1.lt
  refine GlH.by (fun t_ k_ => XS.aloadN X.here hx rfl (hb hby d9_12) rfl rfl k_) ?_
  show GlH p e below _ _ sT _ _ _ _ (T.setTop (mkF m 13 #[.val (.int li), .val (.ref x1), .val (.ref x2)] [(.ref x1), (.ref sb), (.int li), (.ref ex), (.ref ex)]))
  refine GlH.virt X hx hZ hown (hw _ (List.mem_of_getElem? (i := 63) rfl)) (hw _ (List.mem_of_getElem? (i := 64) rfl)) (hw _ (List.mem_of_getElem? (i := 66) rfl)) (hw _ (List.mem_of_getElem? (i := 65) rfl)) (notFace_of_selects (args := #[]) (mvT hZ (hw _ (List.mem_of_getElem? (i := 66) rfl)))) (by decide) G3.1 (W := 3) (backC (own_sba l Z a0 hw sb x1 vb kb [] ks 16 z h3 n0 (by omega) (by omega) ⟨G3.1, G3.2.1, G3.2.2.1, G3.2.2.2.1, G3.2.2.2.2.1, G3.2.2.2.2.2⟩ (Str.keep (a0 := a0) A1_ ((((Keep.refl h0 []).ext E1).ext E2).trans K3 (allS (Or.inr (by omega)) all0)) all0) (by show 0 + ks.length ≤ 16; omega) S hz (((O.ext E1).ext E2).keep K3 (allS (by omega) all0))) hZ (hw _ (List.mem_of_getElem? (i := 67) rfl)) (hw _ (List.mem_of_getElem? (i := 47) rfl)) (by decide) (by decide)) eT (hb hby d9_13) (by rw [hml]; rfl) [(.ref x1)] [(.int li), (.ref ex), (.ref ex)] (lenOf pd_24 rfl) rfl rfl (Nat.le_of_eq rfl) (by decide) (by decide) ?_
  intro v T L X hq
  obtain ⟨rfl, NQ, K4, G4⟩ := hq
  have N := Fr.app N NQ
  obtain ⟨h4, eT⟩ : ∃ z, T.heap = z := ⟨_, rfl⟩
  rw [eT] at K4 G4
  have sz4 := K4.1
  have SG_vb := SafeX.keep SF_vb B K4 (sfS (Safe.exa hZ.alike G3.1 (by decide) (by decide)) (sfS SF_vb sf0))
  have B := B.keep K4 (sfS (Safe.exa hZ.alike G3.1 (by decide) (by decide)) (sfS SF_vb sf0))
  have SF_vb := SG_vb
  show GlH p e below _ _ sT _ _ _ _ (T.setTop (mkF m 16 #[.val (.int li), .val (.ref x1), .val (.ref x2)] [(.ref sb), (.int li), (.ref ex), (.ref ex)]))
  rw [List.nil_append] at G4
  obtain ⟨q1, b1, k5, T, s, h5, X, eT, E5, B, hZ, hown, CB, A5, Fc5, Fv5, V5, ne5, st⟩ := ldcWH X hx hZ hown (hw _ (List.mem_of_getElem? (i := 110) rfl)) (own_wS hw) eT B hEL (by decide) (vs := [(.int 32)]) (z := 1) ⟨by decide +kernel, by decide +kernel⟩ (by decide) (by decide) (g := (mkF m 16 #[.val (.int li), .val (.ref x1), .val (.ref x2)] [(.ref sb), (.int li), (.ref ex), (.ref ex)])) rfl (hb hby d9_16) (n := 4) (by decide +kernel) (by decide) (by decide) (by decide)
  have sz5 := E5.1
  have SF_vb := CB.safe (ltA (by omega)) SF_vb
  refine GlH.by st ?_
  show GlH p e below _ _ sT _ _ _ _ (T.setTop (mkF m 19 #[.val (.int li), .val (.ref x1), .val (.ref x2)] [(.ref q1), (.ref sb), (.int li), (.ref ex), (.ref ex)]))
  have AQ1 : Str Z h5 q1 [32] := ⟨A5, (fun c hc => (by decide : ∀ c ∈ ([32] : List Int32), ¬ c < 0 ∧ ¬ (255 : Int32) < c) c hc), (by decide), Fc5, b1, k5, Fv5, V5⟩
  refine GlH.virt X hx hZ hown (hw _ (List.mem_of_getElem? (i := 63) rfl)) (hw _ (List.mem_of_getElem? (i := 64) rfl)) (hw _ (List.mem_of_getElem? (i := 66) rfl)) (hw _ (List.mem_of_getElem? (i := 65) rfl)) (notFace_of_selects (args := #[]) (mvT hZ (hw _ (List.mem_of_getElem? (i := 66) rfl)))) (by decide) (G4.1.ext E5) (W := 3) (backC (own_sba l Z a0 hw sb q1 vb kb ks [32] 16 z h5 n0 (by omega) (by omega) ⟨(G4.1.ext E5), (G4.2.1.ext E5), (G4.2.2.1.ext E5), (G4.2.2.2.1.ext E5), (G4.2.2.2.2.1.ext E5), G4.2.2.2.2.2⟩ AQ1 (by show ks.length + 1 ≤ 16; omega) S hz (((((O.ext E1).ext E2).keep K3 (allS (by omega) all0)).keep K4 (allS (by omega) (allS (by omega) all0))).ext E5)) hZ (hw _ (List.mem_of_getElem? (i := 67) rfl)) (hw _ (List.mem_of_getElem? (i := 47) rfl)) (by decide) (by decide)) eT (hb hby d9_19) (by rw [hml]; rfl) [(.ref q1)] [(.int li), (.ref ex), (.ref ex)] (lenOf pd_24 rfl) rfl rfl (Nat.le_of_eq rfl) (by decide) (by decide) ?_
  intro v T L X hq
  obtain ⟨rfl, NQ, K6, G6⟩ := hq
  have N := Fr.app N NQ
  obtain ⟨h6, eT⟩ : ∃ z, T.heap = z := ⟨_, rfl⟩
  rw [eT] at K6 G6
  have sz6 := K6.1
  have SG_vb := SafeX.keep SF_vb B K6 (sfS (Safe.exa hZ.alike (G4.1.ext E5) (by decide) (by decide)) (sfS SF_vb sf0))
  have B := B.keep K6 (sfS (Safe.exa hZ.alike (G4.1.ext E5) (by decide) (by decide)) (sfS SF_vb sf0))
  have SF_vb := SG_vb
  show GlH p e below _ _ sT _ _ _ _ (T.setTop (mkF m 22 #[.val (.int li), .val (.ref x1), .val (.ref x2)] [(.ref sb), (.int li), (.ref ex), (.ref ex)]))
  refine GlH.by (fun t_ k_ => XS.aloadN X.here hx rfl (hb hby d9_22) rfl rfl k_) ?_
  show GlH p e below _ _ sT _ _ _ _ (T.setTop (mkF m 23 #[.val (.int li), .val (.ref x1), .val (.ref x2)] [(.ref x2), (.ref sb), (.int li), (.ref ex), (.ref ex)]))
  have e1 : (ks ++ [32]).length = ks.length + 1 := List.length_append
  refine GlH.virt X hx hZ hown (hw _ (List.mem_of_getElem? (i := 63) rfl)) (hw _ (List.mem_of_getElem? (i := 64) rfl)) (hw _ (List.mem_of_getElem? (i := 66) rfl)) (hw _ (List.mem_of_getElem? (i := 65) rfl)) (notFace_of_selects (args := #[]) (mvT hZ (hw _ (List.mem_of_getElem? (i := 66) rfl)))) (by decide) G6.1 (W := 3) (backC (own_sba l Z a0 hw sb x2 vb kb (ks ++ [32]) ns 16 z h6 n0 (by omega) (by omega) ⟨G6.1, G6.2.1, G6.2.2.1, G6.2.2.2.1, G6.2.2.2.2.1, G6.2.2.2.2.2⟩ (Str.keep (a0 := a0) A2_ (((((((Keep.refl h0 []).ext E1).ext E2).trans K3 (allS (Or.inr (by omega)) all0)).trans K4 (allS (Or.inr (by omega)) (allS (Or.inr (by omega)) all0))).ext E5).trans K6 (allS (Or.inr (by omega)) (allS (Or.inr (by omega)) all0))) all0) (by omega) S hz ((((((O.ext E1).ext E2).keep K3 (allS (by omega) all0)).keep K4 (allS (by omega) (allS (by omega) all0))).ext E5).keep K6 (allS (by omega) (allS (by omega) all0)))) hZ (hw _ (List.mem_of_getElem? (i := 67) rfl)) (hw _ (List.mem_of_getElem? (i := 47) rfl)) (by decide) (by decide)) eT (hb hby d9_23) (by rw [hml]; rfl) [(.ref x2)] [(.int li), (.ref ex), (.ref ex)] (lenOf pd_24 rfl) rfl rfl (Nat.le_of_eq rfl) (by decide) (by decide) ?_
  intro v T L X hq
  obtain ⟨rfl, NQ, K7, G7⟩ := hq
  have N := Fr.app N NQ
  obtain ⟨h7, eT⟩ : ∃ z, T.heap = z := ⟨_, rfl⟩
  rw [eT] at K7 G7
  have sz7 := K7.1
  have SG_vb := SafeX.keep SF_vb B K7 (sfS (Safe.exa hZ.alike G6.1 (by decide) (by decide)) (sfS SF_vb sf0))
  have B := B.keep K7 (sfS (Safe.exa hZ.alike G6.1 (by decide) (by decide)) (sfS SF_vb sf0))
  have SF_vb := SG_vb
  show GlH p e below _ _ sT _ _ _ _ (T.setTop (mkF m 26 #[.val (.int li), .val (.ref x1), .val (.ref x2)] [(.ref sb), (.int li), (.ref ex), (.ref ex)]))
  have e2 : ((ks ++ [32]) ++ ns).length = (ks ++ [32]).length + ns.length := List.length_append
  obtain ⟨q2, b2, k8, T, s, h8, X, eT, E8, B, hZ, hown, CB, A8, Fc8, Fv8, V8, ne8, st⟩ := ldcWH X hx hZ hown (hw _ (List.mem_of_getElem? (i := 113) rfl)) (own_wS hw) eT B hEL (by decide) (vs := [(.int 32), (.int 105), (.int 115), (.int 32), (.int 110), (.int 111), (.int 116), (.int 32), (.int 100), (.int 101), (.int 99), (.int 108), (.int 97), (.int 114), (.int 101), (.int 100)]) (z := 16) ⟨by decide +kernel, by decide +kernel⟩ (by decide) (by decide) (g := (mkF m 26 #[.val (.int li), .val (.ref x1), .val (.ref x2)] [(.ref sb), (.int li), (.ref ex), (.ref ex)])) rfl (hb hby d9_26) (n := 64) (by decide +kernel) (by decide) (by decide) (by decide)
  have sz8 := E8.1
  have SF_vb := CB.safe (ltA (by omega)) SF_vb
  refine GlH.by st ?_
  show GlH p e below _ _ sT _ _ _ _ (T.setTop (mkF m 29 #[.val (.int li), .val (.ref x1), .val (.ref x2)] [(.ref q2), (.ref sb), (.int li), (.ref ex), (.ref ex)]))
  have AQ2 : Str Z h8 q2 own_TL := ⟨A8, (fun c hc => (by decide : ∀ c ∈ (own_TL : List Int32), ¬ c < 0 ∧ ¬ (255 : Int32) < c) c hc), (by decide), Fc8, b2, k8, Fv8, V8⟩
  have e3 : own_TL.length = 16 := rfl
  refine GlH.virt X hx hZ hown (hw _ (List.mem_of_getElem? (i := 63) rfl)) (hw _ (List.mem_of_getElem? (i := 64) rfl)) (hw _ (List.mem_of_getElem? (i := 66) rfl)) (hw _ (List.mem_of_getElem? (i := 65) rfl)) (notFace_of_selects (args := #[]) (mvT hZ (hw _ (List.mem_of_getElem? (i := 66) rfl)))) (by decide) (G7.1.ext E8) (W := 3) (backC (own_sbg l Z a0 hw sb q2 vb kb ((ks ++ [32]) ++ ns) own_TL 16 z h8 n0 (by omega) ⟨(G7.1.ext E8), (G7.2.1.ext E8), (G7.2.2.1.ext E8), (G7.2.2.2.1.ext E8), (G7.2.2.2.2.1.ext E8), G7.2.2.2.2.2⟩ AQ2 (by omega) (by omega) (by decide) S hz ((((((((O.ext E1).ext E2).keep K3 (allS (by omega) all0)).keep K4 (allS (by omega) (allS (by omega) all0))).ext E5).keep K6 (allS (by omega) (allS (by omega) all0))).keep K7 (allS (by omega) (allS (by omega) all0))).ext E8)) hZ (hw _ (List.mem_of_getElem? (i := 67) rfl)) (hw _ (List.mem_of_getElem? (i := 47) rfl)) (by decide) (by decide)) eT (hb hby d9_29) (by rw [hml]; rfl) [(.ref q2)] [(.int li), (.ref ex), (.ref ex)] (lenOf pd_24 rfl) rfl rfl (Nat.le_of_eq rfl) (by decide) (by decide) ?_
  intro v T L X hq
  obtain ⟨rfl, NQ, K9, nb, kn2, ge2, G9⟩ := hq
  have N := Fr.app N NQ
  obtain ⟨h9, eT⟩ : ∃ z, T.heap = z := ⟨_, rfl⟩
  rw [eT] at K9 G9
  have sz9 := K9.1
  have SF_nb : Safe Z own_EL s.vm h8 nb := Safe.new (by omega)
  have SG_vb := SafeX.keep SF_vb B K9 (fun x hx => by rw [List.mem_singleton.mp hx]; exact (Safe.exa hZ.alike (G7.1.ext E8) (by decide) (by decide)))
  have SG_nb := SafeX.keep SF_nb B K9 (fun x hx => by rw [List.mem_singleton.mp hx]; exact (Safe.exa hZ.alike (G7.1.ext E8) (by decide) (by decide)))
  have B := B.keep K9 (fun x hx => by rw [List.mem_singleton.mp hx]; exact (Safe.exa hZ.alike (G7.1.ext E8) (by decide) (by decide)))
  have SF_vb := SG_vb
  have SF_nb := SG_nb
  show GlH p e below _ _ sT _ _ _ _ (T.setTop (mkF m 32 #[.val (.int li), .val (.ref x1), .val (.ref x2)] [(.ref sb), (.int li), (.ref ex), (.ref ex)]))
  have e4 : (((ks ++ [32]) ++ ns) ++ own_TL).length = ((ks ++ [32]) ++ ns).length + own_TL.length := List.length_append
  refine GlH.virt X hx hZ hown (hw _ (List.mem_of_getElem? (i := 134) rfl)) (hw _ (List.mem_of_getElem? (i := 135) rfl)) (hw _ (List.mem_of_getElem? (i := 137) rfl)) (hw _ (List.mem_of_getElem? (i := 136) rfl)) (notFace_of_selects (args := #[]) (mvT hZ (hw _ (List.mem_of_getElem? (i := 137) rfl)))) (by decide) G9.1 (W := 3) (backC (own_tos l Z a0 hw sb nb kn2 (((ks ++ [32]) ++ ns) ++ own_TL) (16 + (16 + 2)) z h9 n0 (by omega) G9 (by omega) (by omega) S hz (((((((((O.ext E1).ext E2).keep K3 (allS (by omega) all0)).keep K4 (allS (by omega) (allS (by omega) all0))).ext E5).keep K6 (allS (by omega) (allS (by omega) all0))).keep K7 (allS (by omega) (allS (by omega) all0))).ext E8).keep K9 (allS (by omega) all0))) hZ (hw _ (List.mem_of_getElem? (i := 138) rfl)) (hw _ (List.mem_of_getElem? (i := 47) rfl)) (by decide) (by decide)) eT (hb hby d9_32) (by rw [hml]; rfl) [] [(.int li), (.ref ex), (.ref ex)] (lenOf pd_25 rfl) rfl rfl (Nat.le_of_eq rfl) (by decide) (by decide) ?_
  intro v T L X hq
  obtain ⟨NQ, K10, mx, rfl, gem, SM10⟩ := hq
  have N := Fr.app N NQ
  obtain ⟨h10, eT⟩ : ∃ z, T.heap = z := ⟨_, rfl⟩
  rw [eT] at K10 SM10
  have sz10 := K10.1
  have SG_vb := SafeX.keep SF_vb B K10 (fun _ q => by cases q)
  have SG_nb := SafeX.keep SF_nb B K10 (fun _ q => by cases q)
  have B := B.keep K10 (fun _ q => by cases q)
  have SF_vb := SG_vb
  have SF_nb := SG_nb
  show GlH p e below _ _ sT _ _ _ _ (T.setTop (mkF m 35 #[.val (.int li), .val (.ref x1), .val (.ref x2)] [(.ref mx), (.int li), (.ref ex), (.ref ex)]))
  refine GlH.spec X hx hZ rfl hown (hw _ (List.mem_of_getElem? (i := 173) rfl)) (hw _ (List.mem_of_getElem? (i := 174) rfl)) (hw _ (List.mem_of_getElem? (i := 175) rfl)) (by decide) (W := 1) (backK (own_hei l Z a0 hw ex mx li uv sv h10 n0 (by omega) ((((((((((O.ext E1).ext E2).keep K3 (allS (by omega) all0)).keep K4 (allS (by omega) (allS (by omega) all0))).ext E5).keep K6 (allS (by omega) (allS (by omega) all0))).keep K7 (allS (by omega) (allS (by omega) all0))).ext E8).keep K9 (allS (by omega) all0)).keep K10 all0) (((((((((A1.ext E2).keep K3).keep K4).ext E5).keep K6).keep K7).ext E8).keep K9).keep K10) (Unt.keep K10 nin0 (Unt.keep K9 (ninS (nea (by omega)) nin0) (Unt.ext E8 (Unt.keep K7 (ninS (nea (by omega)) (ninS (nea (by omega)) nin0)) (Unt.keep K6 (ninS (nea (by omega)) (ninS (nea (by omega)) nin0)) (Unt.ext E5 (Unt.keep K4 (ninS (nea (by omega)) (ninS (nea (by omega)) nin0)) (Unt.keep K3 (ninS (nea (by omega)) nin0) (Unt.ext E2 U1))))))))) (((((((((F1_cause.ext E2).keep K3 (ninS (nea (by omega)) nin0)).keep K4 (ninS (nea (by omega)) (ninS (nea (by omega)) nin0))).ext E5).keep K6 (ninS (nea (by omega)) (ninS (nea (by omega)) nin0))).keep K7 (ninS (nea (by omega)) (ninS (nea (by omega)) nin0))).ext E8).keep K9 (ninS (nea (by omega)) nin0)).keep K10 nin0) (((((((((F1_stackTrace.ext E2).keep K3 (ninS (nea (by omega)) nin0)).keep K4 (ninS (nea (by omega)) (ninS (nea (by omega)) nin0))).ext E5).keep K6 (ninS (nea (by omega)) (ninS (nea (by omega)) nin0))).keep K7 (ninS (nea (by omega)) (ninS (nea (by omega)) nin0))).ext E8).keep K9 (ninS (nea (by omega)) nin0)).keep K10 nin0) (((((((((F1_suppressedExceptions.ext E2).keep K3 (ninS (nea (by omega)) nin0)).keep K4 (ninS (nea (by omega)) (ninS (nea (by omega)) nin0))).ext E5).keep K6 (ninS (nea (by omega)) (ninS (nea (by omega)) nin0))).keep K7 (ninS (nea (by omega)) (ninS (nea (by omega)) nin0))).ext E8).keep K9 (ninS (nea (by omega)) nin0)).keep K10 nin0) (((((((((F1_backtrace.ext E2).keep K3 (ninS (nea (by omega)) nin0)).keep K4 (ninS (nea (by omega)) (ninS (nea (by omega)) nin0))).ext E5).keep K6 (ninS (nea (by omega)) (ninS (nea (by omega)) nin0))).keep K7 (ninS (nea (by omega)) (ninS (nea (by omega)) nin0))).ext E8).keep K9 (ninS (nea (by omega)) nin0)).keep K10 nin0) (((((((((F1_detailMessage.ext E2).keep K3 (ninS (nea (by omega)) nin0)).keep K4 (ninS (nea (by omega)) (ninS (nea (by omega)) nin0))).ext E5).keep K6 (ninS (nea (by omega)) (ninS (nea (by omega)) nin0))).keep K7 (ninS (nea (by omega)) (ninS (nea (by omega)) nin0))).ext E8).keep K9 (ninS (nea (by omega)) nin0)).keep K10 nin0) (((((((((F1_line.ext E2).keep K3 (ninS (nea (by omega)) nin0)).keep K4 (ninS (nea (by omega)) (ninS (nea (by omega)) nin0))).ext E5).keep K6 (ninS (nea (by omega)) (ninS (nea (by omega)) nin0))).keep K7 (ninS (nea (by omega)) (ninS (nea (by omega)) nin0))).ext E8).keep K9 (ninS (nea (by omega)) nin0)).keep K10 nin0) hst SU hru SS hrs) kn hZ (hw _ (List.mem_of_getElem? (i := 175) rfl)) (hw _ (List.mem_of_getElem? (i := 44) rfl)) (by decide) (by decide)) eT (hb hby d9_35) (by rw [hml]; rfl) ex [(.int li), (.ref mx)] [(.ref ex)] (lenOf pd_5 rfl) rfl rfl (Nat.le_of_eq rfl) (by decide) (by decide) ?_
  intro v T L X hq
  obtain ⟨rfl, NQ, K11, QE11, QL11, QM11⟩ := hq
  have N := Fr.app N NQ
  obtain ⟨h11, eT⟩ : ∃ z, T.heap = z := ⟨_, rfl⟩
  rw [eT] at K11 QE11 QL11 QM11
  have sz11 := K11.1
  have SG_vb := SafeX.keep SF_vb B K11 (fun x hx => by rw [List.mem_singleton.mp hx]; exact (Safe.exa hZ.alike (((((((((A1.ext E2).keep K3).keep K4).ext E5).keep K6).keep K7).ext E8).keep K9).keep K10) (by decide) (by decide)))
  have SG_nb := SafeX.keep SF_nb B K11 (fun x hx => by rw [List.mem_singleton.mp hx]; exact (Safe.exa hZ.alike (((((((((A1.ext E2).keep K3).keep K4).ext E5).keep K6).keep K7).ext E8).keep K9).keep K10) (by decide) (by decide)))
  have B := B.keep K11 (fun x hx => by rw [List.mem_singleton.mp hx]; exact (Safe.exa hZ.alike (((((((((A1.ext E2).keep K3).keep K4).ext E5).keep K6).keep K7).ext E8).keep K9).keep K10) (by decide) (by decide)))
  have SF_vb := SG_vb
  have SF_nb := SG_nb
  show GlH p e below _ _ sT _ _ _ _ (T.setTop (mkF m 38 #[.val (.int li), .val (.ref x1), .val (.ref x2)] [(.ref ex)]))
  refine GlH.retA X B eT hZ hEL hx hlk hret rfl rfl (hb hby d9_38) (by decide) (by decide) ?_
  rw [eT]
  exact ⟨N, ((((((((((((Keep.refl h0 []).ext E1).ext E2).trans K3 (allS (Or.inr (by omega)) all0)).trans K4 (allS (Or.inr (by omega)) (allS (Or.inr (by omega)) all0))).ext E5).trans K6 (allS (Or.inr (by omega)) (allS (Or.inr (by omega)) all0))).trans K7 (allS (Or.inr (by omega)) (allS (Or.inr (by omega)) all0))).ext E8).trans K9 (allS (Or.inr (by omega)) all0)).trans K10 all0).trans K11 (allS (Or.inr (by omega)) all0)), ex, mx, rfl, QE11, QL11, QM11, (Str.keep (a0 := a0) SM10 ((Keep.refl h10 [ex]).trans K11 (allS (Or.inl (by simp)) all0)) (allS (Or.inr ⟨_, _, (by decide), (((((((((A1.ext E2).keep K3).keep K4).ext E5).keep K6).keep K7).ext E8).keep K9).keep K10), (hw _ (List.mem_of_getElem? (i := 43) rfl))⟩) all0))⟩
abbrev own_rTL : Room := { frames := 5, cells := 2, slots := 68, locals := 64 }
set_option maxRecDepth 65536 in
set_option maxHeartbeats 40000000 in
theorem own_tail (l : Launch) (Z : State) (a0 : Array Value) (hw : ∀ d ∈ tables_1, d.before a0 Z = true) (mx j : Nat) (cs : List Int32) (z : Int32) (fm : Value) (h0 : Heap) (n0 : Nat) (A : Str Z h0 mx cs) (hT : ∀ i, cs.getD (j + i) 0 = own_TL.getD i 0) (hj : j + 16 ≤ cs.length) (Sf : Sta Z Z.heap "jdk/internal/util/Preconditions" "SIOOBE_FORMATTER" "Ljava/util/function/BiFunction;" fm) (rf : fm.isRef = true) (S : Sta Z Z.heap "java/lang/String" "COMPACT_STRINGS" "Z" (.int z)) (hz : ¬ z = 0) (O : Old Z n0 h0) :
    CtrH l Z own_EL [] (⟨"com/example/intentio/intentio/hddl/DeclarationsNotDeclaredPinLaw", "tail", "(Ljava/lang/String;I)Z"⟩ : MethodName) method_3_code 3 (some .boolean) [] own_rTL #[(.ref mx), (.int (Int32.ofNat j))] h0 (fun v h L => v = some (.int 1) ∧ Fr n0 L ∧ Keep h0 h []) := by
  have hEL := own_ew hw
  refine CtrH.intro (plainFor_of_name pn_6) #[.val (.ref mx), .val (.int (Int32.ofNat j)), .unset] (fun m => by first | (simp [entryFrame, mkF, argsToLocals, Value.category]; done) | rfl) ?_
  intro p e sT m below meth c s T hx hby hml hown hnm hret hlk hZ hnamed X eT B SF
  have hown : s.vm.findClass "com/example/intentio/intentio/hddl/DeclarationsNotDeclaredPinLaw" = some m.cls := hown
  have N := Fr.nil n0
  show GlH p e below _ _ sT _ _ _ _ (T.setTop (mkF m 0 #[.val (.ref mx), .val (.int (Int32.ofNat j)), .unset] []))
  obtain ⟨q1, b1, k1, T, s, h1, X, eT, E1, B, hZ, hown, CB, A1, Fc1, Fv1, V1, ne1, st⟩ := ldcH X hx hZ hown (hw _ (List.mem_of_getElem? (i := 263) rfl)) (own_wS hw) eT B hEL (by decide) (vs := [(.int 32), (.int 105), (.int 115), (.int 32), (.int 110), (.int 111), (.int 116), (.int 32), (.int 100), (.int 101), (.int 99), (.int 108), (.int 97), (.int 114), (.int 101), (.int 100)]) (z := 16) ⟨by decide +kernel, by decide +kernel⟩ (by decide) (by decide) (g := (mkF m 0 #[.val (.ref mx), .val (.int (Int32.ofNat j)), .unset] [])) rfl (hb hby d45_0) (n := 64) (by decide +kernel) (by decide) (by decide) (by decide)
  have sz1 := E1.1
  refine GlH.by st ?_
  show GlH p e below _ _ sT _ _ _ _ (T.setTop (mkF m 2 #[.val (.ref mx), .val (.int (Int32.ofNat j)), .unset] [(.ref q1)]))
  have AQ : Str Z h1 q1 own_TL := ⟨A1, (fun c hc => (by decide : ∀ c ∈ (own_TL : List Int32), ¬ c < 0 ∧ ¬ (255 : Int32) < c) c hc), (by decide), Fc1, b1, k1, Fv1, V1⟩
  have Am := (Str.keep (a0 := a0) A ((Keep.refl h0 []).ext E1) all0)
  have O9 := (O.ext E1)
  have e3 : own_TL.length = 16 := rfl
  refine GlH.by (fun t_ k_ => XS.astoreN X.here hx rfl (hb hby d45_2) rfl rfl (l' := #[.val (.ref mx), .val (.int (Int32.ofNat j)), .val (.ref q1)]) rfl k_) ?_
  show GlH p e below _ _ sT _ _ _ _ (T.setTop (mkF m 3 #[.val (.ref mx), .val (.int (Int32.ofNat j)), .val (.ref q1)] []))
  refine GlH.by (fun t_ k_ => XS.aloadN X.here hx rfl (hb hby d45_3) rfl rfl k_) ?_
  show GlH p e below _ _ sT _ _ _ _ (T.setTop (mkF m 4 #[.val (.ref mx), .val (.int (Int32.ofNat j)), .val (.ref q1)] [(.ref q1)]))
  refine GlH.virt X hx hZ hown (hw _ (List.mem_of_getElem? (i := 237) rfl)) (hw _ (List.mem_of_getElem? (i := 74) rfl)) (hw _ (List.mem_of_getElem? (i := 76) rfl)) (hw _ (List.mem_of_getElem? (i := 75) rfl)) (notFace_of_selects (args := #[]) (mvT hZ (hw _ (List.mem_of_getElem? (i := 76) rfl)))) (by decide) A1 (W := 0) (payLen (n0 := n0) hZ (own_wlen hw) (hw _ (List.mem_of_getElem? (i := 9) rfl)) AQ S hz O9 (by decide) (by decide)) eT (hb hby d45_4) (by rw [hml]; rfl) [] [] (lenOf pd_4 rfl) rfl rfl (Nat.le_of_eq rfl) (by decide) (by decide) ?_
  intro v T L X hq
  obtain ⟨rfl, rfl, eT⟩ := hq
  have N := Fr.app N (Fr.nil n0)
  show GlH p e below _ _ sT _ _ _ _ (T.setTop (mkF m 7 #[.val (.ref mx), .val (.int (Int32.ofNat j)), .val (.ref q1)] [(.int (Int32.ofNat own_TL.length))]))
  refine GlH.by (fun t_ k_ => XS.bipush X.here hx rfl (hb hby d45_7) k_) ?_
  show GlH p e below _ _ sT _ _ _ _ (T.setTop (mkF m 9 #[.val (.ref mx), .val (.int (Int32.ofNat j)), .val (.ref q1)] [(.int (16 : Int32)), (.int (Int32.ofNat own_TL.length))]))
  refine GlH.by (fun t_ k_ => XS.icmpYes X.here hx rfl (pc0 := 9) (pc' := 14) rfl (hb hby d45_9) rfl (teq (rfl : Int32.ofNat own_TL.length = (16 : Int32))).1 (by decide) (by decide) k_) ?_
  show GlH p e below _ _ sT _ _ _ _ (T.setTop (mkF m 14 #[.val (.ref mx), .val (.int (Int32.ofNat j)), .val (.ref q1)] []))
  refine GlH.by (fun t_ k_ => XS.aloadN X.here hx rfl (hb hby d45_14) rfl rfl k_) ?_
  show GlH p e below _ _ sT _ _ _ _ (T.setTop (mkF m 15 #[.val (.ref mx), .val (.int (Int32.ofNat j)), .val (.ref q1)] [(.ref mx)]))
  refine GlH.by (fun t_ k_ => XS.iloadN X.here hx rfl (hb hby d45_15) rfl k_) ?_
  show GlH p e below _ _ sT _ _ _ _ (T.setTop (mkF m 16 #[.val (.ref mx), .val (.int (Int32.ofNat j)), .val (.ref q1)] [(.int (Int32.ofNat j)), (.ref mx)]))
  refine GlH.virt X hx hZ hown (hw _ (List.mem_of_getElem? (i := 238) rfl)) (hw _ (List.mem_of_getElem? (i := 239) rfl)) (hw _ (List.mem_of_getElem? (i := 241) rfl)) (hw _ (List.mem_of_getElem? (i := 240) rfl)) (notFace_of_selects (args := #[]) (mvT hZ (hw _ (List.mem_of_getElem? (i := 241) rfl)))) (by decide) (A.1.ext E1) (W := 0) (payCh (n0 := n0) hZ (own_wch hw) (hw _ (List.mem_of_getElem? (i := 9) rfl)) Am S hz Sf rf O9 j (by omega) (by decide) (by decide)) eT (hb hby d45_16) (by rw [hml]; rfl) [(.int (Int32.ofNat j))] [] (lenOf pd_26 rfl) rfl rfl (Nat.le_of_eq rfl) (by decide) (by decide) ?_
  intro v T L X hq
  obtain ⟨rfl, rfl, eT⟩ := hq
  have N := Fr.app N (Fr.nil n0)
  show GlH p e below _ _ sT _ _ _ _ (T.setTop (mkF m 19 #[.val (.ref mx), .val (.int (Int32.ofNat j)), .val (.ref q1)] [(.int (cs.getD j 0))]))
  refine GlH.by (fun t_ k_ => XS.aloadN X.here hx rfl (hb hby d45_19) rfl rfl k_) ?_
  show GlH p e below _ _ sT _ _ _ _ (T.setTop (mkF m 20 #[.val (.ref mx), .val (.int (Int32.ofNat j)), .val (.ref q1)] [(.ref q1), (.int (cs.getD j 0))]))
  refine GlH.by (fun t_ k_ => XS.iconst X.here hx rfl (hb hby d45_20) k_) ?_
  show GlH p e below _ _ sT _ _ _ _ (T.setTop (mkF m 21 #[.val (.ref mx), .val (.int (Int32.ofNat j)), .val (.ref q1)] [(.int (0 : Int32)), (.ref q1), (.int (cs.getD j 0))]))
  refine GlH.virt X hx hZ hown (hw _ (List.mem_of_getElem? (i := 238) rfl)) (hw _ (List.mem_of_getElem? (i := 239) rfl)) (hw _ (List.mem_of_getElem? (i := 241) rfl)) (hw _ (List.mem_of_getElem? (i := 240) rfl)) (notFace_of_selects (args := #[]) (mvT hZ (hw _ (List.mem_of_getElem? (i := 241) rfl)))) (by decide) A1 (W := 1) (payCh (n0 := n0) hZ (own_wch hw) (hw _ (List.mem_of_getElem? (i := 9) rfl)) AQ S hz Sf rf O9 0 (by decide) (by decide) (by decide)) eT (hb hby d45_21) (by rw [hml]; rfl) [(.int (0 : Int32))] [(.int (cs.getD j 0))] (lenOf pd_26 rfl) rfl rfl (Nat.le_of_eq rfl) (by decide) (by decide) ?_
  intro v T L X hq
  obtain ⟨rfl, rfl, eT⟩ := hq
  have N := Fr.app N (Fr.nil n0)
  show GlH p e below _ _ sT _ _ _ _ (T.setTop (mkF m 24 #[.val (.ref mx), .val (.int (Int32.ofNat j)), .val (.ref q1)] [(.int (own_TL.getD 0 0)), (.int (cs.getD j 0))]))
  refine GlH.by (fun t_ k_ => XS.icmpNo X.here hx rfl (hb hby d45_24) rfl (teq (hT 0)).2 k_) ?_
  show GlH p e below _ _ sT _ _ _ _ (T.setTop (mkF m 27 #[.val (.ref mx), .val (.int (Int32.ofNat j)), .val (.ref q1)] []))
  refine GlH.by (fun t_ k_ => XS.aloadN X.here hx rfl (hb hby d45_27) rfl rfl k_) ?_
  show GlH p e below _ _ sT _ _ _ _ (T.setTop (mkF m 28 #[.val (.ref mx), .val (.int (Int32.ofNat j)), .val (.ref q1)] [(.ref mx)]))
  refine GlH.by (fun t_ k_ => XS.iloadN X.here hx rfl (hb hby d45_28) rfl k_) ?_
  show GlH p e below _ _ sT _ _ _ _ (T.setTop (mkF m 29 #[.val (.ref mx), .val (.int (Int32.ofNat j)), .val (.ref q1)] [(.int (Int32.ofNat j)), (.ref mx)]))
  refine GlH.by (fun t_ k_ => XS.iconst X.here hx rfl (hb hby d45_29) k_) ?_
  show GlH p e below _ _ sT _ _ _ _ (T.setTop (mkF m 30 #[.val (.ref mx), .val (.int (Int32.ofNat j)), .val (.ref q1)] [(.int (1 : Int32)), (.int (Int32.ofNat j)), (.ref mx)]))
  refine GlH.by (fun t_ k_ => XS.iadd X.here hx rfl (hb hby d45_30) rfl k_) ?_
  show GlH p e below _ _ sT _ _ _ _ (T.setTop (mkF m 31 #[.val (.ref mx), .val (.int (Int32.ofNat j)), .val (.ref q1)] [(.int ((Int32.ofNat j) + (1 : Int32))), (.ref mx)]))
  rw [show (Int32.ofNat j) + (1 : Int32) = Int32.ofNat (j + 1) from ofn_add j 1]
  show GlH p e below _ _ sT _ _ _ _ (T.setTop (mkF m 31 #[.val (.ref mx), .val (.int (Int32.ofNat j)), .val (.ref q1)] [(.int (Int32.ofNat (j + 1))), (.ref mx)]))
  refine GlH.virt X hx hZ hown (hw _ (List.mem_of_getElem? (i := 238) rfl)) (hw _ (List.mem_of_getElem? (i := 239) rfl)) (hw _ (List.mem_of_getElem? (i := 241) rfl)) (hw _ (List.mem_of_getElem? (i := 240) rfl)) (notFace_of_selects (args := #[]) (mvT hZ (hw _ (List.mem_of_getElem? (i := 241) rfl)))) (by decide) (A.1.ext E1) (W := 0) (payCh (n0 := n0) hZ (own_wch hw) (hw _ (List.mem_of_getElem? (i := 9) rfl)) Am S hz Sf rf O9 (j + 1) (by omega) (by decide) (by decide)) eT (hb hby d45_31) (by rw [hml]; rfl) [(.int (Int32.ofNat (j + 1)))] [] (lenOf pd_26 rfl) rfl rfl (Nat.le_of_eq rfl) (by decide) (by decide) ?_
  intro v T L X hq
  obtain ⟨rfl, rfl, eT⟩ := hq
  have N := Fr.app N (Fr.nil n0)
  show GlH p e below _ _ sT _ _ _ _ (T.setTop (mkF m 34 #[.val (.ref mx), .val (.int (Int32.ofNat j)), .val (.ref q1)] [(.int (cs.getD (j + 1) 0))]))
  refine GlH.by (fun t_ k_ => XS.aloadN X.here hx rfl (hb hby d45_34) rfl rfl k_) ?_
  show GlH p e below _ _ sT _ _ _ _ (T.setTop (mkF m 35 #[.val (.ref mx), .val (.int (Int32.ofNat j)), .val (.ref q1)] [(.ref q1), (.int (cs.getD (j + 1) 0))]))
  refine GlH.by (fun t_ k_ => XS.iconst X.here hx rfl (hb hby d45_35) k_) ?_
  show GlH p e below _ _ sT _ _ _ _ (T.setTop (mkF m 36 #[.val (.ref mx), .val (.int (Int32.ofNat j)), .val (.ref q1)] [(.int (1 : Int32)), (.ref q1), (.int (cs.getD (j + 1) 0))]))
  refine GlH.virt X hx hZ hown (hw _ (List.mem_of_getElem? (i := 238) rfl)) (hw _ (List.mem_of_getElem? (i := 239) rfl)) (hw _ (List.mem_of_getElem? (i := 241) rfl)) (hw _ (List.mem_of_getElem? (i := 240) rfl)) (notFace_of_selects (args := #[]) (mvT hZ (hw _ (List.mem_of_getElem? (i := 241) rfl)))) (by decide) A1 (W := 1) (payCh (n0 := n0) hZ (own_wch hw) (hw _ (List.mem_of_getElem? (i := 9) rfl)) AQ S hz Sf rf O9 1 (by decide) (by decide) (by decide)) eT (hb hby d45_36) (by rw [hml]; rfl) [(.int (1 : Int32))] [(.int (cs.getD (j + 1) 0))] (lenOf pd_26 rfl) rfl rfl (Nat.le_of_eq rfl) (by decide) (by decide) ?_
  intro v T L X hq
  obtain ⟨rfl, rfl, eT⟩ := hq
  have N := Fr.app N (Fr.nil n0)
  show GlH p e below _ _ sT _ _ _ _ (T.setTop (mkF m 39 #[.val (.ref mx), .val (.int (Int32.ofNat j)), .val (.ref q1)] [(.int (own_TL.getD 1 0)), (.int (cs.getD (j + 1) 0))]))
  refine GlH.by (fun t_ k_ => XS.icmpNo X.here hx rfl (hb hby d45_39) rfl (teq (hT 1)).2 k_) ?_
  show GlH p e below _ _ sT _ _ _ _ (T.setTop (mkF m 42 #[.val (.ref mx), .val (.int (Int32.ofNat j)), .val (.ref q1)] []))
  refine GlH.by (fun t_ k_ => XS.aloadN X.here hx rfl (hb hby d45_42) rfl rfl k_) ?_
  show GlH p e below _ _ sT _ _ _ _ (T.setTop (mkF m 43 #[.val (.ref mx), .val (.int (Int32.ofNat j)), .val (.ref q1)] [(.ref mx)]))
  refine GlH.by (fun t_ k_ => XS.iloadN X.here hx rfl (hb hby d45_43) rfl k_) ?_
  show GlH p e below _ _ sT _ _ _ _ (T.setTop (mkF m 44 #[.val (.ref mx), .val (.int (Int32.ofNat j)), .val (.ref q1)] [(.int (Int32.ofNat j)), (.ref mx)]))
  refine GlH.by (fun t_ k_ => XS.iconst X.here hx rfl (hb hby d45_44) k_) ?_
  show GlH p e below _ _ sT _ _ _ _ (T.setTop (mkF m 45 #[.val (.ref mx), .val (.int (Int32.ofNat j)), .val (.ref q1)] [(.int (2 : Int32)), (.int (Int32.ofNat j)), (.ref mx)]))
  refine GlH.by (fun t_ k_ => XS.iadd X.here hx rfl (hb hby d45_45) rfl k_) ?_
  show GlH p e below _ _ sT _ _ _ _ (T.setTop (mkF m 46 #[.val (.ref mx), .val (.int (Int32.ofNat j)), .val (.ref q1)] [(.int ((Int32.ofNat j) + (2 : Int32))), (.ref mx)]))
  rw [show (Int32.ofNat j) + (2 : Int32) = Int32.ofNat (j + 2) from ofn_add j 2]
  show GlH p e below _ _ sT _ _ _ _ (T.setTop (mkF m 46 #[.val (.ref mx), .val (.int (Int32.ofNat j)), .val (.ref q1)] [(.int (Int32.ofNat (j + 2))), (.ref mx)]))
  refine GlH.virt X hx hZ hown (hw _ (List.mem_of_getElem? (i := 238) rfl)) (hw _ (List.mem_of_getElem? (i := 239) rfl)) (hw _ (List.mem_of_getElem? (i := 241) rfl)) (hw _ (List.mem_of_getElem? (i := 240) rfl)) (notFace_of_selects (args := #[]) (mvT hZ (hw _ (List.mem_of_getElem? (i := 241) rfl)))) (by decide) (A.1.ext E1) (W := 0) (payCh (n0 := n0) hZ (own_wch hw) (hw _ (List.mem_of_getElem? (i := 9) rfl)) Am S hz Sf rf O9 (j + 2) (by omega) (by decide) (by decide)) eT (hb hby d45_46) (by rw [hml]; rfl) [(.int (Int32.ofNat (j + 2)))] [] (lenOf pd_26 rfl) rfl rfl (Nat.le_of_eq rfl) (by decide) (by decide) ?_
  intro v T L X hq
  obtain ⟨rfl, rfl, eT⟩ := hq
  have N := Fr.app N (Fr.nil n0)
  show GlH p e below _ _ sT _ _ _ _ (T.setTop (mkF m 49 #[.val (.ref mx), .val (.int (Int32.ofNat j)), .val (.ref q1)] [(.int (cs.getD (j + 2) 0))]))
  refine GlH.by (fun t_ k_ => XS.aloadN X.here hx rfl (hb hby d45_49) rfl rfl k_) ?_
  show GlH p e below _ _ sT _ _ _ _ (T.setTop (mkF m 50 #[.val (.ref mx), .val (.int (Int32.ofNat j)), .val (.ref q1)] [(.ref q1), (.int (cs.getD (j + 2) 0))]))
  refine GlH.by (fun t_ k_ => XS.iconst X.here hx rfl (hb hby d45_50) k_) ?_
  show GlH p e below _ _ sT _ _ _ _ (T.setTop (mkF m 51 #[.val (.ref mx), .val (.int (Int32.ofNat j)), .val (.ref q1)] [(.int (2 : Int32)), (.ref q1), (.int (cs.getD (j + 2) 0))]))
  refine GlH.virt X hx hZ hown (hw _ (List.mem_of_getElem? (i := 238) rfl)) (hw _ (List.mem_of_getElem? (i := 239) rfl)) (hw _ (List.mem_of_getElem? (i := 241) rfl)) (hw _ (List.mem_of_getElem? (i := 240) rfl)) (notFace_of_selects (args := #[]) (mvT hZ (hw _ (List.mem_of_getElem? (i := 241) rfl)))) (by decide) A1 (W := 1) (payCh (n0 := n0) hZ (own_wch hw) (hw _ (List.mem_of_getElem? (i := 9) rfl)) AQ S hz Sf rf O9 2 (by decide) (by decide) (by decide)) eT (hb hby d45_51) (by rw [hml]; rfl) [(.int (2 : Int32))] [(.int (cs.getD (j + 2) 0))] (lenOf pd_26 rfl) rfl rfl (Nat.le_of_eq rfl) (by decide) (by decide) ?_
  intro v T L X hq
  obtain ⟨rfl, rfl, eT⟩ := hq
  have N := Fr.app N (Fr.nil n0)
  show GlH p e below _ _ sT _ _ _ _ (T.setTop (mkF m 54 #[.val (.ref mx), .val (.int (Int32.ofNat j)), .val (.ref q1)] [(.int (own_TL.getD 2 0)), (.int (cs.getD (j + 2) 0))]))
  refine GlH.by (fun t_ k_ => XS.icmpNo X.here hx rfl (hb hby d45_54) rfl (teq (hT 2)).2 k_) ?_
  show GlH p e below _ _ sT _ _ _ _ (T.setTop (mkF m 57 #[.val (.ref mx), .val (.int (Int32.ofNat j)), .val (.ref q1)] []))
  refine GlH.by (fun t_ k_ => XS.aloadN X.here hx rfl (hb hby d45_57) rfl rfl k_) ?_
  show GlH p e below _ _ sT _ _ _ _ (T.setTop (mkF m 58 #[.val (.ref mx), .val (.int (Int32.ofNat j)), .val (.ref q1)] [(.ref mx)]))
  refine GlH.by (fun t_ k_ => XS.iloadN X.here hx rfl (hb hby d45_58) rfl k_) ?_
  show GlH p e below _ _ sT _ _ _ _ (T.setTop (mkF m 59 #[.val (.ref mx), .val (.int (Int32.ofNat j)), .val (.ref q1)] [(.int (Int32.ofNat j)), (.ref mx)]))
  refine GlH.by (fun t_ k_ => XS.iconst X.here hx rfl (hb hby d45_59) k_) ?_
  show GlH p e below _ _ sT _ _ _ _ (T.setTop (mkF m 60 #[.val (.ref mx), .val (.int (Int32.ofNat j)), .val (.ref q1)] [(.int (3 : Int32)), (.int (Int32.ofNat j)), (.ref mx)]))
  refine GlH.by (fun t_ k_ => XS.iadd X.here hx rfl (hb hby d45_60) rfl k_) ?_
  show GlH p e below _ _ sT _ _ _ _ (T.setTop (mkF m 61 #[.val (.ref mx), .val (.int (Int32.ofNat j)), .val (.ref q1)] [(.int ((Int32.ofNat j) + (3 : Int32))), (.ref mx)]))
  rw [show (Int32.ofNat j) + (3 : Int32) = Int32.ofNat (j + 3) from ofn_add j 3]
  show GlH p e below _ _ sT _ _ _ _ (T.setTop (mkF m 61 #[.val (.ref mx), .val (.int (Int32.ofNat j)), .val (.ref q1)] [(.int (Int32.ofNat (j + 3))), (.ref mx)]))
  refine GlH.virt X hx hZ hown (hw _ (List.mem_of_getElem? (i := 238) rfl)) (hw _ (List.mem_of_getElem? (i := 239) rfl)) (hw _ (List.mem_of_getElem? (i := 241) rfl)) (hw _ (List.mem_of_getElem? (i := 240) rfl)) (notFace_of_selects (args := #[]) (mvT hZ (hw _ (List.mem_of_getElem? (i := 241) rfl)))) (by decide) (A.1.ext E1) (W := 0) (payCh (n0 := n0) hZ (own_wch hw) (hw _ (List.mem_of_getElem? (i := 9) rfl)) Am S hz Sf rf O9 (j + 3) (by omega) (by decide) (by decide)) eT (hb hby d45_61) (by rw [hml]; rfl) [(.int (Int32.ofNat (j + 3)))] [] (lenOf pd_26 rfl) rfl rfl (Nat.le_of_eq rfl) (by decide) (by decide) ?_
  intro v T L X hq
  obtain ⟨rfl, rfl, eT⟩ := hq
  have N := Fr.app N (Fr.nil n0)
  show GlH p e below _ _ sT _ _ _ _ (T.setTop (mkF m 64 #[.val (.ref mx), .val (.int (Int32.ofNat j)), .val (.ref q1)] [(.int (cs.getD (j + 3) 0))]))
  refine GlH.by (fun t_ k_ => XS.aloadN X.here hx rfl (hb hby d45_64) rfl rfl k_) ?_
  show GlH p e below _ _ sT _ _ _ _ (T.setTop (mkF m 65 #[.val (.ref mx), .val (.int (Int32.ofNat j)), .val (.ref q1)] [(.ref q1), (.int (cs.getD (j + 3) 0))]))
  refine GlH.by (fun t_ k_ => XS.iconst X.here hx rfl (hb hby d45_65) k_) ?_
  show GlH p e below _ _ sT _ _ _ _ (T.setTop (mkF m 66 #[.val (.ref mx), .val (.int (Int32.ofNat j)), .val (.ref q1)] [(.int (3 : Int32)), (.ref q1), (.int (cs.getD (j + 3) 0))]))
  refine GlH.virt X hx hZ hown (hw _ (List.mem_of_getElem? (i := 238) rfl)) (hw _ (List.mem_of_getElem? (i := 239) rfl)) (hw _ (List.mem_of_getElem? (i := 241) rfl)) (hw _ (List.mem_of_getElem? (i := 240) rfl)) (notFace_of_selects (args := #[]) (mvT hZ (hw _ (List.mem_of_getElem? (i := 241) rfl)))) (by decide) A1 (W := 1) (payCh (n0 := n0) hZ (own_wch hw) (hw _ (List.mem_of_getElem? (i := 9) rfl)) AQ S hz Sf rf O9 3 (by decide) (by decide) (by decide)) eT (hb hby d45_66) (by rw [hml]; rfl) [(.int (3 : Int32))] [(.int (cs.getD (j + 3) 0))] (lenOf pd_26 rfl) rfl rfl (Nat.le_of_eq rfl) (by decide) (by decide) ?_
  intro v T L X hq
  obtain ⟨rfl, rfl, eT⟩ := hq
  have N := Fr.app N (Fr.nil n0)
  show GlH p e below _ _ sT _ _ _ _ (T.setTop (mkF m 69 #[.val (.ref mx), .val (.int (Int32.ofNat j)), .val (.ref q1)] [(.int (own_TL.getD 3 0)), (.int (cs.getD (j + 3) 0))]))
  refine GlH.by (fun t_ k_ => XS.icmpNo X.here hx rfl (hb hby d45_69) rfl (teq (hT 3)).2 k_) ?_
  show GlH p e below _ _ sT _ _ _ _ (T.setTop (mkF m 72 #[.val (.ref mx), .val (.int (Int32.ofNat j)), .val (.ref q1)] []))
  refine GlH.by (fun t_ k_ => XS.aloadN X.here hx rfl (hb hby d45_72) rfl rfl k_) ?_
  show GlH p e below _ _ sT _ _ _ _ (T.setTop (mkF m 73 #[.val (.ref mx), .val (.int (Int32.ofNat j)), .val (.ref q1)] [(.ref mx)]))
  refine GlH.by (fun t_ k_ => XS.iloadN X.here hx rfl (hb hby d45_73) rfl k_) ?_
  show GlH p e below _ _ sT _ _ _ _ (T.setTop (mkF m 74 #[.val (.ref mx), .val (.int (Int32.ofNat j)), .val (.ref q1)] [(.int (Int32.ofNat j)), (.ref mx)]))
  refine GlH.by (fun t_ k_ => XS.iconst X.here hx rfl (hb hby d45_74) k_) ?_
  show GlH p e below _ _ sT _ _ _ _ (T.setTop (mkF m 75 #[.val (.ref mx), .val (.int (Int32.ofNat j)), .val (.ref q1)] [(.int (4 : Int32)), (.int (Int32.ofNat j)), (.ref mx)]))
  refine GlH.by (fun t_ k_ => XS.iadd X.here hx rfl (hb hby d45_75) rfl k_) ?_
  show GlH p e below _ _ sT _ _ _ _ (T.setTop (mkF m 76 #[.val (.ref mx), .val (.int (Int32.ofNat j)), .val (.ref q1)] [(.int ((Int32.ofNat j) + (4 : Int32))), (.ref mx)]))
  rw [show (Int32.ofNat j) + (4 : Int32) = Int32.ofNat (j + 4) from ofn_add j 4]
  show GlH p e below _ _ sT _ _ _ _ (T.setTop (mkF m 76 #[.val (.ref mx), .val (.int (Int32.ofNat j)), .val (.ref q1)] [(.int (Int32.ofNat (j + 4))), (.ref mx)]))
  refine GlH.virt X hx hZ hown (hw _ (List.mem_of_getElem? (i := 238) rfl)) (hw _ (List.mem_of_getElem? (i := 239) rfl)) (hw _ (List.mem_of_getElem? (i := 241) rfl)) (hw _ (List.mem_of_getElem? (i := 240) rfl)) (notFace_of_selects (args := #[]) (mvT hZ (hw _ (List.mem_of_getElem? (i := 241) rfl)))) (by decide) (A.1.ext E1) (W := 0) (payCh (n0 := n0) hZ (own_wch hw) (hw _ (List.mem_of_getElem? (i := 9) rfl)) Am S hz Sf rf O9 (j + 4) (by omega) (by decide) (by decide)) eT (hb hby d45_76) (by rw [hml]; rfl) [(.int (Int32.ofNat (j + 4)))] [] (lenOf pd_26 rfl) rfl rfl (Nat.le_of_eq rfl) (by decide) (by decide) ?_
  intro v T L X hq
  obtain ⟨rfl, rfl, eT⟩ := hq
  have N := Fr.app N (Fr.nil n0)
  show GlH p e below _ _ sT _ _ _ _ (T.setTop (mkF m 79 #[.val (.ref mx), .val (.int (Int32.ofNat j)), .val (.ref q1)] [(.int (cs.getD (j + 4) 0))]))
  refine GlH.by (fun t_ k_ => XS.aloadN X.here hx rfl (hb hby d45_79) rfl rfl k_) ?_
  show GlH p e below _ _ sT _ _ _ _ (T.setTop (mkF m 80 #[.val (.ref mx), .val (.int (Int32.ofNat j)), .val (.ref q1)] [(.ref q1), (.int (cs.getD (j + 4) 0))]))
  refine GlH.by (fun t_ k_ => XS.iconst X.here hx rfl (hb hby d45_80) k_) ?_
  show GlH p e below _ _ sT _ _ _ _ (T.setTop (mkF m 81 #[.val (.ref mx), .val (.int (Int32.ofNat j)), .val (.ref q1)] [(.int (4 : Int32)), (.ref q1), (.int (cs.getD (j + 4) 0))]))
  refine GlH.virt X hx hZ hown (hw _ (List.mem_of_getElem? (i := 238) rfl)) (hw _ (List.mem_of_getElem? (i := 239) rfl)) (hw _ (List.mem_of_getElem? (i := 241) rfl)) (hw _ (List.mem_of_getElem? (i := 240) rfl)) (notFace_of_selects (args := #[]) (mvT hZ (hw _ (List.mem_of_getElem? (i := 241) rfl)))) (by decide) A1 (W := 1) (payCh (n0 := n0) hZ (own_wch hw) (hw _ (List.mem_of_getElem? (i := 9) rfl)) AQ S hz Sf rf O9 4 (by decide) (by decide) (by decide)) eT (hb hby d45_81) (by rw [hml]; rfl) [(.int (4 : Int32))] [(.int (cs.getD (j + 4) 0))] (lenOf pd_26 rfl) rfl rfl (Nat.le_of_eq rfl) (by decide) (by decide) ?_
  intro v T L X hq
  obtain ⟨rfl, rfl, eT⟩ := hq
  have N := Fr.app N (Fr.nil n0)
  show GlH p e below _ _ sT _ _ _ _ (T.setTop (mkF m 84 #[.val (.ref mx), .val (.int (Int32.ofNat j)), .val (.ref q1)] [(.int (own_TL.getD 4 0)), (.int (cs.getD (j + 4) 0))]))
  refine GlH.by (fun t_ k_ => XS.icmpNo X.here hx rfl (hb hby d45_84) rfl (teq (hT 4)).2 k_) ?_
  show GlH p e below _ _ sT _ _ _ _ (T.setTop (mkF m 87 #[.val (.ref mx), .val (.int (Int32.ofNat j)), .val (.ref q1)] []))
  refine GlH.by (fun t_ k_ => XS.aloadN X.here hx rfl (hb hby d45_87) rfl rfl k_) ?_
  show GlH p e below _ _ sT _ _ _ _ (T.setTop (mkF m 88 #[.val (.ref mx), .val (.int (Int32.ofNat j)), .val (.ref q1)] [(.ref mx)]))
  refine GlH.by (fun t_ k_ => XS.iloadN X.here hx rfl (hb hby d45_88) rfl k_) ?_
  show GlH p e below _ _ sT _ _ _ _ (T.setTop (mkF m 89 #[.val (.ref mx), .val (.int (Int32.ofNat j)), .val (.ref q1)] [(.int (Int32.ofNat j)), (.ref mx)]))
  refine GlH.by (fun t_ k_ => XS.iconst X.here hx rfl (hb hby d45_89) k_) ?_
  show GlH p e below _ _ sT _ _ _ _ (T.setTop (mkF m 90 #[.val (.ref mx), .val (.int (Int32.ofNat j)), .val (.ref q1)] [(.int (5 : Int32)), (.int (Int32.ofNat j)), (.ref mx)]))
  refine GlH.by (fun t_ k_ => XS.iadd X.here hx rfl (hb hby d45_90) rfl k_) ?_
  show GlH p e below _ _ sT _ _ _ _ (T.setTop (mkF m 91 #[.val (.ref mx), .val (.int (Int32.ofNat j)), .val (.ref q1)] [(.int ((Int32.ofNat j) + (5 : Int32))), (.ref mx)]))
  rw [show (Int32.ofNat j) + (5 : Int32) = Int32.ofNat (j + 5) from ofn_add j 5]
  show GlH p e below _ _ sT _ _ _ _ (T.setTop (mkF m 91 #[.val (.ref mx), .val (.int (Int32.ofNat j)), .val (.ref q1)] [(.int (Int32.ofNat (j + 5))), (.ref mx)]))
  refine GlH.virt X hx hZ hown (hw _ (List.mem_of_getElem? (i := 238) rfl)) (hw _ (List.mem_of_getElem? (i := 239) rfl)) (hw _ (List.mem_of_getElem? (i := 241) rfl)) (hw _ (List.mem_of_getElem? (i := 240) rfl)) (notFace_of_selects (args := #[]) (mvT hZ (hw _ (List.mem_of_getElem? (i := 241) rfl)))) (by decide) (A.1.ext E1) (W := 0) (payCh (n0 := n0) hZ (own_wch hw) (hw _ (List.mem_of_getElem? (i := 9) rfl)) Am S hz Sf rf O9 (j + 5) (by omega) (by decide) (by decide)) eT (hb hby d45_91) (by rw [hml]; rfl) [(.int (Int32.ofNat (j + 5)))] [] (lenOf pd_26 rfl) rfl rfl (Nat.le_of_eq rfl) (by decide) (by decide) ?_
  intro v T L X hq
  obtain ⟨rfl, rfl, eT⟩ := hq
  have N := Fr.app N (Fr.nil n0)
  show GlH p e below _ _ sT _ _ _ _ (T.setTop (mkF m 94 #[.val (.ref mx), .val (.int (Int32.ofNat j)), .val (.ref q1)] [(.int (cs.getD (j + 5) 0))]))
  refine GlH.by (fun t_ k_ => XS.aloadN X.here hx rfl (hb hby d45_94) rfl rfl k_) ?_
  show GlH p e below _ _ sT _ _ _ _ (T.setTop (mkF m 95 #[.val (.ref mx), .val (.int (Int32.ofNat j)), .val (.ref q1)] [(.ref q1), (.int (cs.getD (j + 5) 0))]))
  refine GlH.by (fun t_ k_ => XS.iconst X.here hx rfl (hb hby d45_95) k_) ?_
  show GlH p e below _ _ sT _ _ _ _ (T.setTop (mkF m 96 #[.val (.ref mx), .val (.int (Int32.ofNat j)), .val (.ref q1)] [(.int (5 : Int32)), (.ref q1), (.int (cs.getD (j + 5) 0))]))
  refine GlH.virt X hx hZ hown (hw _ (List.mem_of_getElem? (i := 238) rfl)) (hw _ (List.mem_of_getElem? (i := 239) rfl)) (hw _ (List.mem_of_getElem? (i := 241) rfl)) (hw _ (List.mem_of_getElem? (i := 240) rfl)) (notFace_of_selects (args := #[]) (mvT hZ (hw _ (List.mem_of_getElem? (i := 241) rfl)))) (by decide) A1 (W := 1) (payCh (n0 := n0) hZ (own_wch hw) (hw _ (List.mem_of_getElem? (i := 9) rfl)) AQ S hz Sf rf O9 5 (by decide) (by decide) (by decide)) eT (hb hby d45_96) (by rw [hml]; rfl) [(.int (5 : Int32))] [(.int (cs.getD (j + 5) 0))] (lenOf pd_26 rfl) rfl rfl (Nat.le_of_eq rfl) (by decide) (by decide) ?_
  intro v T L X hq
  obtain ⟨rfl, rfl, eT⟩ := hq
  have N := Fr.app N (Fr.nil n0)
  show GlH p e below _ _ sT _ _ _ _ (T.setTop (mkF m 99 #[.val (.ref mx), .val (.int (Int32.ofNat j)), .val (.ref q1)] [(.int (own_TL.getD 5 0)), (.int (cs.getD (j + 5) 0))]))
  refine GlH.by (fun t_ k_ => XS.icmpNo X.here hx rfl (hb hby d45_99) rfl (teq (hT 5)).2 k_) ?_
  show GlH p e below _ _ sT _ _ _ _ (T.setTop (mkF m 102 #[.val (.ref mx), .val (.int (Int32.ofNat j)), .val (.ref q1)] []))
  refine GlH.by (fun t_ k_ => XS.aloadN X.here hx rfl (hb hby d45_102) rfl rfl k_) ?_
  show GlH p e below _ _ sT _ _ _ _ (T.setTop (mkF m 103 #[.val (.ref mx), .val (.int (Int32.ofNat j)), .val (.ref q1)] [(.ref mx)]))
  refine GlH.by (fun t_ k_ => XS.iloadN X.here hx rfl (hb hby d45_103) rfl k_) ?_
  show GlH p e below _ _ sT _ _ _ _ (T.setTop (mkF m 104 #[.val (.ref mx), .val (.int (Int32.ofNat j)), .val (.ref q1)] [(.int (Int32.ofNat j)), (.ref mx)]))
  refine GlH.by (fun t_ k_ => XS.bipush X.here hx rfl (hb hby d45_104) k_) ?_
  show GlH p e below _ _ sT _ _ _ _ (T.setTop (mkF m 106 #[.val (.ref mx), .val (.int (Int32.ofNat j)), .val (.ref q1)] [(.int (6 : Int32)), (.int (Int32.ofNat j)), (.ref mx)]))
  refine GlH.by (fun t_ k_ => XS.iadd X.here hx rfl (hb hby d45_106) rfl k_) ?_
  show GlH p e below _ _ sT _ _ _ _ (T.setTop (mkF m 107 #[.val (.ref mx), .val (.int (Int32.ofNat j)), .val (.ref q1)] [(.int ((Int32.ofNat j) + (6 : Int32))), (.ref mx)]))
  rw [show (Int32.ofNat j) + (6 : Int32) = Int32.ofNat (j + 6) from ofn_add j 6]
  show GlH p e below _ _ sT _ _ _ _ (T.setTop (mkF m 107 #[.val (.ref mx), .val (.int (Int32.ofNat j)), .val (.ref q1)] [(.int (Int32.ofNat (j + 6))), (.ref mx)]))
  refine GlH.virt X hx hZ hown (hw _ (List.mem_of_getElem? (i := 238) rfl)) (hw _ (List.mem_of_getElem? (i := 239) rfl)) (hw _ (List.mem_of_getElem? (i := 241) rfl)) (hw _ (List.mem_of_getElem? (i := 240) rfl)) (notFace_of_selects (args := #[]) (mvT hZ (hw _ (List.mem_of_getElem? (i := 241) rfl)))) (by decide) (A.1.ext E1) (W := 0) (payCh (n0 := n0) hZ (own_wch hw) (hw _ (List.mem_of_getElem? (i := 9) rfl)) Am S hz Sf rf O9 (j + 6) (by omega) (by decide) (by decide)) eT (hb hby d45_107) (by rw [hml]; rfl) [(.int (Int32.ofNat (j + 6)))] [] (lenOf pd_26 rfl) rfl rfl (Nat.le_of_eq rfl) (by decide) (by decide) ?_
  intro v T L X hq
  obtain ⟨rfl, rfl, eT⟩ := hq
  have N := Fr.app N (Fr.nil n0)
  show GlH p e below _ _ sT _ _ _ _ (T.setTop (mkF m 110 #[.val (.ref mx), .val (.int (Int32.ofNat j)), .val (.ref q1)] [(.int (cs.getD (j + 6) 0))]))
  refine GlH.by (fun t_ k_ => XS.aloadN X.here hx rfl (hb hby d45_110) rfl rfl k_) ?_
  show GlH p e below _ _ sT _ _ _ _ (T.setTop (mkF m 111 #[.val (.ref mx), .val (.int (Int32.ofNat j)), .val (.ref q1)] [(.ref q1), (.int (cs.getD (j + 6) 0))]))
  refine GlH.by (fun t_ k_ => XS.bipush X.here hx rfl (hb hby d45_111) k_) ?_
  show GlH p e below _ _ sT _ _ _ _ (T.setTop (mkF m 113 #[.val (.ref mx), .val (.int (Int32.ofNat j)), .val (.ref q1)] [(.int (6 : Int32)), (.ref q1), (.int (cs.getD (j + 6) 0))]))
  refine GlH.virt X hx hZ hown (hw _ (List.mem_of_getElem? (i := 238) rfl)) (hw _ (List.mem_of_getElem? (i := 239) rfl)) (hw _ (List.mem_of_getElem? (i := 241) rfl)) (hw _ (List.mem_of_getElem? (i := 240) rfl)) (notFace_of_selects (args := #[]) (mvT hZ (hw _ (List.mem_of_getElem? (i := 241) rfl)))) (by decide) A1 (W := 1) (payCh (n0 := n0) hZ (own_wch hw) (hw _ (List.mem_of_getElem? (i := 9) rfl)) AQ S hz Sf rf O9 6 (by decide) (by decide) (by decide)) eT (hb hby d45_113) (by rw [hml]; rfl) [(.int (6 : Int32))] [(.int (cs.getD (j + 6) 0))] (lenOf pd_26 rfl) rfl rfl (Nat.le_of_eq rfl) (by decide) (by decide) ?_
  intro v T L X hq
  obtain ⟨rfl, rfl, eT⟩ := hq
  have N := Fr.app N (Fr.nil n0)
  show GlH p e below _ _ sT _ _ _ _ (T.setTop (mkF m 116 #[.val (.ref mx), .val (.int (Int32.ofNat j)), .val (.ref q1)] [(.int (own_TL.getD 6 0)), (.int (cs.getD (j + 6) 0))]))
  refine GlH.by (fun t_ k_ => XS.icmpNo X.here hx rfl (hb hby d45_116) rfl (teq (hT 6)).2 k_) ?_
  show GlH p e below _ _ sT _ _ _ _ (T.setTop (mkF m 119 #[.val (.ref mx), .val (.int (Int32.ofNat j)), .val (.ref q1)] []))
  refine GlH.by (fun t_ k_ => XS.aloadN X.here hx rfl (hb hby d45_119) rfl rfl k_) ?_
  show GlH p e below _ _ sT _ _ _ _ (T.setTop (mkF m 120 #[.val (.ref mx), .val (.int (Int32.ofNat j)), .val (.ref q1)] [(.ref mx)]))
  refine GlH.by (fun t_ k_ => XS.iloadN X.here hx rfl (hb hby d45_120) rfl k_) ?_
  show GlH p e below _ _ sT _ _ _ _ (T.setTop (mkF m 121 #[.val (.ref mx), .val (.int (Int32.ofNat j)), .val (.ref q1)] [(.int (Int32.ofNat j)), (.ref mx)]))
  refine GlH.by (fun t_ k_ => XS.bipush X.here hx rfl (hb hby d45_121) k_) ?_
  show GlH p e below _ _ sT _ _ _ _ (T.setTop (mkF m 123 #[.val (.ref mx), .val (.int (Int32.ofNat j)), .val (.ref q1)] [(.int (7 : Int32)), (.int (Int32.ofNat j)), (.ref mx)]))
  refine GlH.by (fun t_ k_ => XS.iadd X.here hx rfl (hb hby d45_123) rfl k_) ?_
  show GlH p e below _ _ sT _ _ _ _ (T.setTop (mkF m 124 #[.val (.ref mx), .val (.int (Int32.ofNat j)), .val (.ref q1)] [(.int ((Int32.ofNat j) + (7 : Int32))), (.ref mx)]))
  rw [show (Int32.ofNat j) + (7 : Int32) = Int32.ofNat (j + 7) from ofn_add j 7]
  show GlH p e below _ _ sT _ _ _ _ (T.setTop (mkF m 124 #[.val (.ref mx), .val (.int (Int32.ofNat j)), .val (.ref q1)] [(.int (Int32.ofNat (j + 7))), (.ref mx)]))
  refine GlH.virt X hx hZ hown (hw _ (List.mem_of_getElem? (i := 238) rfl)) (hw _ (List.mem_of_getElem? (i := 239) rfl)) (hw _ (List.mem_of_getElem? (i := 241) rfl)) (hw _ (List.mem_of_getElem? (i := 240) rfl)) (notFace_of_selects (args := #[]) (mvT hZ (hw _ (List.mem_of_getElem? (i := 241) rfl)))) (by decide) (A.1.ext E1) (W := 0) (payCh (n0 := n0) hZ (own_wch hw) (hw _ (List.mem_of_getElem? (i := 9) rfl)) Am S hz Sf rf O9 (j + 7) (by omega) (by decide) (by decide)) eT (hb hby d45_124) (by rw [hml]; rfl) [(.int (Int32.ofNat (j + 7)))] [] (lenOf pd_26 rfl) rfl rfl (Nat.le_of_eq rfl) (by decide) (by decide) ?_
  intro v T L X hq
  obtain ⟨rfl, rfl, eT⟩ := hq
  have N := Fr.app N (Fr.nil n0)
  show GlH p e below _ _ sT _ _ _ _ (T.setTop (mkF m 127 #[.val (.ref mx), .val (.int (Int32.ofNat j)), .val (.ref q1)] [(.int (cs.getD (j + 7) 0))]))
  refine GlH.by (fun t_ k_ => XS.aloadN X.here hx rfl (hb hby d45_127) rfl rfl k_) ?_
  show GlH p e below _ _ sT _ _ _ _ (T.setTop (mkF m 128 #[.val (.ref mx), .val (.int (Int32.ofNat j)), .val (.ref q1)] [(.ref q1), (.int (cs.getD (j + 7) 0))]))
  refine GlH.by (fun t_ k_ => XS.bipush X.here hx rfl (hb hby d45_128) k_) ?_
  show GlH p e below _ _ sT _ _ _ _ (T.setTop (mkF m 130 #[.val (.ref mx), .val (.int (Int32.ofNat j)), .val (.ref q1)] [(.int (7 : Int32)), (.ref q1), (.int (cs.getD (j + 7) 0))]))
  refine GlH.virt X hx hZ hown (hw _ (List.mem_of_getElem? (i := 238) rfl)) (hw _ (List.mem_of_getElem? (i := 239) rfl)) (hw _ (List.mem_of_getElem? (i := 241) rfl)) (hw _ (List.mem_of_getElem? (i := 240) rfl)) (notFace_of_selects (args := #[]) (mvT hZ (hw _ (List.mem_of_getElem? (i := 241) rfl)))) (by decide) A1 (W := 1) (payCh (n0 := n0) hZ (own_wch hw) (hw _ (List.mem_of_getElem? (i := 9) rfl)) AQ S hz Sf rf O9 7 (by decide) (by decide) (by decide)) eT (hb hby d45_130) (by rw [hml]; rfl) [(.int (7 : Int32))] [(.int (cs.getD (j + 7) 0))] (lenOf pd_26 rfl) rfl rfl (Nat.le_of_eq rfl) (by decide) (by decide) ?_
  intro v T L X hq
  obtain ⟨rfl, rfl, eT⟩ := hq
  have N := Fr.app N (Fr.nil n0)
  show GlH p e below _ _ sT _ _ _ _ (T.setTop (mkF m 133 #[.val (.ref mx), .val (.int (Int32.ofNat j)), .val (.ref q1)] [(.int (own_TL.getD 7 0)), (.int (cs.getD (j + 7) 0))]))
  refine GlH.by (fun t_ k_ => XS.icmpNo X.here hx rfl (hb hby d45_133) rfl (teq (hT 7)).2 k_) ?_
  show GlH p e below _ _ sT _ _ _ _ (T.setTop (mkF m 136 #[.val (.ref mx), .val (.int (Int32.ofNat j)), .val (.ref q1)] []))
  refine GlH.by (fun t_ k_ => XS.aloadN X.here hx rfl (hb hby d45_136) rfl rfl k_) ?_
  show GlH p e below _ _ sT _ _ _ _ (T.setTop (mkF m 137 #[.val (.ref mx), .val (.int (Int32.ofNat j)), .val (.ref q1)] [(.ref mx)]))
  refine GlH.by (fun t_ k_ => XS.iloadN X.here hx rfl (hb hby d45_137) rfl k_) ?_
  show GlH p e below _ _ sT _ _ _ _ (T.setTop (mkF m 138 #[.val (.ref mx), .val (.int (Int32.ofNat j)), .val (.ref q1)] [(.int (Int32.ofNat j)), (.ref mx)]))
  refine GlH.by (fun t_ k_ => XS.bipush X.here hx rfl (hb hby d45_138) k_) ?_
  show GlH p e below _ _ sT _ _ _ _ (T.setTop (mkF m 140 #[.val (.ref mx), .val (.int (Int32.ofNat j)), .val (.ref q1)] [(.int (8 : Int32)), (.int (Int32.ofNat j)), (.ref mx)]))
  refine GlH.by (fun t_ k_ => XS.iadd X.here hx rfl (hb hby d45_140) rfl k_) ?_
  show GlH p e below _ _ sT _ _ _ _ (T.setTop (mkF m 141 #[.val (.ref mx), .val (.int (Int32.ofNat j)), .val (.ref q1)] [(.int ((Int32.ofNat j) + (8 : Int32))), (.ref mx)]))
  rw [show (Int32.ofNat j) + (8 : Int32) = Int32.ofNat (j + 8) from ofn_add j 8]
  show GlH p e below _ _ sT _ _ _ _ (T.setTop (mkF m 141 #[.val (.ref mx), .val (.int (Int32.ofNat j)), .val (.ref q1)] [(.int (Int32.ofNat (j + 8))), (.ref mx)]))
  refine GlH.virt X hx hZ hown (hw _ (List.mem_of_getElem? (i := 238) rfl)) (hw _ (List.mem_of_getElem? (i := 239) rfl)) (hw _ (List.mem_of_getElem? (i := 241) rfl)) (hw _ (List.mem_of_getElem? (i := 240) rfl)) (notFace_of_selects (args := #[]) (mvT hZ (hw _ (List.mem_of_getElem? (i := 241) rfl)))) (by decide) (A.1.ext E1) (W := 0) (payCh (n0 := n0) hZ (own_wch hw) (hw _ (List.mem_of_getElem? (i := 9) rfl)) Am S hz Sf rf O9 (j + 8) (by omega) (by decide) (by decide)) eT (hb hby d45_141) (by rw [hml]; rfl) [(.int (Int32.ofNat (j + 8)))] [] (lenOf pd_26 rfl) rfl rfl (Nat.le_of_eq rfl) (by decide) (by decide) ?_
  intro v T L X hq
  obtain ⟨rfl, rfl, eT⟩ := hq
  have N := Fr.app N (Fr.nil n0)
  show GlH p e below _ _ sT _ _ _ _ (T.setTop (mkF m 144 #[.val (.ref mx), .val (.int (Int32.ofNat j)), .val (.ref q1)] [(.int (cs.getD (j + 8) 0))]))
  refine GlH.by (fun t_ k_ => XS.aloadN X.here hx rfl (hb hby d45_144) rfl rfl k_) ?_
  show GlH p e below _ _ sT _ _ _ _ (T.setTop (mkF m 145 #[.val (.ref mx), .val (.int (Int32.ofNat j)), .val (.ref q1)] [(.ref q1), (.int (cs.getD (j + 8) 0))]))
  refine GlH.by (fun t_ k_ => XS.bipush X.here hx rfl (hb hby d45_145) k_) ?_
  show GlH p e below _ _ sT _ _ _ _ (T.setTop (mkF m 147 #[.val (.ref mx), .val (.int (Int32.ofNat j)), .val (.ref q1)] [(.int (8 : Int32)), (.ref q1), (.int (cs.getD (j + 8) 0))]))
  refine GlH.virt X hx hZ hown (hw _ (List.mem_of_getElem? (i := 238) rfl)) (hw _ (List.mem_of_getElem? (i := 239) rfl)) (hw _ (List.mem_of_getElem? (i := 241) rfl)) (hw _ (List.mem_of_getElem? (i := 240) rfl)) (notFace_of_selects (args := #[]) (mvT hZ (hw _ (List.mem_of_getElem? (i := 241) rfl)))) (by decide) A1 (W := 1) (payCh (n0 := n0) hZ (own_wch hw) (hw _ (List.mem_of_getElem? (i := 9) rfl)) AQ S hz Sf rf O9 8 (by decide) (by decide) (by decide)) eT (hb hby d45_147) (by rw [hml]; rfl) [(.int (8 : Int32))] [(.int (cs.getD (j + 8) 0))] (lenOf pd_26 rfl) rfl rfl (Nat.le_of_eq rfl) (by decide) (by decide) ?_
  intro v T L X hq
  obtain ⟨rfl, rfl, eT⟩ := hq
  have N := Fr.app N (Fr.nil n0)
  show GlH p e below _ _ sT _ _ _ _ (T.setTop (mkF m 150 #[.val (.ref mx), .val (.int (Int32.ofNat j)), .val (.ref q1)] [(.int (own_TL.getD 8 0)), (.int (cs.getD (j + 8) 0))]))
  refine GlH.by (fun t_ k_ => XS.icmpNo X.here hx rfl (hb hby d45_150) rfl (teq (hT 8)).2 k_) ?_
  show GlH p e below _ _ sT _ _ _ _ (T.setTop (mkF m 153 #[.val (.ref mx), .val (.int (Int32.ofNat j)), .val (.ref q1)] []))
  refine GlH.by (fun t_ k_ => XS.aloadN X.here hx rfl (hb hby d45_153) rfl rfl k_) ?_
  show GlH p e below _ _ sT _ _ _ _ (T.setTop (mkF m 154 #[.val (.ref mx), .val (.int (Int32.ofNat j)), .val (.ref q1)] [(.ref mx)]))
  refine GlH.by (fun t_ k_ => XS.iloadN X.here hx rfl (hb hby d45_154) rfl k_) ?_
  show GlH p e below _ _ sT _ _ _ _ (T.setTop (mkF m 155 #[.val (.ref mx), .val (.int (Int32.ofNat j)), .val (.ref q1)] [(.int (Int32.ofNat j)), (.ref mx)]))
  refine GlH.by (fun t_ k_ => XS.bipush X.here hx rfl (hb hby d45_155) k_) ?_
  show GlH p e below _ _ sT _ _ _ _ (T.setTop (mkF m 157 #[.val (.ref mx), .val (.int (Int32.ofNat j)), .val (.ref q1)] [(.int (9 : Int32)), (.int (Int32.ofNat j)), (.ref mx)]))
  refine GlH.by (fun t_ k_ => XS.iadd X.here hx rfl (hb hby d45_157) rfl k_) ?_
  show GlH p e below _ _ sT _ _ _ _ (T.setTop (mkF m 158 #[.val (.ref mx), .val (.int (Int32.ofNat j)), .val (.ref q1)] [(.int ((Int32.ofNat j) + (9 : Int32))), (.ref mx)]))
  rw [show (Int32.ofNat j) + (9 : Int32) = Int32.ofNat (j + 9) from ofn_add j 9]
  show GlH p e below _ _ sT _ _ _ _ (T.setTop (mkF m 158 #[.val (.ref mx), .val (.int (Int32.ofNat j)), .val (.ref q1)] [(.int (Int32.ofNat (j + 9))), (.ref mx)]))
  refine GlH.virt X hx hZ hown (hw _ (List.mem_of_getElem? (i := 238) rfl)) (hw _ (List.mem_of_getElem? (i := 239) rfl)) (hw _ (List.mem_of_getElem? (i := 241) rfl)) (hw _ (List.mem_of_getElem? (i := 240) rfl)) (notFace_of_selects (args := #[]) (mvT hZ (hw _ (List.mem_of_getElem? (i := 241) rfl)))) (by decide) (A.1.ext E1) (W := 0) (payCh (n0 := n0) hZ (own_wch hw) (hw _ (List.mem_of_getElem? (i := 9) rfl)) Am S hz Sf rf O9 (j + 9) (by omega) (by decide) (by decide)) eT (hb hby d45_158) (by rw [hml]; rfl) [(.int (Int32.ofNat (j + 9)))] [] (lenOf pd_26 rfl) rfl rfl (Nat.le_of_eq rfl) (by decide) (by decide) ?_
  intro v T L X hq
  obtain ⟨rfl, rfl, eT⟩ := hq
  have N := Fr.app N (Fr.nil n0)
  show GlH p e below _ _ sT _ _ _ _ (T.setTop (mkF m 161 #[.val (.ref mx), .val (.int (Int32.ofNat j)), .val (.ref q1)] [(.int (cs.getD (j + 9) 0))]))
  refine GlH.by (fun t_ k_ => XS.aloadN X.here hx rfl (hb hby d45_161) rfl rfl k_) ?_
  show GlH p e below _ _ sT _ _ _ _ (T.setTop (mkF m 162 #[.val (.ref mx), .val (.int (Int32.ofNat j)), .val (.ref q1)] [(.ref q1), (.int (cs.getD (j + 9) 0))]))
  refine GlH.by (fun t_ k_ => XS.bipush X.here hx rfl (hb hby d45_162) k_) ?_
  show GlH p e below _ _ sT _ _ _ _ (T.setTop (mkF m 164 #[.val (.ref mx), .val (.int (Int32.ofNat j)), .val (.ref q1)] [(.int (9 : Int32)), (.ref q1), (.int (cs.getD (j + 9) 0))]))
  refine GlH.virt X hx hZ hown (hw _ (List.mem_of_getElem? (i := 238) rfl)) (hw _ (List.mem_of_getElem? (i := 239) rfl)) (hw _ (List.mem_of_getElem? (i := 241) rfl)) (hw _ (List.mem_of_getElem? (i := 240) rfl)) (notFace_of_selects (args := #[]) (mvT hZ (hw _ (List.mem_of_getElem? (i := 241) rfl)))) (by decide) A1 (W := 1) (payCh (n0 := n0) hZ (own_wch hw) (hw _ (List.mem_of_getElem? (i := 9) rfl)) AQ S hz Sf rf O9 9 (by decide) (by decide) (by decide)) eT (hb hby d45_164) (by rw [hml]; rfl) [(.int (9 : Int32))] [(.int (cs.getD (j + 9) 0))] (lenOf pd_26 rfl) rfl rfl (Nat.le_of_eq rfl) (by decide) (by decide) ?_
  intro v T L X hq
  obtain ⟨rfl, rfl, eT⟩ := hq
  have N := Fr.app N (Fr.nil n0)
  show GlH p e below _ _ sT _ _ _ _ (T.setTop (mkF m 167 #[.val (.ref mx), .val (.int (Int32.ofNat j)), .val (.ref q1)] [(.int (own_TL.getD 9 0)), (.int (cs.getD (j + 9) 0))]))
  refine GlH.by (fun t_ k_ => XS.icmpNo X.here hx rfl (hb hby d45_167) rfl (teq (hT 9)).2 k_) ?_
  show GlH p e below _ _ sT _ _ _ _ (T.setTop (mkF m 170 #[.val (.ref mx), .val (.int (Int32.ofNat j)), .val (.ref q1)] []))
  refine GlH.by (fun t_ k_ => XS.aloadN X.here hx rfl (hb hby d45_170) rfl rfl k_) ?_
  show GlH p e below _ _ sT _ _ _ _ (T.setTop (mkF m 171 #[.val (.ref mx), .val (.int (Int32.ofNat j)), .val (.ref q1)] [(.ref mx)]))
  refine GlH.by (fun t_ k_ => XS.iloadN X.here hx rfl (hb hby d45_171) rfl k_) ?_
  show GlH p e below _ _ sT _ _ _ _ (T.setTop (mkF m 172 #[.val (.ref mx), .val (.int (Int32.ofNat j)), .val (.ref q1)] [(.int (Int32.ofNat j)), (.ref mx)]))
  refine GlH.by (fun t_ k_ => XS.bipush X.here hx rfl (hb hby d45_172) k_) ?_
  show GlH p e below _ _ sT _ _ _ _ (T.setTop (mkF m 174 #[.val (.ref mx), .val (.int (Int32.ofNat j)), .val (.ref q1)] [(.int (10 : Int32)), (.int (Int32.ofNat j)), (.ref mx)]))
  refine GlH.by (fun t_ k_ => XS.iadd X.here hx rfl (hb hby d45_174) rfl k_) ?_
  show GlH p e below _ _ sT _ _ _ _ (T.setTop (mkF m 175 #[.val (.ref mx), .val (.int (Int32.ofNat j)), .val (.ref q1)] [(.int ((Int32.ofNat j) + (10 : Int32))), (.ref mx)]))
  rw [show (Int32.ofNat j) + (10 : Int32) = Int32.ofNat (j + 10) from ofn_add j 10]
  show GlH p e below _ _ sT _ _ _ _ (T.setTop (mkF m 175 #[.val (.ref mx), .val (.int (Int32.ofNat j)), .val (.ref q1)] [(.int (Int32.ofNat (j + 10))), (.ref mx)]))
  refine GlH.virt X hx hZ hown (hw _ (List.mem_of_getElem? (i := 238) rfl)) (hw _ (List.mem_of_getElem? (i := 239) rfl)) (hw _ (List.mem_of_getElem? (i := 241) rfl)) (hw _ (List.mem_of_getElem? (i := 240) rfl)) (notFace_of_selects (args := #[]) (mvT hZ (hw _ (List.mem_of_getElem? (i := 241) rfl)))) (by decide) (A.1.ext E1) (W := 0) (payCh (n0 := n0) hZ (own_wch hw) (hw _ (List.mem_of_getElem? (i := 9) rfl)) Am S hz Sf rf O9 (j + 10) (by omega) (by decide) (by decide)) eT (hb hby d45_175) (by rw [hml]; rfl) [(.int (Int32.ofNat (j + 10)))] [] (lenOf pd_26 rfl) rfl rfl (Nat.le_of_eq rfl) (by decide) (by decide) ?_
  intro v T L X hq
  obtain ⟨rfl, rfl, eT⟩ := hq
  have N := Fr.app N (Fr.nil n0)
  show GlH p e below _ _ sT _ _ _ _ (T.setTop (mkF m 178 #[.val (.ref mx), .val (.int (Int32.ofNat j)), .val (.ref q1)] [(.int (cs.getD (j + 10) 0))]))
  refine GlH.by (fun t_ k_ => XS.aloadN X.here hx rfl (hb hby d45_178) rfl rfl k_) ?_
  show GlH p e below _ _ sT _ _ _ _ (T.setTop (mkF m 179 #[.val (.ref mx), .val (.int (Int32.ofNat j)), .val (.ref q1)] [(.ref q1), (.int (cs.getD (j + 10) 0))]))
  refine GlH.by (fun t_ k_ => XS.bipush X.here hx rfl (hb hby d45_179) k_) ?_
  show GlH p e below _ _ sT _ _ _ _ (T.setTop (mkF m 181 #[.val (.ref mx), .val (.int (Int32.ofNat j)), .val (.ref q1)] [(.int (10 : Int32)), (.ref q1), (.int (cs.getD (j + 10) 0))]))
  refine GlH.virt X hx hZ hown (hw _ (List.mem_of_getElem? (i := 238) rfl)) (hw _ (List.mem_of_getElem? (i := 239) rfl)) (hw _ (List.mem_of_getElem? (i := 241) rfl)) (hw _ (List.mem_of_getElem? (i := 240) rfl)) (notFace_of_selects (args := #[]) (mvT hZ (hw _ (List.mem_of_getElem? (i := 241) rfl)))) (by decide) A1 (W := 1) (payCh (n0 := n0) hZ (own_wch hw) (hw _ (List.mem_of_getElem? (i := 9) rfl)) AQ S hz Sf rf O9 10 (by decide) (by decide) (by decide)) eT (hb hby d45_181) (by rw [hml]; rfl) [(.int (10 : Int32))] [(.int (cs.getD (j + 10) 0))] (lenOf pd_26 rfl) rfl rfl (Nat.le_of_eq rfl) (by decide) (by decide) ?_
  intro v T L X hq
  obtain ⟨rfl, rfl, eT⟩ := hq
  have N := Fr.app N (Fr.nil n0)
  show GlH p e below _ _ sT _ _ _ _ (T.setTop (mkF m 184 #[.val (.ref mx), .val (.int (Int32.ofNat j)), .val (.ref q1)] [(.int (own_TL.getD 10 0)), (.int (cs.getD (j + 10) 0))]))
  refine GlH.by (fun t_ k_ => XS.icmpNo X.here hx rfl (hb hby d45_184) rfl (teq (hT 10)).2 k_) ?_
  show GlH p e below _ _ sT _ _ _ _ (T.setTop (mkF m 187 #[.val (.ref mx), .val (.int (Int32.ofNat j)), .val (.ref q1)] []))
  refine GlH.by (fun t_ k_ => XS.aloadN X.here hx rfl (hb hby d45_187) rfl rfl k_) ?_
  show GlH p e below _ _ sT _ _ _ _ (T.setTop (mkF m 188 #[.val (.ref mx), .val (.int (Int32.ofNat j)), .val (.ref q1)] [(.ref mx)]))
  refine GlH.by (fun t_ k_ => XS.iloadN X.here hx rfl (hb hby d45_188) rfl k_) ?_
  show GlH p e below _ _ sT _ _ _ _ (T.setTop (mkF m 189 #[.val (.ref mx), .val (.int (Int32.ofNat j)), .val (.ref q1)] [(.int (Int32.ofNat j)), (.ref mx)]))
  refine GlH.by (fun t_ k_ => XS.bipush X.here hx rfl (hb hby d45_189) k_) ?_
  show GlH p e below _ _ sT _ _ _ _ (T.setTop (mkF m 191 #[.val (.ref mx), .val (.int (Int32.ofNat j)), .val (.ref q1)] [(.int (11 : Int32)), (.int (Int32.ofNat j)), (.ref mx)]))
  refine GlH.by (fun t_ k_ => XS.iadd X.here hx rfl (hb hby d45_191) rfl k_) ?_
  show GlH p e below _ _ sT _ _ _ _ (T.setTop (mkF m 192 #[.val (.ref mx), .val (.int (Int32.ofNat j)), .val (.ref q1)] [(.int ((Int32.ofNat j) + (11 : Int32))), (.ref mx)]))
  rw [show (Int32.ofNat j) + (11 : Int32) = Int32.ofNat (j + 11) from ofn_add j 11]
  show GlH p e below _ _ sT _ _ _ _ (T.setTop (mkF m 192 #[.val (.ref mx), .val (.int (Int32.ofNat j)), .val (.ref q1)] [(.int (Int32.ofNat (j + 11))), (.ref mx)]))
  refine GlH.virt X hx hZ hown (hw _ (List.mem_of_getElem? (i := 238) rfl)) (hw _ (List.mem_of_getElem? (i := 239) rfl)) (hw _ (List.mem_of_getElem? (i := 241) rfl)) (hw _ (List.mem_of_getElem? (i := 240) rfl)) (notFace_of_selects (args := #[]) (mvT hZ (hw _ (List.mem_of_getElem? (i := 241) rfl)))) (by decide) (A.1.ext E1) (W := 0) (payCh (n0 := n0) hZ (own_wch hw) (hw _ (List.mem_of_getElem? (i := 9) rfl)) Am S hz Sf rf O9 (j + 11) (by omega) (by decide) (by decide)) eT (hb hby d45_192) (by rw [hml]; rfl) [(.int (Int32.ofNat (j + 11)))] [] (lenOf pd_26 rfl) rfl rfl (Nat.le_of_eq rfl) (by decide) (by decide) ?_
  intro v T L X hq
  obtain ⟨rfl, rfl, eT⟩ := hq
  have N := Fr.app N (Fr.nil n0)
  show GlH p e below _ _ sT _ _ _ _ (T.setTop (mkF m 195 #[.val (.ref mx), .val (.int (Int32.ofNat j)), .val (.ref q1)] [(.int (cs.getD (j + 11) 0))]))
  refine GlH.by (fun t_ k_ => XS.aloadN X.here hx rfl (hb hby d45_195) rfl rfl k_) ?_
  show GlH p e below _ _ sT _ _ _ _ (T.setTop (mkF m 196 #[.val (.ref mx), .val (.int (Int32.ofNat j)), .val (.ref q1)] [(.ref q1), (.int (cs.getD (j + 11) 0))]))
  refine GlH.by (fun t_ k_ => XS.bipush X.here hx rfl (hb hby d45_196) k_) ?_
  show GlH p e below _ _ sT _ _ _ _ (T.setTop (mkF m 198 #[.val (.ref mx), .val (.int (Int32.ofNat j)), .val (.ref q1)] [(.int (11 : Int32)), (.ref q1), (.int (cs.getD (j + 11) 0))]))
  refine GlH.virt X hx hZ hown (hw _ (List.mem_of_getElem? (i := 238) rfl)) (hw _ (List.mem_of_getElem? (i := 239) rfl)) (hw _ (List.mem_of_getElem? (i := 241) rfl)) (hw _ (List.mem_of_getElem? (i := 240) rfl)) (notFace_of_selects (args := #[]) (mvT hZ (hw _ (List.mem_of_getElem? (i := 241) rfl)))) (by decide) A1 (W := 1) (payCh (n0 := n0) hZ (own_wch hw) (hw _ (List.mem_of_getElem? (i := 9) rfl)) AQ S hz Sf rf O9 11 (by decide) (by decide) (by decide)) eT (hb hby d45_198) (by rw [hml]; rfl) [(.int (11 : Int32))] [(.int (cs.getD (j + 11) 0))] (lenOf pd_26 rfl) rfl rfl (Nat.le_of_eq rfl) (by decide) (by decide) ?_
  intro v T L X hq
  obtain ⟨rfl, rfl, eT⟩ := hq
  have N := Fr.app N (Fr.nil n0)
  show GlH p e below _ _ sT _ _ _ _ (T.setTop (mkF m 201 #[.val (.ref mx), .val (.int (Int32.ofNat j)), .val (.ref q1)] [(.int (own_TL.getD 11 0)), (.int (cs.getD (j + 11) 0))]))
  refine GlH.by (fun t_ k_ => XS.icmpNo X.here hx rfl (hb hby d45_201) rfl (teq (hT 11)).2 k_) ?_
  show GlH p e below _ _ sT _ _ _ _ (T.setTop (mkF m 204 #[.val (.ref mx), .val (.int (Int32.ofNat j)), .val (.ref q1)] []))
  refine GlH.by (fun t_ k_ => XS.aloadN X.here hx rfl (hb hby d45_204) rfl rfl k_) ?_
  show GlH p e below _ _ sT _ _ _ _ (T.setTop (mkF m 205 #[.val (.ref mx), .val (.int (Int32.ofNat j)), .val (.ref q1)] [(.ref mx)]))
  refine GlH.by (fun t_ k_ => XS.iloadN X.here hx rfl (hb hby d45_205) rfl k_) ?_
  show GlH p e below _ _ sT _ _ _ _ (T.setTop (mkF m 206 #[.val (.ref mx), .val (.int (Int32.ofNat j)), .val (.ref q1)] [(.int (Int32.ofNat j)), (.ref mx)]))
  refine GlH.by (fun t_ k_ => XS.bipush X.here hx rfl (hb hby d45_206) k_) ?_
  show GlH p e below _ _ sT _ _ _ _ (T.setTop (mkF m 208 #[.val (.ref mx), .val (.int (Int32.ofNat j)), .val (.ref q1)] [(.int (12 : Int32)), (.int (Int32.ofNat j)), (.ref mx)]))
  refine GlH.by (fun t_ k_ => XS.iadd X.here hx rfl (hb hby d45_208) rfl k_) ?_
  show GlH p e below _ _ sT _ _ _ _ (T.setTop (mkF m 209 #[.val (.ref mx), .val (.int (Int32.ofNat j)), .val (.ref q1)] [(.int ((Int32.ofNat j) + (12 : Int32))), (.ref mx)]))
  rw [show (Int32.ofNat j) + (12 : Int32) = Int32.ofNat (j + 12) from ofn_add j 12]
  show GlH p e below _ _ sT _ _ _ _ (T.setTop (mkF m 209 #[.val (.ref mx), .val (.int (Int32.ofNat j)), .val (.ref q1)] [(.int (Int32.ofNat (j + 12))), (.ref mx)]))
  refine GlH.virt X hx hZ hown (hw _ (List.mem_of_getElem? (i := 238) rfl)) (hw _ (List.mem_of_getElem? (i := 239) rfl)) (hw _ (List.mem_of_getElem? (i := 241) rfl)) (hw _ (List.mem_of_getElem? (i := 240) rfl)) (notFace_of_selects (args := #[]) (mvT hZ (hw _ (List.mem_of_getElem? (i := 241) rfl)))) (by decide) (A.1.ext E1) (W := 0) (payCh (n0 := n0) hZ (own_wch hw) (hw _ (List.mem_of_getElem? (i := 9) rfl)) Am S hz Sf rf O9 (j + 12) (by omega) (by decide) (by decide)) eT (hb hby d45_209) (by rw [hml]; rfl) [(.int (Int32.ofNat (j + 12)))] [] (lenOf pd_26 rfl) rfl rfl (Nat.le_of_eq rfl) (by decide) (by decide) ?_
  intro v T L X hq
  obtain ⟨rfl, rfl, eT⟩ := hq
  have N := Fr.app N (Fr.nil n0)
  show GlH p e below _ _ sT _ _ _ _ (T.setTop (mkF m 212 #[.val (.ref mx), .val (.int (Int32.ofNat j)), .val (.ref q1)] [(.int (cs.getD (j + 12) 0))]))
  refine GlH.by (fun t_ k_ => XS.aloadN X.here hx rfl (hb hby d45_212) rfl rfl k_) ?_
  show GlH p e below _ _ sT _ _ _ _ (T.setTop (mkF m 213 #[.val (.ref mx), .val (.int (Int32.ofNat j)), .val (.ref q1)] [(.ref q1), (.int (cs.getD (j + 12) 0))]))
  refine GlH.by (fun t_ k_ => XS.bipush X.here hx rfl (hb hby d45_213) k_) ?_
  show GlH p e below _ _ sT _ _ _ _ (T.setTop (mkF m 215 #[.val (.ref mx), .val (.int (Int32.ofNat j)), .val (.ref q1)] [(.int (12 : Int32)), (.ref q1), (.int (cs.getD (j + 12) 0))]))
  refine GlH.virt X hx hZ hown (hw _ (List.mem_of_getElem? (i := 238) rfl)) (hw _ (List.mem_of_getElem? (i := 239) rfl)) (hw _ (List.mem_of_getElem? (i := 241) rfl)) (hw _ (List.mem_of_getElem? (i := 240) rfl)) (notFace_of_selects (args := #[]) (mvT hZ (hw _ (List.mem_of_getElem? (i := 241) rfl)))) (by decide) A1 (W := 1) (payCh (n0 := n0) hZ (own_wch hw) (hw _ (List.mem_of_getElem? (i := 9) rfl)) AQ S hz Sf rf O9 12 (by decide) (by decide) (by decide)) eT (hb hby d45_215) (by rw [hml]; rfl) [(.int (12 : Int32))] [(.int (cs.getD (j + 12) 0))] (lenOf pd_26 rfl) rfl rfl (Nat.le_of_eq rfl) (by decide) (by decide) ?_
  intro v T L X hq
  obtain ⟨rfl, rfl, eT⟩ := hq
  have N := Fr.app N (Fr.nil n0)
  show GlH p e below _ _ sT _ _ _ _ (T.setTop (mkF m 218 #[.val (.ref mx), .val (.int (Int32.ofNat j)), .val (.ref q1)] [(.int (own_TL.getD 12 0)), (.int (cs.getD (j + 12) 0))]))
  refine GlH.by (fun t_ k_ => XS.icmpNo X.here hx rfl (hb hby d45_218) rfl (teq (hT 12)).2 k_) ?_
  show GlH p e below _ _ sT _ _ _ _ (T.setTop (mkF m 221 #[.val (.ref mx), .val (.int (Int32.ofNat j)), .val (.ref q1)] []))
  refine GlH.by (fun t_ k_ => XS.aloadN X.here hx rfl (hb hby d45_221) rfl rfl k_) ?_
  show GlH p e below _ _ sT _ _ _ _ (T.setTop (mkF m 222 #[.val (.ref mx), .val (.int (Int32.ofNat j)), .val (.ref q1)] [(.ref mx)]))
  refine GlH.by (fun t_ k_ => XS.iloadN X.here hx rfl (hb hby d45_222) rfl k_) ?_
  show GlH p e below _ _ sT _ _ _ _ (T.setTop (mkF m 223 #[.val (.ref mx), .val (.int (Int32.ofNat j)), .val (.ref q1)] [(.int (Int32.ofNat j)), (.ref mx)]))
  refine GlH.by (fun t_ k_ => XS.bipush X.here hx rfl (hb hby d45_223) k_) ?_
  show GlH p e below _ _ sT _ _ _ _ (T.setTop (mkF m 225 #[.val (.ref mx), .val (.int (Int32.ofNat j)), .val (.ref q1)] [(.int (13 : Int32)), (.int (Int32.ofNat j)), (.ref mx)]))
  refine GlH.by (fun t_ k_ => XS.iadd X.here hx rfl (hb hby d45_225) rfl k_) ?_
  show GlH p e below _ _ sT _ _ _ _ (T.setTop (mkF m 226 #[.val (.ref mx), .val (.int (Int32.ofNat j)), .val (.ref q1)] [(.int ((Int32.ofNat j) + (13 : Int32))), (.ref mx)]))
  rw [show (Int32.ofNat j) + (13 : Int32) = Int32.ofNat (j + 13) from ofn_add j 13]
  show GlH p e below _ _ sT _ _ _ _ (T.setTop (mkF m 226 #[.val (.ref mx), .val (.int (Int32.ofNat j)), .val (.ref q1)] [(.int (Int32.ofNat (j + 13))), (.ref mx)]))
  refine GlH.virt X hx hZ hown (hw _ (List.mem_of_getElem? (i := 238) rfl)) (hw _ (List.mem_of_getElem? (i := 239) rfl)) (hw _ (List.mem_of_getElem? (i := 241) rfl)) (hw _ (List.mem_of_getElem? (i := 240) rfl)) (notFace_of_selects (args := #[]) (mvT hZ (hw _ (List.mem_of_getElem? (i := 241) rfl)))) (by decide) (A.1.ext E1) (W := 0) (payCh (n0 := n0) hZ (own_wch hw) (hw _ (List.mem_of_getElem? (i := 9) rfl)) Am S hz Sf rf O9 (j + 13) (by omega) (by decide) (by decide)) eT (hb hby d45_226) (by rw [hml]; rfl) [(.int (Int32.ofNat (j + 13)))] [] (lenOf pd_26 rfl) rfl rfl (Nat.le_of_eq rfl) (by decide) (by decide) ?_
  intro v T L X hq
  obtain ⟨rfl, rfl, eT⟩ := hq
  have N := Fr.app N (Fr.nil n0)
  show GlH p e below _ _ sT _ _ _ _ (T.setTop (mkF m 229 #[.val (.ref mx), .val (.int (Int32.ofNat j)), .val (.ref q1)] [(.int (cs.getD (j + 13) 0))]))
  refine GlH.by (fun t_ k_ => XS.aloadN X.here hx rfl (hb hby d45_229) rfl rfl k_) ?_
  show GlH p e below _ _ sT _ _ _ _ (T.setTop (mkF m 230 #[.val (.ref mx), .val (.int (Int32.ofNat j)), .val (.ref q1)] [(.ref q1), (.int (cs.getD (j + 13) 0))]))
  refine GlH.by (fun t_ k_ => XS.bipush X.here hx rfl (hb hby d45_230) k_) ?_
  show GlH p e below _ _ sT _ _ _ _ (T.setTop (mkF m 232 #[.val (.ref mx), .val (.int (Int32.ofNat j)), .val (.ref q1)] [(.int (13 : Int32)), (.ref q1), (.int (cs.getD (j + 13) 0))]))
  refine GlH.virt X hx hZ hown (hw _ (List.mem_of_getElem? (i := 238) rfl)) (hw _ (List.mem_of_getElem? (i := 239) rfl)) (hw _ (List.mem_of_getElem? (i := 241) rfl)) (hw _ (List.mem_of_getElem? (i := 240) rfl)) (notFace_of_selects (args := #[]) (mvT hZ (hw _ (List.mem_of_getElem? (i := 241) rfl)))) (by decide) A1 (W := 1) (payCh (n0 := n0) hZ (own_wch hw) (hw _ (List.mem_of_getElem? (i := 9) rfl)) AQ S hz Sf rf O9 13 (by decide) (by decide) (by decide)) eT (hb hby d45_232) (by rw [hml]; rfl) [(.int (13 : Int32))] [(.int (cs.getD (j + 13) 0))] (lenOf pd_26 rfl) rfl rfl (Nat.le_of_eq rfl) (by decide) (by decide) ?_
  intro v T L X hq
  obtain ⟨rfl, rfl, eT⟩ := hq
  have N := Fr.app N (Fr.nil n0)
  show GlH p e below _ _ sT _ _ _ _ (T.setTop (mkF m 235 #[.val (.ref mx), .val (.int (Int32.ofNat j)), .val (.ref q1)] [(.int (own_TL.getD 13 0)), (.int (cs.getD (j + 13) 0))]))
  refine GlH.by (fun t_ k_ => XS.icmpNo X.here hx rfl (hb hby d45_235) rfl (teq (hT 13)).2 k_) ?_
  show GlH p e below _ _ sT _ _ _ _ (T.setTop (mkF m 238 #[.val (.ref mx), .val (.int (Int32.ofNat j)), .val (.ref q1)] []))
  refine GlH.by (fun t_ k_ => XS.aloadN X.here hx rfl (hb hby d45_238) rfl rfl k_) ?_
  show GlH p e below _ _ sT _ _ _ _ (T.setTop (mkF m 239 #[.val (.ref mx), .val (.int (Int32.ofNat j)), .val (.ref q1)] [(.ref mx)]))
  refine GlH.by (fun t_ k_ => XS.iloadN X.here hx rfl (hb hby d45_239) rfl k_) ?_
  show GlH p e below _ _ sT _ _ _ _ (T.setTop (mkF m 240 #[.val (.ref mx), .val (.int (Int32.ofNat j)), .val (.ref q1)] [(.int (Int32.ofNat j)), (.ref mx)]))
  refine GlH.by (fun t_ k_ => XS.bipush X.here hx rfl (hb hby d45_240) k_) ?_
  show GlH p e below _ _ sT _ _ _ _ (T.setTop (mkF m 242 #[.val (.ref mx), .val (.int (Int32.ofNat j)), .val (.ref q1)] [(.int (14 : Int32)), (.int (Int32.ofNat j)), (.ref mx)]))
  refine GlH.by (fun t_ k_ => XS.iadd X.here hx rfl (hb hby d45_242) rfl k_) ?_
  show GlH p e below _ _ sT _ _ _ _ (T.setTop (mkF m 243 #[.val (.ref mx), .val (.int (Int32.ofNat j)), .val (.ref q1)] [(.int ((Int32.ofNat j) + (14 : Int32))), (.ref mx)]))
  rw [show (Int32.ofNat j) + (14 : Int32) = Int32.ofNat (j + 14) from ofn_add j 14]
  show GlH p e below _ _ sT _ _ _ _ (T.setTop (mkF m 243 #[.val (.ref mx), .val (.int (Int32.ofNat j)), .val (.ref q1)] [(.int (Int32.ofNat (j + 14))), (.ref mx)]))
  refine GlH.virt X hx hZ hown (hw _ (List.mem_of_getElem? (i := 238) rfl)) (hw _ (List.mem_of_getElem? (i := 239) rfl)) (hw _ (List.mem_of_getElem? (i := 241) rfl)) (hw _ (List.mem_of_getElem? (i := 240) rfl)) (notFace_of_selects (args := #[]) (mvT hZ (hw _ (List.mem_of_getElem? (i := 241) rfl)))) (by decide) (A.1.ext E1) (W := 0) (payCh (n0 := n0) hZ (own_wch hw) (hw _ (List.mem_of_getElem? (i := 9) rfl)) Am S hz Sf rf O9 (j + 14) (by omega) (by decide) (by decide)) eT (hb hby d45_243) (by rw [hml]; rfl) [(.int (Int32.ofNat (j + 14)))] [] (lenOf pd_26 rfl) rfl rfl (Nat.le_of_eq rfl) (by decide) (by decide) ?_
  intro v T L X hq
  obtain ⟨rfl, rfl, eT⟩ := hq
  have N := Fr.app N (Fr.nil n0)
  show GlH p e below _ _ sT _ _ _ _ (T.setTop (mkF m 246 #[.val (.ref mx), .val (.int (Int32.ofNat j)), .val (.ref q1)] [(.int (cs.getD (j + 14) 0))]))
  refine GlH.by (fun t_ k_ => XS.aloadN X.here hx rfl (hb hby d45_246) rfl rfl k_) ?_
  show GlH p e below _ _ sT _ _ _ _ (T.setTop (mkF m 247 #[.val (.ref mx), .val (.int (Int32.ofNat j)), .val (.ref q1)] [(.ref q1), (.int (cs.getD (j + 14) 0))]))
  refine GlH.by (fun t_ k_ => XS.bipush X.here hx rfl (hb hby d45_247) k_) ?_
  show GlH p e below _ _ sT _ _ _ _ (T.setTop (mkF m 249 #[.val (.ref mx), .val (.int (Int32.ofNat j)), .val (.ref q1)] [(.int (14 : Int32)), (.ref q1), (.int (cs.getD (j + 14) 0))]))
  refine GlH.virt X hx hZ hown (hw _ (List.mem_of_getElem? (i := 238) rfl)) (hw _ (List.mem_of_getElem? (i := 239) rfl)) (hw _ (List.mem_of_getElem? (i := 241) rfl)) (hw _ (List.mem_of_getElem? (i := 240) rfl)) (notFace_of_selects (args := #[]) (mvT hZ (hw _ (List.mem_of_getElem? (i := 241) rfl)))) (by decide) A1 (W := 1) (payCh (n0 := n0) hZ (own_wch hw) (hw _ (List.mem_of_getElem? (i := 9) rfl)) AQ S hz Sf rf O9 14 (by decide) (by decide) (by decide)) eT (hb hby d45_249) (by rw [hml]; rfl) [(.int (14 : Int32))] [(.int (cs.getD (j + 14) 0))] (lenOf pd_26 rfl) rfl rfl (Nat.le_of_eq rfl) (by decide) (by decide) ?_
  intro v T L X hq
  obtain ⟨rfl, rfl, eT⟩ := hq
  have N := Fr.app N (Fr.nil n0)
  show GlH p e below _ _ sT _ _ _ _ (T.setTop (mkF m 252 #[.val (.ref mx), .val (.int (Int32.ofNat j)), .val (.ref q1)] [(.int (own_TL.getD 14 0)), (.int (cs.getD (j + 14) 0))]))
  refine GlH.by (fun t_ k_ => XS.icmpNo X.here hx rfl (hb hby d45_252) rfl (teq (hT 14)).2 k_) ?_
  show GlH p e below _ _ sT _ _ _ _ (T.setTop (mkF m 255 #[.val (.ref mx), .val (.int (Int32.ofNat j)), .val (.ref q1)] []))
  refine GlH.by (fun t_ k_ => XS.aloadN X.here hx rfl (hb hby d45_255) rfl rfl k_) ?_
  show GlH p e below _ _ sT _ _ _ _ (T.setTop (mkF m 256 #[.val (.ref mx), .val (.int (Int32.ofNat j)), .val (.ref q1)] [(.ref mx)]))
  refine GlH.by (fun t_ k_ => XS.iloadN X.here hx rfl (hb hby d45_256) rfl k_) ?_
  show GlH p e below _ _ sT _ _ _ _ (T.setTop (mkF m 257 #[.val (.ref mx), .val (.int (Int32.ofNat j)), .val (.ref q1)] [(.int (Int32.ofNat j)), (.ref mx)]))
  refine GlH.by (fun t_ k_ => XS.bipush X.here hx rfl (hb hby d45_257) k_) ?_
  show GlH p e below _ _ sT _ _ _ _ (T.setTop (mkF m 259 #[.val (.ref mx), .val (.int (Int32.ofNat j)), .val (.ref q1)] [(.int (15 : Int32)), (.int (Int32.ofNat j)), (.ref mx)]))
  refine GlH.by (fun t_ k_ => XS.iadd X.here hx rfl (hb hby d45_259) rfl k_) ?_
  show GlH p e below _ _ sT _ _ _ _ (T.setTop (mkF m 260 #[.val (.ref mx), .val (.int (Int32.ofNat j)), .val (.ref q1)] [(.int ((Int32.ofNat j) + (15 : Int32))), (.ref mx)]))
  rw [show (Int32.ofNat j) + (15 : Int32) = Int32.ofNat (j + 15) from ofn_add j 15]
  show GlH p e below _ _ sT _ _ _ _ (T.setTop (mkF m 260 #[.val (.ref mx), .val (.int (Int32.ofNat j)), .val (.ref q1)] [(.int (Int32.ofNat (j + 15))), (.ref mx)]))
  refine GlH.virt X hx hZ hown (hw _ (List.mem_of_getElem? (i := 238) rfl)) (hw _ (List.mem_of_getElem? (i := 239) rfl)) (hw _ (List.mem_of_getElem? (i := 241) rfl)) (hw _ (List.mem_of_getElem? (i := 240) rfl)) (notFace_of_selects (args := #[]) (mvT hZ (hw _ (List.mem_of_getElem? (i := 241) rfl)))) (by decide) (A.1.ext E1) (W := 0) (payCh (n0 := n0) hZ (own_wch hw) (hw _ (List.mem_of_getElem? (i := 9) rfl)) Am S hz Sf rf O9 (j + 15) (by omega) (by decide) (by decide)) eT (hb hby d45_260) (by rw [hml]; rfl) [(.int (Int32.ofNat (j + 15)))] [] (lenOf pd_26 rfl) rfl rfl (Nat.le_of_eq rfl) (by decide) (by decide) ?_
  intro v T L X hq
  obtain ⟨rfl, rfl, eT⟩ := hq
  have N := Fr.app N (Fr.nil n0)
  show GlH p e below _ _ sT _ _ _ _ (T.setTop (mkF m 263 #[.val (.ref mx), .val (.int (Int32.ofNat j)), .val (.ref q1)] [(.int (cs.getD (j + 15) 0))]))
  refine GlH.by (fun t_ k_ => XS.aloadN X.here hx rfl (hb hby d45_263) rfl rfl k_) ?_
  show GlH p e below _ _ sT _ _ _ _ (T.setTop (mkF m 264 #[.val (.ref mx), .val (.int (Int32.ofNat j)), .val (.ref q1)] [(.ref q1), (.int (cs.getD (j + 15) 0))]))
  refine GlH.by (fun t_ k_ => XS.bipush X.here hx rfl (hb hby d45_264) k_) ?_
  show GlH p e below _ _ sT _ _ _ _ (T.setTop (mkF m 266 #[.val (.ref mx), .val (.int (Int32.ofNat j)), .val (.ref q1)] [(.int (15 : Int32)), (.ref q1), (.int (cs.getD (j + 15) 0))]))
  refine GlH.virt X hx hZ hown (hw _ (List.mem_of_getElem? (i := 238) rfl)) (hw _ (List.mem_of_getElem? (i := 239) rfl)) (hw _ (List.mem_of_getElem? (i := 241) rfl)) (hw _ (List.mem_of_getElem? (i := 240) rfl)) (notFace_of_selects (args := #[]) (mvT hZ (hw _ (List.mem_of_getElem? (i := 241) rfl)))) (by decide) A1 (W := 1) (payCh (n0 := n0) hZ (own_wch hw) (hw _ (List.mem_of_getElem? (i := 9) rfl)) AQ S hz Sf rf O9 15 (by decide) (by decide) (by decide)) eT (hb hby d45_266) (by rw [hml]; rfl) [(.int (15 : Int32))] [(.int (cs.getD (j + 15) 0))] (lenOf pd_26 rfl) rfl rfl (Nat.le_of_eq rfl) (by decide) (by decide) ?_
  intro v T L X hq
  obtain ⟨rfl, rfl, eT⟩ := hq
  have N := Fr.app N (Fr.nil n0)
  show GlH p e below _ _ sT _ _ _ _ (T.setTop (mkF m 269 #[.val (.ref mx), .val (.int (Int32.ofNat j)), .val (.ref q1)] [(.int (own_TL.getD 15 0)), (.int (cs.getD (j + 15) 0))]))
  refine GlH.by (fun t_ k_ => XS.icmpNo X.here hx rfl (hb hby d45_269) rfl (teq (hT 15)).2 k_) ?_
  show GlH p e below _ _ sT _ _ _ _ (T.setTop (mkF m 272 #[.val (.ref mx), .val (.int (Int32.ofNat j)), .val (.ref q1)] []))
  refine GlH.by (fun t_ k_ => XS.iconst X.here hx rfl (hb hby d45_272) k_) ?_
  show GlH p e below _ _ sT _ _ _ _ (T.setTop (mkF m 273 #[.val (.ref mx), .val (.int (Int32.ofNat j)), .val (.ref q1)] [(.int (1 : Int32))]))
  refine GlH.by (fun t_ k_ => XS.goto X.here hx rfl (pc0 := 273) (pc' := 277) rfl (hb hby d45_273) (by decide) (by decide) k_) ?_
  show GlH p e below _ _ sT _ _ _ _ (T.setTop (mkF m 277 #[.val (.ref mx), .val (.int (Int32.ofNat j)), .val (.ref q1)] [(.int (1 : Int32))]))
  refine GlH.retZ X B eT hZ hEL hx hlk hret (by simp) (hb hby d45_277) (by decide) (by decide) ?_
  rw [eT]
  exact ⟨rfl, N, ((Keep.refl h0 []).ext E1)⟩
set_option maxRecDepth 65536 in
set_option maxHeartbeats 40000000 in
theorem own_law (l : Launch) (Z : State) (a0 : Array Value) (hw : ∀ d ∈ tables_1, d.before a0 Z = true) (ws : List Jvm.Cond) (p0 p1 p2 z : Int32) (fm uv sv : Value) (h0 : Heap) (n0 : Nat) (Z0 : n0 ≤ h0.size) (hst : l.stackTraces = true) (SU : Sta Z Z.heap "java/lang/Throwable" "UNASSIGNED_STACK" "[Ljava/lang/StackTraceElement;" uv) (hru : uv.isRef = true) (SS : Sta Z Z.heap "java/lang/Throwable" "SUPPRESSED_SENTINEL" "Ljava/util/List;" sv) (hrs : sv.isRef = true) (Sf : Sta Z Z.heap "jdk/internal/util/Preconditions" "SIOOBE_FORMATTER" "Ljava/util/function/BiFunction;" fm) (rf : fm.isRef = true) (S : Sta Z Z.heap "java/lang/String" "COMPACT_STRINGS" "Z" (.int z)) (hz : ¬ z = 0) (O : Old Z n0 h0) :
    CtrHK l Z own_EL x code maxLocals ret ws room_1 #[(.int p0), (.int p1), (.int p2)] h0 (fun v h L => v = some (.int 1) ∧ Fr n0 L) := by
  have hEL := own_ew hw
  refine CtrHK.intro (plainFor_of_name pn_6) #[.val (.int p0), .val (.int p1), .val (.int p2), .unset, .unset, .unset, .unset, .unset, .unset, .unset, .unset, .unset, .unset, .unset] (fun m => by first | (simp [entryFrame, mkF, argsToLocals, Value.category, maxLocals]; done) | rfl) ?_
  intro p e sT m below meth c s T hx hby hml hown hnm hret hlk hZ hnamed X eT B kn
  have hown : s.vm.findClass "com/example/intentio/intentio/hddl/DeclarationsNotDeclaredPinLaw" = some m.cls := hown
  have N := Fr.nil n0
  show GlH p e below Z own_EL sT h0 room_1.cells room_1.slots (fun v h L => v = some (.int 1) ∧ Fr n0 L) (T.setTop (mkF m 0 #[.val (.int p0), .val (.int p1), .val (.int p2), .unset, .unset, .unset, .unset, .unset, .unset, .unset, .unset, .unset, .unset, .unset] []))
  refine GlH.by (fun t_ k_ => XS.iloadN X.here hx rfl (hb hby at_0) rfl k_) ?_
  show GlH p e below Z own_EL sT h0 room_1.cells room_1.slots (fun v h L => v = some (.int 1) ∧ Fr n0 L) (T.setTop (mkF m 1 #[.val (.int p0), .val (.int p1), .val (.int p2), .unset, .unset, .unset, .unset, .unset, .unset, .unset, .unset, .unset, .unset, .unset] [(.int p1)]))
  refine GlH.by (fun t_ k_ => XS.iconst X.here hx rfl (hb hby at_1) k_) ?_
  show GlH p e below Z own_EL sT h0 room_1.cells room_1.slots (fun v h L => v = some (.int 1) ∧ Fr n0 L) (T.setTop (mkF m 2 #[.val (.int p0), .val (.int p1), .val (.int p2), .unset, .unset, .unset, .unset, .unset, .unset, .unset, .unset, .unset, .unset, .unset] [(.int (3 : Int32)), (.int p1)]))
  refine GlH.by (fun t_ k_ => XS.iand X.here hx rfl (hb hby at_2) rfl k_) ?_
  show GlH p e below Z own_EL sT h0 room_1.cells room_1.slots (fun v h L => v = some (.int 1) ∧ Fr n0 L) (T.setTop (mkF m 3 #[.val (.int p0), .val (.int p1), .val (.int p2), .unset, .unset, .unset, .unset, .unset, .unset, .unset, .unset, .unset, .unset, .unset] [(.int (p1 &&& (3 : Int32)))]))
  refine GlH.by (fun t_ k_ => XS.iconst X.here hx rfl (hb hby at_3) k_) ?_
  show GlH p e below Z own_EL sT h0 room_1.cells room_1.slots (fun v h L => v = some (.int 1) ∧ Fr n0 L) (T.setTop (mkF m 4 #[.val (.int p0), .val (.int p1), .val (.int p2), .unset, .unset, .unset, .unset, .unset, .unset, .unset, .unset, .unset, .unset, .unset] [(.int (2 : Int32)), (.int (p1 &&& (3 : Int32)))]))
  refine GlH.stat X hx hZ hown (hw _ (List.mem_of_getElem? (i := 0) rfl)) (hw _ (List.mem_of_getElem? (i := 1) rfl)) (hw _ (List.mem_of_getElem? (i := 2) rfl)) (hw _ (List.mem_of_getElem? (i := 3) rfl)) (by decide) (W := 0) (backC (own_min l Z a0 hw (p1 &&& (3 : Int32)) 2 h0 n0) hZ (hw _ (List.mem_of_getElem? (i := 3) rfl)) (hw _ (List.mem_of_getElem? (i := 2) rfl)) (by decide) (by decide)) eT (hb hby at_4) (by rw [hml]; rfl) [(.int (p1 &&& (3 : Int32))), (.int (2 : Int32))] [] (lenOf pd_8 rfl) rfl rfl (Nat.le_of_eq rfl) (by decide) (by decide) ?_
  intro v T L X hq
  obtain ⟨rfl, rfl, eT⟩ := hq
  have N := Fr.app N (Fr.nil n0)
  show GlH p e below Z own_EL sT h0 room_1.cells room_1.slots (fun v h L => v = some (.int 1) ∧ Fr n0 L) (T.setTop (mkF m 7 #[.val (.int p0), .val (.int p1), .val (.int p2), .unset, .unset, .unset, .unset, .unset, .unset, .unset, .unset, .unset, .unset, .unset] [(.int (own_minv (p1 &&& (3 : Int32)) (2 : Int32)))]))
  have hk := own_m3 p1
  obtain ⟨kl, e_kl⟩ : ∃ x, x = (own_minv (p1 &&& (3 : Int32)) (2 : Int32)) := ⟨_, rfl⟩
  rw [← e_kl] at hk
  rw [← e_kl]
  show GlH p e below Z own_EL sT h0 room_1.cells room_1.slots (fun v h L => v = some (.int 1) ∧ Fr n0 L) (T.setTop (mkF m 7 #[.val (.int p0), .val (.int p1), .val (.int p2), .unset, .unset, .unset, .unset, .unset, .unset, .unset, .unset, .unset, .unset, .unset] [(.int kl)]))
  refine GlH.by (fun t_ k_ => XS.istoreN X.here hx rfl (hb hby at_7) rfl (l' := #[.val (.int p0), .val (.int p1), .val (.int p2), .val (.int kl), .unset, .unset, .unset, .unset, .unset, .unset, .unset, .unset, .unset, .unset]) rfl k_) ?_
  show GlH p e below Z own_EL sT h0 room_1.cells room_1.slots (fun v h L => v = some (.int 1) ∧ Fr n0 L) (T.setTop (mkF m 8 #[.val (.int p0), .val (.int p1), .val (.int p2), .val (.int kl), .unset, .unset, .unset, .unset, .unset, .unset, .unset, .unset, .unset, .unset] []))
  refine GlH.by (fun t_ k_ => XS.iloadN X.here hx rfl (hb hby at_8) rfl k_) ?_
  show GlH p e below Z own_EL sT h0 room_1.cells room_1.slots (fun v h L => v = some (.int 1) ∧ Fr n0 L) (T.setTop (mkF m 9 #[.val (.int p0), .val (.int p1), .val (.int p2), .val (.int kl), .unset, .unset, .unset, .unset, .unset, .unset, .unset, .unset, .unset, .unset] [(.int p1)]))
  refine GlH.by (fun t_ k_ => XS.iconst X.here hx rfl (hb hby at_9) k_) ?_
  show GlH p e below Z own_EL sT h0 room_1.cells room_1.slots (fun v h L => v = some (.int 1) ∧ Fr n0 L) (T.setTop (mkF m 10 #[.val (.int p0), .val (.int p1), .val (.int p2), .val (.int kl), .unset, .unset, .unset, .unset, .unset, .unset, .unset, .unset, .unset, .unset] [(.int (2 : Int32)), (.int p1)]))
  refine GlH.by (fun t_ k_ => XS.iushr X.here hx rfl (hb hby at_10) rfl k_) ?_
  show GlH p e below Z own_EL sT h0 room_1.cells room_1.slots (fun v h L => v = some (.int 1) ∧ Fr n0 L) (T.setTop (mkF m 11 #[.val (.int p0), .val (.int p1), .val (.int p2), .val (.int kl), .unset, .unset, .unset, .unset, .unset, .unset, .unset, .unset, .unset, .unset] [(.int ((p1.toUInt32 >>> ((2 : Int32) &&& 31).toUInt32).toInt32))]))
  refine GlH.by (fun t_ k_ => XS.sipush X.here hx rfl (hb hby at_11) k_) ?_
  show GlH p e below Z own_EL sT h0 room_1.cells room_1.slots (fun v h L => v = some (.int 1) ∧ Fr n0 L) (T.setTop (mkF m 14 #[.val (.int p0), .val (.int p1), .val (.int p2), .val (.int kl), .unset, .unset, .unset, .unset, .unset, .unset, .unset, .unset, .unset, .unset] [(.int (255 : Int32)), (.int ((p1.toUInt32 >>> ((2 : Int32) &&& 31).toUInt32).toInt32))]))
  refine GlH.by (fun t_ k_ => XS.iand X.here hx rfl (hb hby at_14) rfl k_) ?_
  show GlH p e below Z own_EL sT h0 room_1.cells room_1.slots (fun v h L => v = some (.int 1) ∧ Fr n0 L) (T.setTop (mkF m 15 #[.val (.int p0), .val (.int p1), .val (.int p2), .val (.int kl), .unset, .unset, .unset, .unset, .unset, .unset, .unset, .unset, .unset, .unset] [(.int (((p1.toUInt32 >>> ((2 : Int32) &&& 31).toUInt32).toInt32) &&& (255 : Int32)))]))
  refine GlH.by (fun t_ k_ => XS.i2c X.here hx rfl (hb hby at_15) rfl k_) ?_
  show GlH p e below Z own_EL sT h0 room_1.cells room_1.slots (fun v h L => v = some (.int 1) ∧ Fr n0 L) (T.setTop (mkF m 16 #[.val (.int p0), .val (.int p1), .val (.int p2), .val (.int kl), .unset, .unset, .unset, .unset, .unset, .unset, .unset, .unset, .unset, .unset] [(.int ((((p1.toUInt32 >>> ((2 : Int32) &&& 31).toUInt32).toInt32) &&& (255 : Int32)).toUInt32.toUInt16.toUInt32.toInt32))]))
  rw [(and255_char ((p1.toUInt32 >>> ((2 : Int32) &&& 31).toUInt32).toInt32)).1]
  show GlH p e below Z own_EL sT h0 room_1.cells room_1.slots (fun v h L => v = some (.int 1) ∧ Fr n0 L) (T.setTop (mkF m 16 #[.val (.int p0), .val (.int p1), .val (.int p2), .val (.int kl), .unset, .unset, .unset, .unset, .unset, .unset, .unset, .unset, .unset, .unset] [(.int ((((p1.toUInt32 >>> ((2 : Int32) &&& 31).toUInt32).toInt32) &&& (255 : Int32))))]))
  obtain ⟨-, H_k0⟩ := and255_char ((p1.toUInt32 >>> ((2 : Int32) &&& 31).toUInt32).toInt32)
  obtain ⟨k0, e_k0⟩ : ∃ x, x = (((p1.toUInt32 >>> ((2 : Int32) &&& 31).toUInt32).toInt32) &&& (255 : Int32)) := ⟨_, rfl⟩
  rw [← e_k0] at H_k0
  rw [← e_k0]
  show GlH p e below Z own_EL sT h0 room_1.cells room_1.slots (fun v h L => v = some (.int 1) ∧ Fr n0 L) (T.setTop (mkF m 16 #[.val (.int p0), .val (.int p1), .val (.int p2), .val (.int kl), .unset, .unset, .unset, .unset, .unset, .unset, .unset, .unset, .unset, .unset] [(.int (k0))]))
  refine GlH.by (fun t_ k_ => XS.istore X.here hx rfl (hb hby at_16) rfl (l' := #[.val (.int p0), .val (.int p1), .val (.int p2), .val (.int kl), .val (.int (k0)), .unset, .unset, .unset, .unset, .unset, .unset, .unset, .unset, .unset]) rfl k_) ?_
  show GlH p e below Z own_EL sT h0 room_1.cells room_1.slots (fun v h L => v = some (.int 1) ∧ Fr n0 L) (T.setTop (mkF m 18 #[.val (.int p0), .val (.int p1), .val (.int p2), .val (.int kl), .val (.int (k0)), .unset, .unset, .unset, .unset, .unset, .unset, .unset, .unset, .unset] []))
  refine GlH.by (fun t_ k_ => XS.iloadN X.here hx rfl (hb hby at_18) rfl k_) ?_
  show GlH p e below Z own_EL sT h0 room_1.cells room_1.slots (fun v h L => v = some (.int 1) ∧ Fr n0 L) (T.setTop (mkF m 19 #[.val (.int p0), .val (.int p1), .val (.int p2), .val (.int kl), .val (.int (k0)), .unset, .unset, .unset, .unset, .unset, .unset, .unset, .unset, .unset] [(.int p1)]))
  refine GlH.by (fun t_ k_ => XS.bipush X.here hx rfl (hb hby at_19) k_) ?_
  show GlH p e below Z own_EL sT h0 room_1.cells room_1.slots (fun v h L => v = some (.int 1) ∧ Fr n0 L) (T.setTop (mkF m 21 #[.val (.int p0), .val (.int p1), .val (.int p2), .val (.int kl), .val (.int (k0)), .unset, .unset, .unset, .unset, .unset, .unset, .unset, .unset, .unset] [(.int (10 : Int32)), (.int p1)]))
  refine GlH.by (fun t_ k_ => XS.iushr X.here hx rfl (hb hby at_21) rfl k_) ?_
  show GlH p e below Z own_EL sT h0 room_1.cells room_1.slots (fun v h L => v = some (.int 1) ∧ Fr n0 L) (T.setTop (mkF m 22 #[.val (.int p0), .val (.int p1), .val (.int p2), .val (.int kl), .val (.int (k0)), .unset, .unset, .unset, .unset, .unset, .unset, .unset, .unset, .unset] [(.int ((p1.toUInt32 >>> ((10 : Int32) &&& 31).toUInt32).toInt32))]))
  refine GlH.by (fun t_ k_ => XS.sipush X.here hx rfl (hb hby at_22) k_) ?_
  show GlH p e below Z own_EL sT h0 room_1.cells room_1.slots (fun v h L => v = some (.int 1) ∧ Fr n0 L) (T.setTop (mkF m 25 #[.val (.int p0), .val (.int p1), .val (.int p2), .val (.int kl), .val (.int (k0)), .unset, .unset, .unset, .unset, .unset, .unset, .unset, .unset, .unset] [(.int (255 : Int32)), (.int ((p1.toUInt32 >>> ((10 : Int32) &&& 31).toUInt32).toInt32))]))
  refine GlH.by (fun t_ k_ => XS.iand X.here hx rfl (hb hby at_25) rfl k_) ?_
  show GlH p e below Z own_EL sT h0 room_1.cells room_1.slots (fun v h L => v = some (.int 1) ∧ Fr n0 L) (T.setTop (mkF m 26 #[.val (.int p0), .val (.int p1), .val (.int p2), .val (.int kl), .val (.int (k0)), .unset, .unset, .unset, .unset, .unset, .unset, .unset, .unset, .unset] [(.int (((p1.toUInt32 >>> ((10 : Int32) &&& 31).toUInt32).toInt32) &&& (255 : Int32)))]))
  refine GlH.by (fun t_ k_ => XS.i2c X.here hx rfl (hb hby at_26) rfl k_) ?_
  show GlH p e below Z own_EL sT h0 room_1.cells room_1.slots (fun v h L => v = some (.int 1) ∧ Fr n0 L) (T.setTop (mkF m 27 #[.val (.int p0), .val (.int p1), .val (.int p2), .val (.int kl), .val (.int (k0)), .unset, .unset, .unset, .unset, .unset, .unset, .unset, .unset, .unset] [(.int ((((p1.toUInt32 >>> ((10 : Int32) &&& 31).toUInt32).toInt32) &&& (255 : Int32)).toUInt32.toUInt16.toUInt32.toInt32))]))
  rw [(and255_char ((p1.toUInt32 >>> ((10 : Int32) &&& 31).toUInt32).toInt32)).1]
  show GlH p e below Z own_EL sT h0 room_1.cells room_1.slots (fun v h L => v = some (.int 1) ∧ Fr n0 L) (T.setTop (mkF m 27 #[.val (.int p0), .val (.int p1), .val (.int p2), .val (.int kl), .val (.int (k0)), .unset, .unset, .unset, .unset, .unset, .unset, .unset, .unset, .unset] [(.int ((((p1.toUInt32 >>> ((10 : Int32) &&& 31).toUInt32).toInt32) &&& (255 : Int32))))]))
  obtain ⟨-, H_k1⟩ := and255_char ((p1.toUInt32 >>> ((10 : Int32) &&& 31).toUInt32).toInt32)
  obtain ⟨k1, e_k1⟩ : ∃ x, x = (((p1.toUInt32 >>> ((10 : Int32) &&& 31).toUInt32).toInt32) &&& (255 : Int32)) := ⟨_, rfl⟩
  rw [← e_k1] at H_k1
  rw [← e_k1]
  show GlH p e below Z own_EL sT h0 room_1.cells room_1.slots (fun v h L => v = some (.int 1) ∧ Fr n0 L) (T.setTop (mkF m 27 #[.val (.int p0), .val (.int p1), .val (.int p2), .val (.int kl), .val (.int (k0)), .unset, .unset, .unset, .unset, .unset, .unset, .unset, .unset, .unset] [(.int (k1))]))
  refine GlH.by (fun t_ k_ => XS.istore X.here hx rfl (hb hby at_27) rfl (l' := #[.val (.int p0), .val (.int p1), .val (.int p2), .val (.int kl), .val (.int (k0)), .val (.int (k1)), .unset, .unset, .unset, .unset, .unset, .unset, .unset, .unset]) rfl k_) ?_
  show GlH p e below Z own_EL sT h0 room_1.cells room_1.slots (fun v h L => v = some (.int 1) ∧ Fr n0 L) (T.setTop (mkF m 29 #[.val (.int p0), .val (.int p1), .val (.int p2), .val (.int kl), .val (.int (k0)), .val (.int (k1)), .unset, .unset, .unset, .unset, .unset, .unset, .unset, .unset] []))
  refine GlH.by (fun t_ k_ => XS.iloadN X.here hx rfl (hb hby at_29) rfl k_) ?_
  show GlH p e below Z own_EL sT h0 room_1.cells room_1.slots (fun v h L => v = some (.int 1) ∧ Fr n0 L) (T.setTop (mkF m 30 #[.val (.int p0), .val (.int p1), .val (.int p2), .val (.int kl), .val (.int (k0)), .val (.int (k1)), .unset, .unset, .unset, .unset, .unset, .unset, .unset, .unset] [(.int p2)]))
  refine GlH.by (fun t_ k_ => XS.iconst X.here hx rfl (hb hby at_30) k_) ?_
  show GlH p e below Z own_EL sT h0 room_1.cells room_1.slots (fun v h L => v = some (.int 1) ∧ Fr n0 L) (T.setTop (mkF m 31 #[.val (.int p0), .val (.int p1), .val (.int p2), .val (.int kl), .val (.int (k0)), .val (.int (k1)), .unset, .unset, .unset, .unset, .unset, .unset, .unset, .unset] [(.int (3 : Int32)), (.int p2)]))
  refine GlH.by (fun t_ k_ => XS.iand X.here hx rfl (hb hby at_31) rfl k_) ?_
  show GlH p e below Z own_EL sT h0 room_1.cells room_1.slots (fun v h L => v = some (.int 1) ∧ Fr n0 L) (T.setTop (mkF m 32 #[.val (.int p0), .val (.int p1), .val (.int p2), .val (.int kl), .val (.int (k0)), .val (.int (k1)), .unset, .unset, .unset, .unset, .unset, .unset, .unset, .unset] [(.int (p2 &&& (3 : Int32)))]))
  refine GlH.by (fun t_ k_ => XS.iconst X.here hx rfl (hb hby at_32) k_) ?_
  show GlH p e below Z own_EL sT h0 room_1.cells room_1.slots (fun v h L => v = some (.int 1) ∧ Fr n0 L) (T.setTop (mkF m 33 #[.val (.int p0), .val (.int p1), .val (.int p2), .val (.int kl), .val (.int (k0)), .val (.int (k1)), .unset, .unset, .unset, .unset, .unset, .unset, .unset, .unset] [(.int (2 : Int32)), (.int (p2 &&& (3 : Int32)))]))
  refine GlH.stat X hx hZ hown (hw _ (List.mem_of_getElem? (i := 0) rfl)) (hw _ (List.mem_of_getElem? (i := 1) rfl)) (hw _ (List.mem_of_getElem? (i := 2) rfl)) (hw _ (List.mem_of_getElem? (i := 3) rfl)) (by decide) (W := 0) (backC (own_min l Z a0 hw (p2 &&& (3 : Int32)) 2 h0 n0) hZ (hw _ (List.mem_of_getElem? (i := 3) rfl)) (hw _ (List.mem_of_getElem? (i := 2) rfl)) (by decide) (by decide)) eT (hb hby at_33) (by rw [hml]; rfl) [(.int (p2 &&& (3 : Int32))), (.int (2 : Int32))] [] (lenOf pd_8 rfl) rfl rfl (Nat.le_of_eq rfl) (by decide) (by decide) ?_
  intro v T L X hq
  obtain ⟨rfl, rfl, eT⟩ := hq
  have N := Fr.app N (Fr.nil n0)
  show GlH p e below Z own_EL sT h0 room_1.cells room_1.slots (fun v h L => v = some (.int 1) ∧ Fr n0 L) (T.setTop (mkF m 36 #[.val (.int p0), .val (.int p1), .val (.int p2), .val (.int kl), .val (.int (k0)), .val (.int (k1)), .unset, .unset, .unset, .unset, .unset, .unset, .unset, .unset] [(.int (own_minv (p2 &&& (3 : Int32)) (2 : Int32)))]))
  have hn := own_m3 p2
  obtain ⟨nl, e_nl⟩ : ∃ x, x = (own_minv (p2 &&& (3 : Int32)) (2 : Int32)) := ⟨_, rfl⟩
  rw [← e_nl] at hn
  rw [← e_nl]
  show GlH p e below Z own_EL sT h0 room_1.cells room_1.slots (fun v h L => v = some (.int 1) ∧ Fr n0 L) (T.setTop (mkF m 36 #[.val (.int p0), .val (.int p1), .val (.int p2), .val (.int kl), .val (.int (k0)), .val (.int (k1)), .unset, .unset, .unset, .unset, .unset, .unset, .unset, .unset] [(.int nl)]))
  refine GlH.by (fun t_ k_ => XS.istore X.here hx rfl (hb hby at_36) rfl (l' := #[.val (.int p0), .val (.int p1), .val (.int p2), .val (.int kl), .val (.int (k0)), .val (.int (k1)), .val (.int nl), .unset, .unset, .unset, .unset, .unset, .unset, .unset]) rfl k_) ?_
  show GlH p e below Z own_EL sT h0 room_1.cells room_1.slots (fun v h L => v = some (.int 1) ∧ Fr n0 L) (T.setTop (mkF m 38 #[.val (.int p0), .val (.int p1), .val (.int p2), .val (.int kl), .val (.int (k0)), .val (.int (k1)), .val (.int nl), .unset, .unset, .unset, .unset, .unset, .unset, .unset] []))
  refine GlH.by (fun t_ k_ => XS.iloadN X.here hx rfl (hb hby at_38) rfl k_) ?_
  show GlH p e below Z own_EL sT h0 room_1.cells room_1.slots (fun v h L => v = some (.int 1) ∧ Fr n0 L) (T.setTop (mkF m 39 #[.val (.int p0), .val (.int p1), .val (.int p2), .val (.int kl), .val (.int (k0)), .val (.int (k1)), .val (.int nl), .unset, .unset, .unset, .unset, .unset, .unset, .unset] [(.int p2)]))
  refine GlH.by (fun t_ k_ => XS.iconst X.here hx rfl (hb hby at_39) k_) ?_
  show GlH p e below Z own_EL sT h0 room_1.cells room_1.slots (fun v h L => v = some (.int 1) ∧ Fr n0 L) (T.setTop (mkF m 40 #[.val (.int p0), .val (.int p1), .val (.int p2), .val (.int kl), .val (.int (k0)), .val (.int (k1)), .val (.int nl), .unset, .unset, .unset, .unset, .unset, .unset, .unset] [(.int (2 : Int32)), (.int p2)]))
  refine GlH.by (fun t_ k_ => XS.iushr X.here hx rfl (hb hby at_40) rfl k_) ?_
  show GlH p e below Z own_EL sT h0 room_1.cells room_1.slots (fun v h L => v = some (.int 1) ∧ Fr n0 L) (T.setTop (mkF m 41 #[.val (.int p0), .val (.int p1), .val (.int p2), .val (.int kl), .val (.int (k0)), .val (.int (k1)), .val (.int nl), .unset, .unset, .unset, .unset, .unset, .unset, .unset] [(.int ((p2.toUInt32 >>> ((2 : Int32) &&& 31).toUInt32).toInt32))]))
  refine GlH.by (fun t_ k_ => XS.sipush X.here hx rfl (hb hby at_41) k_) ?_
  show GlH p e below Z own_EL sT h0 room_1.cells room_1.slots (fun v h L => v = some (.int 1) ∧ Fr n0 L) (T.setTop (mkF m 44 #[.val (.int p0), .val (.int p1), .val (.int p2), .val (.int kl), .val (.int (k0)), .val (.int (k1)), .val (.int nl), .unset, .unset, .unset, .unset, .unset, .unset, .unset] [(.int (255 : Int32)), (.int ((p2.toUInt32 >>> ((2 : Int32) &&& 31).toUInt32).toInt32))]))
  refine GlH.by (fun t_ k_ => XS.iand X.here hx rfl (hb hby at_44) rfl k_) ?_
  show GlH p e below Z own_EL sT h0 room_1.cells room_1.slots (fun v h L => v = some (.int 1) ∧ Fr n0 L) (T.setTop (mkF m 45 #[.val (.int p0), .val (.int p1), .val (.int p2), .val (.int kl), .val (.int (k0)), .val (.int (k1)), .val (.int nl), .unset, .unset, .unset, .unset, .unset, .unset, .unset] [(.int (((p2.toUInt32 >>> ((2 : Int32) &&& 31).toUInt32).toInt32) &&& (255 : Int32)))]))
  refine GlH.by (fun t_ k_ => XS.i2c X.here hx rfl (hb hby at_45) rfl k_) ?_
  show GlH p e below Z own_EL sT h0 room_1.cells room_1.slots (fun v h L => v = some (.int 1) ∧ Fr n0 L) (T.setTop (mkF m 46 #[.val (.int p0), .val (.int p1), .val (.int p2), .val (.int kl), .val (.int (k0)), .val (.int (k1)), .val (.int nl), .unset, .unset, .unset, .unset, .unset, .unset, .unset] [(.int ((((p2.toUInt32 >>> ((2 : Int32) &&& 31).toUInt32).toInt32) &&& (255 : Int32)).toUInt32.toUInt16.toUInt32.toInt32))]))
  rw [(and255_char ((p2.toUInt32 >>> ((2 : Int32) &&& 31).toUInt32).toInt32)).1]
  show GlH p e below Z own_EL sT h0 room_1.cells room_1.slots (fun v h L => v = some (.int 1) ∧ Fr n0 L) (T.setTop (mkF m 46 #[.val (.int p0), .val (.int p1), .val (.int p2), .val (.int kl), .val (.int (k0)), .val (.int (k1)), .val (.int nl), .unset, .unset, .unset, .unset, .unset, .unset, .unset] [(.int ((((p2.toUInt32 >>> ((2 : Int32) &&& 31).toUInt32).toInt32) &&& (255 : Int32))))]))
  obtain ⟨-, H_c0⟩ := and255_char ((p2.toUInt32 >>> ((2 : Int32) &&& 31).toUInt32).toInt32)
  obtain ⟨c0, e_c0⟩ : ∃ x, x = (((p2.toUInt32 >>> ((2 : Int32) &&& 31).toUInt32).toInt32) &&& (255 : Int32)) := ⟨_, rfl⟩
  rw [← e_c0] at H_c0
  rw [← e_c0]
  show GlH p e below Z own_EL sT h0 room_1.cells room_1.slots (fun v h L => v = some (.int 1) ∧ Fr n0 L) (T.setTop (mkF m 46 #[.val (.int p0), .val (.int p1), .val (.int p2), .val (.int kl), .val (.int (k0)), .val (.int (k1)), .val (.int nl), .unset, .unset, .unset, .unset, .unset, .unset, .unset] [(.int (c0))]))
  refine GlH.by (fun t_ k_ => XS.istore X.here hx rfl (hb hby at_46) rfl (l' := #[.val (.int p0), .val (.int p1), .val (.int p2), .val (.int kl), .val (.int (k0)), .val (.int (k1)), .val (.int nl), .val (.int (c0)), .unset, .unset, .unset, .unset, .unset, .unset]) rfl k_) ?_
  show GlH p e below Z own_EL sT h0 room_1.cells room_1.slots (fun v h L => v = some (.int 1) ∧ Fr n0 L) (T.setTop (mkF m 48 #[.val (.int p0), .val (.int p1), .val (.int p2), .val (.int kl), .val (.int (k0)), .val (.int (k1)), .val (.int nl), .val (.int (c0)), .unset, .unset, .unset, .unset, .unset, .unset] []))
  refine GlH.by (fun t_ k_ => XS.iloadN X.here hx rfl (hb hby at_48) rfl k_) ?_
  show GlH p e below Z own_EL sT h0 room_1.cells room_1.slots (fun v h L => v = some (.int 1) ∧ Fr n0 L) (T.setTop (mkF m 49 #[.val (.int p0), .val (.int p1), .val (.int p2), .val (.int kl), .val (.int (k0)), .val (.int (k1)), .val (.int nl), .val (.int (c0)), .unset, .unset, .unset, .unset, .unset, .unset] [(.int p2)]))
  refine GlH.by (fun t_ k_ => XS.bipush X.here hx rfl (hb hby at_49) k_) ?_
  show GlH p e below Z own_EL sT h0 room_1.cells room_1.slots (fun v h L => v = some (.int 1) ∧ Fr n0 L) (T.setTop (mkF m 51 #[.val (.int p0), .val (.int p1), .val (.int p2), .val (.int kl), .val (.int (k0)), .val (.int (k1)), .val (.int nl), .val (.int (c0)), .unset, .unset, .unset, .unset, .unset, .unset] [(.int (10 : Int32)), (.int p2)]))
  refine GlH.by (fun t_ k_ => XS.iushr X.here hx rfl (hb hby at_51) rfl k_) ?_
  show GlH p e below Z own_EL sT h0 room_1.cells room_1.slots (fun v h L => v = some (.int 1) ∧ Fr n0 L) (T.setTop (mkF m 52 #[.val (.int p0), .val (.int p1), .val (.int p2), .val (.int kl), .val (.int (k0)), .val (.int (k1)), .val (.int nl), .val (.int (c0)), .unset, .unset, .unset, .unset, .unset, .unset] [(.int ((p2.toUInt32 >>> ((10 : Int32) &&& 31).toUInt32).toInt32))]))
  refine GlH.by (fun t_ k_ => XS.sipush X.here hx rfl (hb hby at_52) k_) ?_
  show GlH p e below Z own_EL sT h0 room_1.cells room_1.slots (fun v h L => v = some (.int 1) ∧ Fr n0 L) (T.setTop (mkF m 55 #[.val (.int p0), .val (.int p1), .val (.int p2), .val (.int kl), .val (.int (k0)), .val (.int (k1)), .val (.int nl), .val (.int (c0)), .unset, .unset, .unset, .unset, .unset, .unset] [(.int (255 : Int32)), (.int ((p2.toUInt32 >>> ((10 : Int32) &&& 31).toUInt32).toInt32))]))
  refine GlH.by (fun t_ k_ => XS.iand X.here hx rfl (hb hby at_55) rfl k_) ?_
  show GlH p e below Z own_EL sT h0 room_1.cells room_1.slots (fun v h L => v = some (.int 1) ∧ Fr n0 L) (T.setTop (mkF m 56 #[.val (.int p0), .val (.int p1), .val (.int p2), .val (.int kl), .val (.int (k0)), .val (.int (k1)), .val (.int nl), .val (.int (c0)), .unset, .unset, .unset, .unset, .unset, .unset] [(.int (((p2.toUInt32 >>> ((10 : Int32) &&& 31).toUInt32).toInt32) &&& (255 : Int32)))]))
  refine GlH.by (fun t_ k_ => XS.i2c X.here hx rfl (hb hby at_56) rfl k_) ?_
  show GlH p e below Z own_EL sT h0 room_1.cells room_1.slots (fun v h L => v = some (.int 1) ∧ Fr n0 L) (T.setTop (mkF m 57 #[.val (.int p0), .val (.int p1), .val (.int p2), .val (.int kl), .val (.int (k0)), .val (.int (k1)), .val (.int nl), .val (.int (c0)), .unset, .unset, .unset, .unset, .unset, .unset] [(.int ((((p2.toUInt32 >>> ((10 : Int32) &&& 31).toUInt32).toInt32) &&& (255 : Int32)).toUInt32.toUInt16.toUInt32.toInt32))]))
  rw [(and255_char ((p2.toUInt32 >>> ((10 : Int32) &&& 31).toUInt32).toInt32)).1]
  show GlH p e below Z own_EL sT h0 room_1.cells room_1.slots (fun v h L => v = some (.int 1) ∧ Fr n0 L) (T.setTop (mkF m 57 #[.val (.int p0), .val (.int p1), .val (.int p2), .val (.int kl), .val (.int (k0)), .val (.int (k1)), .val (.int nl), .val (.int (c0)), .unset, .unset, .unset, .unset, .unset, .unset] [(.int ((((p2.toUInt32 >>> ((10 : Int32) &&& 31).toUInt32).toInt32) &&& (255 : Int32))))]))
  obtain ⟨-, H_c1⟩ := and255_char ((p2.toUInt32 >>> ((10 : Int32) &&& 31).toUInt32).toInt32)
  obtain ⟨c1, e_c1⟩ : ∃ x, x = (((p2.toUInt32 >>> ((10 : Int32) &&& 31).toUInt32).toInt32) &&& (255 : Int32)) := ⟨_, rfl⟩
  rw [← e_c1] at H_c1
  rw [← e_c1]
  show GlH p e below Z own_EL sT h0 room_1.cells room_1.slots (fun v h L => v = some (.int 1) ∧ Fr n0 L) (T.setTop (mkF m 57 #[.val (.int p0), .val (.int p1), .val (.int p2), .val (.int kl), .val (.int (k0)), .val (.int (k1)), .val (.int nl), .val (.int (c0)), .unset, .unset, .unset, .unset, .unset, .unset] [(.int (c1))]))
  refine GlH.by (fun t_ k_ => XS.istore X.here hx rfl (hb hby at_57) rfl (l' := #[.val (.int p0), .val (.int p1), .val (.int p2), .val (.int kl), .val (.int (k0)), .val (.int (k1)), .val (.int nl), .val (.int (c0)), .val (.int (c1)), .unset, .unset, .unset, .unset, .unset]) rfl k_) ?_
  show GlH p e below Z own_EL sT h0 room_1.cells room_1.slots (fun v h L => v = some (.int 1) ∧ Fr n0 L) (T.setTop (mkF m 59 #[.val (.int p0), .val (.int p1), .val (.int p2), .val (.int kl), .val (.int (k0)), .val (.int (k1)), .val (.int nl), .val (.int (c0)), .val (.int (c1)), .unset, .unset, .unset, .unset, .unset] []))
  refine GlH.by (fun t_ k_ => XS.iloadN X.here hx rfl (hb hby at_59) rfl k_) ?_
  show GlH p e below Z own_EL sT h0 room_1.cells room_1.slots (fun v h L => v = some (.int 1) ∧ Fr n0 L) (T.setTop (mkF m 60 #[.val (.int p0), .val (.int p1), .val (.int p2), .val (.int kl), .val (.int (k0)), .val (.int (k1)), .val (.int nl), .val (.int (c0)), .val (.int (c1)), .unset, .unset, .unset, .unset, .unset] [(.int kl)]))
  refine GlH.by (fun t_ k_ => XS.iload X.here hx rfl (hb hby at_60) rfl k_) ?_
  show GlH p e below Z own_EL sT h0 room_1.cells room_1.slots (fun v h L => v = some (.int 1) ∧ Fr n0 L) (T.setTop (mkF m 62 #[.val (.int p0), .val (.int p1), .val (.int p2), .val (.int kl), .val (.int (k0)), .val (.int (k1)), .val (.int nl), .val (.int (c0)), .val (.int (c1)), .unset, .unset, .unset, .unset, .unset] [(.int (k0)), (.int kl)]))
  refine GlH.by (fun t_ k_ => XS.iload X.here hx rfl (hb hby at_62) rfl k_) ?_
  show GlH p e below Z own_EL sT h0 room_1.cells room_1.slots (fun v h L => v = some (.int 1) ∧ Fr n0 L) (T.setTop (mkF m 64 #[.val (.int p0), .val (.int p1), .val (.int p2), .val (.int kl), .val (.int (k0)), .val (.int (k1)), .val (.int nl), .val (.int (c0)), .val (.int (c1)), .unset, .unset, .unset, .unset, .unset] [(.int (k1)), (.int (k0)), (.int kl)]))
  refine GlH.statS X hx hZ hown (hw _ (List.mem_of_getElem? (i := 4) rfl)) (hw _ (List.mem_of_getElem? (i := 5) rfl)) (hw _ (List.mem_of_getElem? (i := 6) rfl)) (hw _ (List.mem_of_getElem? (i := 7) rfl)) (by decide) (W := 0) B (backH (own_mk l Z a0 hw kl k0 k1 z h0 n0 (by omega) hk H_k0 H_k1 S hz O) B hEL (fun _ q => by cases q) hZ (hw _ (List.mem_of_getElem? (i := 7) rfl)) (hw _ (List.mem_of_getElem? (i := 6) rfl)) (by decide) (by decide)) eT (hb hby at_64) (by rw [hml]; rfl) [(.int kl), (.int (k0)), (.int (k1))] [] (lenOf pd_27 rfl) rfl rfl (Nat.le_of_eq rfl) (by decide) (by decide) ?_
  intro v T L s X B hZ hown CB hq
  obtain ⟨NQ, K1, x1, rfl, Sx1⟩ := hq
  have N := Fr.app N NQ
  obtain ⟨h1, eT⟩ : ∃ z, T.heap = z := ⟨_, rfl⟩
  rw [eT] at K1 B CB Sx1
  have sz1 := K1.1
  show GlH p e below Z own_EL sT h0 room_1.cells room_1.slots (fun v h L => v = some (.int 1) ∧ Fr n0 L) (T.setTop (mkF m 67 #[.val (.int p0), .val (.int p1), .val (.int p2), .val (.int kl), .val (.int (k0)), .val (.int (k1)), .val (.int nl), .val (.int (c0)), .val (.int (c1)), .unset, .unset, .unset, .unset, .unset] [(.ref x1)]))
  refine GlH.by (fun t_ k_ => XS.astore X.here hx rfl (hb hby at_67) rfl rfl (l' := #[.val (.int p0), .val (.int p1), .val (.int p2), .val (.int kl), .val (.int (k0)), .val (.int (k1)), .val (.int nl), .val (.int (c0)), .val (.int (c1)), .val (.ref x1), .unset, .unset, .unset, .unset]) rfl k_) ?_
  show GlH p e below Z own_EL sT h0 room_1.cells room_1.slots (fun v h L => v = some (.int 1) ∧ Fr n0 L) (T.setTop (mkF m 69 #[.val (.int p0), .val (.int p1), .val (.int p2), .val (.int kl), .val (.int (k0)), .val (.int (k1)), .val (.int nl), .val (.int (c0)), .val (.int (c1)), .val (.ref x1), .unset, .unset, .unset, .unset] []))
  refine GlH.by (fun t_ k_ => XS.iload X.here hx rfl (hb hby at_69) rfl k_) ?_
  show GlH p e below Z own_EL sT h0 room_1.cells room_1.slots (fun v h L => v = some (.int 1) ∧ Fr n0 L) (T.setTop (mkF m 71 #[.val (.int p0), .val (.int p1), .val (.int p2), .val (.int kl), .val (.int (k0)), .val (.int (k1)), .val (.int nl), .val (.int (c0)), .val (.int (c1)), .val (.ref x1), .unset, .unset, .unset, .unset] [(.int nl)]))
  refine GlH.by (fun t_ k_ => XS.iload X.here hx rfl (hb hby at_71) rfl k_) ?_
  show GlH p e below Z own_EL sT h0 room_1.cells room_1.slots (fun v h L => v = some (.int 1) ∧ Fr n0 L) (T.setTop (mkF m 73 #[.val (.int p0), .val (.int p1), .val (.int p2), .val (.int kl), .val (.int (k0)), .val (.int (k1)), .val (.int nl), .val (.int (c0)), .val (.int (c1)), .val (.ref x1), .unset, .unset, .unset, .unset] [(.int (c0)), (.int nl)]))
  refine GlH.by (fun t_ k_ => XS.iload X.here hx rfl (hb hby at_73) rfl k_) ?_
  show GlH p e below Z own_EL sT h0 room_1.cells room_1.slots (fun v h L => v = some (.int 1) ∧ Fr n0 L) (T.setTop (mkF m 75 #[.val (.int p0), .val (.int p1), .val (.int p2), .val (.int kl), .val (.int (k0)), .val (.int (k1)), .val (.int nl), .val (.int (c0)), .val (.int (c1)), .val (.ref x1), .unset, .unset, .unset, .unset] [(.int (c1)), (.int (c0)), (.int nl)]))
  refine GlH.statS X hx hZ hown (hw _ (List.mem_of_getElem? (i := 4) rfl)) (hw _ (List.mem_of_getElem? (i := 5) rfl)) (hw _ (List.mem_of_getElem? (i := 6) rfl)) (hw _ (List.mem_of_getElem? (i := 7) rfl)) (by decide) (W := 0) B (backH (own_mk l Z a0 hw nl c0 c1 z h1 n0 (by omega) hn H_c0 H_c1 S hz (O.keep K1 all0)) B hEL (fun _ q => by cases q) hZ (hw _ (List.mem_of_getElem? (i := 7) rfl)) (hw _ (List.mem_of_getElem? (i := 6) rfl)) (by decide) (by decide)) eT (hb hby at_75) (by rw [hml]; rfl) [(.int nl), (.int (c0)), (.int (c1))] [] (lenOf pd_27 rfl) rfl rfl (Nat.le_of_eq rfl) (by decide) (by decide) ?_
  intro v T L s X B hZ hown CB hq
  obtain ⟨NQ, K2, x2, rfl, Sx2⟩ := hq
  have N := Fr.app N NQ
  obtain ⟨h2, eT⟩ : ∃ z, T.heap = z := ⟨_, rfl⟩
  rw [eT] at K2 B CB Sx2
  have sz2 := K2.1
  show GlH p e below Z own_EL sT h0 room_1.cells room_1.slots (fun v h L => v = some (.int 1) ∧ Fr n0 L) (T.setTop (mkF m 78 #[.val (.int p0), .val (.int p1), .val (.int p2), .val (.int kl), .val (.int (k0)), .val (.int (k1)), .val (.int nl), .val (.int (c0)), .val (.int (c1)), .val (.ref x1), .unset, .unset, .unset, .unset] [(.ref x2)]))
  refine GlH.by (fun t_ k_ => XS.astore X.here hx rfl (hb hby at_78) rfl rfl (l' := #[.val (.int p0), .val (.int p1), .val (.int p2), .val (.int kl), .val (.int (k0)), .val (.int (k1)), .val (.int nl), .val (.int (c0)), .val (.int (c1)), .val (.ref x1), .val (.ref x2), .unset, .unset, .unset]) rfl k_) ?_
  show GlH p e below Z own_EL sT h0 room_1.cells room_1.slots (fun v h L => v = some (.int 1) ∧ Fr n0 L) (T.setTop (mkF m 80 #[.val (.int p0), .val (.int p1), .val (.int p2), .val (.int kl), .val (.int (k0)), .val (.int (k1)), .val (.int nl), .val (.int (c0)), .val (.int (c1)), .val (.ref x1), .val (.ref x2), .unset, .unset, .unset] []))
  refine GlH.by (fun t_ k_ => XS.iloadN X.here hx rfl (hb hby at_80) rfl k_) ?_
  show GlH p e below Z own_EL sT h0 room_1.cells room_1.slots (fun v h L => v = some (.int 1) ∧ Fr n0 L) (T.setTop (mkF m 81 #[.val (.int p0), .val (.int p1), .val (.int p2), .val (.int kl), .val (.int (k0)), .val (.int (k1)), .val (.int nl), .val (.int (c0)), .val (.int (c1)), .val (.ref x1), .val (.ref x2), .unset, .unset, .unset] [(.int p0)]))
  refine GlH.by (fun t_ k_ => XS.aload X.here hx rfl (hb hby at_81) rfl rfl k_) ?_
  show GlH p e below Z own_EL sT h0 room_1.cells room_1.slots (fun v h L => v = some (.int 1) ∧ Fr n0 L) (T.setTop (mkF m 83 #[.val (.int p0), .val (.int p1), .val (.int p2), .val (.int kl), .val (.int (k0)), .val (.int (k1)), .val (.int nl), .val (.int (c0)), .val (.int (c1)), .val (.ref x1), .val (.ref x2), .unset, .unset, .unset] [(.ref x1), (.int p0)]))
  refine GlH.by (fun t_ k_ => XS.aload X.here hx rfl (hb hby at_83) rfl rfl k_) ?_
  show GlH p e below Z own_EL sT h0 room_1.cells room_1.slots (fun v h L => v = some (.int 1) ∧ Fr n0 L) (T.setTop (mkF m 85 #[.val (.int p0), .val (.int p1), .val (.int p2), .val (.int kl), .val (.int (k0)), .val (.int (k1)), .val (.int nl), .val (.int (c0)), .val (.int (c1)), .val (.ref x1), .val (.ref x2), .unset, .unset, .unset] [(.ref x2), (.ref x1), (.int p0)]))
  refine GlH.statS X hx hZ hown (hw _ (List.mem_of_getElem? (i := 38) rfl)) (hw _ (List.mem_of_getElem? (i := 39) rfl)) (hw _ (List.mem_of_getElem? (i := 40) rfl)) (hw _ (List.mem_of_getElem? (i := 41) rfl)) (by decide) (W := 0) B (backHK (own_nd l Z a0 hw x1 x2 (mkL kl k0 k1) (mkL nl c0 c1) p0 z uv sv h2 n0 (by omega) (Str.keep (a0 := a0) Sx1 ((Keep.refl h1 []).trans K2 all0) all0) Sx2 (mkL_le _ _ _) (mkL_le _ _ _) hst SU hru SS hrs S hz ((O.keep K1 all0).keep K2 all0)) kn B hEL hZ (hw _ (List.mem_of_getElem? (i := 41) rfl)) (hw _ (List.mem_of_getElem? (i := 40) rfl)) (by decide) (by decide)) eT (hb hby at_85) (by rw [hml]; rfl) [(.int p0), (.ref x1), (.ref x2)] [] (lenOf pd_28 rfl) rfl rfl (Nat.le_of_eq rfl) (by decide) (by decide) ?_
  intro v T L s X B hZ hown CB hq
  obtain ⟨NQ, K3, ex, mx, rfl, QE, QL, QM, SM⟩ := hq
  have N := Fr.app N NQ
  obtain ⟨h3, eT⟩ : ∃ z, T.heap = z := ⟨_, rfl⟩
  rw [eT] at K3 B CB QE QL QM SM
  have sz3 := K3.1
  show GlH p e below Z own_EL sT h0 room_1.cells room_1.slots (fun v h L => v = some (.int 1) ∧ Fr n0 L) (T.setTop (mkF m 88 #[.val (.int p0), .val (.int p1), .val (.int p2), .val (.int kl), .val (.int (k0)), .val (.int (k1)), .val (.int nl), .val (.int (c0)), .val (.int (c1)), .val (.ref x1), .val (.ref x2), .unset, .unset, .unset] [(.ref ex)]))
  have O9 := (((O.keep K1 all0).keep K2 all0).keep K3 all0)
  refine GlH.by (fun t_ k_ => XS.astore X.here hx rfl (hb hby at_88) rfl rfl (l' := #[.val (.int p0), .val (.int p1), .val (.int p2), .val (.int kl), .val (.int (k0)), .val (.int (k1)), .val (.int nl), .val (.int (c0)), .val (.int (c1)), .val (.ref x1), .val (.ref x2), .val (.ref ex), .unset, .unset]) rfl k_) ?_
  show GlH p e below Z own_EL sT h0 room_1.cells room_1.slots (fun v h L => v = some (.int 1) ∧ Fr n0 L) (T.setTop (mkF m 90 #[.val (.int p0), .val (.int p1), .val (.int p2), .val (.int kl), .val (.int (k0)), .val (.int (k1)), .val (.int nl), .val (.int (c0)), .val (.int (c1)), .val (.ref x1), .val (.ref x2), .val (.ref ex), .unset, .unset] []))
  refine GlH.by (fun t_ k_ => XS.aload X.here hx rfl (hb hby at_90) rfl rfl k_) ?_
  show GlH p e below Z own_EL sT h0 room_1.cells room_1.slots (fun v h L => v = some (.int 1) ∧ Fr n0 L) (T.setTop (mkF m 92 #[.val (.int p0), .val (.int p1), .val (.int p2), .val (.int kl), .val (.int (k0)), .val (.int (k1)), .val (.int nl), .val (.int (c0)), .val (.int (c1)), .val (.ref x1), .val (.ref x2), .val (.ref ex), .unset, .unset] [(.ref ex)]))
  refine GlH.by (fun t_ k_ => XS.ifnonnullYes X.here hx rfl (pc0 := 92) (pc' := 97) rfl (hb hby at_92) rfl (by decide) (by decide) k_) ?_
  show GlH p e below Z own_EL sT h0 room_1.cells room_1.slots (fun v h L => v = some (.int 1) ∧ Fr n0 L) (T.setTop (mkF m 97 #[.val (.int p0), .val (.int p1), .val (.int p2), .val (.int kl), .val (.int (k0)), .val (.int (k1)), .val (.int nl), .val (.int (c0)), .val (.int (c1)), .val (.ref x1), .val (.ref x2), .val (.ref ex), .unset, .unset] []))
  refine GlH.by (fun t_ k_ => XS.aload X.here hx rfl (hb hby at_97) rfl rfl k_) ?_
  show GlH p e below Z own_EL sT h0 room_1.cells room_1.slots (fun v h L => v = some (.int 1) ∧ Fr n0 L) (T.setTop (mkF m 99 #[.val (.int p0), .val (.int p1), .val (.int p2), .val (.int kl), .val (.int (k0)), .val (.int (k1)), .val (.int nl), .val (.int (c0)), .val (.int (c1)), .val (.ref x1), .val (.ref x2), .val (.ref ex), .unset, .unset] [(.ref ex)]))
  refine GlH.virt X hx hZ hown (hw _ (List.mem_of_getElem? (i := 226) rfl)) (hw _ (List.mem_of_getElem? (i := 227) rfl)) (hw _ (List.mem_of_getElem? (i := 229) rfl)) (hw _ (List.mem_of_getElem? (i := 228) rfl)) (notFace_of_selects (args := #[]) (mvT hZ (hw _ (List.mem_of_getElem? (i := 229) rfl)))) (by decide) QE (W := 0) (backC (own_line l Z a0 hw ex p0 h3 n0 QL) hZ (hw _ (List.mem_of_getElem? (i := 230) rfl)) (hw _ (List.mem_of_getElem? (i := 44) rfl)) (by decide) (by decide)) eT (hb hby at_99) (by rw [hml]; rfl) [] [] (lenOf pd_4 rfl) rfl rfl (Nat.le_of_eq rfl) (by decide) (by decide) ?_
  intro v T L X hq
  obtain ⟨rfl, rfl, eT⟩ := hq
  have N := Fr.app N (Fr.nil n0)
  show GlH p e below Z own_EL sT h0 room_1.cells room_1.slots (fun v h L => v = some (.int 1) ∧ Fr n0 L) (T.setTop (mkF m 102 #[.val (.int p0), .val (.int p1), .val (.int p2), .val (.int kl), .val (.int (k0)), .val (.int (k1)), .val (.int nl), .val (.int (c0)), .val (.int (c1)), .val (.ref x1), .val (.ref x2), .val (.ref ex), .unset, .unset] [(.int p0)]))
  refine GlH.by (fun t_ k_ => XS.iloadN X.here hx rfl (hb hby at_102) rfl k_) ?_
  show GlH p e below Z own_EL sT h0 room_1.cells room_1.slots (fun v h L => v = some (.int 1) ∧ Fr n0 L) (T.setTop (mkF m 103 #[.val (.int p0), .val (.int p1), .val (.int p2), .val (.int kl), .val (.int (k0)), .val (.int (k1)), .val (.int nl), .val (.int (c0)), .val (.int (c1)), .val (.ref x1), .val (.ref x2), .val (.ref ex), .unset, .unset] [(.int p0), (.int p0)]))
  refine GlH.by (fun t_ k_ => XS.icmpYes X.here hx rfl (pc0 := 103) (pc' := 108) rfl (hb hby at_103) rfl (teq (rfl : p0 = p0)).1 (by decide) (by decide) k_) ?_
  show GlH p e below Z own_EL sT h0 room_1.cells room_1.slots (fun v h L => v = some (.int 1) ∧ Fr n0 L) (T.setTop (mkF m 108 #[.val (.int p0), .val (.int p1), .val (.int p2), .val (.int kl), .val (.int (k0)), .val (.int (k1)), .val (.int nl), .val (.int (c0)), .val (.int (c1)), .val (.ref x1), .val (.ref x2), .val (.ref ex), .unset, .unset] []))
  refine GlH.by (fun t_ k_ => XS.aload X.here hx rfl (hb hby at_108) rfl rfl k_) ?_
  show GlH p e below Z own_EL sT h0 room_1.cells room_1.slots (fun v h L => v = some (.int 1) ∧ Fr n0 L) (T.setTop (mkF m 110 #[.val (.int p0), .val (.int p1), .val (.int p2), .val (.int kl), .val (.int (k0)), .val (.int (k1)), .val (.int nl), .val (.int (c0)), .val (.int (c1)), .val (.ref x1), .val (.ref x2), .val (.ref ex), .unset, .unset] [(.ref ex)]))
  refine GlH.virtUp X hx hZ hown (hw _ (List.mem_of_getElem? (i := 231) rfl)) (mvT hZ (hw _ (List.mem_of_getElem? (i := 232) rfl))) (hw _ (List.mem_of_getElem? (i := 233) rfl)) (hw _ (List.mem_of_getElem? (i := 235) rfl)) (hw _ (List.mem_of_getElem? (i := 234) rfl)) (by decide) QE (W := 0) (backC (own_gm l Z a0 hw ex mx h3 n0 QM) hZ (hw _ (List.mem_of_getElem? (i := 236) rfl)) (hw _ (List.mem_of_getElem? (i := 185) rfl)) (by decide) (by decide)) eT (hb hby at_110) (by rw [hml]; rfl) [] [] (lenOf pd_25 rfl) rfl rfl (Nat.le_of_eq rfl) (by decide) (by decide) ?_
  intro v T L X hq
  obtain ⟨rfl, rfl, eT⟩ := hq
  have N := Fr.app N (Fr.nil n0)
  show GlH p e below Z own_EL sT h0 room_1.cells room_1.slots (fun v h L => v = some (.int 1) ∧ Fr n0 L) (T.setTop (mkF m 113 #[.val (.int p0), .val (.int p1), .val (.int p2), .val (.int kl), .val (.int (k0)), .val (.int (k1)), .val (.int nl), .val (.int (c0)), .val (.int (c1)), .val (.ref x1), .val (.ref x2), .val (.ref ex), .unset, .unset] [(.ref mx)]))
  refine GlH.by (fun t_ k_ => XS.astore X.here hx rfl (hb hby at_113) rfl rfl (l' := #[.val (.int p0), .val (.int p1), .val (.int p2), .val (.int kl), .val (.int (k0)), .val (.int (k1)), .val (.int nl), .val (.int (c0)), .val (.int (c1)), .val (.ref x1), .val (.ref x2), .val (.ref ex), .val (.ref mx), .unset]) rfl k_) ?_
  show GlH p e below Z own_EL sT h0 room_1.cells room_1.slots (fun v h L => v = some (.int 1) ∧ Fr n0 L) (T.setTop (mkF m 115 #[.val (.int p0), .val (.int p1), .val (.int p2), .val (.int kl), .val (.int (k0)), .val (.int (k1)), .val (.int nl), .val (.int (c0)), .val (.int (c1)), .val (.ref x1), .val (.ref x2), .val (.ref ex), .val (.ref mx), .unset] []))
  refine GlH.by (fun t_ k_ => XS.aload X.here hx rfl (hb hby at_115) rfl rfl k_) ?_
  show GlH p e below Z own_EL sT h0 room_1.cells room_1.slots (fun v h L => v = some (.int 1) ∧ Fr n0 L) (T.setTop (mkF m 117 #[.val (.int p0), .val (.int p1), .val (.int p2), .val (.int kl), .val (.int (k0)), .val (.int (k1)), .val (.int nl), .val (.int (c0)), .val (.int (c1)), .val (.ref x1), .val (.ref x2), .val (.ref ex), .val (.ref mx), .unset] [(.ref mx)]))
  refine GlH.by (fun t_ k_ => XS.ifnullNo X.here hx rfl (hb hby at_117) rfl k_) ?_
  show GlH p e below Z own_EL sT h0 room_1.cells room_1.slots (fun v h L => v = some (.int 1) ∧ Fr n0 L) (T.setTop (mkF m 120 #[.val (.int p0), .val (.int p1), .val (.int p2), .val (.int kl), .val (.int (k0)), .val (.int (k1)), .val (.int nl), .val (.int (c0)), .val (.int (c1)), .val (.ref x1), .val (.ref x2), .val (.ref ex), .val (.ref mx), .unset] []))
  refine GlH.by (fun t_ k_ => XS.aload X.here hx rfl (hb hby at_120) rfl rfl k_) ?_
  show GlH p e below Z own_EL sT h0 room_1.cells room_1.slots (fun v h L => v = some (.int 1) ∧ Fr n0 L) (T.setTop (mkF m 122 #[.val (.int p0), .val (.int p1), .val (.int p2), .val (.int kl), .val (.int (k0)), .val (.int (k1)), .val (.int nl), .val (.int (c0)), .val (.int (c1)), .val (.ref x1), .val (.ref x2), .val (.ref ex), .val (.ref mx), .unset] [(.ref mx)]))
  refine GlH.virt X hx hZ hown (hw _ (List.mem_of_getElem? (i := 237) rfl)) (hw _ (List.mem_of_getElem? (i := 74) rfl)) (hw _ (List.mem_of_getElem? (i := 76) rfl)) (hw _ (List.mem_of_getElem? (i := 75) rfl)) (notFace_of_selects (args := #[]) (mvT hZ (hw _ (List.mem_of_getElem? (i := 76) rfl)))) (by decide) SM.1 (W := 0) (payLen (n0 := n0) hZ (own_wlen hw) (hw _ (List.mem_of_getElem? (i := 9) rfl)) SM S hz O9 (by decide) (by decide)) eT (hb hby at_122) (by rw [hml]; rfl) [] [] (lenOf pd_4 rfl) rfl rfl (Nat.le_of_eq rfl) (by decide) (by decide) ?_
  intro v T L X hq
  obtain ⟨rfl, rfl, eT⟩ := hq
  have N := Fr.app N (Fr.nil n0)
  show GlH p e below Z own_EL sT h0 room_1.cells room_1.slots (fun v h L => v = some (.int 1) ∧ Fr n0 L) (T.setTop (mkF m 125 #[.val (.int p0), .val (.int p1), .val (.int p2), .val (.int kl), .val (.int (k0)), .val (.int (k1)), .val (.int nl), .val (.int (c0)), .val (.int (c1)), .val (.ref x1), .val (.ref x2), .val (.ref ex), .val (.ref mx), .unset] [(.int (Int32.ofNat (((mkL kl k0 k1 ++ [32]) ++ mkL nl c0 c1) ++ own_TL).length))]))
  refine GlH.by (fun t_ k_ => XS.iloadN X.here hx rfl (hb hby at_125) rfl k_) ?_
  show GlH p e below Z own_EL sT h0 room_1.cells room_1.slots (fun v h L => v = some (.int 1) ∧ Fr n0 L) (T.setTop (mkF m 126 #[.val (.int p0), .val (.int p1), .val (.int p2), .val (.int kl), .val (.int (k0)), .val (.int (k1)), .val (.int nl), .val (.int (c0)), .val (.int (c1)), .val (.ref x1), .val (.ref x2), .val (.ref ex), .val (.ref mx), .unset] [(.int kl), (.int (Int32.ofNat (((mkL kl k0 k1 ++ [32]) ++ mkL nl c0 c1) ++ own_TL).length))]))
  refine GlH.by (fun t_ k_ => XS.iload X.here hx rfl (hb hby at_126) rfl k_) ?_
  show GlH p e below Z own_EL sT h0 room_1.cells room_1.slots (fun v h L => v = some (.int 1) ∧ Fr n0 L) (T.setTop (mkF m 128 #[.val (.int p0), .val (.int p1), .val (.int p2), .val (.int kl), .val (.int (k0)), .val (.int (k1)), .val (.int nl), .val (.int (c0)), .val (.int (c1)), .val (.ref x1), .val (.ref x2), .val (.ref ex), .val (.ref mx), .unset] [(.int nl), (.int kl), (.int (Int32.ofNat (((mkL kl k0 k1 ++ [32]) ++ mkL nl c0 c1) ++ own_TL).length))]))
  refine GlH.by (fun t_ k_ => XS.iadd X.here hx rfl (hb hby at_128) rfl k_) ?_
  show GlH p e below Z own_EL sT h0 room_1.cells room_1.slots (fun v h L => v = some (.int 1) ∧ Fr n0 L) (T.setTop (mkF m 129 #[.val (.int p0), .val (.int p1), .val (.int p2), .val (.int kl), .val (.int (k0)), .val (.int (k1)), .val (.int nl), .val (.int (c0)), .val (.int (c1)), .val (.ref x1), .val (.ref x2), .val (.ref ex), .val (.ref mx), .unset] [(.int (kl + nl)), (.int (Int32.ofNat (((mkL kl k0 k1 ++ [32]) ++ mkL nl c0 c1) ++ own_TL).length))]))
  refine GlH.by (fun t_ k_ => XS.bipush X.here hx rfl (hb hby at_129) k_) ?_
  show GlH p e below Z own_EL sT h0 room_1.cells room_1.slots (fun v h L => v = some (.int 1) ∧ Fr n0 L) (T.setTop (mkF m 131 #[.val (.int p0), .val (.int p1), .val (.int p2), .val (.int kl), .val (.int (k0)), .val (.int (k1)), .val (.int nl), .val (.int (c0)), .val (.int (c1)), .val (.ref x1), .val (.ref x2), .val (.ref ex), .val (.ref mx), .unset] [(.int (17 : Int32)), (.int (kl + nl)), (.int (Int32.ofNat (((mkL kl k0 k1 ++ [32]) ++ mkL nl c0 c1) ++ own_TL).length))]))
  refine GlH.by (fun t_ k_ => XS.iadd X.here hx rfl (hb hby at_131) rfl k_) ?_
  show GlH p e below Z own_EL sT h0 room_1.cells room_1.slots (fun v h L => v = some (.int 1) ∧ Fr n0 L) (T.setTop (mkF m 132 #[.val (.int p0), .val (.int p1), .val (.int p2), .val (.int kl), .val (.int (k0)), .val (.int (k1)), .val (.int nl), .val (.int (c0)), .val (.int (c1)), .val (.ref x1), .val (.ref x2), .val (.ref ex), .val (.ref mx), .unset] [(.int ((kl + nl) + (17 : Int32))), (.int (Int32.ofNat (((mkL kl k0 k1 ++ [32]) ++ mkL nl c0 c1) ++ own_TL).length))]))
  refine GlH.by (fun t_ k_ => XS.icmpYes X.here hx rfl (pc0 := 132) (pc' := 137) rfl (hb hby at_132) rfl (teq (own_len17 hk hn k0 k1 c0 c1)).1 (by decide) (by decide) k_) ?_
  show GlH p e below Z own_EL sT h0 room_1.cells room_1.slots (fun v h L => v = some (.int 1) ∧ Fr n0 L) (T.setTop (mkF m 137 #[.val (.int p0), .val (.int p1), .val (.int p2), .val (.int kl), .val (.int (k0)), .val (.int (k1)), .val (.int nl), .val (.int (c0)), .val (.int (c1)), .val (.ref x1), .val (.ref x2), .val (.ref ex), .val (.ref mx), .unset] []))
  rcases hk with rfl | rfl | rfl
  · rw [mkL0] at SM
    have hL := own_cs_len [] (mkL nl c0 c1)
    dsimp only [List.length_nil, List.length_cons] at hL
    show GlH p e below Z own_EL sT h0 room_1.cells room_1.slots (fun v h L => v = some (.int 1) ∧ Fr n0 L) (T.setTop (mkF m 137 #[.val (.int p0), .val (.int p1), .val (.int p2), .val (.int (0 : Int32)), .val (.int (k0)), .val (.int (k1)), .val (.int nl), .val (.int (c0)), .val (.int (c1)), .val (.ref x1), .val (.ref x2), .val (.ref ex), .val (.ref mx), .unset] []))
    refine GlH.by (fun t_ k_ => XS.iloadN X.here hx rfl (hb hby at_137) rfl k_) ?_
    show GlH p e below Z own_EL sT h0 room_1.cells room_1.slots (fun v h L => v = some (.int 1) ∧ Fr n0 L) (T.setTop (mkF m 138 #[.val (.int p0), .val (.int p1), .val (.int p2), .val (.int (0 : Int32)), .val (.int (k0)), .val (.int (k1)), .val (.int nl), .val (.int (c0)), .val (.int (c1)), .val (.ref x1), .val (.ref x2), .val (.ref ex), .val (.ref mx), .unset] [(.int (0 : Int32))]))
    refine GlH.by (fun t_ k_ => XS.iconst X.here hx rfl (hb hby at_138) k_) ?_
    show GlH p e below Z own_EL sT h0 room_1.cells room_1.slots (fun v h L => v = some (.int 1) ∧ Fr n0 L) (T.setTop (mkF m 139 #[.val (.int p0), .val (.int p1), .val (.int p2), .val (.int (0 : Int32)), .val (.int (k0)), .val (.int (k1)), .val (.int nl), .val (.int (c0)), .val (.int (c1)), .val (.ref x1), .val (.ref x2), .val (.ref ex), .val (.ref mx), .unset] [(.int (1 : Int32)), (.int (0 : Int32))]))
    refine GlH.by (fun t_ k_ => XS.icmpYes X.here hx rfl (pc0 := 139) (pc' := 155) rfl (hb hby at_139) rfl (tlt (by decide)).1 (by decide) (by decide) k_) ?_
    show GlH p e below Z own_EL sT h0 room_1.cells room_1.slots (fun v h L => v = some (.int 1) ∧ Fr n0 L) (T.setTop (mkF m 155 #[.val (.int p0), .val (.int p1), .val (.int p2), .val (.int (0 : Int32)), .val (.int (k0)), .val (.int (k1)), .val (.int nl), .val (.int (c0)), .val (.int (c1)), .val (.ref x1), .val (.ref x2), .val (.ref ex), .val (.ref mx), .unset] []))
    refine GlH.by (fun t_ k_ => XS.iloadN X.here hx rfl (hb hby at_155) rfl k_) ?_
    show GlH p e below Z own_EL sT h0 room_1.cells room_1.slots (fun v h L => v = some (.int 1) ∧ Fr n0 L) (T.setTop (mkF m 156 #[.val (.int p0), .val (.int p1), .val (.int p2), .val (.int (0 : Int32)), .val (.int (k0)), .val (.int (k1)), .val (.int nl), .val (.int (c0)), .val (.int (c1)), .val (.ref x1), .val (.ref x2), .val (.ref ex), .val (.ref mx), .unset] [(.int (0 : Int32))]))
    refine GlH.by (fun t_ k_ => XS.iconst X.here hx rfl (hb hby at_156) k_) ?_
    show GlH p e below Z own_EL sT h0 room_1.cells room_1.slots (fun v h L => v = some (.int 1) ∧ Fr n0 L) (T.setTop (mkF m 157 #[.val (.int p0), .val (.int p1), .val (.int p2), .val (.int (0 : Int32)), .val (.int (k0)), .val (.int (k1)), .val (.int nl), .val (.int (c0)), .val (.int (c1)), .val (.ref x1), .val (.ref x2), .val (.ref ex), .val (.ref mx), .unset] [(.int (2 : Int32)), (.int (0 : Int32))]))
    refine GlH.by (fun t_ k_ => XS.icmpYes X.here hx rfl (pc0 := 157) (pc' := 173) rfl (hb hby at_157) rfl (tlt (by decide)).1 (by decide) (by decide) k_) ?_
    show GlH p e below Z own_EL sT h0 room_1.cells room_1.slots (fun v h L => v = some (.int 1) ∧ Fr n0 L) (T.setTop (mkF m 173 #[.val (.int p0), .val (.int p1), .val (.int p2), .val (.int (0 : Int32)), .val (.int (k0)), .val (.int (k1)), .val (.int nl), .val (.int (c0)), .val (.int (c1)), .val (.ref x1), .val (.ref x2), .val (.ref ex), .val (.ref mx), .unset] []))
    refine GlH.by (fun t_ k_ => XS.aload X.here hx rfl (hb hby at_173) rfl rfl k_) ?_
    show GlH p e below Z own_EL sT h0 room_1.cells room_1.slots (fun v h L => v = some (.int 1) ∧ Fr n0 L) (T.setTop (mkF m 175 #[.val (.int p0), .val (.int p1), .val (.int p2), .val (.int (0 : Int32)), .val (.int (k0)), .val (.int (k1)), .val (.int nl), .val (.int (c0)), .val (.int (c1)), .val (.ref x1), .val (.ref x2), .val (.ref ex), .val (.ref mx), .unset] [(.ref mx)]))
    refine GlH.by (fun t_ k_ => XS.iloadN X.here hx rfl (hb hby at_175) rfl k_) ?_
    show GlH p e below Z own_EL sT h0 room_1.cells room_1.slots (fun v h L => v = some (.int 1) ∧ Fr n0 L) (T.setTop (mkF m 176 #[.val (.int p0), .val (.int p1), .val (.int p2), .val (.int (0 : Int32)), .val (.int (k0)), .val (.int (k1)), .val (.int nl), .val (.int (c0)), .val (.int (c1)), .val (.ref x1), .val (.ref x2), .val (.ref ex), .val (.ref mx), .unset] [(.int (0 : Int32)), (.ref mx)]))
    refine GlH.virt X hx hZ hown (hw _ (List.mem_of_getElem? (i := 238) rfl)) (hw _ (List.mem_of_getElem? (i := 239) rfl)) (hw _ (List.mem_of_getElem? (i := 241) rfl)) (hw _ (List.mem_of_getElem? (i := 240) rfl)) (notFace_of_selects (args := #[]) (mvT hZ (hw _ (List.mem_of_getElem? (i := 241) rfl)))) (by decide) SM.1 (W := 0) (payCh (n0 := n0) hZ (own_wch hw) (hw _ (List.mem_of_getElem? (i := 9) rfl)) SM S hz Sf rf O9 0 (by omega) (by decide) (by decide)) eT (hb hby at_176) (by rw [hml]; rfl) [(.int (0 : Int32))] [] (lenOf pd_26 rfl) rfl rfl (Nat.le_of_eq rfl) (by decide) (by decide) ?_
    intro v T L X hq
    obtain ⟨rfl, rfl, eT⟩ := hq
    have N := Fr.app N (Fr.nil n0)
    show GlH p e below Z own_EL sT h0 room_1.cells room_1.slots (fun v h L => v = some (.int 1) ∧ Fr n0 L) (T.setTop (mkF m 179 #[.val (.int p0), .val (.int p1), .val (.int p2), .val (.int (0 : Int32)), .val (.int (k0)), .val (.int (k1)), .val (.int nl), .val (.int (c0)), .val (.int (c1)), .val (.ref x1), .val (.ref x2), .val (.ref ex), .val (.ref mx), .unset] [(.int (((([] ++ [32]) ++ mkL nl c0 c1) ++ own_TL).getD 0 0))]))
    refine GlH.by (fun t_ k_ => XS.bipush X.here hx rfl (hb hby at_179) k_) ?_
    show GlH p e below Z own_EL sT h0 room_1.cells room_1.slots (fun v h L => v = some (.int 1) ∧ Fr n0 L) (T.setTop (mkF m 181 #[.val (.int p0), .val (.int p1), .val (.int p2), .val (.int (0 : Int32)), .val (.int (k0)), .val (.int (k1)), .val (.int nl), .val (.int (c0)), .val (.int (c1)), .val (.ref x1), .val (.ref x2), .val (.ref ex), .val (.ref mx), .unset] [(.int (32 : Int32)), (.int (((([] ++ [32]) ++ mkL nl c0 c1) ++ own_TL).getD 0 0))]))
    refine GlH.by (fun t_ k_ => XS.icmpYes X.here hx rfl (pc0 := 181) (pc' := 186) rfl (hb hby at_181) rfl (teq (rfl : ((([] ++ [32]) ++ mkL nl c0 c1) ++ own_TL).getD 0 0 = (32 : Int32))).1 (by decide) (by decide) k_) ?_
    show GlH p e below Z own_EL sT h0 room_1.cells room_1.slots (fun v h L => v = some (.int 1) ∧ Fr n0 L) (T.setTop (mkF m 186 #[.val (.int p0), .val (.int p1), .val (.int p2), .val (.int (0 : Int32)), .val (.int (k0)), .val (.int (k1)), .val (.int nl), .val (.int (c0)), .val (.int (c1)), .val (.ref x1), .val (.ref x2), .val (.ref ex), .val (.ref mx), .unset] []))
    refine GlH.by (fun t_ k_ => XS.iloadN X.here hx rfl (hb hby at_186) rfl k_) ?_
    show GlH p e below Z own_EL sT h0 room_1.cells room_1.slots (fun v h L => v = some (.int 1) ∧ Fr n0 L) (T.setTop (mkF m 187 #[.val (.int p0), .val (.int p1), .val (.int p2), .val (.int (0 : Int32)), .val (.int (k0)), .val (.int (k1)), .val (.int nl), .val (.int (c0)), .val (.int (c1)), .val (.ref x1), .val (.ref x2), .val (.ref ex), .val (.ref mx), .unset] [(.int (0 : Int32))]))
    refine GlH.by (fun t_ k_ => XS.iconst X.here hx rfl (hb hby at_187) k_) ?_
    show GlH p e below Z own_EL sT h0 room_1.cells room_1.slots (fun v h L => v = some (.int 1) ∧ Fr n0 L) (T.setTop (mkF m 188 #[.val (.int p0), .val (.int p1), .val (.int p2), .val (.int (0 : Int32)), .val (.int (k0)), .val (.int (k1)), .val (.int nl), .val (.int (c0)), .val (.int (c1)), .val (.ref x1), .val (.ref x2), .val (.ref ex), .val (.ref mx), .unset] [(.int (1 : Int32)), (.int (0 : Int32))]))
    refine GlH.by (fun t_ k_ => XS.iadd X.here hx rfl (hb hby at_188) rfl k_) ?_
    show GlH p e below Z own_EL sT h0 room_1.cells room_1.slots (fun v h L => v = some (.int 1) ∧ Fr n0 L) (T.setTop (mkF m 189 #[.val (.int p0), .val (.int p1), .val (.int p2), .val (.int (0 : Int32)), .val (.int (k0)), .val (.int (k1)), .val (.int nl), .val (.int (c0)), .val (.int (c1)), .val (.ref x1), .val (.ref x2), .val (.ref ex), .val (.ref mx), .unset] [(.int ((0 : Int32) + (1 : Int32)))]))
    show GlH p e below Z own_EL sT h0 room_1.cells room_1.slots (fun v h L => v = some (.int 1) ∧ Fr n0 L) (T.setTop (mkF m 189 #[.val (.int p0), .val (.int p1), .val (.int p2), .val (.int (0 : Int32)), .val (.int (k0)), .val (.int (k1)), .val (.int nl), .val (.int (c0)), .val (.int (c1)), .val (.ref x1), .val (.ref x2), .val (.ref ex), .val (.ref mx), .unset] [(.int (1 : Int32))]))
    refine GlH.by (fun t_ k_ => XS.istore X.here hx rfl (hb hby at_189) rfl (l' := #[.val (.int p0), .val (.int p1), .val (.int p2), .val (.int (0 : Int32)), .val (.int (k0)), .val (.int (k1)), .val (.int nl), .val (.int (c0)), .val (.int (c1)), .val (.ref x1), .val (.ref x2), .val (.ref ex), .val (.ref mx), .val (.int (1 : Int32))]) rfl k_) ?_
    show GlH p e below Z own_EL sT h0 room_1.cells room_1.slots (fun v h L => v = some (.int 1) ∧ Fr n0 L) (T.setTop (mkF m 191 #[.val (.int p0), .val (.int p1), .val (.int p2), .val (.int (0 : Int32)), .val (.int (k0)), .val (.int (k1)), .val (.int nl), .val (.int (c0)), .val (.int (c1)), .val (.ref x1), .val (.ref x2), .val (.ref ex), .val (.ref mx), .val (.int (1 : Int32))] []))
    refine GlH.by (fun t_ k_ => XS.iload X.here hx rfl (hb hby at_191) rfl k_) ?_
    show GlH p e below Z own_EL sT h0 room_1.cells room_1.slots (fun v h L => v = some (.int 1) ∧ Fr n0 L) (T.setTop (mkF m 193 #[.val (.int p0), .val (.int p1), .val (.int p2), .val (.int (0 : Int32)), .val (.int (k0)), .val (.int (k1)), .val (.int nl), .val (.int (c0)), .val (.int (c1)), .val (.ref x1), .val (.ref x2), .val (.ref ex), .val (.ref mx), .val (.int (1 : Int32))] [(.int nl)]))
    refine GlH.by (fun t_ k_ => XS.iconst X.here hx rfl (hb hby at_193) k_) ?_
    show GlH p e below Z own_EL sT h0 room_1.cells room_1.slots (fun v h L => v = some (.int 1) ∧ Fr n0 L) (T.setTop (mkF m 194 #[.val (.int p0), .val (.int p1), .val (.int p2), .val (.int (0 : Int32)), .val (.int (k0)), .val (.int (k1)), .val (.int nl), .val (.int (c0)), .val (.int (c1)), .val (.ref x1), .val (.ref x2), .val (.ref ex), .val (.ref mx), .val (.int (1 : Int32))] [(.int (1 : Int32)), (.int nl)]))
    rcases hn with rfl | rfl | rfl
    · rw [mkL0] at SM hL
      dsimp only [List.length_nil, List.length_cons] at hL
      show GlH p e below Z own_EL sT h0 room_1.cells room_1.slots (fun v h L => v = some (.int 1) ∧ Fr n0 L) (T.setTop (mkF m 194 #[.val (.int p0), .val (.int p1), .val (.int p2), .val (.int (0 : Int32)), .val (.int (k0)), .val (.int (k1)), .val (.int (0 : Int32)), .val (.int (c0)), .val (.int (c1)), .val (.ref x1), .val (.ref x2), .val (.ref ex), .val (.ref mx), .val (.int (1 : Int32))] [(.int (1 : Int32)), (.int (0 : Int32))]))
      refine GlH.by (fun t_ k_ => XS.icmpYes X.here hx rfl (pc0 := 194) (pc' := 211) rfl (hb hby at_194) rfl (tlt (by decide)).1 (by decide) (by decide) k_) ?_
      show GlH p e below Z own_EL sT h0 room_1.cells room_1.slots (fun v h L => v = some (.int 1) ∧ Fr n0 L) (T.setTop (mkF m 211 #[.val (.int p0), .val (.int p1), .val (.int p2), .val (.int (0 : Int32)), .val (.int (k0)), .val (.int (k1)), .val (.int (0 : Int32)), .val (.int (c0)), .val (.int (c1)), .val (.ref x1), .val (.ref x2), .val (.ref ex), .val (.ref mx), .val (.int (1 : Int32))] []))
      refine GlH.by (fun t_ k_ => XS.iload X.here hx rfl (hb hby at_211) rfl k_) ?_
      show GlH p e below Z own_EL sT h0 room_1.cells room_1.slots (fun v h L => v = some (.int 1) ∧ Fr n0 L) (T.setTop (mkF m 213 #[.val (.int p0), .val (.int p1), .val (.int p2), .val (.int (0 : Int32)), .val (.int (k0)), .val (.int (k1)), .val (.int (0 : Int32)), .val (.int (c0)), .val (.int (c1)), .val (.ref x1), .val (.ref x2), .val (.ref ex), .val (.ref mx), .val (.int (1 : Int32))] [(.int (0 : Int32))]))
      refine GlH.by (fun t_ k_ => XS.iconst X.here hx rfl (hb hby at_213) k_) ?_
      show GlH p e below Z own_EL sT h0 room_1.cells room_1.slots (fun v h L => v = some (.int 1) ∧ Fr n0 L) (T.setTop (mkF m 214 #[.val (.int p0), .val (.int p1), .val (.int p2), .val (.int (0 : Int32)), .val (.int (k0)), .val (.int (k1)), .val (.int (0 : Int32)), .val (.int (c0)), .val (.int (c1)), .val (.ref x1), .val (.ref x2), .val (.ref ex), .val (.ref mx), .val (.int (1 : Int32))] [(.int (2 : Int32)), (.int (0 : Int32))]))
      refine GlH.by (fun t_ k_ => XS.icmpYes X.here hx rfl (pc0 := 214) (pc' := 233) rfl (hb hby at_214) rfl (tlt (by decide)).1 (by decide) (by decide) k_) ?_
      show GlH p e below Z own_EL sT h0 room_1.cells room_1.slots (fun v h L => v = some (.int 1) ∧ Fr n0 L) (T.setTop (mkF m 233 #[.val (.int p0), .val (.int p1), .val (.int p2), .val (.int (0 : Int32)), .val (.int (k0)), .val (.int (k1)), .val (.int (0 : Int32)), .val (.int (c0)), .val (.int (c1)), .val (.ref x1), .val (.ref x2), .val (.ref ex), .val (.ref mx), .val (.int (1 : Int32))] []))
      refine GlH.by (fun t_ k_ => XS.aload X.here hx rfl (hb hby at_233) rfl rfl k_) ?_
      show GlH p e below Z own_EL sT h0 room_1.cells room_1.slots (fun v h L => v = some (.int 1) ∧ Fr n0 L) (T.setTop (mkF m 235 #[.val (.int p0), .val (.int p1), .val (.int p2), .val (.int (0 : Int32)), .val (.int (k0)), .val (.int (k1)), .val (.int (0 : Int32)), .val (.int (c0)), .val (.int (c1)), .val (.ref x1), .val (.ref x2), .val (.ref ex), .val (.ref mx), .val (.int (1 : Int32))] [(.ref mx)]))
      refine GlH.by (fun t_ k_ => XS.iload X.here hx rfl (hb hby at_235) rfl k_) ?_
      show GlH p e below Z own_EL sT h0 room_1.cells room_1.slots (fun v h L => v = some (.int 1) ∧ Fr n0 L) (T.setTop (mkF m 237 #[.val (.int p0), .val (.int p1), .val (.int p2), .val (.int (0 : Int32)), .val (.int (k0)), .val (.int (k1)), .val (.int (0 : Int32)), .val (.int (c0)), .val (.int (c1)), .val (.ref x1), .val (.ref x2), .val (.ref ex), .val (.ref mx), .val (.int (1 : Int32))] [(.int (1 : Int32)), (.ref mx)]))
      refine GlH.by (fun t_ k_ => XS.iload X.here hx rfl (hb hby at_237) rfl k_) ?_
      show GlH p e below Z own_EL sT h0 room_1.cells room_1.slots (fun v h L => v = some (.int 1) ∧ Fr n0 L) (T.setTop (mkF m 239 #[.val (.int p0), .val (.int p1), .val (.int p2), .val (.int (0 : Int32)), .val (.int (k0)), .val (.int (k1)), .val (.int (0 : Int32)), .val (.int (c0)), .val (.int (c1)), .val (.ref x1), .val (.ref x2), .val (.ref ex), .val (.ref mx), .val (.int (1 : Int32))] [(.int (0 : Int32)), (.int (1 : Int32)), (.ref mx)]))
      refine GlH.by (fun t_ k_ => XS.iadd X.here hx rfl (hb hby at_239) rfl k_) ?_
      show GlH p e below Z own_EL sT h0 room_1.cells room_1.slots (fun v h L => v = some (.int 1) ∧ Fr n0 L) (T.setTop (mkF m 240 #[.val (.int p0), .val (.int p1), .val (.int p2), .val (.int (0 : Int32)), .val (.int (k0)), .val (.int (k1)), .val (.int (0 : Int32)), .val (.int (c0)), .val (.int (c1)), .val (.ref x1), .val (.ref x2), .val (.ref ex), .val (.ref mx), .val (.int (1 : Int32))] [(.int ((1 : Int32) + (0 : Int32))), (.ref mx)]))
      show GlH p e below Z own_EL sT h0 room_1.cells room_1.slots (fun v h L => v = some (.int 1) ∧ Fr n0 L) (T.setTop (mkF m 240 #[.val (.int p0), .val (.int p1), .val (.int p2), .val (.int (0 : Int32)), .val (.int (k0)), .val (.int (k1)), .val (.int (0 : Int32)), .val (.int (c0)), .val (.int (c1)), .val (.ref x1), .val (.ref x2), .val (.ref ex), .val (.ref mx), .val (.int (1 : Int32))] [(.int (1 : Int32)), (.ref mx)]))
      refine GlH.statS X hx hZ hown (hw _ (List.mem_of_getElem? (i := 260) rfl)) (hw _ (List.mem_of_getElem? (i := 261) rfl)) (hw _ (List.mem_of_getElem? (i := 6) rfl)) (hw _ (List.mem_of_getElem? (i := 262) rfl)) (by decide) (W := 0) B (backH (own_tail l Z a0 hw mx 1 ((([] ++ [32]) ++ []) ++ own_TL) z fm h3 n0 SM (own_cs_tail [] []) (by omega) Sf rf S hz O9) B hEL (fun _ q => by cases q) hZ (hw _ (List.mem_of_getElem? (i := 262) rfl)) (hw _ (List.mem_of_getElem? (i := 6) rfl)) (by decide) (by decide)) eT (hb hby at_240) (by rw [hml]; rfl) [(.ref mx), (.int (1 : Int32))] [] (lenOf pd_29 rfl) rfl rfl (Nat.le_of_eq rfl) (by decide) (by decide) ?_
      intro v T L s X B hZ hown CB hq
      obtain ⟨rfl, NQ, K4⟩ := hq
      have N := Fr.app N NQ
      obtain ⟨h4, eT⟩ : ∃ z, T.heap = z := ⟨_, rfl⟩
      rw [eT] at K4 B CB
      have sz4 := K4.1
      show GlH p e below Z own_EL sT h0 room_1.cells room_1.slots (fun v h L => v = some (.int 1) ∧ Fr n0 L) (T.setTop (mkF m 243 #[.val (.int p0), .val (.int p1), .val (.int p2), .val (.int (0 : Int32)), .val (.int (k0)), .val (.int (k1)), .val (.int (0 : Int32)), .val (.int (c0)), .val (.int (c1)), .val (.ref x1), .val (.ref x2), .val (.ref ex), .val (.ref mx), .val (.int (1 : Int32))] [(.int (1 : Int32))]))
      exact GlH.retZ X B eT hZ hEL hx hlk hret (by simp) (hb hby at_243) (by decide) (by decide) ⟨rfl, N⟩
    · rw [mkL1] at SM hL
      dsimp only [List.length_nil, List.length_cons] at hL
      show GlH p e below Z own_EL sT h0 room_1.cells room_1.slots (fun v h L => v = some (.int 1) ∧ Fr n0 L) (T.setTop (mkF m 194 #[.val (.int p0), .val (.int p1), .val (.int p2), .val (.int (0 : Int32)), .val (.int (k0)), .val (.int (k1)), .val (.int (1 : Int32)), .val (.int (c0)), .val (.int (c1)), .val (.ref x1), .val (.ref x2), .val (.ref ex), .val (.ref mx), .val (.int (1 : Int32))] [(.int (1 : Int32)), (.int (1 : Int32))]))
      refine GlH.by (fun t_ k_ => XS.icmpNo X.here hx rfl (hb hby at_194) rfl (flt (by decide)).1 k_) ?_
      show GlH p e below Z own_EL sT h0 room_1.cells room_1.slots (fun v h L => v = some (.int 1) ∧ Fr n0 L) (T.setTop (mkF m 197 #[.val (.int p0), .val (.int p1), .val (.int p2), .val (.int (0 : Int32)), .val (.int (k0)), .val (.int (k1)), .val (.int (1 : Int32)), .val (.int (c0)), .val (.int (c1)), .val (.ref x1), .val (.ref x2), .val (.ref ex), .val (.ref mx), .val (.int (1 : Int32))] []))
      refine GlH.by (fun t_ k_ => XS.aload X.here hx rfl (hb hby at_197) rfl rfl k_) ?_
      show GlH p e below Z own_EL sT h0 room_1.cells room_1.slots (fun v h L => v = some (.int 1) ∧ Fr n0 L) (T.setTop (mkF m 199 #[.val (.int p0), .val (.int p1), .val (.int p2), .val (.int (0 : Int32)), .val (.int (k0)), .val (.int (k1)), .val (.int (1 : Int32)), .val (.int (c0)), .val (.int (c1)), .val (.ref x1), .val (.ref x2), .val (.ref ex), .val (.ref mx), .val (.int (1 : Int32))] [(.ref mx)]))
      refine GlH.by (fun t_ k_ => XS.iload X.here hx rfl (hb hby at_199) rfl k_) ?_
      show GlH p e below Z own_EL sT h0 room_1.cells room_1.slots (fun v h L => v = some (.int 1) ∧ Fr n0 L) (T.setTop (mkF m 201 #[.val (.int p0), .val (.int p1), .val (.int p2), .val (.int (0 : Int32)), .val (.int (k0)), .val (.int (k1)), .val (.int (1 : Int32)), .val (.int (c0)), .val (.int (c1)), .val (.ref x1), .val (.ref x2), .val (.ref ex), .val (.ref mx), .val (.int (1 : Int32))] [(.int (1 : Int32)), (.ref mx)]))
      refine GlH.virt X hx hZ hown (hw _ (List.mem_of_getElem? (i := 238) rfl)) (hw _ (List.mem_of_getElem? (i := 239) rfl)) (hw _ (List.mem_of_getElem? (i := 241) rfl)) (hw _ (List.mem_of_getElem? (i := 240) rfl)) (notFace_of_selects (args := #[]) (mvT hZ (hw _ (List.mem_of_getElem? (i := 241) rfl)))) (by decide) SM.1 (W := 0) (payCh (n0 := n0) hZ (own_wch hw) (hw _ (List.mem_of_getElem? (i := 9) rfl)) SM S hz Sf rf O9 1 (by omega) (by decide) (by decide)) eT (hb hby at_201) (by rw [hml]; rfl) [(.int (1 : Int32))] [] (lenOf pd_26 rfl) rfl rfl (Nat.le_of_eq rfl) (by decide) (by decide) ?_
      intro v T L X hq
      obtain ⟨rfl, rfl, eT⟩ := hq
      have N := Fr.app N (Fr.nil n0)
      show GlH p e below Z own_EL sT h0 room_1.cells room_1.slots (fun v h L => v = some (.int 1) ∧ Fr n0 L) (T.setTop (mkF m 204 #[.val (.int p0), .val (.int p1), .val (.int p2), .val (.int (0 : Int32)), .val (.int (k0)), .val (.int (k1)), .val (.int (1 : Int32)), .val (.int (c0)), .val (.int (c1)), .val (.ref x1), .val (.ref x2), .val (.ref ex), .val (.ref mx), .val (.int (1 : Int32))] [(.int (((([] ++ [32]) ++ [c0]) ++ own_TL).getD 1 0))]))
      refine GlH.by (fun t_ k_ => XS.iload X.here hx rfl (hb hby at_204) rfl k_) ?_
      show GlH p e below Z own_EL sT h0 room_1.cells room_1.slots (fun v h L => v = some (.int 1) ∧ Fr n0 L) (T.setTop (mkF m 206 #[.val (.int p0), .val (.int p1), .val (.int p2), .val (.int (0 : Int32)), .val (.int (k0)), .val (.int (k1)), .val (.int (1 : Int32)), .val (.int (c0)), .val (.int (c1)), .val (.ref x1), .val (.ref x2), .val (.ref ex), .val (.ref mx), .val (.int (1 : Int32))] [(.int (c0)), (.int (((([] ++ [32]) ++ [c0]) ++ own_TL).getD 1 0))]))
      refine GlH.by (fun t_ k_ => XS.icmpYes X.here hx rfl (pc0 := 206) (pc' := 211) rfl (hb hby at_206) rfl (teq (rfl : ((([] ++ [32]) ++ [c0]) ++ own_TL).getD 1 0 = c0)).1 (by decide) (by decide) k_) ?_
      show GlH p e below Z own_EL sT h0 room_1.cells room_1.slots (fun v h L => v = some (.int 1) ∧ Fr n0 L) (T.setTop (mkF m 211 #[.val (.int p0), .val (.int p1), .val (.int p2), .val (.int (0 : Int32)), .val (.int (k0)), .val (.int (k1)), .val (.int (1 : Int32)), .val (.int (c0)), .val (.int (c1)), .val (.ref x1), .val (.ref x2), .val (.ref ex), .val (.ref mx), .val (.int (1 : Int32))] []))
      refine GlH.by (fun t_ k_ => XS.iload X.here hx rfl (hb hby at_211) rfl k_) ?_
      show GlH p e below Z own_EL sT h0 room_1.cells room_1.slots (fun v h L => v = some (.int 1) ∧ Fr n0 L) (T.setTop (mkF m 213 #[.val (.int p0), .val (.int p1), .val (.int p2), .val (.int (0 : Int32)), .val (.int (k0)), .val (.int (k1)), .val (.int (1 : Int32)), .val (.int (c0)), .val (.int (c1)), .val (.ref x1), .val (.ref x2), .val (.ref ex), .val (.ref mx), .val (.int (1 : Int32))] [(.int (1 : Int32))]))
      refine GlH.by (fun t_ k_ => XS.iconst X.here hx rfl (hb hby at_213) k_) ?_
      show GlH p e below Z own_EL sT h0 room_1.cells room_1.slots (fun v h L => v = some (.int 1) ∧ Fr n0 L) (T.setTop (mkF m 214 #[.val (.int p0), .val (.int p1), .val (.int p2), .val (.int (0 : Int32)), .val (.int (k0)), .val (.int (k1)), .val (.int (1 : Int32)), .val (.int (c0)), .val (.int (c1)), .val (.ref x1), .val (.ref x2), .val (.ref ex), .val (.ref mx), .val (.int (1 : Int32))] [(.int (2 : Int32)), (.int (1 : Int32))]))
      refine GlH.by (fun t_ k_ => XS.icmpYes X.here hx rfl (pc0 := 214) (pc' := 233) rfl (hb hby at_214) rfl (tlt (by decide)).1 (by decide) (by decide) k_) ?_
      show GlH p e below Z own_EL sT h0 room_1.cells room_1.slots (fun v h L => v = some (.int 1) ∧ Fr n0 L) (T.setTop (mkF m 233 #[.val (.int p0), .val (.int p1), .val (.int p2), .val (.int (0 : Int32)), .val (.int (k0)), .val (.int (k1)), .val (.int (1 : Int32)), .val (.int (c0)), .val (.int (c1)), .val (.ref x1), .val (.ref x2), .val (.ref ex), .val (.ref mx), .val (.int (1 : Int32))] []))
      refine GlH.by (fun t_ k_ => XS.aload X.here hx rfl (hb hby at_233) rfl rfl k_) ?_
      show GlH p e below Z own_EL sT h0 room_1.cells room_1.slots (fun v h L => v = some (.int 1) ∧ Fr n0 L) (T.setTop (mkF m 235 #[.val (.int p0), .val (.int p1), .val (.int p2), .val (.int (0 : Int32)), .val (.int (k0)), .val (.int (k1)), .val (.int (1 : Int32)), .val (.int (c0)), .val (.int (c1)), .val (.ref x1), .val (.ref x2), .val (.ref ex), .val (.ref mx), .val (.int (1 : Int32))] [(.ref mx)]))
      refine GlH.by (fun t_ k_ => XS.iload X.here hx rfl (hb hby at_235) rfl k_) ?_
      show GlH p e below Z own_EL sT h0 room_1.cells room_1.slots (fun v h L => v = some (.int 1) ∧ Fr n0 L) (T.setTop (mkF m 237 #[.val (.int p0), .val (.int p1), .val (.int p2), .val (.int (0 : Int32)), .val (.int (k0)), .val (.int (k1)), .val (.int (1 : Int32)), .val (.int (c0)), .val (.int (c1)), .val (.ref x1), .val (.ref x2), .val (.ref ex), .val (.ref mx), .val (.int (1 : Int32))] [(.int (1 : Int32)), (.ref mx)]))
      refine GlH.by (fun t_ k_ => XS.iload X.here hx rfl (hb hby at_237) rfl k_) ?_
      show GlH p e below Z own_EL sT h0 room_1.cells room_1.slots (fun v h L => v = some (.int 1) ∧ Fr n0 L) (T.setTop (mkF m 239 #[.val (.int p0), .val (.int p1), .val (.int p2), .val (.int (0 : Int32)), .val (.int (k0)), .val (.int (k1)), .val (.int (1 : Int32)), .val (.int (c0)), .val (.int (c1)), .val (.ref x1), .val (.ref x2), .val (.ref ex), .val (.ref mx), .val (.int (1 : Int32))] [(.int (1 : Int32)), (.int (1 : Int32)), (.ref mx)]))
      refine GlH.by (fun t_ k_ => XS.iadd X.here hx rfl (hb hby at_239) rfl k_) ?_
      show GlH p e below Z own_EL sT h0 room_1.cells room_1.slots (fun v h L => v = some (.int 1) ∧ Fr n0 L) (T.setTop (mkF m 240 #[.val (.int p0), .val (.int p1), .val (.int p2), .val (.int (0 : Int32)), .val (.int (k0)), .val (.int (k1)), .val (.int (1 : Int32)), .val (.int (c0)), .val (.int (c1)), .val (.ref x1), .val (.ref x2), .val (.ref ex), .val (.ref mx), .val (.int (1 : Int32))] [(.int ((1 : Int32) + (1 : Int32))), (.ref mx)]))
      show GlH p e below Z own_EL sT h0 room_1.cells room_1.slots (fun v h L => v = some (.int 1) ∧ Fr n0 L) (T.setTop (mkF m 240 #[.val (.int p0), .val (.int p1), .val (.int p2), .val (.int (0 : Int32)), .val (.int (k0)), .val (.int (k1)), .val (.int (1 : Int32)), .val (.int (c0)), .val (.int (c1)), .val (.ref x1), .val (.ref x2), .val (.ref ex), .val (.ref mx), .val (.int (1 : Int32))] [(.int (2 : Int32)), (.ref mx)]))
      refine GlH.statS X hx hZ hown (hw _ (List.mem_of_getElem? (i := 260) rfl)) (hw _ (List.mem_of_getElem? (i := 261) rfl)) (hw _ (List.mem_of_getElem? (i := 6) rfl)) (hw _ (List.mem_of_getElem? (i := 262) rfl)) (by decide) (W := 0) B (backH (own_tail l Z a0 hw mx 2 ((([] ++ [32]) ++ [c0]) ++ own_TL) z fm h3 n0 SM (own_cs_tail [] [c0]) (by omega) Sf rf S hz O9) B hEL (fun _ q => by cases q) hZ (hw _ (List.mem_of_getElem? (i := 262) rfl)) (hw _ (List.mem_of_getElem? (i := 6) rfl)) (by decide) (by decide)) eT (hb hby at_240) (by rw [hml]; rfl) [(.ref mx), (.int (2 : Int32))] [] (lenOf pd_29 rfl) rfl rfl (Nat.le_of_eq rfl) (by decide) (by decide) ?_
      intro v T L s X B hZ hown CB hq
      obtain ⟨rfl, NQ, K5⟩ := hq
      have N := Fr.app N NQ
      obtain ⟨h5, eT⟩ : ∃ z, T.heap = z := ⟨_, rfl⟩
      rw [eT] at K5 B CB
      have sz5 := K5.1
      show GlH p e below Z own_EL sT h0 room_1.cells room_1.slots (fun v h L => v = some (.int 1) ∧ Fr n0 L) (T.setTop (mkF m 243 #[.val (.int p0), .val (.int p1), .val (.int p2), .val (.int (0 : Int32)), .val (.int (k0)), .val (.int (k1)), .val (.int (1 : Int32)), .val (.int (c0)), .val (.int (c1)), .val (.ref x1), .val (.ref x2), .val (.ref ex), .val (.ref mx), .val (.int (1 : Int32))] [(.int (1 : Int32))]))
      exact GlH.retZ X B eT hZ hEL hx hlk hret (by simp) (hb hby at_243) (by decide) (by decide) ⟨rfl, N⟩
    · rw [mkL2] at SM hL
      dsimp only [List.length_nil, List.length_cons] at hL
      show GlH p e below Z own_EL sT h0 room_1.cells room_1.slots (fun v h L => v = some (.int 1) ∧ Fr n0 L) (T.setTop (mkF m 194 #[.val (.int p0), .val (.int p1), .val (.int p2), .val (.int (0 : Int32)), .val (.int (k0)), .val (.int (k1)), .val (.int (2 : Int32)), .val (.int (c0)), .val (.int (c1)), .val (.ref x1), .val (.ref x2), .val (.ref ex), .val (.ref mx), .val (.int (1 : Int32))] [(.int (1 : Int32)), (.int (2 : Int32))]))
      refine GlH.by (fun t_ k_ => XS.icmpNo X.here hx rfl (hb hby at_194) rfl (flt (by decide)).1 k_) ?_
      show GlH p e below Z own_EL sT h0 room_1.cells room_1.slots (fun v h L => v = some (.int 1) ∧ Fr n0 L) (T.setTop (mkF m 197 #[.val (.int p0), .val (.int p1), .val (.int p2), .val (.int (0 : Int32)), .val (.int (k0)), .val (.int (k1)), .val (.int (2 : Int32)), .val (.int (c0)), .val (.int (c1)), .val (.ref x1), .val (.ref x2), .val (.ref ex), .val (.ref mx), .val (.int (1 : Int32))] []))
      refine GlH.by (fun t_ k_ => XS.aload X.here hx rfl (hb hby at_197) rfl rfl k_) ?_
      show GlH p e below Z own_EL sT h0 room_1.cells room_1.slots (fun v h L => v = some (.int 1) ∧ Fr n0 L) (T.setTop (mkF m 199 #[.val (.int p0), .val (.int p1), .val (.int p2), .val (.int (0 : Int32)), .val (.int (k0)), .val (.int (k1)), .val (.int (2 : Int32)), .val (.int (c0)), .val (.int (c1)), .val (.ref x1), .val (.ref x2), .val (.ref ex), .val (.ref mx), .val (.int (1 : Int32))] [(.ref mx)]))
      refine GlH.by (fun t_ k_ => XS.iload X.here hx rfl (hb hby at_199) rfl k_) ?_
      show GlH p e below Z own_EL sT h0 room_1.cells room_1.slots (fun v h L => v = some (.int 1) ∧ Fr n0 L) (T.setTop (mkF m 201 #[.val (.int p0), .val (.int p1), .val (.int p2), .val (.int (0 : Int32)), .val (.int (k0)), .val (.int (k1)), .val (.int (2 : Int32)), .val (.int (c0)), .val (.int (c1)), .val (.ref x1), .val (.ref x2), .val (.ref ex), .val (.ref mx), .val (.int (1 : Int32))] [(.int (1 : Int32)), (.ref mx)]))
      refine GlH.virt X hx hZ hown (hw _ (List.mem_of_getElem? (i := 238) rfl)) (hw _ (List.mem_of_getElem? (i := 239) rfl)) (hw _ (List.mem_of_getElem? (i := 241) rfl)) (hw _ (List.mem_of_getElem? (i := 240) rfl)) (notFace_of_selects (args := #[]) (mvT hZ (hw _ (List.mem_of_getElem? (i := 241) rfl)))) (by decide) SM.1 (W := 0) (payCh (n0 := n0) hZ (own_wch hw) (hw _ (List.mem_of_getElem? (i := 9) rfl)) SM S hz Sf rf O9 1 (by omega) (by decide) (by decide)) eT (hb hby at_201) (by rw [hml]; rfl) [(.int (1 : Int32))] [] (lenOf pd_26 rfl) rfl rfl (Nat.le_of_eq rfl) (by decide) (by decide) ?_
      intro v T L X hq
      obtain ⟨rfl, rfl, eT⟩ := hq
      have N := Fr.app N (Fr.nil n0)
      show GlH p e below Z own_EL sT h0 room_1.cells room_1.slots (fun v h L => v = some (.int 1) ∧ Fr n0 L) (T.setTop (mkF m 204 #[.val (.int p0), .val (.int p1), .val (.int p2), .val (.int (0 : Int32)), .val (.int (k0)), .val (.int (k1)), .val (.int (2 : Int32)), .val (.int (c0)), .val (.int (c1)), .val (.ref x1), .val (.ref x2), .val (.ref ex), .val (.ref mx), .val (.int (1 : Int32))] [(.int (((([] ++ [32]) ++ [c0, c1]) ++ own_TL).getD 1 0))]))
      refine GlH.by (fun t_ k_ => XS.iload X.here hx rfl (hb hby at_204) rfl k_) ?_
      show GlH p e below Z own_EL sT h0 room_1.cells room_1.slots (fun v h L => v = some (.int 1) ∧ Fr n0 L) (T.setTop (mkF m 206 #[.val (.int p0), .val (.int p1), .val (.int p2), .val (.int (0 : Int32)), .val (.int (k0)), .val (.int (k1)), .val (.int (2 : Int32)), .val (.int (c0)), .val (.int (c1)), .val (.ref x1), .val (.ref x2), .val (.ref ex), .val (.ref mx), .val (.int (1 : Int32))] [(.int (c0)), (.int (((([] ++ [32]) ++ [c0, c1]) ++ own_TL).getD 1 0))]))
      refine GlH.by (fun t_ k_ => XS.icmpYes X.here hx rfl (pc0 := 206) (pc' := 211) rfl (hb hby at_206) rfl (teq (rfl : ((([] ++ [32]) ++ [c0, c1]) ++ own_TL).getD 1 0 = c0)).1 (by decide) (by decide) k_) ?_
      show GlH p e below Z own_EL sT h0 room_1.cells room_1.slots (fun v h L => v = some (.int 1) ∧ Fr n0 L) (T.setTop (mkF m 211 #[.val (.int p0), .val (.int p1), .val (.int p2), .val (.int (0 : Int32)), .val (.int (k0)), .val (.int (k1)), .val (.int (2 : Int32)), .val (.int (c0)), .val (.int (c1)), .val (.ref x1), .val (.ref x2), .val (.ref ex), .val (.ref mx), .val (.int (1 : Int32))] []))
      refine GlH.by (fun t_ k_ => XS.iload X.here hx rfl (hb hby at_211) rfl k_) ?_
      show GlH p e below Z own_EL sT h0 room_1.cells room_1.slots (fun v h L => v = some (.int 1) ∧ Fr n0 L) (T.setTop (mkF m 213 #[.val (.int p0), .val (.int p1), .val (.int p2), .val (.int (0 : Int32)), .val (.int (k0)), .val (.int (k1)), .val (.int (2 : Int32)), .val (.int (c0)), .val (.int (c1)), .val (.ref x1), .val (.ref x2), .val (.ref ex), .val (.ref mx), .val (.int (1 : Int32))] [(.int (2 : Int32))]))
      refine GlH.by (fun t_ k_ => XS.iconst X.here hx rfl (hb hby at_213) k_) ?_
      show GlH p e below Z own_EL sT h0 room_1.cells room_1.slots (fun v h L => v = some (.int 1) ∧ Fr n0 L) (T.setTop (mkF m 214 #[.val (.int p0), .val (.int p1), .val (.int p2), .val (.int (0 : Int32)), .val (.int (k0)), .val (.int (k1)), .val (.int (2 : Int32)), .val (.int (c0)), .val (.int (c1)), .val (.ref x1), .val (.ref x2), .val (.ref ex), .val (.ref mx), .val (.int (1 : Int32))] [(.int (2 : Int32)), (.int (2 : Int32))]))
      refine GlH.by (fun t_ k_ => XS.icmpNo X.here hx rfl (hb hby at_214) rfl (flt (by decide)).1 k_) ?_
      show GlH p e below Z own_EL sT h0 room_1.cells room_1.slots (fun v h L => v = some (.int 1) ∧ Fr n0 L) (T.setTop (mkF m 217 #[.val (.int p0), .val (.int p1), .val (.int p2), .val (.int (0 : Int32)), .val (.int (k0)), .val (.int (k1)), .val (.int (2 : Int32)), .val (.int (c0)), .val (.int (c1)), .val (.ref x1), .val (.ref x2), .val (.ref ex), .val (.ref mx), .val (.int (1 : Int32))] []))
      refine GlH.by (fun t_ k_ => XS.aload X.here hx rfl (hb hby at_217) rfl rfl k_) ?_
      show GlH p e below Z own_EL sT h0 room_1.cells room_1.slots (fun v h L => v = some (.int 1) ∧ Fr n0 L) (T.setTop (mkF m 219 #[.val (.int p0), .val (.int p1), .val (.int p2), .val (.int (0 : Int32)), .val (.int (k0)), .val (.int (k1)), .val (.int (2 : Int32)), .val (.int (c0)), .val (.int (c1)), .val (.ref x1), .val (.ref x2), .val (.ref ex), .val (.ref mx), .val (.int (1 : Int32))] [(.ref mx)]))
      refine GlH.by (fun t_ k_ => XS.iload X.here hx rfl (hb hby at_219) rfl k_) ?_
      show GlH p e below Z own_EL sT h0 room_1.cells room_1.slots (fun v h L => v = some (.int 1) ∧ Fr n0 L) (T.setTop (mkF m 221 #[.val (.int p0), .val (.int p1), .val (.int p2), .val (.int (0 : Int32)), .val (.int (k0)), .val (.int (k1)), .val (.int (2 : Int32)), .val (.int (c0)), .val (.int (c1)), .val (.ref x1), .val (.ref x2), .val (.ref ex), .val (.ref mx), .val (.int (1 : Int32))] [(.int (1 : Int32)), (.ref mx)]))
      refine GlH.by (fun t_ k_ => XS.iconst X.here hx rfl (hb hby at_221) k_) ?_
      show GlH p e below Z own_EL sT h0 room_1.cells room_1.slots (fun v h L => v = some (.int 1) ∧ Fr n0 L) (T.setTop (mkF m 222 #[.val (.int p0), .val (.int p1), .val (.int p2), .val (.int (0 : Int32)), .val (.int (k0)), .val (.int (k1)), .val (.int (2 : Int32)), .val (.int (c0)), .val (.int (c1)), .val (.ref x1), .val (.ref x2), .val (.ref ex), .val (.ref mx), .val (.int (1 : Int32))] [(.int (1 : Int32)), (.int (1 : Int32)), (.ref mx)]))
      refine GlH.by (fun t_ k_ => XS.iadd X.here hx rfl (hb hby at_222) rfl k_) ?_
      show GlH p e below Z own_EL sT h0 room_1.cells room_1.slots (fun v h L => v = some (.int 1) ∧ Fr n0 L) (T.setTop (mkF m 223 #[.val (.int p0), .val (.int p1), .val (.int p2), .val (.int (0 : Int32)), .val (.int (k0)), .val (.int (k1)), .val (.int (2 : Int32)), .val (.int (c0)), .val (.int (c1)), .val (.ref x1), .val (.ref x2), .val (.ref ex), .val (.ref mx), .val (.int (1 : Int32))] [(.int ((1 : Int32) + (1 : Int32))), (.ref mx)]))
      show GlH p e below Z own_EL sT h0 room_1.cells room_1.slots (fun v h L => v = some (.int 1) ∧ Fr n0 L) (T.setTop (mkF m 223 #[.val (.int p0), .val (.int p1), .val (.int p2), .val (.int (0 : Int32)), .val (.int (k0)), .val (.int (k1)), .val (.int (2 : Int32)), .val (.int (c0)), .val (.int (c1)), .val (.ref x1), .val (.ref x2), .val (.ref ex), .val (.ref mx), .val (.int (1 : Int32))] [(.int (2 : Int32)), (.ref mx)]))
      refine GlH.virt X hx hZ hown (hw _ (List.mem_of_getElem? (i := 238) rfl)) (hw _ (List.mem_of_getElem? (i := 239) rfl)) (hw _ (List.mem_of_getElem? (i := 241) rfl)) (hw _ (List.mem_of_getElem? (i := 240) rfl)) (notFace_of_selects (args := #[]) (mvT hZ (hw _ (List.mem_of_getElem? (i := 241) rfl)))) (by decide) SM.1 (W := 0) (payCh (n0 := n0) hZ (own_wch hw) (hw _ (List.mem_of_getElem? (i := 9) rfl)) SM S hz Sf rf O9 2 (by omega) (by decide) (by decide)) eT (hb hby at_223) (by rw [hml]; rfl) [(.int (2 : Int32))] [] (lenOf pd_26 rfl) rfl rfl (Nat.le_of_eq rfl) (by decide) (by decide) ?_
      intro v T L X hq
      obtain ⟨rfl, rfl, eT⟩ := hq
      have N := Fr.app N (Fr.nil n0)
      show GlH p e below Z own_EL sT h0 room_1.cells room_1.slots (fun v h L => v = some (.int 1) ∧ Fr n0 L) (T.setTop (mkF m 226 #[.val (.int p0), .val (.int p1), .val (.int p2), .val (.int (0 : Int32)), .val (.int (k0)), .val (.int (k1)), .val (.int (2 : Int32)), .val (.int (c0)), .val (.int (c1)), .val (.ref x1), .val (.ref x2), .val (.ref ex), .val (.ref mx), .val (.int (1 : Int32))] [(.int (((([] ++ [32]) ++ [c0, c1]) ++ own_TL).getD 2 0))]))
      refine GlH.by (fun t_ k_ => XS.iload X.here hx rfl (hb hby at_226) rfl k_) ?_
      show GlH p e below Z own_EL sT h0 room_1.cells room_1.slots (fun v h L => v = some (.int 1) ∧ Fr n0 L) (T.setTop (mkF m 228 #[.val (.int p0), .val (.int p1), .val (.int p2), .val (.int (0 : Int32)), .val (.int (k0)), .val (.int (k1)), .val (.int (2 : Int32)), .val (.int (c0)), .val (.int (c1)), .val (.ref x1), .val (.ref x2), .val (.ref ex), .val (.ref mx), .val (.int (1 : Int32))] [(.int (c1)), (.int (((([] ++ [32]) ++ [c0, c1]) ++ own_TL).getD 2 0))]))
      refine GlH.by (fun t_ k_ => XS.icmpYes X.here hx rfl (pc0 := 228) (pc' := 233) rfl (hb hby at_228) rfl (teq (rfl : ((([] ++ [32]) ++ [c0, c1]) ++ own_TL).getD 2 0 = c1)).1 (by decide) (by decide) k_) ?_
      show GlH p e below Z own_EL sT h0 room_1.cells room_1.slots (fun v h L => v = some (.int 1) ∧ Fr n0 L) (T.setTop (mkF m 233 #[.val (.int p0), .val (.int p1), .val (.int p2), .val (.int (0 : Int32)), .val (.int (k0)), .val (.int (k1)), .val (.int (2 : Int32)), .val (.int (c0)), .val (.int (c1)), .val (.ref x1), .val (.ref x2), .val (.ref ex), .val (.ref mx), .val (.int (1 : Int32))] []))
      refine GlH.by (fun t_ k_ => XS.aload X.here hx rfl (hb hby at_233) rfl rfl k_) ?_
      show GlH p e below Z own_EL sT h0 room_1.cells room_1.slots (fun v h L => v = some (.int 1) ∧ Fr n0 L) (T.setTop (mkF m 235 #[.val (.int p0), .val (.int p1), .val (.int p2), .val (.int (0 : Int32)), .val (.int (k0)), .val (.int (k1)), .val (.int (2 : Int32)), .val (.int (c0)), .val (.int (c1)), .val (.ref x1), .val (.ref x2), .val (.ref ex), .val (.ref mx), .val (.int (1 : Int32))] [(.ref mx)]))
      refine GlH.by (fun t_ k_ => XS.iload X.here hx rfl (hb hby at_235) rfl k_) ?_
      show GlH p e below Z own_EL sT h0 room_1.cells room_1.slots (fun v h L => v = some (.int 1) ∧ Fr n0 L) (T.setTop (mkF m 237 #[.val (.int p0), .val (.int p1), .val (.int p2), .val (.int (0 : Int32)), .val (.int (k0)), .val (.int (k1)), .val (.int (2 : Int32)), .val (.int (c0)), .val (.int (c1)), .val (.ref x1), .val (.ref x2), .val (.ref ex), .val (.ref mx), .val (.int (1 : Int32))] [(.int (1 : Int32)), (.ref mx)]))
      refine GlH.by (fun t_ k_ => XS.iload X.here hx rfl (hb hby at_237) rfl k_) ?_
      show GlH p e below Z own_EL sT h0 room_1.cells room_1.slots (fun v h L => v = some (.int 1) ∧ Fr n0 L) (T.setTop (mkF m 239 #[.val (.int p0), .val (.int p1), .val (.int p2), .val (.int (0 : Int32)), .val (.int (k0)), .val (.int (k1)), .val (.int (2 : Int32)), .val (.int (c0)), .val (.int (c1)), .val (.ref x1), .val (.ref x2), .val (.ref ex), .val (.ref mx), .val (.int (1 : Int32))] [(.int (2 : Int32)), (.int (1 : Int32)), (.ref mx)]))
      refine GlH.by (fun t_ k_ => XS.iadd X.here hx rfl (hb hby at_239) rfl k_) ?_
      show GlH p e below Z own_EL sT h0 room_1.cells room_1.slots (fun v h L => v = some (.int 1) ∧ Fr n0 L) (T.setTop (mkF m 240 #[.val (.int p0), .val (.int p1), .val (.int p2), .val (.int (0 : Int32)), .val (.int (k0)), .val (.int (k1)), .val (.int (2 : Int32)), .val (.int (c0)), .val (.int (c1)), .val (.ref x1), .val (.ref x2), .val (.ref ex), .val (.ref mx), .val (.int (1 : Int32))] [(.int ((1 : Int32) + (2 : Int32))), (.ref mx)]))
      show GlH p e below Z own_EL sT h0 room_1.cells room_1.slots (fun v h L => v = some (.int 1) ∧ Fr n0 L) (T.setTop (mkF m 240 #[.val (.int p0), .val (.int p1), .val (.int p2), .val (.int (0 : Int32)), .val (.int (k0)), .val (.int (k1)), .val (.int (2 : Int32)), .val (.int (c0)), .val (.int (c1)), .val (.ref x1), .val (.ref x2), .val (.ref ex), .val (.ref mx), .val (.int (1 : Int32))] [(.int (3 : Int32)), (.ref mx)]))
      refine GlH.statS X hx hZ hown (hw _ (List.mem_of_getElem? (i := 260) rfl)) (hw _ (List.mem_of_getElem? (i := 261) rfl)) (hw _ (List.mem_of_getElem? (i := 6) rfl)) (hw _ (List.mem_of_getElem? (i := 262) rfl)) (by decide) (W := 0) B (backH (own_tail l Z a0 hw mx 3 ((([] ++ [32]) ++ [c0, c1]) ++ own_TL) z fm h3 n0 SM (own_cs_tail [] [c0, c1]) (by omega) Sf rf S hz O9) B hEL (fun _ q => by cases q) hZ (hw _ (List.mem_of_getElem? (i := 262) rfl)) (hw _ (List.mem_of_getElem? (i := 6) rfl)) (by decide) (by decide)) eT (hb hby at_240) (by rw [hml]; rfl) [(.ref mx), (.int (3 : Int32))] [] (lenOf pd_29 rfl) rfl rfl (Nat.le_of_eq rfl) (by decide) (by decide) ?_
      intro v T L s X B hZ hown CB hq
      obtain ⟨rfl, NQ, K6⟩ := hq
      have N := Fr.app N NQ
      obtain ⟨h6, eT⟩ : ∃ z, T.heap = z := ⟨_, rfl⟩
      rw [eT] at K6 B CB
      have sz6 := K6.1
      show GlH p e below Z own_EL sT h0 room_1.cells room_1.slots (fun v h L => v = some (.int 1) ∧ Fr n0 L) (T.setTop (mkF m 243 #[.val (.int p0), .val (.int p1), .val (.int p2), .val (.int (0 : Int32)), .val (.int (k0)), .val (.int (k1)), .val (.int (2 : Int32)), .val (.int (c0)), .val (.int (c1)), .val (.ref x1), .val (.ref x2), .val (.ref ex), .val (.ref mx), .val (.int (1 : Int32))] [(.int (1 : Int32))]))
      exact GlH.retZ X B eT hZ hEL hx hlk hret (by simp) (hb hby at_243) (by decide) (by decide) ⟨rfl, N⟩
  · rw [mkL1] at SM
    have hL := own_cs_len [k0] (mkL nl c0 c1)
    dsimp only [List.length_nil, List.length_cons] at hL
    show GlH p e below Z own_EL sT h0 room_1.cells room_1.slots (fun v h L => v = some (.int 1) ∧ Fr n0 L) (T.setTop (mkF m 137 #[.val (.int p0), .val (.int p1), .val (.int p2), .val (.int (1 : Int32)), .val (.int (k0)), .val (.int (k1)), .val (.int nl), .val (.int (c0)), .val (.int (c1)), .val (.ref x1), .val (.ref x2), .val (.ref ex), .val (.ref mx), .unset] []))
    refine GlH.by (fun t_ k_ => XS.iloadN X.here hx rfl (hb hby at_137) rfl k_) ?_
    show GlH p e below Z own_EL sT h0 room_1.cells room_1.slots (fun v h L => v = some (.int 1) ∧ Fr n0 L) (T.setTop (mkF m 138 #[.val (.int p0), .val (.int p1), .val (.int p2), .val (.int (1 : Int32)), .val (.int (k0)), .val (.int (k1)), .val (.int nl), .val (.int (c0)), .val (.int (c1)), .val (.ref x1), .val (.ref x2), .val (.ref ex), .val (.ref mx), .unset] [(.int (1 : Int32))]))
    refine GlH.by (fun t_ k_ => XS.iconst X.here hx rfl (hb hby at_138) k_) ?_
    show GlH p e below Z own_EL sT h0 room_1.cells room_1.slots (fun v h L => v = some (.int 1) ∧ Fr n0 L) (T.setTop (mkF m 139 #[.val (.int p0), .val (.int p1), .val (.int p2), .val (.int (1 : Int32)), .val (.int (k0)), .val (.int (k1)), .val (.int nl), .val (.int (c0)), .val (.int (c1)), .val (.ref x1), .val (.ref x2), .val (.ref ex), .val (.ref mx), .unset] [(.int (1 : Int32)), (.int (1 : Int32))]))
    refine GlH.by (fun t_ k_ => XS.icmpNo X.here hx rfl (hb hby at_139) rfl (flt (by decide)).1 k_) ?_
    show GlH p e below Z own_EL sT h0 room_1.cells room_1.slots (fun v h L => v = some (.int 1) ∧ Fr n0 L) (T.setTop (mkF m 142 #[.val (.int p0), .val (.int p1), .val (.int p2), .val (.int (1 : Int32)), .val (.int (k0)), .val (.int (k1)), .val (.int nl), .val (.int (c0)), .val (.int (c1)), .val (.ref x1), .val (.ref x2), .val (.ref ex), .val (.ref mx), .unset] []))
    refine GlH.by (fun t_ k_ => XS.aload X.here hx rfl (hb hby at_142) rfl rfl k_) ?_
    show GlH p e below Z own_EL sT h0 room_1.cells room_1.slots (fun v h L => v = some (.int 1) ∧ Fr n0 L) (T.setTop (mkF m 144 #[.val (.int p0), .val (.int p1), .val (.int p2), .val (.int (1 : Int32)), .val (.int (k0)), .val (.int (k1)), .val (.int nl), .val (.int (c0)), .val (.int (c1)), .val (.ref x1), .val (.ref x2), .val (.ref ex), .val (.ref mx), .unset] [(.ref mx)]))
    refine GlH.by (fun t_ k_ => XS.iconst X.here hx rfl (hb hby at_144) k_) ?_
    show GlH p e below Z own_EL sT h0 room_1.cells room_1.slots (fun v h L => v = some (.int 1) ∧ Fr n0 L) (T.setTop (mkF m 145 #[.val (.int p0), .val (.int p1), .val (.int p2), .val (.int (1 : Int32)), .val (.int (k0)), .val (.int (k1)), .val (.int nl), .val (.int (c0)), .val (.int (c1)), .val (.ref x1), .val (.ref x2), .val (.ref ex), .val (.ref mx), .unset] [(.int (0 : Int32)), (.ref mx)]))
    refine GlH.virt X hx hZ hown (hw _ (List.mem_of_getElem? (i := 238) rfl)) (hw _ (List.mem_of_getElem? (i := 239) rfl)) (hw _ (List.mem_of_getElem? (i := 241) rfl)) (hw _ (List.mem_of_getElem? (i := 240) rfl)) (notFace_of_selects (args := #[]) (mvT hZ (hw _ (List.mem_of_getElem? (i := 241) rfl)))) (by decide) SM.1 (W := 0) (payCh (n0 := n0) hZ (own_wch hw) (hw _ (List.mem_of_getElem? (i := 9) rfl)) SM S hz Sf rf O9 0 (by omega) (by decide) (by decide)) eT (hb hby at_145) (by rw [hml]; rfl) [(.int (0 : Int32))] [] (lenOf pd_26 rfl) rfl rfl (Nat.le_of_eq rfl) (by decide) (by decide) ?_
    intro v T L X hq
    obtain ⟨rfl, rfl, eT⟩ := hq
    have N := Fr.app N (Fr.nil n0)
    show GlH p e below Z own_EL sT h0 room_1.cells room_1.slots (fun v h L => v = some (.int 1) ∧ Fr n0 L) (T.setTop (mkF m 148 #[.val (.int p0), .val (.int p1), .val (.int p2), .val (.int (1 : Int32)), .val (.int (k0)), .val (.int (k1)), .val (.int nl), .val (.int (c0)), .val (.int (c1)), .val (.ref x1), .val (.ref x2), .val (.ref ex), .val (.ref mx), .unset] [(.int (((([k0] ++ [32]) ++ mkL nl c0 c1) ++ own_TL).getD 0 0))]))
    refine GlH.by (fun t_ k_ => XS.iload X.here hx rfl (hb hby at_148) rfl k_) ?_
    show GlH p e below Z own_EL sT h0 room_1.cells room_1.slots (fun v h L => v = some (.int 1) ∧ Fr n0 L) (T.setTop (mkF m 150 #[.val (.int p0), .val (.int p1), .val (.int p2), .val (.int (1 : Int32)), .val (.int (k0)), .val (.int (k1)), .val (.int nl), .val (.int (c0)), .val (.int (c1)), .val (.ref x1), .val (.ref x2), .val (.ref ex), .val (.ref mx), .unset] [(.int (k0)), (.int (((([k0] ++ [32]) ++ mkL nl c0 c1) ++ own_TL).getD 0 0))]))
    refine GlH.by (fun t_ k_ => XS.icmpYes X.here hx rfl (pc0 := 150) (pc' := 155) rfl (hb hby at_150) rfl (teq (rfl : ((([k0] ++ [32]) ++ mkL nl c0 c1) ++ own_TL).getD 0 0 = k0)).1 (by decide) (by decide) k_) ?_
    show GlH p e below Z own_EL sT h0 room_1.cells room_1.slots (fun v h L => v = some (.int 1) ∧ Fr n0 L) (T.setTop (mkF m 155 #[.val (.int p0), .val (.int p1), .val (.int p2), .val (.int (1 : Int32)), .val (.int (k0)), .val (.int (k1)), .val (.int nl), .val (.int (c0)), .val (.int (c1)), .val (.ref x1), .val (.ref x2), .val (.ref ex), .val (.ref mx), .unset] []))
    refine GlH.by (fun t_ k_ => XS.iloadN X.here hx rfl (hb hby at_155) rfl k_) ?_
    show GlH p e below Z own_EL sT h0 room_1.cells room_1.slots (fun v h L => v = some (.int 1) ∧ Fr n0 L) (T.setTop (mkF m 156 #[.val (.int p0), .val (.int p1), .val (.int p2), .val (.int (1 : Int32)), .val (.int (k0)), .val (.int (k1)), .val (.int nl), .val (.int (c0)), .val (.int (c1)), .val (.ref x1), .val (.ref x2), .val (.ref ex), .val (.ref mx), .unset] [(.int (1 : Int32))]))
    refine GlH.by (fun t_ k_ => XS.iconst X.here hx rfl (hb hby at_156) k_) ?_
    show GlH p e below Z own_EL sT h0 room_1.cells room_1.slots (fun v h L => v = some (.int 1) ∧ Fr n0 L) (T.setTop (mkF m 157 #[.val (.int p0), .val (.int p1), .val (.int p2), .val (.int (1 : Int32)), .val (.int (k0)), .val (.int (k1)), .val (.int nl), .val (.int (c0)), .val (.int (c1)), .val (.ref x1), .val (.ref x2), .val (.ref ex), .val (.ref mx), .unset] [(.int (2 : Int32)), (.int (1 : Int32))]))
    refine GlH.by (fun t_ k_ => XS.icmpYes X.here hx rfl (pc0 := 157) (pc' := 173) rfl (hb hby at_157) rfl (tlt (by decide)).1 (by decide) (by decide) k_) ?_
    show GlH p e below Z own_EL sT h0 room_1.cells room_1.slots (fun v h L => v = some (.int 1) ∧ Fr n0 L) (T.setTop (mkF m 173 #[.val (.int p0), .val (.int p1), .val (.int p2), .val (.int (1 : Int32)), .val (.int (k0)), .val (.int (k1)), .val (.int nl), .val (.int (c0)), .val (.int (c1)), .val (.ref x1), .val (.ref x2), .val (.ref ex), .val (.ref mx), .unset] []))
    refine GlH.by (fun t_ k_ => XS.aload X.here hx rfl (hb hby at_173) rfl rfl k_) ?_
    show GlH p e below Z own_EL sT h0 room_1.cells room_1.slots (fun v h L => v = some (.int 1) ∧ Fr n0 L) (T.setTop (mkF m 175 #[.val (.int p0), .val (.int p1), .val (.int p2), .val (.int (1 : Int32)), .val (.int (k0)), .val (.int (k1)), .val (.int nl), .val (.int (c0)), .val (.int (c1)), .val (.ref x1), .val (.ref x2), .val (.ref ex), .val (.ref mx), .unset] [(.ref mx)]))
    refine GlH.by (fun t_ k_ => XS.iloadN X.here hx rfl (hb hby at_175) rfl k_) ?_
    show GlH p e below Z own_EL sT h0 room_1.cells room_1.slots (fun v h L => v = some (.int 1) ∧ Fr n0 L) (T.setTop (mkF m 176 #[.val (.int p0), .val (.int p1), .val (.int p2), .val (.int (1 : Int32)), .val (.int (k0)), .val (.int (k1)), .val (.int nl), .val (.int (c0)), .val (.int (c1)), .val (.ref x1), .val (.ref x2), .val (.ref ex), .val (.ref mx), .unset] [(.int (1 : Int32)), (.ref mx)]))
    refine GlH.virt X hx hZ hown (hw _ (List.mem_of_getElem? (i := 238) rfl)) (hw _ (List.mem_of_getElem? (i := 239) rfl)) (hw _ (List.mem_of_getElem? (i := 241) rfl)) (hw _ (List.mem_of_getElem? (i := 240) rfl)) (notFace_of_selects (args := #[]) (mvT hZ (hw _ (List.mem_of_getElem? (i := 241) rfl)))) (by decide) SM.1 (W := 0) (payCh (n0 := n0) hZ (own_wch hw) (hw _ (List.mem_of_getElem? (i := 9) rfl)) SM S hz Sf rf O9 1 (by omega) (by decide) (by decide)) eT (hb hby at_176) (by rw [hml]; rfl) [(.int (1 : Int32))] [] (lenOf pd_26 rfl) rfl rfl (Nat.le_of_eq rfl) (by decide) (by decide) ?_
    intro v T L X hq
    obtain ⟨rfl, rfl, eT⟩ := hq
    have N := Fr.app N (Fr.nil n0)
    show GlH p e below Z own_EL sT h0 room_1.cells room_1.slots (fun v h L => v = some (.int 1) ∧ Fr n0 L) (T.setTop (mkF m 179 #[.val (.int p0), .val (.int p1), .val (.int p2), .val (.int (1 : Int32)), .val (.int (k0)), .val (.int (k1)), .val (.int nl), .val (.int (c0)), .val (.int (c1)), .val (.ref x1), .val (.ref x2), .val (.ref ex), .val (.ref mx), .unset] [(.int (((([k0] ++ [32]) ++ mkL nl c0 c1) ++ own_TL).getD 1 0))]))
    refine GlH.by (fun t_ k_ => XS.bipush X.here hx rfl (hb hby at_179) k_) ?_
    show GlH p e below Z own_EL sT h0 room_1.cells room_1.slots (fun v h L => v = some (.int 1) ∧ Fr n0 L) (T.setTop (mkF m 181 #[.val (.int p0), .val (.int p1), .val (.int p2), .val (.int (1 : Int32)), .val (.int (k0)), .val (.int (k1)), .val (.int nl), .val (.int (c0)), .val (.int (c1)), .val (.ref x1), .val (.ref x2), .val (.ref ex), .val (.ref mx), .unset] [(.int (32 : Int32)), (.int (((([k0] ++ [32]) ++ mkL nl c0 c1) ++ own_TL).getD 1 0))]))
    refine GlH.by (fun t_ k_ => XS.icmpYes X.here hx rfl (pc0 := 181) (pc' := 186) rfl (hb hby at_181) rfl (teq (rfl : ((([k0] ++ [32]) ++ mkL nl c0 c1) ++ own_TL).getD 1 0 = (32 : Int32))).1 (by decide) (by decide) k_) ?_
    show GlH p e below Z own_EL sT h0 room_1.cells room_1.slots (fun v h L => v = some (.int 1) ∧ Fr n0 L) (T.setTop (mkF m 186 #[.val (.int p0), .val (.int p1), .val (.int p2), .val (.int (1 : Int32)), .val (.int (k0)), .val (.int (k1)), .val (.int nl), .val (.int (c0)), .val (.int (c1)), .val (.ref x1), .val (.ref x2), .val (.ref ex), .val (.ref mx), .unset] []))
    refine GlH.by (fun t_ k_ => XS.iloadN X.here hx rfl (hb hby at_186) rfl k_) ?_
    show GlH p e below Z own_EL sT h0 room_1.cells room_1.slots (fun v h L => v = some (.int 1) ∧ Fr n0 L) (T.setTop (mkF m 187 #[.val (.int p0), .val (.int p1), .val (.int p2), .val (.int (1 : Int32)), .val (.int (k0)), .val (.int (k1)), .val (.int nl), .val (.int (c0)), .val (.int (c1)), .val (.ref x1), .val (.ref x2), .val (.ref ex), .val (.ref mx), .unset] [(.int (1 : Int32))]))
    refine GlH.by (fun t_ k_ => XS.iconst X.here hx rfl (hb hby at_187) k_) ?_
    show GlH p e below Z own_EL sT h0 room_1.cells room_1.slots (fun v h L => v = some (.int 1) ∧ Fr n0 L) (T.setTop (mkF m 188 #[.val (.int p0), .val (.int p1), .val (.int p2), .val (.int (1 : Int32)), .val (.int (k0)), .val (.int (k1)), .val (.int nl), .val (.int (c0)), .val (.int (c1)), .val (.ref x1), .val (.ref x2), .val (.ref ex), .val (.ref mx), .unset] [(.int (1 : Int32)), (.int (1 : Int32))]))
    refine GlH.by (fun t_ k_ => XS.iadd X.here hx rfl (hb hby at_188) rfl k_) ?_
    show GlH p e below Z own_EL sT h0 room_1.cells room_1.slots (fun v h L => v = some (.int 1) ∧ Fr n0 L) (T.setTop (mkF m 189 #[.val (.int p0), .val (.int p1), .val (.int p2), .val (.int (1 : Int32)), .val (.int (k0)), .val (.int (k1)), .val (.int nl), .val (.int (c0)), .val (.int (c1)), .val (.ref x1), .val (.ref x2), .val (.ref ex), .val (.ref mx), .unset] [(.int ((1 : Int32) + (1 : Int32)))]))
    show GlH p e below Z own_EL sT h0 room_1.cells room_1.slots (fun v h L => v = some (.int 1) ∧ Fr n0 L) (T.setTop (mkF m 189 #[.val (.int p0), .val (.int p1), .val (.int p2), .val (.int (1 : Int32)), .val (.int (k0)), .val (.int (k1)), .val (.int nl), .val (.int (c0)), .val (.int (c1)), .val (.ref x1), .val (.ref x2), .val (.ref ex), .val (.ref mx), .unset] [(.int (2 : Int32))]))
    refine GlH.by (fun t_ k_ => XS.istore X.here hx rfl (hb hby at_189) rfl (l' := #[.val (.int p0), .val (.int p1), .val (.int p2), .val (.int (1 : Int32)), .val (.int (k0)), .val (.int (k1)), .val (.int nl), .val (.int (c0)), .val (.int (c1)), .val (.ref x1), .val (.ref x2), .val (.ref ex), .val (.ref mx), .val (.int (2 : Int32))]) rfl k_) ?_
    show GlH p e below Z own_EL sT h0 room_1.cells room_1.slots (fun v h L => v = some (.int 1) ∧ Fr n0 L) (T.setTop (mkF m 191 #[.val (.int p0), .val (.int p1), .val (.int p2), .val (.int (1 : Int32)), .val (.int (k0)), .val (.int (k1)), .val (.int nl), .val (.int (c0)), .val (.int (c1)), .val (.ref x1), .val (.ref x2), .val (.ref ex), .val (.ref mx), .val (.int (2 : Int32))] []))
    refine GlH.by (fun t_ k_ => XS.iload X.here hx rfl (hb hby at_191) rfl k_) ?_
    show GlH p e below Z own_EL sT h0 room_1.cells room_1.slots (fun v h L => v = some (.int 1) ∧ Fr n0 L) (T.setTop (mkF m 193 #[.val (.int p0), .val (.int p1), .val (.int p2), .val (.int (1 : Int32)), .val (.int (k0)), .val (.int (k1)), .val (.int nl), .val (.int (c0)), .val (.int (c1)), .val (.ref x1), .val (.ref x2), .val (.ref ex), .val (.ref mx), .val (.int (2 : Int32))] [(.int nl)]))
    refine GlH.by (fun t_ k_ => XS.iconst X.here hx rfl (hb hby at_193) k_) ?_
    show GlH p e below Z own_EL sT h0 room_1.cells room_1.slots (fun v h L => v = some (.int 1) ∧ Fr n0 L) (T.setTop (mkF m 194 #[.val (.int p0), .val (.int p1), .val (.int p2), .val (.int (1 : Int32)), .val (.int (k0)), .val (.int (k1)), .val (.int nl), .val (.int (c0)), .val (.int (c1)), .val (.ref x1), .val (.ref x2), .val (.ref ex), .val (.ref mx), .val (.int (2 : Int32))] [(.int (1 : Int32)), (.int nl)]))
    rcases hn with rfl | rfl | rfl
    · rw [mkL0] at SM hL
      dsimp only [List.length_nil, List.length_cons] at hL
      show GlH p e below Z own_EL sT h0 room_1.cells room_1.slots (fun v h L => v = some (.int 1) ∧ Fr n0 L) (T.setTop (mkF m 194 #[.val (.int p0), .val (.int p1), .val (.int p2), .val (.int (1 : Int32)), .val (.int (k0)), .val (.int (k1)), .val (.int (0 : Int32)), .val (.int (c0)), .val (.int (c1)), .val (.ref x1), .val (.ref x2), .val (.ref ex), .val (.ref mx), .val (.int (2 : Int32))] [(.int (1 : Int32)), (.int (0 : Int32))]))
      refine GlH.by (fun t_ k_ => XS.icmpYes X.here hx rfl (pc0 := 194) (pc' := 211) rfl (hb hby at_194) rfl (tlt (by decide)).1 (by decide) (by decide) k_) ?_
      show GlH p e below Z own_EL sT h0 room_1.cells room_1.slots (fun v h L => v = some (.int 1) ∧ Fr n0 L) (T.setTop (mkF m 211 #[.val (.int p0), .val (.int p1), .val (.int p2), .val (.int (1 : Int32)), .val (.int (k0)), .val (.int (k1)), .val (.int (0 : Int32)), .val (.int (c0)), .val (.int (c1)), .val (.ref x1), .val (.ref x2), .val (.ref ex), .val (.ref mx), .val (.int (2 : Int32))] []))
      refine GlH.by (fun t_ k_ => XS.iload X.here hx rfl (hb hby at_211) rfl k_) ?_
      show GlH p e below Z own_EL sT h0 room_1.cells room_1.slots (fun v h L => v = some (.int 1) ∧ Fr n0 L) (T.setTop (mkF m 213 #[.val (.int p0), .val (.int p1), .val (.int p2), .val (.int (1 : Int32)), .val (.int (k0)), .val (.int (k1)), .val (.int (0 : Int32)), .val (.int (c0)), .val (.int (c1)), .val (.ref x1), .val (.ref x2), .val (.ref ex), .val (.ref mx), .val (.int (2 : Int32))] [(.int (0 : Int32))]))
      refine GlH.by (fun t_ k_ => XS.iconst X.here hx rfl (hb hby at_213) k_) ?_
      show GlH p e below Z own_EL sT h0 room_1.cells room_1.slots (fun v h L => v = some (.int 1) ∧ Fr n0 L) (T.setTop (mkF m 214 #[.val (.int p0), .val (.int p1), .val (.int p2), .val (.int (1 : Int32)), .val (.int (k0)), .val (.int (k1)), .val (.int (0 : Int32)), .val (.int (c0)), .val (.int (c1)), .val (.ref x1), .val (.ref x2), .val (.ref ex), .val (.ref mx), .val (.int (2 : Int32))] [(.int (2 : Int32)), (.int (0 : Int32))]))
      refine GlH.by (fun t_ k_ => XS.icmpYes X.here hx rfl (pc0 := 214) (pc' := 233) rfl (hb hby at_214) rfl (tlt (by decide)).1 (by decide) (by decide) k_) ?_
      show GlH p e below Z own_EL sT h0 room_1.cells room_1.slots (fun v h L => v = some (.int 1) ∧ Fr n0 L) (T.setTop (mkF m 233 #[.val (.int p0), .val (.int p1), .val (.int p2), .val (.int (1 : Int32)), .val (.int (k0)), .val (.int (k1)), .val (.int (0 : Int32)), .val (.int (c0)), .val (.int (c1)), .val (.ref x1), .val (.ref x2), .val (.ref ex), .val (.ref mx), .val (.int (2 : Int32))] []))
      refine GlH.by (fun t_ k_ => XS.aload X.here hx rfl (hb hby at_233) rfl rfl k_) ?_
      show GlH p e below Z own_EL sT h0 room_1.cells room_1.slots (fun v h L => v = some (.int 1) ∧ Fr n0 L) (T.setTop (mkF m 235 #[.val (.int p0), .val (.int p1), .val (.int p2), .val (.int (1 : Int32)), .val (.int (k0)), .val (.int (k1)), .val (.int (0 : Int32)), .val (.int (c0)), .val (.int (c1)), .val (.ref x1), .val (.ref x2), .val (.ref ex), .val (.ref mx), .val (.int (2 : Int32))] [(.ref mx)]))
      refine GlH.by (fun t_ k_ => XS.iload X.here hx rfl (hb hby at_235) rfl k_) ?_
      show GlH p e below Z own_EL sT h0 room_1.cells room_1.slots (fun v h L => v = some (.int 1) ∧ Fr n0 L) (T.setTop (mkF m 237 #[.val (.int p0), .val (.int p1), .val (.int p2), .val (.int (1 : Int32)), .val (.int (k0)), .val (.int (k1)), .val (.int (0 : Int32)), .val (.int (c0)), .val (.int (c1)), .val (.ref x1), .val (.ref x2), .val (.ref ex), .val (.ref mx), .val (.int (2 : Int32))] [(.int (2 : Int32)), (.ref mx)]))
      refine GlH.by (fun t_ k_ => XS.iload X.here hx rfl (hb hby at_237) rfl k_) ?_
      show GlH p e below Z own_EL sT h0 room_1.cells room_1.slots (fun v h L => v = some (.int 1) ∧ Fr n0 L) (T.setTop (mkF m 239 #[.val (.int p0), .val (.int p1), .val (.int p2), .val (.int (1 : Int32)), .val (.int (k0)), .val (.int (k1)), .val (.int (0 : Int32)), .val (.int (c0)), .val (.int (c1)), .val (.ref x1), .val (.ref x2), .val (.ref ex), .val (.ref mx), .val (.int (2 : Int32))] [(.int (0 : Int32)), (.int (2 : Int32)), (.ref mx)]))
      refine GlH.by (fun t_ k_ => XS.iadd X.here hx rfl (hb hby at_239) rfl k_) ?_
      show GlH p e below Z own_EL sT h0 room_1.cells room_1.slots (fun v h L => v = some (.int 1) ∧ Fr n0 L) (T.setTop (mkF m 240 #[.val (.int p0), .val (.int p1), .val (.int p2), .val (.int (1 : Int32)), .val (.int (k0)), .val (.int (k1)), .val (.int (0 : Int32)), .val (.int (c0)), .val (.int (c1)), .val (.ref x1), .val (.ref x2), .val (.ref ex), .val (.ref mx), .val (.int (2 : Int32))] [(.int ((2 : Int32) + (0 : Int32))), (.ref mx)]))
      show GlH p e below Z own_EL sT h0 room_1.cells room_1.slots (fun v h L => v = some (.int 1) ∧ Fr n0 L) (T.setTop (mkF m 240 #[.val (.int p0), .val (.int p1), .val (.int p2), .val (.int (1 : Int32)), .val (.int (k0)), .val (.int (k1)), .val (.int (0 : Int32)), .val (.int (c0)), .val (.int (c1)), .val (.ref x1), .val (.ref x2), .val (.ref ex), .val (.ref mx), .val (.int (2 : Int32))] [(.int (2 : Int32)), (.ref mx)]))
      refine GlH.statS X hx hZ hown (hw _ (List.mem_of_getElem? (i := 260) rfl)) (hw _ (List.mem_of_getElem? (i := 261) rfl)) (hw _ (List.mem_of_getElem? (i := 6) rfl)) (hw _ (List.mem_of_getElem? (i := 262) rfl)) (by decide) (W := 0) B (backH (own_tail l Z a0 hw mx 2 ((([k0] ++ [32]) ++ []) ++ own_TL) z fm h3 n0 SM (own_cs_tail [k0] []) (by omega) Sf rf S hz O9) B hEL (fun _ q => by cases q) hZ (hw _ (List.mem_of_getElem? (i := 262) rfl)) (hw _ (List.mem_of_getElem? (i := 6) rfl)) (by decide) (by decide)) eT (hb hby at_240) (by rw [hml]; rfl) [(.ref mx), (.int (2 : Int32))] [] (lenOf pd_29 rfl) rfl rfl (Nat.le_of_eq rfl) (by decide) (by decide) ?_
      intro v T L s X B hZ hown CB hq
      obtain ⟨rfl, NQ, K7⟩ := hq
      have N := Fr.app N NQ
      obtain ⟨h7, eT⟩ : ∃ z, T.heap = z := ⟨_, rfl⟩
      rw [eT] at K7 B CB
      have sz7 := K7.1
      show GlH p e below Z own_EL sT h0 room_1.cells room_1.slots (fun v h L => v = some (.int 1) ∧ Fr n0 L) (T.setTop (mkF m 243 #[.val (.int p0), .val (.int p1), .val (.int p2), .val (.int (1 : Int32)), .val (.int (k0)), .val (.int (k1)), .val (.int (0 : Int32)), .val (.int (c0)), .val (.int (c1)), .val (.ref x1), .val (.ref x2), .val (.ref ex), .val (.ref mx), .val (.int (2 : Int32))] [(.int (1 : Int32))]))
      exact GlH.retZ X B eT hZ hEL hx hlk hret (by simp) (hb hby at_243) (by decide) (by decide) ⟨rfl, N⟩
    · rw [mkL1] at SM hL
      dsimp only [List.length_nil, List.length_cons] at hL
      show GlH p e below Z own_EL sT h0 room_1.cells room_1.slots (fun v h L => v = some (.int 1) ∧ Fr n0 L) (T.setTop (mkF m 194 #[.val (.int p0), .val (.int p1), .val (.int p2), .val (.int (1 : Int32)), .val (.int (k0)), .val (.int (k1)), .val (.int (1 : Int32)), .val (.int (c0)), .val (.int (c1)), .val (.ref x1), .val (.ref x2), .val (.ref ex), .val (.ref mx), .val (.int (2 : Int32))] [(.int (1 : Int32)), (.int (1 : Int32))]))
      refine GlH.by (fun t_ k_ => XS.icmpNo X.here hx rfl (hb hby at_194) rfl (flt (by decide)).1 k_) ?_
      show GlH p e below Z own_EL sT h0 room_1.cells room_1.slots (fun v h L => v = some (.int 1) ∧ Fr n0 L) (T.setTop (mkF m 197 #[.val (.int p0), .val (.int p1), .val (.int p2), .val (.int (1 : Int32)), .val (.int (k0)), .val (.int (k1)), .val (.int (1 : Int32)), .val (.int (c0)), .val (.int (c1)), .val (.ref x1), .val (.ref x2), .val (.ref ex), .val (.ref mx), .val (.int (2 : Int32))] []))
      refine GlH.by (fun t_ k_ => XS.aload X.here hx rfl (hb hby at_197) rfl rfl k_) ?_
      show GlH p e below Z own_EL sT h0 room_1.cells room_1.slots (fun v h L => v = some (.int 1) ∧ Fr n0 L) (T.setTop (mkF m 199 #[.val (.int p0), .val (.int p1), .val (.int p2), .val (.int (1 : Int32)), .val (.int (k0)), .val (.int (k1)), .val (.int (1 : Int32)), .val (.int (c0)), .val (.int (c1)), .val (.ref x1), .val (.ref x2), .val (.ref ex), .val (.ref mx), .val (.int (2 : Int32))] [(.ref mx)]))
      refine GlH.by (fun t_ k_ => XS.iload X.here hx rfl (hb hby at_199) rfl k_) ?_
      show GlH p e below Z own_EL sT h0 room_1.cells room_1.slots (fun v h L => v = some (.int 1) ∧ Fr n0 L) (T.setTop (mkF m 201 #[.val (.int p0), .val (.int p1), .val (.int p2), .val (.int (1 : Int32)), .val (.int (k0)), .val (.int (k1)), .val (.int (1 : Int32)), .val (.int (c0)), .val (.int (c1)), .val (.ref x1), .val (.ref x2), .val (.ref ex), .val (.ref mx), .val (.int (2 : Int32))] [(.int (2 : Int32)), (.ref mx)]))
      refine GlH.virt X hx hZ hown (hw _ (List.mem_of_getElem? (i := 238) rfl)) (hw _ (List.mem_of_getElem? (i := 239) rfl)) (hw _ (List.mem_of_getElem? (i := 241) rfl)) (hw _ (List.mem_of_getElem? (i := 240) rfl)) (notFace_of_selects (args := #[]) (mvT hZ (hw _ (List.mem_of_getElem? (i := 241) rfl)))) (by decide) SM.1 (W := 0) (payCh (n0 := n0) hZ (own_wch hw) (hw _ (List.mem_of_getElem? (i := 9) rfl)) SM S hz Sf rf O9 2 (by omega) (by decide) (by decide)) eT (hb hby at_201) (by rw [hml]; rfl) [(.int (2 : Int32))] [] (lenOf pd_26 rfl) rfl rfl (Nat.le_of_eq rfl) (by decide) (by decide) ?_
      intro v T L X hq
      obtain ⟨rfl, rfl, eT⟩ := hq
      have N := Fr.app N (Fr.nil n0)
      show GlH p e below Z own_EL sT h0 room_1.cells room_1.slots (fun v h L => v = some (.int 1) ∧ Fr n0 L) (T.setTop (mkF m 204 #[.val (.int p0), .val (.int p1), .val (.int p2), .val (.int (1 : Int32)), .val (.int (k0)), .val (.int (k1)), .val (.int (1 : Int32)), .val (.int (c0)), .val (.int (c1)), .val (.ref x1), .val (.ref x2), .val (.ref ex), .val (.ref mx), .val (.int (2 : Int32))] [(.int (((([k0] ++ [32]) ++ [c0]) ++ own_TL).getD 2 0))]))
      refine GlH.by (fun t_ k_ => XS.iload X.here hx rfl (hb hby at_204) rfl k_) ?_
      show GlH p e below Z own_EL sT h0 room_1.cells room_1.slots (fun v h L => v = some (.int 1) ∧ Fr n0 L) (T.setTop (mkF m 206 #[.val (.int p0), .val (.int p1), .val (.int p2), .val (.int (1 : Int32)), .val (.int (k0)), .val (.int (k1)), .val (.int (1 : Int32)), .val (.int (c0)), .val (.int (c1)), .val (.ref x1), .val (.ref x2), .val (.ref ex), .val (.ref mx), .val (.int (2 : Int32))] [(.int (c0)), (.int (((([k0] ++ [32]) ++ [c0]) ++ own_TL).getD 2 0))]))
      refine GlH.by (fun t_ k_ => XS.icmpYes X.here hx rfl (pc0 := 206) (pc' := 211) rfl (hb hby at_206) rfl (teq (rfl : ((([k0] ++ [32]) ++ [c0]) ++ own_TL).getD 2 0 = c0)).1 (by decide) (by decide) k_) ?_
      show GlH p e below Z own_EL sT h0 room_1.cells room_1.slots (fun v h L => v = some (.int 1) ∧ Fr n0 L) (T.setTop (mkF m 211 #[.val (.int p0), .val (.int p1), .val (.int p2), .val (.int (1 : Int32)), .val (.int (k0)), .val (.int (k1)), .val (.int (1 : Int32)), .val (.int (c0)), .val (.int (c1)), .val (.ref x1), .val (.ref x2), .val (.ref ex), .val (.ref mx), .val (.int (2 : Int32))] []))
      refine GlH.by (fun t_ k_ => XS.iload X.here hx rfl (hb hby at_211) rfl k_) ?_
      show GlH p e below Z own_EL sT h0 room_1.cells room_1.slots (fun v h L => v = some (.int 1) ∧ Fr n0 L) (T.setTop (mkF m 213 #[.val (.int p0), .val (.int p1), .val (.int p2), .val (.int (1 : Int32)), .val (.int (k0)), .val (.int (k1)), .val (.int (1 : Int32)), .val (.int (c0)), .val (.int (c1)), .val (.ref x1), .val (.ref x2), .val (.ref ex), .val (.ref mx), .val (.int (2 : Int32))] [(.int (1 : Int32))]))
      refine GlH.by (fun t_ k_ => XS.iconst X.here hx rfl (hb hby at_213) k_) ?_
      show GlH p e below Z own_EL sT h0 room_1.cells room_1.slots (fun v h L => v = some (.int 1) ∧ Fr n0 L) (T.setTop (mkF m 214 #[.val (.int p0), .val (.int p1), .val (.int p2), .val (.int (1 : Int32)), .val (.int (k0)), .val (.int (k1)), .val (.int (1 : Int32)), .val (.int (c0)), .val (.int (c1)), .val (.ref x1), .val (.ref x2), .val (.ref ex), .val (.ref mx), .val (.int (2 : Int32))] [(.int (2 : Int32)), (.int (1 : Int32))]))
      refine GlH.by (fun t_ k_ => XS.icmpYes X.here hx rfl (pc0 := 214) (pc' := 233) rfl (hb hby at_214) rfl (tlt (by decide)).1 (by decide) (by decide) k_) ?_
      show GlH p e below Z own_EL sT h0 room_1.cells room_1.slots (fun v h L => v = some (.int 1) ∧ Fr n0 L) (T.setTop (mkF m 233 #[.val (.int p0), .val (.int p1), .val (.int p2), .val (.int (1 : Int32)), .val (.int (k0)), .val (.int (k1)), .val (.int (1 : Int32)), .val (.int (c0)), .val (.int (c1)), .val (.ref x1), .val (.ref x2), .val (.ref ex), .val (.ref mx), .val (.int (2 : Int32))] []))
      refine GlH.by (fun t_ k_ => XS.aload X.here hx rfl (hb hby at_233) rfl rfl k_) ?_
      show GlH p e below Z own_EL sT h0 room_1.cells room_1.slots (fun v h L => v = some (.int 1) ∧ Fr n0 L) (T.setTop (mkF m 235 #[.val (.int p0), .val (.int p1), .val (.int p2), .val (.int (1 : Int32)), .val (.int (k0)), .val (.int (k1)), .val (.int (1 : Int32)), .val (.int (c0)), .val (.int (c1)), .val (.ref x1), .val (.ref x2), .val (.ref ex), .val (.ref mx), .val (.int (2 : Int32))] [(.ref mx)]))
      refine GlH.by (fun t_ k_ => XS.iload X.here hx rfl (hb hby at_235) rfl k_) ?_
      show GlH p e below Z own_EL sT h0 room_1.cells room_1.slots (fun v h L => v = some (.int 1) ∧ Fr n0 L) (T.setTop (mkF m 237 #[.val (.int p0), .val (.int p1), .val (.int p2), .val (.int (1 : Int32)), .val (.int (k0)), .val (.int (k1)), .val (.int (1 : Int32)), .val (.int (c0)), .val (.int (c1)), .val (.ref x1), .val (.ref x2), .val (.ref ex), .val (.ref mx), .val (.int (2 : Int32))] [(.int (2 : Int32)), (.ref mx)]))
      refine GlH.by (fun t_ k_ => XS.iload X.here hx rfl (hb hby at_237) rfl k_) ?_
      show GlH p e below Z own_EL sT h0 room_1.cells room_1.slots (fun v h L => v = some (.int 1) ∧ Fr n0 L) (T.setTop (mkF m 239 #[.val (.int p0), .val (.int p1), .val (.int p2), .val (.int (1 : Int32)), .val (.int (k0)), .val (.int (k1)), .val (.int (1 : Int32)), .val (.int (c0)), .val (.int (c1)), .val (.ref x1), .val (.ref x2), .val (.ref ex), .val (.ref mx), .val (.int (2 : Int32))] [(.int (1 : Int32)), (.int (2 : Int32)), (.ref mx)]))
      refine GlH.by (fun t_ k_ => XS.iadd X.here hx rfl (hb hby at_239) rfl k_) ?_
      show GlH p e below Z own_EL sT h0 room_1.cells room_1.slots (fun v h L => v = some (.int 1) ∧ Fr n0 L) (T.setTop (mkF m 240 #[.val (.int p0), .val (.int p1), .val (.int p2), .val (.int (1 : Int32)), .val (.int (k0)), .val (.int (k1)), .val (.int (1 : Int32)), .val (.int (c0)), .val (.int (c1)), .val (.ref x1), .val (.ref x2), .val (.ref ex), .val (.ref mx), .val (.int (2 : Int32))] [(.int ((2 : Int32) + (1 : Int32))), (.ref mx)]))
      show GlH p e below Z own_EL sT h0 room_1.cells room_1.slots (fun v h L => v = some (.int 1) ∧ Fr n0 L) (T.setTop (mkF m 240 #[.val (.int p0), .val (.int p1), .val (.int p2), .val (.int (1 : Int32)), .val (.int (k0)), .val (.int (k1)), .val (.int (1 : Int32)), .val (.int (c0)), .val (.int (c1)), .val (.ref x1), .val (.ref x2), .val (.ref ex), .val (.ref mx), .val (.int (2 : Int32))] [(.int (3 : Int32)), (.ref mx)]))
      refine GlH.statS X hx hZ hown (hw _ (List.mem_of_getElem? (i := 260) rfl)) (hw _ (List.mem_of_getElem? (i := 261) rfl)) (hw _ (List.mem_of_getElem? (i := 6) rfl)) (hw _ (List.mem_of_getElem? (i := 262) rfl)) (by decide) (W := 0) B (backH (own_tail l Z a0 hw mx 3 ((([k0] ++ [32]) ++ [c0]) ++ own_TL) z fm h3 n0 SM (own_cs_tail [k0] [c0]) (by omega) Sf rf S hz O9) B hEL (fun _ q => by cases q) hZ (hw _ (List.mem_of_getElem? (i := 262) rfl)) (hw _ (List.mem_of_getElem? (i := 6) rfl)) (by decide) (by decide)) eT (hb hby at_240) (by rw [hml]; rfl) [(.ref mx), (.int (3 : Int32))] [] (lenOf pd_29 rfl) rfl rfl (Nat.le_of_eq rfl) (by decide) (by decide) ?_
      intro v T L s X B hZ hown CB hq
      obtain ⟨rfl, NQ, K8⟩ := hq
      have N := Fr.app N NQ
      obtain ⟨h8, eT⟩ : ∃ z, T.heap = z := ⟨_, rfl⟩
      rw [eT] at K8 B CB
      have sz8 := K8.1
      show GlH p e below Z own_EL sT h0 room_1.cells room_1.slots (fun v h L => v = some (.int 1) ∧ Fr n0 L) (T.setTop (mkF m 243 #[.val (.int p0), .val (.int p1), .val (.int p2), .val (.int (1 : Int32)), .val (.int (k0)), .val (.int (k1)), .val (.int (1 : Int32)), .val (.int (c0)), .val (.int (c1)), .val (.ref x1), .val (.ref x2), .val (.ref ex), .val (.ref mx), .val (.int (2 : Int32))] [(.int (1 : Int32))]))
      exact GlH.retZ X B eT hZ hEL hx hlk hret (by simp) (hb hby at_243) (by decide) (by decide) ⟨rfl, N⟩
    · rw [mkL2] at SM hL
      dsimp only [List.length_nil, List.length_cons] at hL
      show GlH p e below Z own_EL sT h0 room_1.cells room_1.slots (fun v h L => v = some (.int 1) ∧ Fr n0 L) (T.setTop (mkF m 194 #[.val (.int p0), .val (.int p1), .val (.int p2), .val (.int (1 : Int32)), .val (.int (k0)), .val (.int (k1)), .val (.int (2 : Int32)), .val (.int (c0)), .val (.int (c1)), .val (.ref x1), .val (.ref x2), .val (.ref ex), .val (.ref mx), .val (.int (2 : Int32))] [(.int (1 : Int32)), (.int (2 : Int32))]))
      refine GlH.by (fun t_ k_ => XS.icmpNo X.here hx rfl (hb hby at_194) rfl (flt (by decide)).1 k_) ?_
      show GlH p e below Z own_EL sT h0 room_1.cells room_1.slots (fun v h L => v = some (.int 1) ∧ Fr n0 L) (T.setTop (mkF m 197 #[.val (.int p0), .val (.int p1), .val (.int p2), .val (.int (1 : Int32)), .val (.int (k0)), .val (.int (k1)), .val (.int (2 : Int32)), .val (.int (c0)), .val (.int (c1)), .val (.ref x1), .val (.ref x2), .val (.ref ex), .val (.ref mx), .val (.int (2 : Int32))] []))
      refine GlH.by (fun t_ k_ => XS.aload X.here hx rfl (hb hby at_197) rfl rfl k_) ?_
      show GlH p e below Z own_EL sT h0 room_1.cells room_1.slots (fun v h L => v = some (.int 1) ∧ Fr n0 L) (T.setTop (mkF m 199 #[.val (.int p0), .val (.int p1), .val (.int p2), .val (.int (1 : Int32)), .val (.int (k0)), .val (.int (k1)), .val (.int (2 : Int32)), .val (.int (c0)), .val (.int (c1)), .val (.ref x1), .val (.ref x2), .val (.ref ex), .val (.ref mx), .val (.int (2 : Int32))] [(.ref mx)]))
      refine GlH.by (fun t_ k_ => XS.iload X.here hx rfl (hb hby at_199) rfl k_) ?_
      show GlH p e below Z own_EL sT h0 room_1.cells room_1.slots (fun v h L => v = some (.int 1) ∧ Fr n0 L) (T.setTop (mkF m 201 #[.val (.int p0), .val (.int p1), .val (.int p2), .val (.int (1 : Int32)), .val (.int (k0)), .val (.int (k1)), .val (.int (2 : Int32)), .val (.int (c0)), .val (.int (c1)), .val (.ref x1), .val (.ref x2), .val (.ref ex), .val (.ref mx), .val (.int (2 : Int32))] [(.int (2 : Int32)), (.ref mx)]))
      refine GlH.virt X hx hZ hown (hw _ (List.mem_of_getElem? (i := 238) rfl)) (hw _ (List.mem_of_getElem? (i := 239) rfl)) (hw _ (List.mem_of_getElem? (i := 241) rfl)) (hw _ (List.mem_of_getElem? (i := 240) rfl)) (notFace_of_selects (args := #[]) (mvT hZ (hw _ (List.mem_of_getElem? (i := 241) rfl)))) (by decide) SM.1 (W := 0) (payCh (n0 := n0) hZ (own_wch hw) (hw _ (List.mem_of_getElem? (i := 9) rfl)) SM S hz Sf rf O9 2 (by omega) (by decide) (by decide)) eT (hb hby at_201) (by rw [hml]; rfl) [(.int (2 : Int32))] [] (lenOf pd_26 rfl) rfl rfl (Nat.le_of_eq rfl) (by decide) (by decide) ?_
      intro v T L X hq
      obtain ⟨rfl, rfl, eT⟩ := hq
      have N := Fr.app N (Fr.nil n0)
      show GlH p e below Z own_EL sT h0 room_1.cells room_1.slots (fun v h L => v = some (.int 1) ∧ Fr n0 L) (T.setTop (mkF m 204 #[.val (.int p0), .val (.int p1), .val (.int p2), .val (.int (1 : Int32)), .val (.int (k0)), .val (.int (k1)), .val (.int (2 : Int32)), .val (.int (c0)), .val (.int (c1)), .val (.ref x1), .val (.ref x2), .val (.ref ex), .val (.ref mx), .val (.int (2 : Int32))] [(.int (((([k0] ++ [32]) ++ [c0, c1]) ++ own_TL).getD 2 0))]))
      refine GlH.by (fun t_ k_ => XS.iload X.here hx rfl (hb hby at_204) rfl k_) ?_
      show GlH p e below Z own_EL sT h0 room_1.cells room_1.slots (fun v h L => v = some (.int 1) ∧ Fr n0 L) (T.setTop (mkF m 206 #[.val (.int p0), .val (.int p1), .val (.int p2), .val (.int (1 : Int32)), .val (.int (k0)), .val (.int (k1)), .val (.int (2 : Int32)), .val (.int (c0)), .val (.int (c1)), .val (.ref x1), .val (.ref x2), .val (.ref ex), .val (.ref mx), .val (.int (2 : Int32))] [(.int (c0)), (.int (((([k0] ++ [32]) ++ [c0, c1]) ++ own_TL).getD 2 0))]))
      refine GlH.by (fun t_ k_ => XS.icmpYes X.here hx rfl (pc0 := 206) (pc' := 211) rfl (hb hby at_206) rfl (teq (rfl : ((([k0] ++ [32]) ++ [c0, c1]) ++ own_TL).getD 2 0 = c0)).1 (by decide) (by decide) k_) ?_
      show GlH p e below Z own_EL sT h0 room_1.cells room_1.slots (fun v h L => v = some (.int 1) ∧ Fr n0 L) (T.setTop (mkF m 211 #[.val (.int p0), .val (.int p1), .val (.int p2), .val (.int (1 : Int32)), .val (.int (k0)), .val (.int (k1)), .val (.int (2 : Int32)), .val (.int (c0)), .val (.int (c1)), .val (.ref x1), .val (.ref x2), .val (.ref ex), .val (.ref mx), .val (.int (2 : Int32))] []))
      refine GlH.by (fun t_ k_ => XS.iload X.here hx rfl (hb hby at_211) rfl k_) ?_
      show GlH p e below Z own_EL sT h0 room_1.cells room_1.slots (fun v h L => v = some (.int 1) ∧ Fr n0 L) (T.setTop (mkF m 213 #[.val (.int p0), .val (.int p1), .val (.int p2), .val (.int (1 : Int32)), .val (.int (k0)), .val (.int (k1)), .val (.int (2 : Int32)), .val (.int (c0)), .val (.int (c1)), .val (.ref x1), .val (.ref x2), .val (.ref ex), .val (.ref mx), .val (.int (2 : Int32))] [(.int (2 : Int32))]))
      refine GlH.by (fun t_ k_ => XS.iconst X.here hx rfl (hb hby at_213) k_) ?_
      show GlH p e below Z own_EL sT h0 room_1.cells room_1.slots (fun v h L => v = some (.int 1) ∧ Fr n0 L) (T.setTop (mkF m 214 #[.val (.int p0), .val (.int p1), .val (.int p2), .val (.int (1 : Int32)), .val (.int (k0)), .val (.int (k1)), .val (.int (2 : Int32)), .val (.int (c0)), .val (.int (c1)), .val (.ref x1), .val (.ref x2), .val (.ref ex), .val (.ref mx), .val (.int (2 : Int32))] [(.int (2 : Int32)), (.int (2 : Int32))]))
      refine GlH.by (fun t_ k_ => XS.icmpNo X.here hx rfl (hb hby at_214) rfl (flt (by decide)).1 k_) ?_
      show GlH p e below Z own_EL sT h0 room_1.cells room_1.slots (fun v h L => v = some (.int 1) ∧ Fr n0 L) (T.setTop (mkF m 217 #[.val (.int p0), .val (.int p1), .val (.int p2), .val (.int (1 : Int32)), .val (.int (k0)), .val (.int (k1)), .val (.int (2 : Int32)), .val (.int (c0)), .val (.int (c1)), .val (.ref x1), .val (.ref x2), .val (.ref ex), .val (.ref mx), .val (.int (2 : Int32))] []))
      refine GlH.by (fun t_ k_ => XS.aload X.here hx rfl (hb hby at_217) rfl rfl k_) ?_
      show GlH p e below Z own_EL sT h0 room_1.cells room_1.slots (fun v h L => v = some (.int 1) ∧ Fr n0 L) (T.setTop (mkF m 219 #[.val (.int p0), .val (.int p1), .val (.int p2), .val (.int (1 : Int32)), .val (.int (k0)), .val (.int (k1)), .val (.int (2 : Int32)), .val (.int (c0)), .val (.int (c1)), .val (.ref x1), .val (.ref x2), .val (.ref ex), .val (.ref mx), .val (.int (2 : Int32))] [(.ref mx)]))
      refine GlH.by (fun t_ k_ => XS.iload X.here hx rfl (hb hby at_219) rfl k_) ?_
      show GlH p e below Z own_EL sT h0 room_1.cells room_1.slots (fun v h L => v = some (.int 1) ∧ Fr n0 L) (T.setTop (mkF m 221 #[.val (.int p0), .val (.int p1), .val (.int p2), .val (.int (1 : Int32)), .val (.int (k0)), .val (.int (k1)), .val (.int (2 : Int32)), .val (.int (c0)), .val (.int (c1)), .val (.ref x1), .val (.ref x2), .val (.ref ex), .val (.ref mx), .val (.int (2 : Int32))] [(.int (2 : Int32)), (.ref mx)]))
      refine GlH.by (fun t_ k_ => XS.iconst X.here hx rfl (hb hby at_221) k_) ?_
      show GlH p e below Z own_EL sT h0 room_1.cells room_1.slots (fun v h L => v = some (.int 1) ∧ Fr n0 L) (T.setTop (mkF m 222 #[.val (.int p0), .val (.int p1), .val (.int p2), .val (.int (1 : Int32)), .val (.int (k0)), .val (.int (k1)), .val (.int (2 : Int32)), .val (.int (c0)), .val (.int (c1)), .val (.ref x1), .val (.ref x2), .val (.ref ex), .val (.ref mx), .val (.int (2 : Int32))] [(.int (1 : Int32)), (.int (2 : Int32)), (.ref mx)]))
      refine GlH.by (fun t_ k_ => XS.iadd X.here hx rfl (hb hby at_222) rfl k_) ?_
      show GlH p e below Z own_EL sT h0 room_1.cells room_1.slots (fun v h L => v = some (.int 1) ∧ Fr n0 L) (T.setTop (mkF m 223 #[.val (.int p0), .val (.int p1), .val (.int p2), .val (.int (1 : Int32)), .val (.int (k0)), .val (.int (k1)), .val (.int (2 : Int32)), .val (.int (c0)), .val (.int (c1)), .val (.ref x1), .val (.ref x2), .val (.ref ex), .val (.ref mx), .val (.int (2 : Int32))] [(.int ((2 : Int32) + (1 : Int32))), (.ref mx)]))
      show GlH p e below Z own_EL sT h0 room_1.cells room_1.slots (fun v h L => v = some (.int 1) ∧ Fr n0 L) (T.setTop (mkF m 223 #[.val (.int p0), .val (.int p1), .val (.int p2), .val (.int (1 : Int32)), .val (.int (k0)), .val (.int (k1)), .val (.int (2 : Int32)), .val (.int (c0)), .val (.int (c1)), .val (.ref x1), .val (.ref x2), .val (.ref ex), .val (.ref mx), .val (.int (2 : Int32))] [(.int (3 : Int32)), (.ref mx)]))
      refine GlH.virt X hx hZ hown (hw _ (List.mem_of_getElem? (i := 238) rfl)) (hw _ (List.mem_of_getElem? (i := 239) rfl)) (hw _ (List.mem_of_getElem? (i := 241) rfl)) (hw _ (List.mem_of_getElem? (i := 240) rfl)) (notFace_of_selects (args := #[]) (mvT hZ (hw _ (List.mem_of_getElem? (i := 241) rfl)))) (by decide) SM.1 (W := 0) (payCh (n0 := n0) hZ (own_wch hw) (hw _ (List.mem_of_getElem? (i := 9) rfl)) SM S hz Sf rf O9 3 (by omega) (by decide) (by decide)) eT (hb hby at_223) (by rw [hml]; rfl) [(.int (3 : Int32))] [] (lenOf pd_26 rfl) rfl rfl (Nat.le_of_eq rfl) (by decide) (by decide) ?_
      intro v T L X hq
      obtain ⟨rfl, rfl, eT⟩ := hq
      have N := Fr.app N (Fr.nil n0)
      show GlH p e below Z own_EL sT h0 room_1.cells room_1.slots (fun v h L => v = some (.int 1) ∧ Fr n0 L) (T.setTop (mkF m 226 #[.val (.int p0), .val (.int p1), .val (.int p2), .val (.int (1 : Int32)), .val (.int (k0)), .val (.int (k1)), .val (.int (2 : Int32)), .val (.int (c0)), .val (.int (c1)), .val (.ref x1), .val (.ref x2), .val (.ref ex), .val (.ref mx), .val (.int (2 : Int32))] [(.int (((([k0] ++ [32]) ++ [c0, c1]) ++ own_TL).getD 3 0))]))
      refine GlH.by (fun t_ k_ => XS.iload X.here hx rfl (hb hby at_226) rfl k_) ?_
      show GlH p e below Z own_EL sT h0 room_1.cells room_1.slots (fun v h L => v = some (.int 1) ∧ Fr n0 L) (T.setTop (mkF m 228 #[.val (.int p0), .val (.int p1), .val (.int p2), .val (.int (1 : Int32)), .val (.int (k0)), .val (.int (k1)), .val (.int (2 : Int32)), .val (.int (c0)), .val (.int (c1)), .val (.ref x1), .val (.ref x2), .val (.ref ex), .val (.ref mx), .val (.int (2 : Int32))] [(.int (c1)), (.int (((([k0] ++ [32]) ++ [c0, c1]) ++ own_TL).getD 3 0))]))
      refine GlH.by (fun t_ k_ => XS.icmpYes X.here hx rfl (pc0 := 228) (pc' := 233) rfl (hb hby at_228) rfl (teq (rfl : ((([k0] ++ [32]) ++ [c0, c1]) ++ own_TL).getD 3 0 = c1)).1 (by decide) (by decide) k_) ?_
      show GlH p e below Z own_EL sT h0 room_1.cells room_1.slots (fun v h L => v = some (.int 1) ∧ Fr n0 L) (T.setTop (mkF m 233 #[.val (.int p0), .val (.int p1), .val (.int p2), .val (.int (1 : Int32)), .val (.int (k0)), .val (.int (k1)), .val (.int (2 : Int32)), .val (.int (c0)), .val (.int (c1)), .val (.ref x1), .val (.ref x2), .val (.ref ex), .val (.ref mx), .val (.int (2 : Int32))] []))
      refine GlH.by (fun t_ k_ => XS.aload X.here hx rfl (hb hby at_233) rfl rfl k_) ?_
      show GlH p e below Z own_EL sT h0 room_1.cells room_1.slots (fun v h L => v = some (.int 1) ∧ Fr n0 L) (T.setTop (mkF m 235 #[.val (.int p0), .val (.int p1), .val (.int p2), .val (.int (1 : Int32)), .val (.int (k0)), .val (.int (k1)), .val (.int (2 : Int32)), .val (.int (c0)), .val (.int (c1)), .val (.ref x1), .val (.ref x2), .val (.ref ex), .val (.ref mx), .val (.int (2 : Int32))] [(.ref mx)]))
      refine GlH.by (fun t_ k_ => XS.iload X.here hx rfl (hb hby at_235) rfl k_) ?_
      show GlH p e below Z own_EL sT h0 room_1.cells room_1.slots (fun v h L => v = some (.int 1) ∧ Fr n0 L) (T.setTop (mkF m 237 #[.val (.int p0), .val (.int p1), .val (.int p2), .val (.int (1 : Int32)), .val (.int (k0)), .val (.int (k1)), .val (.int (2 : Int32)), .val (.int (c0)), .val (.int (c1)), .val (.ref x1), .val (.ref x2), .val (.ref ex), .val (.ref mx), .val (.int (2 : Int32))] [(.int (2 : Int32)), (.ref mx)]))
      refine GlH.by (fun t_ k_ => XS.iload X.here hx rfl (hb hby at_237) rfl k_) ?_
      show GlH p e below Z own_EL sT h0 room_1.cells room_1.slots (fun v h L => v = some (.int 1) ∧ Fr n0 L) (T.setTop (mkF m 239 #[.val (.int p0), .val (.int p1), .val (.int p2), .val (.int (1 : Int32)), .val (.int (k0)), .val (.int (k1)), .val (.int (2 : Int32)), .val (.int (c0)), .val (.int (c1)), .val (.ref x1), .val (.ref x2), .val (.ref ex), .val (.ref mx), .val (.int (2 : Int32))] [(.int (2 : Int32)), (.int (2 : Int32)), (.ref mx)]))
      refine GlH.by (fun t_ k_ => XS.iadd X.here hx rfl (hb hby at_239) rfl k_) ?_
      show GlH p e below Z own_EL sT h0 room_1.cells room_1.slots (fun v h L => v = some (.int 1) ∧ Fr n0 L) (T.setTop (mkF m 240 #[.val (.int p0), .val (.int p1), .val (.int p2), .val (.int (1 : Int32)), .val (.int (k0)), .val (.int (k1)), .val (.int (2 : Int32)), .val (.int (c0)), .val (.int (c1)), .val (.ref x1), .val (.ref x2), .val (.ref ex), .val (.ref mx), .val (.int (2 : Int32))] [(.int ((2 : Int32) + (2 : Int32))), (.ref mx)]))
      show GlH p e below Z own_EL sT h0 room_1.cells room_1.slots (fun v h L => v = some (.int 1) ∧ Fr n0 L) (T.setTop (mkF m 240 #[.val (.int p0), .val (.int p1), .val (.int p2), .val (.int (1 : Int32)), .val (.int (k0)), .val (.int (k1)), .val (.int (2 : Int32)), .val (.int (c0)), .val (.int (c1)), .val (.ref x1), .val (.ref x2), .val (.ref ex), .val (.ref mx), .val (.int (2 : Int32))] [(.int (4 : Int32)), (.ref mx)]))
      refine GlH.statS X hx hZ hown (hw _ (List.mem_of_getElem? (i := 260) rfl)) (hw _ (List.mem_of_getElem? (i := 261) rfl)) (hw _ (List.mem_of_getElem? (i := 6) rfl)) (hw _ (List.mem_of_getElem? (i := 262) rfl)) (by decide) (W := 0) B (backH (own_tail l Z a0 hw mx 4 ((([k0] ++ [32]) ++ [c0, c1]) ++ own_TL) z fm h3 n0 SM (own_cs_tail [k0] [c0, c1]) (by omega) Sf rf S hz O9) B hEL (fun _ q => by cases q) hZ (hw _ (List.mem_of_getElem? (i := 262) rfl)) (hw _ (List.mem_of_getElem? (i := 6) rfl)) (by decide) (by decide)) eT (hb hby at_240) (by rw [hml]; rfl) [(.ref mx), (.int (4 : Int32))] [] (lenOf pd_29 rfl) rfl rfl (Nat.le_of_eq rfl) (by decide) (by decide) ?_
      intro v T L s X B hZ hown CB hq
      obtain ⟨rfl, NQ, K9⟩ := hq
      have N := Fr.app N NQ
      obtain ⟨h9, eT⟩ : ∃ z, T.heap = z := ⟨_, rfl⟩
      rw [eT] at K9 B CB
      have sz9 := K9.1
      show GlH p e below Z own_EL sT h0 room_1.cells room_1.slots (fun v h L => v = some (.int 1) ∧ Fr n0 L) (T.setTop (mkF m 243 #[.val (.int p0), .val (.int p1), .val (.int p2), .val (.int (1 : Int32)), .val (.int (k0)), .val (.int (k1)), .val (.int (2 : Int32)), .val (.int (c0)), .val (.int (c1)), .val (.ref x1), .val (.ref x2), .val (.ref ex), .val (.ref mx), .val (.int (2 : Int32))] [(.int (1 : Int32))]))
      exact GlH.retZ X B eT hZ hEL hx hlk hret (by simp) (hb hby at_243) (by decide) (by decide) ⟨rfl, N⟩
  · rw [mkL2] at SM
    have hL := own_cs_len [k0, k1] (mkL nl c0 c1)
    dsimp only [List.length_nil, List.length_cons] at hL
    show GlH p e below Z own_EL sT h0 room_1.cells room_1.slots (fun v h L => v = some (.int 1) ∧ Fr n0 L) (T.setTop (mkF m 137 #[.val (.int p0), .val (.int p1), .val (.int p2), .val (.int (2 : Int32)), .val (.int (k0)), .val (.int (k1)), .val (.int nl), .val (.int (c0)), .val (.int (c1)), .val (.ref x1), .val (.ref x2), .val (.ref ex), .val (.ref mx), .unset] []))
    refine GlH.by (fun t_ k_ => XS.iloadN X.here hx rfl (hb hby at_137) rfl k_) ?_
    show GlH p e below Z own_EL sT h0 room_1.cells room_1.slots (fun v h L => v = some (.int 1) ∧ Fr n0 L) (T.setTop (mkF m 138 #[.val (.int p0), .val (.int p1), .val (.int p2), .val (.int (2 : Int32)), .val (.int (k0)), .val (.int (k1)), .val (.int nl), .val (.int (c0)), .val (.int (c1)), .val (.ref x1), .val (.ref x2), .val (.ref ex), .val (.ref mx), .unset] [(.int (2 : Int32))]))
    refine GlH.by (fun t_ k_ => XS.iconst X.here hx rfl (hb hby at_138) k_) ?_
    show GlH p e below Z own_EL sT h0 room_1.cells room_1.slots (fun v h L => v = some (.int 1) ∧ Fr n0 L) (T.setTop (mkF m 139 #[.val (.int p0), .val (.int p1), .val (.int p2), .val (.int (2 : Int32)), .val (.int (k0)), .val (.int (k1)), .val (.int nl), .val (.int (c0)), .val (.int (c1)), .val (.ref x1), .val (.ref x2), .val (.ref ex), .val (.ref mx), .unset] [(.int (1 : Int32)), (.int (2 : Int32))]))
    refine GlH.by (fun t_ k_ => XS.icmpNo X.here hx rfl (hb hby at_139) rfl (flt (by decide)).1 k_) ?_
    show GlH p e below Z own_EL sT h0 room_1.cells room_1.slots (fun v h L => v = some (.int 1) ∧ Fr n0 L) (T.setTop (mkF m 142 #[.val (.int p0), .val (.int p1), .val (.int p2), .val (.int (2 : Int32)), .val (.int (k0)), .val (.int (k1)), .val (.int nl), .val (.int (c0)), .val (.int (c1)), .val (.ref x1), .val (.ref x2), .val (.ref ex), .val (.ref mx), .unset] []))
    refine GlH.by (fun t_ k_ => XS.aload X.here hx rfl (hb hby at_142) rfl rfl k_) ?_
    show GlH p e below Z own_EL sT h0 room_1.cells room_1.slots (fun v h L => v = some (.int 1) ∧ Fr n0 L) (T.setTop (mkF m 144 #[.val (.int p0), .val (.int p1), .val (.int p2), .val (.int (2 : Int32)), .val (.int (k0)), .val (.int (k1)), .val (.int nl), .val (.int (c0)), .val (.int (c1)), .val (.ref x1), .val (.ref x2), .val (.ref ex), .val (.ref mx), .unset] [(.ref mx)]))
    refine GlH.by (fun t_ k_ => XS.iconst X.here hx rfl (hb hby at_144) k_) ?_
    show GlH p e below Z own_EL sT h0 room_1.cells room_1.slots (fun v h L => v = some (.int 1) ∧ Fr n0 L) (T.setTop (mkF m 145 #[.val (.int p0), .val (.int p1), .val (.int p2), .val (.int (2 : Int32)), .val (.int (k0)), .val (.int (k1)), .val (.int nl), .val (.int (c0)), .val (.int (c1)), .val (.ref x1), .val (.ref x2), .val (.ref ex), .val (.ref mx), .unset] [(.int (0 : Int32)), (.ref mx)]))
    refine GlH.virt X hx hZ hown (hw _ (List.mem_of_getElem? (i := 238) rfl)) (hw _ (List.mem_of_getElem? (i := 239) rfl)) (hw _ (List.mem_of_getElem? (i := 241) rfl)) (hw _ (List.mem_of_getElem? (i := 240) rfl)) (notFace_of_selects (args := #[]) (mvT hZ (hw _ (List.mem_of_getElem? (i := 241) rfl)))) (by decide) SM.1 (W := 0) (payCh (n0 := n0) hZ (own_wch hw) (hw _ (List.mem_of_getElem? (i := 9) rfl)) SM S hz Sf rf O9 0 (by omega) (by decide) (by decide)) eT (hb hby at_145) (by rw [hml]; rfl) [(.int (0 : Int32))] [] (lenOf pd_26 rfl) rfl rfl (Nat.le_of_eq rfl) (by decide) (by decide) ?_
    intro v T L X hq
    obtain ⟨rfl, rfl, eT⟩ := hq
    have N := Fr.app N (Fr.nil n0)
    show GlH p e below Z own_EL sT h0 room_1.cells room_1.slots (fun v h L => v = some (.int 1) ∧ Fr n0 L) (T.setTop (mkF m 148 #[.val (.int p0), .val (.int p1), .val (.int p2), .val (.int (2 : Int32)), .val (.int (k0)), .val (.int (k1)), .val (.int nl), .val (.int (c0)), .val (.int (c1)), .val (.ref x1), .val (.ref x2), .val (.ref ex), .val (.ref mx), .unset] [(.int (((([k0, k1] ++ [32]) ++ mkL nl c0 c1) ++ own_TL).getD 0 0))]))
    refine GlH.by (fun t_ k_ => XS.iload X.here hx rfl (hb hby at_148) rfl k_) ?_
    show GlH p e below Z own_EL sT h0 room_1.cells room_1.slots (fun v h L => v = some (.int 1) ∧ Fr n0 L) (T.setTop (mkF m 150 #[.val (.int p0), .val (.int p1), .val (.int p2), .val (.int (2 : Int32)), .val (.int (k0)), .val (.int (k1)), .val (.int nl), .val (.int (c0)), .val (.int (c1)), .val (.ref x1), .val (.ref x2), .val (.ref ex), .val (.ref mx), .unset] [(.int (k0)), (.int (((([k0, k1] ++ [32]) ++ mkL nl c0 c1) ++ own_TL).getD 0 0))]))
    refine GlH.by (fun t_ k_ => XS.icmpYes X.here hx rfl (pc0 := 150) (pc' := 155) rfl (hb hby at_150) rfl (teq (rfl : ((([k0, k1] ++ [32]) ++ mkL nl c0 c1) ++ own_TL).getD 0 0 = k0)).1 (by decide) (by decide) k_) ?_
    show GlH p e below Z own_EL sT h0 room_1.cells room_1.slots (fun v h L => v = some (.int 1) ∧ Fr n0 L) (T.setTop (mkF m 155 #[.val (.int p0), .val (.int p1), .val (.int p2), .val (.int (2 : Int32)), .val (.int (k0)), .val (.int (k1)), .val (.int nl), .val (.int (c0)), .val (.int (c1)), .val (.ref x1), .val (.ref x2), .val (.ref ex), .val (.ref mx), .unset] []))
    refine GlH.by (fun t_ k_ => XS.iloadN X.here hx rfl (hb hby at_155) rfl k_) ?_
    show GlH p e below Z own_EL sT h0 room_1.cells room_1.slots (fun v h L => v = some (.int 1) ∧ Fr n0 L) (T.setTop (mkF m 156 #[.val (.int p0), .val (.int p1), .val (.int p2), .val (.int (2 : Int32)), .val (.int (k0)), .val (.int (k1)), .val (.int nl), .val (.int (c0)), .val (.int (c1)), .val (.ref x1), .val (.ref x2), .val (.ref ex), .val (.ref mx), .unset] [(.int (2 : Int32))]))
    refine GlH.by (fun t_ k_ => XS.iconst X.here hx rfl (hb hby at_156) k_) ?_
    show GlH p e below Z own_EL sT h0 room_1.cells room_1.slots (fun v h L => v = some (.int 1) ∧ Fr n0 L) (T.setTop (mkF m 157 #[.val (.int p0), .val (.int p1), .val (.int p2), .val (.int (2 : Int32)), .val (.int (k0)), .val (.int (k1)), .val (.int nl), .val (.int (c0)), .val (.int (c1)), .val (.ref x1), .val (.ref x2), .val (.ref ex), .val (.ref mx), .unset] [(.int (2 : Int32)), (.int (2 : Int32))]))
    refine GlH.by (fun t_ k_ => XS.icmpNo X.here hx rfl (hb hby at_157) rfl (flt (by decide)).1 k_) ?_
    show GlH p e below Z own_EL sT h0 room_1.cells room_1.slots (fun v h L => v = some (.int 1) ∧ Fr n0 L) (T.setTop (mkF m 160 #[.val (.int p0), .val (.int p1), .val (.int p2), .val (.int (2 : Int32)), .val (.int (k0)), .val (.int (k1)), .val (.int nl), .val (.int (c0)), .val (.int (c1)), .val (.ref x1), .val (.ref x2), .val (.ref ex), .val (.ref mx), .unset] []))
    refine GlH.by (fun t_ k_ => XS.aload X.here hx rfl (hb hby at_160) rfl rfl k_) ?_
    show GlH p e below Z own_EL sT h0 room_1.cells room_1.slots (fun v h L => v = some (.int 1) ∧ Fr n0 L) (T.setTop (mkF m 162 #[.val (.int p0), .val (.int p1), .val (.int p2), .val (.int (2 : Int32)), .val (.int (k0)), .val (.int (k1)), .val (.int nl), .val (.int (c0)), .val (.int (c1)), .val (.ref x1), .val (.ref x2), .val (.ref ex), .val (.ref mx), .unset] [(.ref mx)]))
    refine GlH.by (fun t_ k_ => XS.iconst X.here hx rfl (hb hby at_162) k_) ?_
    show GlH p e below Z own_EL sT h0 room_1.cells room_1.slots (fun v h L => v = some (.int 1) ∧ Fr n0 L) (T.setTop (mkF m 163 #[.val (.int p0), .val (.int p1), .val (.int p2), .val (.int (2 : Int32)), .val (.int (k0)), .val (.int (k1)), .val (.int nl), .val (.int (c0)), .val (.int (c1)), .val (.ref x1), .val (.ref x2), .val (.ref ex), .val (.ref mx), .unset] [(.int (1 : Int32)), (.ref mx)]))
    refine GlH.virt X hx hZ hown (hw _ (List.mem_of_getElem? (i := 238) rfl)) (hw _ (List.mem_of_getElem? (i := 239) rfl)) (hw _ (List.mem_of_getElem? (i := 241) rfl)) (hw _ (List.mem_of_getElem? (i := 240) rfl)) (notFace_of_selects (args := #[]) (mvT hZ (hw _ (List.mem_of_getElem? (i := 241) rfl)))) (by decide) SM.1 (W := 0) (payCh (n0 := n0) hZ (own_wch hw) (hw _ (List.mem_of_getElem? (i := 9) rfl)) SM S hz Sf rf O9 1 (by omega) (by decide) (by decide)) eT (hb hby at_163) (by rw [hml]; rfl) [(.int (1 : Int32))] [] (lenOf pd_26 rfl) rfl rfl (Nat.le_of_eq rfl) (by decide) (by decide) ?_
    intro v T L X hq
    obtain ⟨rfl, rfl, eT⟩ := hq
    have N := Fr.app N (Fr.nil n0)
    show GlH p e below Z own_EL sT h0 room_1.cells room_1.slots (fun v h L => v = some (.int 1) ∧ Fr n0 L) (T.setTop (mkF m 166 #[.val (.int p0), .val (.int p1), .val (.int p2), .val (.int (2 : Int32)), .val (.int (k0)), .val (.int (k1)), .val (.int nl), .val (.int (c0)), .val (.int (c1)), .val (.ref x1), .val (.ref x2), .val (.ref ex), .val (.ref mx), .unset] [(.int (((([k0, k1] ++ [32]) ++ mkL nl c0 c1) ++ own_TL).getD 1 0))]))
    refine GlH.by (fun t_ k_ => XS.iload X.here hx rfl (hb hby at_166) rfl k_) ?_
    show GlH p e below Z own_EL sT h0 room_1.cells room_1.slots (fun v h L => v = some (.int 1) ∧ Fr n0 L) (T.setTop (mkF m 168 #[.val (.int p0), .val (.int p1), .val (.int p2), .val (.int (2 : Int32)), .val (.int (k0)), .val (.int (k1)), .val (.int nl), .val (.int (c0)), .val (.int (c1)), .val (.ref x1), .val (.ref x2), .val (.ref ex), .val (.ref mx), .unset] [(.int (k1)), (.int (((([k0, k1] ++ [32]) ++ mkL nl c0 c1) ++ own_TL).getD 1 0))]))
    refine GlH.by (fun t_ k_ => XS.icmpYes X.here hx rfl (pc0 := 168) (pc' := 173) rfl (hb hby at_168) rfl (teq (rfl : ((([k0, k1] ++ [32]) ++ mkL nl c0 c1) ++ own_TL).getD 1 0 = k1)).1 (by decide) (by decide) k_) ?_
    show GlH p e below Z own_EL sT h0 room_1.cells room_1.slots (fun v h L => v = some (.int 1) ∧ Fr n0 L) (T.setTop (mkF m 173 #[.val (.int p0), .val (.int p1), .val (.int p2), .val (.int (2 : Int32)), .val (.int (k0)), .val (.int (k1)), .val (.int nl), .val (.int (c0)), .val (.int (c1)), .val (.ref x1), .val (.ref x2), .val (.ref ex), .val (.ref mx), .unset] []))
    refine GlH.by (fun t_ k_ => XS.aload X.here hx rfl (hb hby at_173) rfl rfl k_) ?_
    show GlH p e below Z own_EL sT h0 room_1.cells room_1.slots (fun v h L => v = some (.int 1) ∧ Fr n0 L) (T.setTop (mkF m 175 #[.val (.int p0), .val (.int p1), .val (.int p2), .val (.int (2 : Int32)), .val (.int (k0)), .val (.int (k1)), .val (.int nl), .val (.int (c0)), .val (.int (c1)), .val (.ref x1), .val (.ref x2), .val (.ref ex), .val (.ref mx), .unset] [(.ref mx)]))
    refine GlH.by (fun t_ k_ => XS.iloadN X.here hx rfl (hb hby at_175) rfl k_) ?_
    show GlH p e below Z own_EL sT h0 room_1.cells room_1.slots (fun v h L => v = some (.int 1) ∧ Fr n0 L) (T.setTop (mkF m 176 #[.val (.int p0), .val (.int p1), .val (.int p2), .val (.int (2 : Int32)), .val (.int (k0)), .val (.int (k1)), .val (.int nl), .val (.int (c0)), .val (.int (c1)), .val (.ref x1), .val (.ref x2), .val (.ref ex), .val (.ref mx), .unset] [(.int (2 : Int32)), (.ref mx)]))
    refine GlH.virt X hx hZ hown (hw _ (List.mem_of_getElem? (i := 238) rfl)) (hw _ (List.mem_of_getElem? (i := 239) rfl)) (hw _ (List.mem_of_getElem? (i := 241) rfl)) (hw _ (List.mem_of_getElem? (i := 240) rfl)) (notFace_of_selects (args := #[]) (mvT hZ (hw _ (List.mem_of_getElem? (i := 241) rfl)))) (by decide) SM.1 (W := 0) (payCh (n0 := n0) hZ (own_wch hw) (hw _ (List.mem_of_getElem? (i := 9) rfl)) SM S hz Sf rf O9 2 (by omega) (by decide) (by decide)) eT (hb hby at_176) (by rw [hml]; rfl) [(.int (2 : Int32))] [] (lenOf pd_26 rfl) rfl rfl (Nat.le_of_eq rfl) (by decide) (by decide) ?_
    intro v T L X hq
    obtain ⟨rfl, rfl, eT⟩ := hq
    have N := Fr.app N (Fr.nil n0)
    show GlH p e below Z own_EL sT h0 room_1.cells room_1.slots (fun v h L => v = some (.int 1) ∧ Fr n0 L) (T.setTop (mkF m 179 #[.val (.int p0), .val (.int p1), .val (.int p2), .val (.int (2 : Int32)), .val (.int (k0)), .val (.int (k1)), .val (.int nl), .val (.int (c0)), .val (.int (c1)), .val (.ref x1), .val (.ref x2), .val (.ref ex), .val (.ref mx), .unset] [(.int (((([k0, k1] ++ [32]) ++ mkL nl c0 c1) ++ own_TL).getD 2 0))]))
    refine GlH.by (fun t_ k_ => XS.bipush X.here hx rfl (hb hby at_179) k_) ?_
    show GlH p e below Z own_EL sT h0 room_1.cells room_1.slots (fun v h L => v = some (.int 1) ∧ Fr n0 L) (T.setTop (mkF m 181 #[.val (.int p0), .val (.int p1), .val (.int p2), .val (.int (2 : Int32)), .val (.int (k0)), .val (.int (k1)), .val (.int nl), .val (.int (c0)), .val (.int (c1)), .val (.ref x1), .val (.ref x2), .val (.ref ex), .val (.ref mx), .unset] [(.int (32 : Int32)), (.int (((([k0, k1] ++ [32]) ++ mkL nl c0 c1) ++ own_TL).getD 2 0))]))
    refine GlH.by (fun t_ k_ => XS.icmpYes X.here hx rfl (pc0 := 181) (pc' := 186) rfl (hb hby at_181) rfl (teq (rfl : ((([k0, k1] ++ [32]) ++ mkL nl c0 c1) ++ own_TL).getD 2 0 = (32 : Int32))).1 (by decide) (by decide) k_) ?_
    show GlH p e below Z own_EL sT h0 room_1.cells room_1.slots (fun v h L => v = some (.int 1) ∧ Fr n0 L) (T.setTop (mkF m 186 #[.val (.int p0), .val (.int p1), .val (.int p2), .val (.int (2 : Int32)), .val (.int (k0)), .val (.int (k1)), .val (.int nl), .val (.int (c0)), .val (.int (c1)), .val (.ref x1), .val (.ref x2), .val (.ref ex), .val (.ref mx), .unset] []))
    refine GlH.by (fun t_ k_ => XS.iloadN X.here hx rfl (hb hby at_186) rfl k_) ?_
    show GlH p e below Z own_EL sT h0 room_1.cells room_1.slots (fun v h L => v = some (.int 1) ∧ Fr n0 L) (T.setTop (mkF m 187 #[.val (.int p0), .val (.int p1), .val (.int p2), .val (.int (2 : Int32)), .val (.int (k0)), .val (.int (k1)), .val (.int nl), .val (.int (c0)), .val (.int (c1)), .val (.ref x1), .val (.ref x2), .val (.ref ex), .val (.ref mx), .unset] [(.int (2 : Int32))]))
    refine GlH.by (fun t_ k_ => XS.iconst X.here hx rfl (hb hby at_187) k_) ?_
    show GlH p e below Z own_EL sT h0 room_1.cells room_1.slots (fun v h L => v = some (.int 1) ∧ Fr n0 L) (T.setTop (mkF m 188 #[.val (.int p0), .val (.int p1), .val (.int p2), .val (.int (2 : Int32)), .val (.int (k0)), .val (.int (k1)), .val (.int nl), .val (.int (c0)), .val (.int (c1)), .val (.ref x1), .val (.ref x2), .val (.ref ex), .val (.ref mx), .unset] [(.int (1 : Int32)), (.int (2 : Int32))]))
    refine GlH.by (fun t_ k_ => XS.iadd X.here hx rfl (hb hby at_188) rfl k_) ?_
    show GlH p e below Z own_EL sT h0 room_1.cells room_1.slots (fun v h L => v = some (.int 1) ∧ Fr n0 L) (T.setTop (mkF m 189 #[.val (.int p0), .val (.int p1), .val (.int p2), .val (.int (2 : Int32)), .val (.int (k0)), .val (.int (k1)), .val (.int nl), .val (.int (c0)), .val (.int (c1)), .val (.ref x1), .val (.ref x2), .val (.ref ex), .val (.ref mx), .unset] [(.int ((2 : Int32) + (1 : Int32)))]))
    show GlH p e below Z own_EL sT h0 room_1.cells room_1.slots (fun v h L => v = some (.int 1) ∧ Fr n0 L) (T.setTop (mkF m 189 #[.val (.int p0), .val (.int p1), .val (.int p2), .val (.int (2 : Int32)), .val (.int (k0)), .val (.int (k1)), .val (.int nl), .val (.int (c0)), .val (.int (c1)), .val (.ref x1), .val (.ref x2), .val (.ref ex), .val (.ref mx), .unset] [(.int (3 : Int32))]))
    refine GlH.by (fun t_ k_ => XS.istore X.here hx rfl (hb hby at_189) rfl (l' := #[.val (.int p0), .val (.int p1), .val (.int p2), .val (.int (2 : Int32)), .val (.int (k0)), .val (.int (k1)), .val (.int nl), .val (.int (c0)), .val (.int (c1)), .val (.ref x1), .val (.ref x2), .val (.ref ex), .val (.ref mx), .val (.int (3 : Int32))]) rfl k_) ?_
    show GlH p e below Z own_EL sT h0 room_1.cells room_1.slots (fun v h L => v = some (.int 1) ∧ Fr n0 L) (T.setTop (mkF m 191 #[.val (.int p0), .val (.int p1), .val (.int p2), .val (.int (2 : Int32)), .val (.int (k0)), .val (.int (k1)), .val (.int nl), .val (.int (c0)), .val (.int (c1)), .val (.ref x1), .val (.ref x2), .val (.ref ex), .val (.ref mx), .val (.int (3 : Int32))] []))
    refine GlH.by (fun t_ k_ => XS.iload X.here hx rfl (hb hby at_191) rfl k_) ?_
    show GlH p e below Z own_EL sT h0 room_1.cells room_1.slots (fun v h L => v = some (.int 1) ∧ Fr n0 L) (T.setTop (mkF m 193 #[.val (.int p0), .val (.int p1), .val (.int p2), .val (.int (2 : Int32)), .val (.int (k0)), .val (.int (k1)), .val (.int nl), .val (.int (c0)), .val (.int (c1)), .val (.ref x1), .val (.ref x2), .val (.ref ex), .val (.ref mx), .val (.int (3 : Int32))] [(.int nl)]))
    refine GlH.by (fun t_ k_ => XS.iconst X.here hx rfl (hb hby at_193) k_) ?_
    show GlH p e below Z own_EL sT h0 room_1.cells room_1.slots (fun v h L => v = some (.int 1) ∧ Fr n0 L) (T.setTop (mkF m 194 #[.val (.int p0), .val (.int p1), .val (.int p2), .val (.int (2 : Int32)), .val (.int (k0)), .val (.int (k1)), .val (.int nl), .val (.int (c0)), .val (.int (c1)), .val (.ref x1), .val (.ref x2), .val (.ref ex), .val (.ref mx), .val (.int (3 : Int32))] [(.int (1 : Int32)), (.int nl)]))
    rcases hn with rfl | rfl | rfl
    · rw [mkL0] at SM hL
      dsimp only [List.length_nil, List.length_cons] at hL
      show GlH p e below Z own_EL sT h0 room_1.cells room_1.slots (fun v h L => v = some (.int 1) ∧ Fr n0 L) (T.setTop (mkF m 194 #[.val (.int p0), .val (.int p1), .val (.int p2), .val (.int (2 : Int32)), .val (.int (k0)), .val (.int (k1)), .val (.int (0 : Int32)), .val (.int (c0)), .val (.int (c1)), .val (.ref x1), .val (.ref x2), .val (.ref ex), .val (.ref mx), .val (.int (3 : Int32))] [(.int (1 : Int32)), (.int (0 : Int32))]))
      refine GlH.by (fun t_ k_ => XS.icmpYes X.here hx rfl (pc0 := 194) (pc' := 211) rfl (hb hby at_194) rfl (tlt (by decide)).1 (by decide) (by decide) k_) ?_
      show GlH p e below Z own_EL sT h0 room_1.cells room_1.slots (fun v h L => v = some (.int 1) ∧ Fr n0 L) (T.setTop (mkF m 211 #[.val (.int p0), .val (.int p1), .val (.int p2), .val (.int (2 : Int32)), .val (.int (k0)), .val (.int (k1)), .val (.int (0 : Int32)), .val (.int (c0)), .val (.int (c1)), .val (.ref x1), .val (.ref x2), .val (.ref ex), .val (.ref mx), .val (.int (3 : Int32))] []))
      refine GlH.by (fun t_ k_ => XS.iload X.here hx rfl (hb hby at_211) rfl k_) ?_
      show GlH p e below Z own_EL sT h0 room_1.cells room_1.slots (fun v h L => v = some (.int 1) ∧ Fr n0 L) (T.setTop (mkF m 213 #[.val (.int p0), .val (.int p1), .val (.int p2), .val (.int (2 : Int32)), .val (.int (k0)), .val (.int (k1)), .val (.int (0 : Int32)), .val (.int (c0)), .val (.int (c1)), .val (.ref x1), .val (.ref x2), .val (.ref ex), .val (.ref mx), .val (.int (3 : Int32))] [(.int (0 : Int32))]))
      refine GlH.by (fun t_ k_ => XS.iconst X.here hx rfl (hb hby at_213) k_) ?_
      show GlH p e below Z own_EL sT h0 room_1.cells room_1.slots (fun v h L => v = some (.int 1) ∧ Fr n0 L) (T.setTop (mkF m 214 #[.val (.int p0), .val (.int p1), .val (.int p2), .val (.int (2 : Int32)), .val (.int (k0)), .val (.int (k1)), .val (.int (0 : Int32)), .val (.int (c0)), .val (.int (c1)), .val (.ref x1), .val (.ref x2), .val (.ref ex), .val (.ref mx), .val (.int (3 : Int32))] [(.int (2 : Int32)), (.int (0 : Int32))]))
      refine GlH.by (fun t_ k_ => XS.icmpYes X.here hx rfl (pc0 := 214) (pc' := 233) rfl (hb hby at_214) rfl (tlt (by decide)).1 (by decide) (by decide) k_) ?_
      show GlH p e below Z own_EL sT h0 room_1.cells room_1.slots (fun v h L => v = some (.int 1) ∧ Fr n0 L) (T.setTop (mkF m 233 #[.val (.int p0), .val (.int p1), .val (.int p2), .val (.int (2 : Int32)), .val (.int (k0)), .val (.int (k1)), .val (.int (0 : Int32)), .val (.int (c0)), .val (.int (c1)), .val (.ref x1), .val (.ref x2), .val (.ref ex), .val (.ref mx), .val (.int (3 : Int32))] []))
      refine GlH.by (fun t_ k_ => XS.aload X.here hx rfl (hb hby at_233) rfl rfl k_) ?_
      show GlH p e below Z own_EL sT h0 room_1.cells room_1.slots (fun v h L => v = some (.int 1) ∧ Fr n0 L) (T.setTop (mkF m 235 #[.val (.int p0), .val (.int p1), .val (.int p2), .val (.int (2 : Int32)), .val (.int (k0)), .val (.int (k1)), .val (.int (0 : Int32)), .val (.int (c0)), .val (.int (c1)), .val (.ref x1), .val (.ref x2), .val (.ref ex), .val (.ref mx), .val (.int (3 : Int32))] [(.ref mx)]))
      refine GlH.by (fun t_ k_ => XS.iload X.here hx rfl (hb hby at_235) rfl k_) ?_
      show GlH p e below Z own_EL sT h0 room_1.cells room_1.slots (fun v h L => v = some (.int 1) ∧ Fr n0 L) (T.setTop (mkF m 237 #[.val (.int p0), .val (.int p1), .val (.int p2), .val (.int (2 : Int32)), .val (.int (k0)), .val (.int (k1)), .val (.int (0 : Int32)), .val (.int (c0)), .val (.int (c1)), .val (.ref x1), .val (.ref x2), .val (.ref ex), .val (.ref mx), .val (.int (3 : Int32))] [(.int (3 : Int32)), (.ref mx)]))
      refine GlH.by (fun t_ k_ => XS.iload X.here hx rfl (hb hby at_237) rfl k_) ?_
      show GlH p e below Z own_EL sT h0 room_1.cells room_1.slots (fun v h L => v = some (.int 1) ∧ Fr n0 L) (T.setTop (mkF m 239 #[.val (.int p0), .val (.int p1), .val (.int p2), .val (.int (2 : Int32)), .val (.int (k0)), .val (.int (k1)), .val (.int (0 : Int32)), .val (.int (c0)), .val (.int (c1)), .val (.ref x1), .val (.ref x2), .val (.ref ex), .val (.ref mx), .val (.int (3 : Int32))] [(.int (0 : Int32)), (.int (3 : Int32)), (.ref mx)]))
      refine GlH.by (fun t_ k_ => XS.iadd X.here hx rfl (hb hby at_239) rfl k_) ?_
      show GlH p e below Z own_EL sT h0 room_1.cells room_1.slots (fun v h L => v = some (.int 1) ∧ Fr n0 L) (T.setTop (mkF m 240 #[.val (.int p0), .val (.int p1), .val (.int p2), .val (.int (2 : Int32)), .val (.int (k0)), .val (.int (k1)), .val (.int (0 : Int32)), .val (.int (c0)), .val (.int (c1)), .val (.ref x1), .val (.ref x2), .val (.ref ex), .val (.ref mx), .val (.int (3 : Int32))] [(.int ((3 : Int32) + (0 : Int32))), (.ref mx)]))
      show GlH p e below Z own_EL sT h0 room_1.cells room_1.slots (fun v h L => v = some (.int 1) ∧ Fr n0 L) (T.setTop (mkF m 240 #[.val (.int p0), .val (.int p1), .val (.int p2), .val (.int (2 : Int32)), .val (.int (k0)), .val (.int (k1)), .val (.int (0 : Int32)), .val (.int (c0)), .val (.int (c1)), .val (.ref x1), .val (.ref x2), .val (.ref ex), .val (.ref mx), .val (.int (3 : Int32))] [(.int (3 : Int32)), (.ref mx)]))
      refine GlH.statS X hx hZ hown (hw _ (List.mem_of_getElem? (i := 260) rfl)) (hw _ (List.mem_of_getElem? (i := 261) rfl)) (hw _ (List.mem_of_getElem? (i := 6) rfl)) (hw _ (List.mem_of_getElem? (i := 262) rfl)) (by decide) (W := 0) B (backH (own_tail l Z a0 hw mx 3 ((([k0, k1] ++ [32]) ++ []) ++ own_TL) z fm h3 n0 SM (own_cs_tail [k0, k1] []) (by omega) Sf rf S hz O9) B hEL (fun _ q => by cases q) hZ (hw _ (List.mem_of_getElem? (i := 262) rfl)) (hw _ (List.mem_of_getElem? (i := 6) rfl)) (by decide) (by decide)) eT (hb hby at_240) (by rw [hml]; rfl) [(.ref mx), (.int (3 : Int32))] [] (lenOf pd_29 rfl) rfl rfl (Nat.le_of_eq rfl) (by decide) (by decide) ?_
      intro v T L s X B hZ hown CB hq
      obtain ⟨rfl, NQ, K10⟩ := hq
      have N := Fr.app N NQ
      obtain ⟨h10, eT⟩ : ∃ z, T.heap = z := ⟨_, rfl⟩
      rw [eT] at K10 B CB
      have sz10 := K10.1
      show GlH p e below Z own_EL sT h0 room_1.cells room_1.slots (fun v h L => v = some (.int 1) ∧ Fr n0 L) (T.setTop (mkF m 243 #[.val (.int p0), .val (.int p1), .val (.int p2), .val (.int (2 : Int32)), .val (.int (k0)), .val (.int (k1)), .val (.int (0 : Int32)), .val (.int (c0)), .val (.int (c1)), .val (.ref x1), .val (.ref x2), .val (.ref ex), .val (.ref mx), .val (.int (3 : Int32))] [(.int (1 : Int32))]))
      exact GlH.retZ X B eT hZ hEL hx hlk hret (by simp) (hb hby at_243) (by decide) (by decide) ⟨rfl, N⟩
    · rw [mkL1] at SM hL
      dsimp only [List.length_nil, List.length_cons] at hL
      show GlH p e below Z own_EL sT h0 room_1.cells room_1.slots (fun v h L => v = some (.int 1) ∧ Fr n0 L) (T.setTop (mkF m 194 #[.val (.int p0), .val (.int p1), .val (.int p2), .val (.int (2 : Int32)), .val (.int (k0)), .val (.int (k1)), .val (.int (1 : Int32)), .val (.int (c0)), .val (.int (c1)), .val (.ref x1), .val (.ref x2), .val (.ref ex), .val (.ref mx), .val (.int (3 : Int32))] [(.int (1 : Int32)), (.int (1 : Int32))]))
      refine GlH.by (fun t_ k_ => XS.icmpNo X.here hx rfl (hb hby at_194) rfl (flt (by decide)).1 k_) ?_
      show GlH p e below Z own_EL sT h0 room_1.cells room_1.slots (fun v h L => v = some (.int 1) ∧ Fr n0 L) (T.setTop (mkF m 197 #[.val (.int p0), .val (.int p1), .val (.int p2), .val (.int (2 : Int32)), .val (.int (k0)), .val (.int (k1)), .val (.int (1 : Int32)), .val (.int (c0)), .val (.int (c1)), .val (.ref x1), .val (.ref x2), .val (.ref ex), .val (.ref mx), .val (.int (3 : Int32))] []))
      refine GlH.by (fun t_ k_ => XS.aload X.here hx rfl (hb hby at_197) rfl rfl k_) ?_
      show GlH p e below Z own_EL sT h0 room_1.cells room_1.slots (fun v h L => v = some (.int 1) ∧ Fr n0 L) (T.setTop (mkF m 199 #[.val (.int p0), .val (.int p1), .val (.int p2), .val (.int (2 : Int32)), .val (.int (k0)), .val (.int (k1)), .val (.int (1 : Int32)), .val (.int (c0)), .val (.int (c1)), .val (.ref x1), .val (.ref x2), .val (.ref ex), .val (.ref mx), .val (.int (3 : Int32))] [(.ref mx)]))
      refine GlH.by (fun t_ k_ => XS.iload X.here hx rfl (hb hby at_199) rfl k_) ?_
      show GlH p e below Z own_EL sT h0 room_1.cells room_1.slots (fun v h L => v = some (.int 1) ∧ Fr n0 L) (T.setTop (mkF m 201 #[.val (.int p0), .val (.int p1), .val (.int p2), .val (.int (2 : Int32)), .val (.int (k0)), .val (.int (k1)), .val (.int (1 : Int32)), .val (.int (c0)), .val (.int (c1)), .val (.ref x1), .val (.ref x2), .val (.ref ex), .val (.ref mx), .val (.int (3 : Int32))] [(.int (3 : Int32)), (.ref mx)]))
      refine GlH.virt X hx hZ hown (hw _ (List.mem_of_getElem? (i := 238) rfl)) (hw _ (List.mem_of_getElem? (i := 239) rfl)) (hw _ (List.mem_of_getElem? (i := 241) rfl)) (hw _ (List.mem_of_getElem? (i := 240) rfl)) (notFace_of_selects (args := #[]) (mvT hZ (hw _ (List.mem_of_getElem? (i := 241) rfl)))) (by decide) SM.1 (W := 0) (payCh (n0 := n0) hZ (own_wch hw) (hw _ (List.mem_of_getElem? (i := 9) rfl)) SM S hz Sf rf O9 3 (by omega) (by decide) (by decide)) eT (hb hby at_201) (by rw [hml]; rfl) [(.int (3 : Int32))] [] (lenOf pd_26 rfl) rfl rfl (Nat.le_of_eq rfl) (by decide) (by decide) ?_
      intro v T L X hq
      obtain ⟨rfl, rfl, eT⟩ := hq
      have N := Fr.app N (Fr.nil n0)
      show GlH p e below Z own_EL sT h0 room_1.cells room_1.slots (fun v h L => v = some (.int 1) ∧ Fr n0 L) (T.setTop (mkF m 204 #[.val (.int p0), .val (.int p1), .val (.int p2), .val (.int (2 : Int32)), .val (.int (k0)), .val (.int (k1)), .val (.int (1 : Int32)), .val (.int (c0)), .val (.int (c1)), .val (.ref x1), .val (.ref x2), .val (.ref ex), .val (.ref mx), .val (.int (3 : Int32))] [(.int (((([k0, k1] ++ [32]) ++ [c0]) ++ own_TL).getD 3 0))]))
      refine GlH.by (fun t_ k_ => XS.iload X.here hx rfl (hb hby at_204) rfl k_) ?_
      show GlH p e below Z own_EL sT h0 room_1.cells room_1.slots (fun v h L => v = some (.int 1) ∧ Fr n0 L) (T.setTop (mkF m 206 #[.val (.int p0), .val (.int p1), .val (.int p2), .val (.int (2 : Int32)), .val (.int (k0)), .val (.int (k1)), .val (.int (1 : Int32)), .val (.int (c0)), .val (.int (c1)), .val (.ref x1), .val (.ref x2), .val (.ref ex), .val (.ref mx), .val (.int (3 : Int32))] [(.int (c0)), (.int (((([k0, k1] ++ [32]) ++ [c0]) ++ own_TL).getD 3 0))]))
      refine GlH.by (fun t_ k_ => XS.icmpYes X.here hx rfl (pc0 := 206) (pc' := 211) rfl (hb hby at_206) rfl (teq (rfl : ((([k0, k1] ++ [32]) ++ [c0]) ++ own_TL).getD 3 0 = c0)).1 (by decide) (by decide) k_) ?_
      show GlH p e below Z own_EL sT h0 room_1.cells room_1.slots (fun v h L => v = some (.int 1) ∧ Fr n0 L) (T.setTop (mkF m 211 #[.val (.int p0), .val (.int p1), .val (.int p2), .val (.int (2 : Int32)), .val (.int (k0)), .val (.int (k1)), .val (.int (1 : Int32)), .val (.int (c0)), .val (.int (c1)), .val (.ref x1), .val (.ref x2), .val (.ref ex), .val (.ref mx), .val (.int (3 : Int32))] []))
      refine GlH.by (fun t_ k_ => XS.iload X.here hx rfl (hb hby at_211) rfl k_) ?_
      show GlH p e below Z own_EL sT h0 room_1.cells room_1.slots (fun v h L => v = some (.int 1) ∧ Fr n0 L) (T.setTop (mkF m 213 #[.val (.int p0), .val (.int p1), .val (.int p2), .val (.int (2 : Int32)), .val (.int (k0)), .val (.int (k1)), .val (.int (1 : Int32)), .val (.int (c0)), .val (.int (c1)), .val (.ref x1), .val (.ref x2), .val (.ref ex), .val (.ref mx), .val (.int (3 : Int32))] [(.int (1 : Int32))]))
      refine GlH.by (fun t_ k_ => XS.iconst X.here hx rfl (hb hby at_213) k_) ?_
      show GlH p e below Z own_EL sT h0 room_1.cells room_1.slots (fun v h L => v = some (.int 1) ∧ Fr n0 L) (T.setTop (mkF m 214 #[.val (.int p0), .val (.int p1), .val (.int p2), .val (.int (2 : Int32)), .val (.int (k0)), .val (.int (k1)), .val (.int (1 : Int32)), .val (.int (c0)), .val (.int (c1)), .val (.ref x1), .val (.ref x2), .val (.ref ex), .val (.ref mx), .val (.int (3 : Int32))] [(.int (2 : Int32)), (.int (1 : Int32))]))
      refine GlH.by (fun t_ k_ => XS.icmpYes X.here hx rfl (pc0 := 214) (pc' := 233) rfl (hb hby at_214) rfl (tlt (by decide)).1 (by decide) (by decide) k_) ?_
      show GlH p e below Z own_EL sT h0 room_1.cells room_1.slots (fun v h L => v = some (.int 1) ∧ Fr n0 L) (T.setTop (mkF m 233 #[.val (.int p0), .val (.int p1), .val (.int p2), .val (.int (2 : Int32)), .val (.int (k0)), .val (.int (k1)), .val (.int (1 : Int32)), .val (.int (c0)), .val (.int (c1)), .val (.ref x1), .val (.ref x2), .val (.ref ex), .val (.ref mx), .val (.int (3 : Int32))] []))
      refine GlH.by (fun t_ k_ => XS.aload X.here hx rfl (hb hby at_233) rfl rfl k_) ?_
      show GlH p e below Z own_EL sT h0 room_1.cells room_1.slots (fun v h L => v = some (.int 1) ∧ Fr n0 L) (T.setTop (mkF m 235 #[.val (.int p0), .val (.int p1), .val (.int p2), .val (.int (2 : Int32)), .val (.int (k0)), .val (.int (k1)), .val (.int (1 : Int32)), .val (.int (c0)), .val (.int (c1)), .val (.ref x1), .val (.ref x2), .val (.ref ex), .val (.ref mx), .val (.int (3 : Int32))] [(.ref mx)]))
      refine GlH.by (fun t_ k_ => XS.iload X.here hx rfl (hb hby at_235) rfl k_) ?_
      show GlH p e below Z own_EL sT h0 room_1.cells room_1.slots (fun v h L => v = some (.int 1) ∧ Fr n0 L) (T.setTop (mkF m 237 #[.val (.int p0), .val (.int p1), .val (.int p2), .val (.int (2 : Int32)), .val (.int (k0)), .val (.int (k1)), .val (.int (1 : Int32)), .val (.int (c0)), .val (.int (c1)), .val (.ref x1), .val (.ref x2), .val (.ref ex), .val (.ref mx), .val (.int (3 : Int32))] [(.int (3 : Int32)), (.ref mx)]))
      refine GlH.by (fun t_ k_ => XS.iload X.here hx rfl (hb hby at_237) rfl k_) ?_
      show GlH p e below Z own_EL sT h0 room_1.cells room_1.slots (fun v h L => v = some (.int 1) ∧ Fr n0 L) (T.setTop (mkF m 239 #[.val (.int p0), .val (.int p1), .val (.int p2), .val (.int (2 : Int32)), .val (.int (k0)), .val (.int (k1)), .val (.int (1 : Int32)), .val (.int (c0)), .val (.int (c1)), .val (.ref x1), .val (.ref x2), .val (.ref ex), .val (.ref mx), .val (.int (3 : Int32))] [(.int (1 : Int32)), (.int (3 : Int32)), (.ref mx)]))
      refine GlH.by (fun t_ k_ => XS.iadd X.here hx rfl (hb hby at_239) rfl k_) ?_
      show GlH p e below Z own_EL sT h0 room_1.cells room_1.slots (fun v h L => v = some (.int 1) ∧ Fr n0 L) (T.setTop (mkF m 240 #[.val (.int p0), .val (.int p1), .val (.int p2), .val (.int (2 : Int32)), .val (.int (k0)), .val (.int (k1)), .val (.int (1 : Int32)), .val (.int (c0)), .val (.int (c1)), .val (.ref x1), .val (.ref x2), .val (.ref ex), .val (.ref mx), .val (.int (3 : Int32))] [(.int ((3 : Int32) + (1 : Int32))), (.ref mx)]))
      show GlH p e below Z own_EL sT h0 room_1.cells room_1.slots (fun v h L => v = some (.int 1) ∧ Fr n0 L) (T.setTop (mkF m 240 #[.val (.int p0), .val (.int p1), .val (.int p2), .val (.int (2 : Int32)), .val (.int (k0)), .val (.int (k1)), .val (.int (1 : Int32)), .val (.int (c0)), .val (.int (c1)), .val (.ref x1), .val (.ref x2), .val (.ref ex), .val (.ref mx), .val (.int (3 : Int32))] [(.int (4 : Int32)), (.ref mx)]))
      refine GlH.statS X hx hZ hown (hw _ (List.mem_of_getElem? (i := 260) rfl)) (hw _ (List.mem_of_getElem? (i := 261) rfl)) (hw _ (List.mem_of_getElem? (i := 6) rfl)) (hw _ (List.mem_of_getElem? (i := 262) rfl)) (by decide) (W := 0) B (backH (own_tail l Z a0 hw mx 4 ((([k0, k1] ++ [32]) ++ [c0]) ++ own_TL) z fm h3 n0 SM (own_cs_tail [k0, k1] [c0]) (by omega) Sf rf S hz O9) B hEL (fun _ q => by cases q) hZ (hw _ (List.mem_of_getElem? (i := 262) rfl)) (hw _ (List.mem_of_getElem? (i := 6) rfl)) (by decide) (by decide)) eT (hb hby at_240) (by rw [hml]; rfl) [(.ref mx), (.int (4 : Int32))] [] (lenOf pd_29 rfl) rfl rfl (Nat.le_of_eq rfl) (by decide) (by decide) ?_
      intro v T L s X B hZ hown CB hq
      obtain ⟨rfl, NQ, K11⟩ := hq
      have N := Fr.app N NQ
      obtain ⟨h11, eT⟩ : ∃ z, T.heap = z := ⟨_, rfl⟩
      rw [eT] at K11 B CB
      have sz11 := K11.1
      show GlH p e below Z own_EL sT h0 room_1.cells room_1.slots (fun v h L => v = some (.int 1) ∧ Fr n0 L) (T.setTop (mkF m 243 #[.val (.int p0), .val (.int p1), .val (.int p2), .val (.int (2 : Int32)), .val (.int (k0)), .val (.int (k1)), .val (.int (1 : Int32)), .val (.int (c0)), .val (.int (c1)), .val (.ref x1), .val (.ref x2), .val (.ref ex), .val (.ref mx), .val (.int (3 : Int32))] [(.int (1 : Int32))]))
      exact GlH.retZ X B eT hZ hEL hx hlk hret (by simp) (hb hby at_243) (by decide) (by decide) ⟨rfl, N⟩
    · rw [mkL2] at SM hL
      dsimp only [List.length_nil, List.length_cons] at hL
      show GlH p e below Z own_EL sT h0 room_1.cells room_1.slots (fun v h L => v = some (.int 1) ∧ Fr n0 L) (T.setTop (mkF m 194 #[.val (.int p0), .val (.int p1), .val (.int p2), .val (.int (2 : Int32)), .val (.int (k0)), .val (.int (k1)), .val (.int (2 : Int32)), .val (.int (c0)), .val (.int (c1)), .val (.ref x1), .val (.ref x2), .val (.ref ex), .val (.ref mx), .val (.int (3 : Int32))] [(.int (1 : Int32)), (.int (2 : Int32))]))
      refine GlH.by (fun t_ k_ => XS.icmpNo X.here hx rfl (hb hby at_194) rfl (flt (by decide)).1 k_) ?_
      show GlH p e below Z own_EL sT h0 room_1.cells room_1.slots (fun v h L => v = some (.int 1) ∧ Fr n0 L) (T.setTop (mkF m 197 #[.val (.int p0), .val (.int p1), .val (.int p2), .val (.int (2 : Int32)), .val (.int (k0)), .val (.int (k1)), .val (.int (2 : Int32)), .val (.int (c0)), .val (.int (c1)), .val (.ref x1), .val (.ref x2), .val (.ref ex), .val (.ref mx), .val (.int (3 : Int32))] []))
      refine GlH.by (fun t_ k_ => XS.aload X.here hx rfl (hb hby at_197) rfl rfl k_) ?_
      show GlH p e below Z own_EL sT h0 room_1.cells room_1.slots (fun v h L => v = some (.int 1) ∧ Fr n0 L) (T.setTop (mkF m 199 #[.val (.int p0), .val (.int p1), .val (.int p2), .val (.int (2 : Int32)), .val (.int (k0)), .val (.int (k1)), .val (.int (2 : Int32)), .val (.int (c0)), .val (.int (c1)), .val (.ref x1), .val (.ref x2), .val (.ref ex), .val (.ref mx), .val (.int (3 : Int32))] [(.ref mx)]))
      refine GlH.by (fun t_ k_ => XS.iload X.here hx rfl (hb hby at_199) rfl k_) ?_
      show GlH p e below Z own_EL sT h0 room_1.cells room_1.slots (fun v h L => v = some (.int 1) ∧ Fr n0 L) (T.setTop (mkF m 201 #[.val (.int p0), .val (.int p1), .val (.int p2), .val (.int (2 : Int32)), .val (.int (k0)), .val (.int (k1)), .val (.int (2 : Int32)), .val (.int (c0)), .val (.int (c1)), .val (.ref x1), .val (.ref x2), .val (.ref ex), .val (.ref mx), .val (.int (3 : Int32))] [(.int (3 : Int32)), (.ref mx)]))
      refine GlH.virt X hx hZ hown (hw _ (List.mem_of_getElem? (i := 238) rfl)) (hw _ (List.mem_of_getElem? (i := 239) rfl)) (hw _ (List.mem_of_getElem? (i := 241) rfl)) (hw _ (List.mem_of_getElem? (i := 240) rfl)) (notFace_of_selects (args := #[]) (mvT hZ (hw _ (List.mem_of_getElem? (i := 241) rfl)))) (by decide) SM.1 (W := 0) (payCh (n0 := n0) hZ (own_wch hw) (hw _ (List.mem_of_getElem? (i := 9) rfl)) SM S hz Sf rf O9 3 (by omega) (by decide) (by decide)) eT (hb hby at_201) (by rw [hml]; rfl) [(.int (3 : Int32))] [] (lenOf pd_26 rfl) rfl rfl (Nat.le_of_eq rfl) (by decide) (by decide) ?_
      intro v T L X hq
      obtain ⟨rfl, rfl, eT⟩ := hq
      have N := Fr.app N (Fr.nil n0)
      show GlH p e below Z own_EL sT h0 room_1.cells room_1.slots (fun v h L => v = some (.int 1) ∧ Fr n0 L) (T.setTop (mkF m 204 #[.val (.int p0), .val (.int p1), .val (.int p2), .val (.int (2 : Int32)), .val (.int (k0)), .val (.int (k1)), .val (.int (2 : Int32)), .val (.int (c0)), .val (.int (c1)), .val (.ref x1), .val (.ref x2), .val (.ref ex), .val (.ref mx), .val (.int (3 : Int32))] [(.int (((([k0, k1] ++ [32]) ++ [c0, c1]) ++ own_TL).getD 3 0))]))
      refine GlH.by (fun t_ k_ => XS.iload X.here hx rfl (hb hby at_204) rfl k_) ?_
      show GlH p e below Z own_EL sT h0 room_1.cells room_1.slots (fun v h L => v = some (.int 1) ∧ Fr n0 L) (T.setTop (mkF m 206 #[.val (.int p0), .val (.int p1), .val (.int p2), .val (.int (2 : Int32)), .val (.int (k0)), .val (.int (k1)), .val (.int (2 : Int32)), .val (.int (c0)), .val (.int (c1)), .val (.ref x1), .val (.ref x2), .val (.ref ex), .val (.ref mx), .val (.int (3 : Int32))] [(.int (c0)), (.int (((([k0, k1] ++ [32]) ++ [c0, c1]) ++ own_TL).getD 3 0))]))
      refine GlH.by (fun t_ k_ => XS.icmpYes X.here hx rfl (pc0 := 206) (pc' := 211) rfl (hb hby at_206) rfl (teq (rfl : ((([k0, k1] ++ [32]) ++ [c0, c1]) ++ own_TL).getD 3 0 = c0)).1 (by decide) (by decide) k_) ?_
      show GlH p e below Z own_EL sT h0 room_1.cells room_1.slots (fun v h L => v = some (.int 1) ∧ Fr n0 L) (T.setTop (mkF m 211 #[.val (.int p0), .val (.int p1), .val (.int p2), .val (.int (2 : Int32)), .val (.int (k0)), .val (.int (k1)), .val (.int (2 : Int32)), .val (.int (c0)), .val (.int (c1)), .val (.ref x1), .val (.ref x2), .val (.ref ex), .val (.ref mx), .val (.int (3 : Int32))] []))
      refine GlH.by (fun t_ k_ => XS.iload X.here hx rfl (hb hby at_211) rfl k_) ?_
      show GlH p e below Z own_EL sT h0 room_1.cells room_1.slots (fun v h L => v = some (.int 1) ∧ Fr n0 L) (T.setTop (mkF m 213 #[.val (.int p0), .val (.int p1), .val (.int p2), .val (.int (2 : Int32)), .val (.int (k0)), .val (.int (k1)), .val (.int (2 : Int32)), .val (.int (c0)), .val (.int (c1)), .val (.ref x1), .val (.ref x2), .val (.ref ex), .val (.ref mx), .val (.int (3 : Int32))] [(.int (2 : Int32))]))
      refine GlH.by (fun t_ k_ => XS.iconst X.here hx rfl (hb hby at_213) k_) ?_
      show GlH p e below Z own_EL sT h0 room_1.cells room_1.slots (fun v h L => v = some (.int 1) ∧ Fr n0 L) (T.setTop (mkF m 214 #[.val (.int p0), .val (.int p1), .val (.int p2), .val (.int (2 : Int32)), .val (.int (k0)), .val (.int (k1)), .val (.int (2 : Int32)), .val (.int (c0)), .val (.int (c1)), .val (.ref x1), .val (.ref x2), .val (.ref ex), .val (.ref mx), .val (.int (3 : Int32))] [(.int (2 : Int32)), (.int (2 : Int32))]))
      refine GlH.by (fun t_ k_ => XS.icmpNo X.here hx rfl (hb hby at_214) rfl (flt (by decide)).1 k_) ?_
      show GlH p e below Z own_EL sT h0 room_1.cells room_1.slots (fun v h L => v = some (.int 1) ∧ Fr n0 L) (T.setTop (mkF m 217 #[.val (.int p0), .val (.int p1), .val (.int p2), .val (.int (2 : Int32)), .val (.int (k0)), .val (.int (k1)), .val (.int (2 : Int32)), .val (.int (c0)), .val (.int (c1)), .val (.ref x1), .val (.ref x2), .val (.ref ex), .val (.ref mx), .val (.int (3 : Int32))] []))
      refine GlH.by (fun t_ k_ => XS.aload X.here hx rfl (hb hby at_217) rfl rfl k_) ?_
      show GlH p e below Z own_EL sT h0 room_1.cells room_1.slots (fun v h L => v = some (.int 1) ∧ Fr n0 L) (T.setTop (mkF m 219 #[.val (.int p0), .val (.int p1), .val (.int p2), .val (.int (2 : Int32)), .val (.int (k0)), .val (.int (k1)), .val (.int (2 : Int32)), .val (.int (c0)), .val (.int (c1)), .val (.ref x1), .val (.ref x2), .val (.ref ex), .val (.ref mx), .val (.int (3 : Int32))] [(.ref mx)]))
      refine GlH.by (fun t_ k_ => XS.iload X.here hx rfl (hb hby at_219) rfl k_) ?_
      show GlH p e below Z own_EL sT h0 room_1.cells room_1.slots (fun v h L => v = some (.int 1) ∧ Fr n0 L) (T.setTop (mkF m 221 #[.val (.int p0), .val (.int p1), .val (.int p2), .val (.int (2 : Int32)), .val (.int (k0)), .val (.int (k1)), .val (.int (2 : Int32)), .val (.int (c0)), .val (.int (c1)), .val (.ref x1), .val (.ref x2), .val (.ref ex), .val (.ref mx), .val (.int (3 : Int32))] [(.int (3 : Int32)), (.ref mx)]))
      refine GlH.by (fun t_ k_ => XS.iconst X.here hx rfl (hb hby at_221) k_) ?_
      show GlH p e below Z own_EL sT h0 room_1.cells room_1.slots (fun v h L => v = some (.int 1) ∧ Fr n0 L) (T.setTop (mkF m 222 #[.val (.int p0), .val (.int p1), .val (.int p2), .val (.int (2 : Int32)), .val (.int (k0)), .val (.int (k1)), .val (.int (2 : Int32)), .val (.int (c0)), .val (.int (c1)), .val (.ref x1), .val (.ref x2), .val (.ref ex), .val (.ref mx), .val (.int (3 : Int32))] [(.int (1 : Int32)), (.int (3 : Int32)), (.ref mx)]))
      refine GlH.by (fun t_ k_ => XS.iadd X.here hx rfl (hb hby at_222) rfl k_) ?_
      show GlH p e below Z own_EL sT h0 room_1.cells room_1.slots (fun v h L => v = some (.int 1) ∧ Fr n0 L) (T.setTop (mkF m 223 #[.val (.int p0), .val (.int p1), .val (.int p2), .val (.int (2 : Int32)), .val (.int (k0)), .val (.int (k1)), .val (.int (2 : Int32)), .val (.int (c0)), .val (.int (c1)), .val (.ref x1), .val (.ref x2), .val (.ref ex), .val (.ref mx), .val (.int (3 : Int32))] [(.int ((3 : Int32) + (1 : Int32))), (.ref mx)]))
      show GlH p e below Z own_EL sT h0 room_1.cells room_1.slots (fun v h L => v = some (.int 1) ∧ Fr n0 L) (T.setTop (mkF m 223 #[.val (.int p0), .val (.int p1), .val (.int p2), .val (.int (2 : Int32)), .val (.int (k0)), .val (.int (k1)), .val (.int (2 : Int32)), .val (.int (c0)), .val (.int (c1)), .val (.ref x1), .val (.ref x2), .val (.ref ex), .val (.ref mx), .val (.int (3 : Int32))] [(.int (4 : Int32)), (.ref mx)]))
      refine GlH.virt X hx hZ hown (hw _ (List.mem_of_getElem? (i := 238) rfl)) (hw _ (List.mem_of_getElem? (i := 239) rfl)) (hw _ (List.mem_of_getElem? (i := 241) rfl)) (hw _ (List.mem_of_getElem? (i := 240) rfl)) (notFace_of_selects (args := #[]) (mvT hZ (hw _ (List.mem_of_getElem? (i := 241) rfl)))) (by decide) SM.1 (W := 0) (payCh (n0 := n0) hZ (own_wch hw) (hw _ (List.mem_of_getElem? (i := 9) rfl)) SM S hz Sf rf O9 4 (by omega) (by decide) (by decide)) eT (hb hby at_223) (by rw [hml]; rfl) [(.int (4 : Int32))] [] (lenOf pd_26 rfl) rfl rfl (Nat.le_of_eq rfl) (by decide) (by decide) ?_
      intro v T L X hq
      obtain ⟨rfl, rfl, eT⟩ := hq
      have N := Fr.app N (Fr.nil n0)
      show GlH p e below Z own_EL sT h0 room_1.cells room_1.slots (fun v h L => v = some (.int 1) ∧ Fr n0 L) (T.setTop (mkF m 226 #[.val (.int p0), .val (.int p1), .val (.int p2), .val (.int (2 : Int32)), .val (.int (k0)), .val (.int (k1)), .val (.int (2 : Int32)), .val (.int (c0)), .val (.int (c1)), .val (.ref x1), .val (.ref x2), .val (.ref ex), .val (.ref mx), .val (.int (3 : Int32))] [(.int (((([k0, k1] ++ [32]) ++ [c0, c1]) ++ own_TL).getD 4 0))]))
      refine GlH.by (fun t_ k_ => XS.iload X.here hx rfl (hb hby at_226) rfl k_) ?_
      show GlH p e below Z own_EL sT h0 room_1.cells room_1.slots (fun v h L => v = some (.int 1) ∧ Fr n0 L) (T.setTop (mkF m 228 #[.val (.int p0), .val (.int p1), .val (.int p2), .val (.int (2 : Int32)), .val (.int (k0)), .val (.int (k1)), .val (.int (2 : Int32)), .val (.int (c0)), .val (.int (c1)), .val (.ref x1), .val (.ref x2), .val (.ref ex), .val (.ref mx), .val (.int (3 : Int32))] [(.int (c1)), (.int (((([k0, k1] ++ [32]) ++ [c0, c1]) ++ own_TL).getD 4 0))]))
      refine GlH.by (fun t_ k_ => XS.icmpYes X.here hx rfl (pc0 := 228) (pc' := 233) rfl (hb hby at_228) rfl (teq (rfl : ((([k0, k1] ++ [32]) ++ [c0, c1]) ++ own_TL).getD 4 0 = c1)).1 (by decide) (by decide) k_) ?_
      show GlH p e below Z own_EL sT h0 room_1.cells room_1.slots (fun v h L => v = some (.int 1) ∧ Fr n0 L) (T.setTop (mkF m 233 #[.val (.int p0), .val (.int p1), .val (.int p2), .val (.int (2 : Int32)), .val (.int (k0)), .val (.int (k1)), .val (.int (2 : Int32)), .val (.int (c0)), .val (.int (c1)), .val (.ref x1), .val (.ref x2), .val (.ref ex), .val (.ref mx), .val (.int (3 : Int32))] []))
      refine GlH.by (fun t_ k_ => XS.aload X.here hx rfl (hb hby at_233) rfl rfl k_) ?_
      show GlH p e below Z own_EL sT h0 room_1.cells room_1.slots (fun v h L => v = some (.int 1) ∧ Fr n0 L) (T.setTop (mkF m 235 #[.val (.int p0), .val (.int p1), .val (.int p2), .val (.int (2 : Int32)), .val (.int (k0)), .val (.int (k1)), .val (.int (2 : Int32)), .val (.int (c0)), .val (.int (c1)), .val (.ref x1), .val (.ref x2), .val (.ref ex), .val (.ref mx), .val (.int (3 : Int32))] [(.ref mx)]))
      refine GlH.by (fun t_ k_ => XS.iload X.here hx rfl (hb hby at_235) rfl k_) ?_
      show GlH p e below Z own_EL sT h0 room_1.cells room_1.slots (fun v h L => v = some (.int 1) ∧ Fr n0 L) (T.setTop (mkF m 237 #[.val (.int p0), .val (.int p1), .val (.int p2), .val (.int (2 : Int32)), .val (.int (k0)), .val (.int (k1)), .val (.int (2 : Int32)), .val (.int (c0)), .val (.int (c1)), .val (.ref x1), .val (.ref x2), .val (.ref ex), .val (.ref mx), .val (.int (3 : Int32))] [(.int (3 : Int32)), (.ref mx)]))
      refine GlH.by (fun t_ k_ => XS.iload X.here hx rfl (hb hby at_237) rfl k_) ?_
      show GlH p e below Z own_EL sT h0 room_1.cells room_1.slots (fun v h L => v = some (.int 1) ∧ Fr n0 L) (T.setTop (mkF m 239 #[.val (.int p0), .val (.int p1), .val (.int p2), .val (.int (2 : Int32)), .val (.int (k0)), .val (.int (k1)), .val (.int (2 : Int32)), .val (.int (c0)), .val (.int (c1)), .val (.ref x1), .val (.ref x2), .val (.ref ex), .val (.ref mx), .val (.int (3 : Int32))] [(.int (2 : Int32)), (.int (3 : Int32)), (.ref mx)]))
      refine GlH.by (fun t_ k_ => XS.iadd X.here hx rfl (hb hby at_239) rfl k_) ?_
      show GlH p e below Z own_EL sT h0 room_1.cells room_1.slots (fun v h L => v = some (.int 1) ∧ Fr n0 L) (T.setTop (mkF m 240 #[.val (.int p0), .val (.int p1), .val (.int p2), .val (.int (2 : Int32)), .val (.int (k0)), .val (.int (k1)), .val (.int (2 : Int32)), .val (.int (c0)), .val (.int (c1)), .val (.ref x1), .val (.ref x2), .val (.ref ex), .val (.ref mx), .val (.int (3 : Int32))] [(.int ((3 : Int32) + (2 : Int32))), (.ref mx)]))
      show GlH p e below Z own_EL sT h0 room_1.cells room_1.slots (fun v h L => v = some (.int 1) ∧ Fr n0 L) (T.setTop (mkF m 240 #[.val (.int p0), .val (.int p1), .val (.int p2), .val (.int (2 : Int32)), .val (.int (k0)), .val (.int (k1)), .val (.int (2 : Int32)), .val (.int (c0)), .val (.int (c1)), .val (.ref x1), .val (.ref x2), .val (.ref ex), .val (.ref mx), .val (.int (3 : Int32))] [(.int (5 : Int32)), (.ref mx)]))
      refine GlH.statS X hx hZ hown (hw _ (List.mem_of_getElem? (i := 260) rfl)) (hw _ (List.mem_of_getElem? (i := 261) rfl)) (hw _ (List.mem_of_getElem? (i := 6) rfl)) (hw _ (List.mem_of_getElem? (i := 262) rfl)) (by decide) (W := 0) B (backH (own_tail l Z a0 hw mx 5 ((([k0, k1] ++ [32]) ++ [c0, c1]) ++ own_TL) z fm h3 n0 SM (own_cs_tail [k0, k1] [c0, c1]) (by omega) Sf rf S hz O9) B hEL (fun _ q => by cases q) hZ (hw _ (List.mem_of_getElem? (i := 262) rfl)) (hw _ (List.mem_of_getElem? (i := 6) rfl)) (by decide) (by decide)) eT (hb hby at_240) (by rw [hml]; rfl) [(.ref mx), (.int (5 : Int32))] [] (lenOf pd_29 rfl) rfl rfl (Nat.le_of_eq rfl) (by decide) (by decide) ?_
      intro v T L s X B hZ hown CB hq
      obtain ⟨rfl, NQ, K12⟩ := hq
      have N := Fr.app N NQ
      obtain ⟨h12, eT⟩ : ∃ z, T.heap = z := ⟨_, rfl⟩
      rw [eT] at K12 B CB
      have sz12 := K12.1
      show GlH p e below Z own_EL sT h0 room_1.cells room_1.slots (fun v h L => v = some (.int 1) ∧ Fr n0 L) (T.setTop (mkF m 243 #[.val (.int p0), .val (.int p1), .val (.int p2), .val (.int (2 : Int32)), .val (.int (k0)), .val (.int (k1)), .val (.int (2 : Int32)), .val (.int (c0)), .val (.int (c1)), .val (.ref x1), .val (.ref x2), .val (.ref ex), .val (.ref mx), .val (.int (3 : Int32))] [(.int (1 : Int32))]))
      exact GlH.retZ X B eT hZ hEL hx hlk hret (by simp) (hb hby at_243) (by decide) (by decide) ⟨rfl, N⟩
set_option maxRecDepth 65536 in
set_option maxHeartbeats 40000000 in
theorem comes_1 {Post : Tables → Env → Array Value → State → Outcome → State → Prop} (hpost : ∀ tb e args s v u, (limb_1_1.after args s (.returned v) u = true ∧ limb_1_2.after args s (.returned v) u = true ∧ True) → ReturnedEndW s (.returned v) u (Jvm.fieldLocs frame_1_writes args s ++ Jvm.arrayLocs frame_1_arrays args s ++ Jvm.staticLocs frame_1_statics s) 48 9920 → Post tb e args s (.returned v) u) :
    ArmFor flags0 classFile x code maxLocals ret World_1 tables_1 room_1 Calls_1 rest_1 Pre_1 Post := by
  intro l hfl _ _ p e ha hc hk s m args below hf hA hF happ hP
  obtain ⟨hcalls, hrest, hpre⟩ := hP
  obtain ⟨-, -, -, hnamed, -, -, -, hat⟩ := (Spec.applies_iff hf).mp happ
  obtain ⟨hg, hn⟩ := and_e (Cond.before_iff.mp (show (Jvm.Cond.and given_1 narrow_1).before args s = true from hpre))
  obtain ⟨hcnt, u0⟩ := and_e hg
  obtain ⟨a0, u1⟩ := and_e u0
  obtain ⟨a1, u2⟩ := and_e u1
  obtain ⟨w0, w1, w2, rfl⟩ : ∃ w0 w1 w2 : Value, args = #[w0, w1, w2] := by
    have hs : args.size = 3 := by simpa [Cond.value, given_1] using hcnt
    obtain ⟨L⟩ := args
    match L, hs with
    | [w0, w1, w2], _ => exact ⟨w0, w1, w2, rfl⟩
  have hw := fun d (hd : d ∈ tables_1) => atoms_spec (ws := Jvm.Cond.code x code maxLocals ret :: tables_1) hat d (List.mem_cons_of_mem _ hd)
  obtain ⟨hsets, hown0⟩ := atoms_of _ (rest_1_c_eq ▸ (show rest_1_c.before _ s = true from hrest))
  have hfit : Fit s := fun {y c} hc i hi => by
    obtain ⟨ha, rfl⟩ := Array.getElem?_eq_some_iff.mp hc
    have q := List.all_eq_true.mp ((Array.all_eq_true_iff_forall_mem.mp hF) _ (Array.getElem_mem ha)) i (List.mem_range.mpr hi)
    simpa [Array.getElem?_eq_getElem hi] using q
  obtain ⟨p0, e0⟩ := is_v a0
  obtain rfl : w0 = (.int p0) := Option.some.inj e0
  obtain ⟨p1, e1⟩ := is_v a1
  obtain rfl : w1 = (.int p1) := Option.some.inj e1
  obtain ⟨p2, e2⟩ := is_v u2
  obtain rfl : w2 = (.int p2) := Option.some.inj e2
  have nz := not_v (Cond.before_iff.mp (hsets _ (List.mem_of_getElem? (i := 2) rfl)))
  obtain ⟨zc, ezc⟩ := is_v (Cond.before_iff.mp (hsets _ (List.mem_of_getElem? (i := 1) rfl)))
  have Szc : Sta s s.heap "java/lang/String" "COMPACT_STRINGS" "Z" (.int zc) := Sta.start ezc (Or.inl (hsets _ (List.mem_of_getElem? (i := 0) rfl)))
  have hzc : ¬ (zc = (0 : Int32)) := gotF (Cond.eq_ints ezc (Term.int_eval (0))) nz
  obtain ⟨vfm, efm, rfm⟩ := isR_v (Cond.before_iff.mp (hsets _ (List.mem_of_getElem? (i := 8) rfl)))
  have Sfm : Sta s s.heap "jdk/internal/util/Preconditions" "SIOOBE_FORMATTER" "Ljava/util/function/BiFunction;" vfm := Sta.start efm (Or.inl (hsets _ (List.mem_of_getElem? (i := 7) rfl)))
  obtain ⟨uv, euv, ruv⟩ := isR_v (Cond.before_iff.mp (hsets _ (List.mem_of_getElem? (i := 16) rfl)))
  have Suv : Sta s s.heap "java/lang/Throwable" "UNASSIGNED_STACK" "[Ljava/lang/StackTraceElement;" uv := Sta.start euv (Or.inl (hsets _ (List.mem_of_getElem? (i := 15) rfl)))
  obtain ⟨sv, esv, rsv⟩ := isR_v (Cond.before_iff.mp (hsets _ (List.mem_of_getElem? (i := 21) rfl)))
  have Ssv : Sta s s.heap "java/lang/Throwable" "SUPPRESSED_SENTINEL" "Ljava/util/List;" sv := Sta.start esv (Or.inl (hsets _ (List.mem_of_getElem? (i := 20) rfl)))
  have hst : l.stackTraces = true := by unfold Launch.stackTraces; rw [hfl]; decide
  obtain ⟨n, o, h1, h2, h3, _, L, rfl, ⟨rfl, N⟩, hC, hq⟩ := own_law l s _ hw tables_1 p0 p1 p2 zc vfm uv sv s.heap s.heap.size (Nat.le_refl _) hst Suv ruv Ssv rsv Sfm rfm Szc hzc (Old.start s) p e ha hc hk s m _ below hf ((Spec.applies_iff_loose hf).mp happ).1 ⟨rfl, State.Warmed39.refl s, rfl, CHv.start (own_ew hw) (fun p hp => hcalls.2.2.1 p hp) (hsets _ (List.mem_of_getElem? (i := 2) rfl)) (hw _ (List.mem_of_getElem? (i := 27) rfl)) (hw _ (List.mem_of_getElem? (i := 9) rfl))⟩ ⟨MethodsKnown_of_tablesKnown hcalls.2.1, FramesKnown_of_framesKnown hcalls.1 hf⟩
  refine ⟨n, _, h1, h2, h3, hpost _ _ _ _ _ _ ⟨Cond.after_iff.mpr rfl, Cond.after_iff.mpr (eq_i res_at (Term.int_eval (1)) rfl), trivial⟩ ⟨hq.1, hq.2.1, hq.2.2.1, (hq.2.2.2.sift fun y hy => Or.inr (N y hy)).mono (by decide) (by decide)⟩⟩
theorem main_1_1 : Claimed_1_1 := comes_1 fun _ _ _ _ _ _ h hF => ⟨h.1, hF⟩
theorem main_1_2 : Claimed_1_2 := comes_1 fun _ _ _ _ _ _ h hF => ⟨h.2.1, hF⟩
end Jvm.Pilot.@@N@@
namespace Jvm.Pilot.@@N@@
open Jvm Jvm.ClassFile Sem Op Lib Jvm.Free Jvm.Stand Jvm.Pilot.@@N@@.Jvm.D
/-! MADE BY PROGRAM (witnessworld.py) out of the Statement's table words and the real class files: 42 classes; the members and pool entries that the words name. The judged class is class 1, her method 3. -/
namespace start1
open Jvm.ClassFile
def u (s : String) : CpInfo := .utf8 (stringToUtf16 s)
/-- a pool by its gaps: so many unusable entries, then the entry; so many at the end -/
def gap : Nat → List CpInfo → List CpInfo
  | 0, r => r
  | n + 1, r => .unusable :: gap n r
def poolList (es : List (Nat × CpInfo)) (last : Nat) : List CpInfo := es.foldr (fun e r => gap e.1 (e.2 :: r)) (gap last [])
def pool (es : List (Nat × CpInfo)) (last : Nat) : Array CpInfo := ⟨poolList es last⟩
def fileOf (pool : Array CpInfo) (this : Nat) (attrs : Array Attribute := #[]) (ms : Array MethodInfo := #[]) (fl : Nat := 33) (sup : Nat := 0) (ifs : Array Nat := #[]) (fds : Array FieldInfo := #[]) : ClassFile where
  minorVersion := 0
  majorVersion := 65
  constantPool := pool
  accessFlags := fl
  thisClass := this
  superClass := sup
  interfaces := ifs
  fields := fds
  methods := ms
  attributes := attrs
def plain (name : String) (sup : Option ClassId) : Class where
  name := name
  kind := .ordinary
  loader := none
  accessFlags := 33
  super := sup
  interfaces := #[]
  cf := none
  fields := #[]
  methods := #[]
  instanceTypes := #[]
  staticTypes := #[]
  resolved := #[]
  callSites := []
  init := .initialized
  statics := none
  mirror := none

def pool0 : Array CpInfo := pool [(5, u "<init>"), (0, u "()V"), (1, .class_ 10), (1, u "java/lang/Object")] 113

def k0c0 : Code := { maxStack := 0, maxLocals := 1, code := object_method_1_code, exceptionTable := #[], attributes := #[] }
def k0m0 : Method := { name := "<init>", desc := "()V", sig := { parameters := [], returnType := none }, accessFlags := 1, code := some k0c0 }
/-- java/lang/Object -/
def k0 : Class := { plain "java/lang/Object" none with
  accessFlags := 33
  interfaces := #[]
  cf := some (fileOf pool0 8 #[] #[{ accessFlags := 1, nameIndex := 5, descriptorIndex := 6, attributes := #[] }] 33 0 #[] #[])
  fields := #[]
  methods := #[k0m0]
  instanceTypes := #[]
  staticTypes := #[]
  resolved := Array.replicate 124 none
  statics := none }

def pool1 : Array CpInfo := pool [(2, .class_ 4), (1, u "java/lang/Object"), (0, u "<init>"), (0, u "()V"), (0, .class_ 8), (0, u "java/lang/String"), (0, .methodref 7 10), (0, .nameAndType 5 11), (0, u "([C)V"), (0, .methodref 7 13), (0, .nameAndType 14 15), (0, u "valueOf"), (0, u "(C)Ljava/lang/String;"), (0, .string 17), (0, u " is not declared"), (0, .methodref 7 19), (0, .nameAndType 20 21), (0, u "length"), (0, u "()I"), (0, .methodref 7 23), (0, .nameAndType 24 25), (0, u "charAt"), (0, u "(I)C"), (0, .methodref 27 28), (0, .class_ 29), (0, .nameAndType 30 31), (0, u "java/lang/Math"), (0, u "min"), (0, u "(II)I"), (0, .methodref 33 34), (0, .class_ 35), (0, .nameAndType 36 37), (0, u "com/example/intentio/intentio/hddl/DeclarationsNotDeclaredPinLaw"), (0, u "mk"), (0, u "(ICC)Ljava/lang/String;"), (0, .methodref 39 40), (0, .class_ 41), (0, .nameAndType 42 43), (0, u "com/example/intentio/intentio/hddl/Declarations"), (0, u "notDeclared"), (0, u "(ILjava/lang/String;Ljava/lang/String;)Lcom/example/intentio/intentio/hddl/HddlException;"), (0, .methodref 45 46), (0, .class_ 47), (0, .nameAndType 48 21), (0, u "com/example/intentio/intentio/hddl/HddlException"), (0, u "line"), (0, .methodref 45 50), (0, .nameAndType 51 52), (0, u "getMessage"), (0, u "()Ljava/lang/String;"), (0, .methodref 33 54), (0, .nameAndType 55 56), (0, u "tail"), (0, u "(Ljava/lang/String;I)Z"), (3, u "law"), (0, u "(III)Z")] 2

def k1m0 : Method := { name := "<init>", desc := "()V", sig := { parameters := [], returnType := none }, accessFlags := 2, code := none }
def k1c1 : Code := { maxStack := 6, maxLocals := 3, code := method_2_code, exceptionTable := #[], attributes := #[] }
def k1m1 : Method := { name := "mk", desc := "(ICC)Ljava/lang/String;", sig := { parameters := [.int, .char, .char], returnType := some (.object "java/lang/String") }, accessFlags := 10, code := some k1c1 }
def k1c2 : Code := { maxStack := 3, maxLocals := 3, code := method_3_code, exceptionTable := #[], attributes := #[] }
def k1m2 : Method := { name := "tail", desc := "(Ljava/lang/String;I)Z", sig := { parameters := [(.object "java/lang/String"), .int], returnType := some .boolean }, accessFlags := 10, code := some k1c2 }
def k1c3 : Code := { maxStack := 3, maxLocals := 14, code := code, exceptionTable := #[], attributes := #[] }
def k1m3 : Method := { name := "law", desc := "(III)Z", sig := { parameters := [.int, .int, .int], returnType := some .boolean }, accessFlags := 9, code := some k1c3 }
/-- com/example/intentio/intentio/hddl/DeclarationsNotDeclaredPinLaw -/
def k1 : Class := { plain "com/example/intentio/intentio/hddl/DeclarationsNotDeclaredPinLaw" (some 0) with
  accessFlags := 49
  interfaces := #[]
  cf := some (fileOf pool1 33 #[] #[{ accessFlags := 2, nameIndex := 5, descriptorIndex := 6, attributes := #[] }, { accessFlags := 10, nameIndex := 36, descriptorIndex := 37, attributes := #[] }, { accessFlags := 10, nameIndex := 55, descriptorIndex := 56, attributes := #[] }, { accessFlags := 9, nameIndex := 60, descriptorIndex := 61, attributes := #[] }] 49 2 #[] #[])
  fields := #[]
  methods := #[k1m0, k1m1, k1m2, k1m3]
  instanceTypes := #[]
  staticTypes := #[]
  resolved := Array.replicate 64 none
  statics := none }

def pool2 : Array CpInfo := pool [(1, .class_ 2), (0, u "java/lang/Math"), (1, .class_ 6), (1, u "java/lang/Object"), (0, u "<init>"), (0, u "()V"), (89, .class_ 100), (1, u "java/lang/Math$RandomNumberGeneratorHolder"), (71, u "negativeZeroFloatBits"), (0, u "J"), (2, u "negativeZeroDoubleBits"), (21, u "max"), (2, u "min"), (43, u "$assertionsDisabled"), (0, u "Z"), (88, u "(II)I"), (2, u "twoToTheDoubleScaleDown"), (0, u "D"), (4, u "twoToTheDoubleScaleUp"), (9, u "E"), (3, u "PI"), (2, u "TAU"), (2, u "DEGREES_TO_RADIANS"), (0, u "RADIANS_TO_DEGREES")] 94

def k2m0 : Method := { name := "<init>", desc := "()V", sig := { parameters := [], returnType := none }, accessFlags := 2, code := none }
def k2c1 : Code := { maxStack := 2, maxLocals := 2, code := jdk_29_method_65_code, exceptionTable := #[], attributes := #[] }
def k2m1 : Method := { name := "max", desc := "(II)I", sig := { parameters := [.int, .int], returnType := some .int }, accessFlags := 9, code := some k2c1 }
def k2c2 : Code := { maxStack := 2, maxLocals := 2, code := jdk_29_method_69_code, exceptionTable := #[], attributes := #[] }
def k2m2 : Method := { name := "min", desc := "(II)I", sig := { parameters := [.int, .int], returnType := some .int }, accessFlags := 9, code := some k2c2 }
/-- java/lang/Math -/
def k2 : Class := { plain "java/lang/Math" (some 0) with
  accessFlags := 49
  interfaces := #[]
  cf := some (fileOf pool2 1 #[.nestMembers #[98]] #[{ accessFlags := 2, nameIndex := 7, descriptorIndex := 8, attributes := #[] }, { accessFlags := 9, nameIndex := 198, descriptorIndex := 335, attributes := #[] }, { accessFlags := 9, nameIndex := 201, descriptorIndex := 335, attributes := #[] }] 49 4 #[] #[{ accessFlags := 25, nameIndex := 354, descriptorIndex := 339, attributes := #[] }, { accessFlags := 25, nameIndex := 358, descriptorIndex := 339, attributes := #[] }, { accessFlags := 25, nameIndex := 361, descriptorIndex := 339, attributes := #[] }, { accessFlags := 26, nameIndex := 364, descriptorIndex := 339, attributes := #[] }, { accessFlags := 26, nameIndex := 365, descriptorIndex := 339, attributes := #[] }, { accessFlags := 26, nameIndex := 172, descriptorIndex := 173, attributes := #[] }, { accessFlags := 26, nameIndex := 176, descriptorIndex := 173, attributes := #[] }, { accessFlags := 8, nameIndex := 344, descriptorIndex := 339, attributes := #[] }, { accessFlags := 8, nameIndex := 338, descriptorIndex := 339, attributes := #[] }, { accessFlags := 4120, nameIndex := 245, descriptorIndex := 246, attributes := #[] }])
  fields := #[{ name := "E", type := .double, accessFlags := 25, slot := 0, constantValue := 0 }, { name := "PI", type := .double, accessFlags := 25, slot := 1, constantValue := 0 }, { name := "TAU", type := .double, accessFlags := 25, slot := 2, constantValue := 0 }, { name := "DEGREES_TO_RADIANS", type := .double, accessFlags := 26, slot := 3, constantValue := 0 }, { name := "RADIANS_TO_DEGREES", type := .double, accessFlags := 26, slot := 4, constantValue := 0 }, { name := "negativeZeroFloatBits", type := .long, accessFlags := 26, slot := 5, constantValue := 0 }, { name := "negativeZeroDoubleBits", type := .long, accessFlags := 26, slot := 6, constantValue := 0 }, { name := "twoToTheDoubleScaleUp", type := .double, accessFlags := 8, slot := 7, constantValue := 0 }, { name := "twoToTheDoubleScaleDown", type := .double, accessFlags := 8, slot := 8, constantValue := 0 }, { name := "$assertionsDisabled", type := .boolean, accessFlags := 4120, slot := 9, constantValue := 0 }]
  methods := #[k2m0, k2m1, k2m2]
  instanceTypes := #[]
  staticTypes := #[.double, .double, .double, .double, .double, .long, .long, .double, .double, .boolean]
  resolved := Array.replicate 460 none
  statics := none }

def pool3 : Array CpInfo := pool [(1, .class_ 2), (0, u "java/io/Serializable"), (0, .class_ 4), (0, u "java/lang/Object")] 2

/-- java/io/Serializable -/
def k3 : Class := { plain "java/io/Serializable" (some 0) with
  accessFlags := 1537
  interfaces := #[]
  cf := some (fileOf pool3 1 #[] #[] 1537 3 #[] #[])
  fields := #[]
  methods := #[]
  instanceTypes := #[]
  staticTypes := #[]
  resolved := Array.replicate 7 none
  statics := none }

def pool4 : Array CpInfo := pool [(1, .class_ 2), (0, u "java/lang/Comparable"), (0, .class_ 4), (0, u "java/lang/Object")] 7

/-- java/lang/Comparable -/
def k4 : Class := { plain "java/lang/Comparable" (some 0) with
  accessFlags := 1537
  interfaces := #[]
  cf := some (fileOf pool4 1 #[] #[] 1537 3 #[] #[])
  fields := #[]
  methods := #[]
  instanceTypes := #[]
  staticTypes := #[]
  resolved := Array.replicate 12 none
  statics := none }

def pool5 : Array CpInfo := pool [(2, .class_ 4), (1, u "java/lang/CharSequence"), (42, .class_ 48), (0, u "java/lang/CharSequence$1CodePointIterator"), (10, .class_ 60), (0, u "java/lang/CharSequence$1CharIterator"), (5, .class_ 67), (0, u "java/lang/Object")] 63

/-- java/lang/CharSequence -/
def k5 : Class := { plain "java/lang/CharSequence" (some 0) with
  accessFlags := 1537
  interfaces := #[]
  cf := some (fileOf pool5 2 #[.nestMembers #[47, 59]] #[] 1537 66 #[] #[])
  fields := #[]
  methods := #[]
  instanceTypes := #[]
  staticTypes := #[]
  resolved := Array.replicate 131 none
  statics := none }

def pool6 : Array CpInfo := pool [(1, .class_ 2), (0, u "java/lang/constant/Constable"), (0, .class_ 4), (0, u "java/lang/Object")] 6

/-- java/lang/constant/Constable -/
def k6 : Class := { plain "java/lang/constant/Constable" (some 0) with
  accessFlags := 1537
  interfaces := #[]
  cf := some (fileOf pool6 1 #[] #[] 1537 3 #[] #[])
  fields := #[]
  methods := #[]
  instanceTypes := #[]
  staticTypes := #[]
  resolved := Array.replicate 11 none
  statics := none }

def pool7 : Array CpInfo := pool [(1, .class_ 2), (0, u "java/lang/constant/ConstantDesc"), (0, .class_ 4), (0, u "java/lang/Object")] 32

/-- java/lang/constant/ConstantDesc -/
def k7 : Class := { plain "java/lang/constant/ConstantDesc" (some 0) with
  accessFlags := 1537
  interfaces := #[]
  cf := some (fileOf pool7 1 #[] #[] 1537 3 #[] #[])
  fields := #[]
  methods := #[]
  instanceTypes := #[]
  staticTypes := #[]
  resolved := Array.replicate 37 none
  statics := none }

def pool8 : Array CpInfo := pool [(1, .methodref 2 3), (0, .class_ 4), (0, .nameAndType 5 6), (0, u "java/lang/Object"), (0, u "<init>"), (0, u "()V"), (0, .string 8), (0, u ""), (0, .fieldref 10 11), (0, .class_ 12), (0, .nameAndType 13 14), (0, u "java/lang/String"), (0, u "value"), (0, u "[B"), (0, .fieldref 10 16), (0, .nameAndType 17 18), (0, u "coder"), (0, u "B"), (2, u "hash"), (0, u "I"), (2, u "hashIsZero"), (0, u "Z"), (0, .methodref 10 28), (0, .nameAndType 5 29), (0, u "([CIILjava/lang/Void;)V"), (8, .fieldref 10 39), (0, .nameAndType 40 26), (0, u "COMPACT_STRINGS"), (1, .class_ 44), (1, u "java/lang/StringUTF16"), (0, u "compress"), (1, .methodref 42 48), (0, .nameAndType 49 50), (0, u "coderFromArrayLen"), (0, u "([BI)B"), (2, u "toBytes"), (0, .methodref 55 56), (0, .class_ 57), (0, .nameAndType 58 59), (0, u "java/util/Arrays"), (0, u "copyOfRange"), (0, u "([BII)[B"), (47, .class_ 109), (1, u "java/lang/StringLatin1"), (32, u "()Z"), (34, .methodref 42 178), (0, .nameAndType 45 179), (0, u "([CII)[B"), (13, .class_ 195), (1, u "java/lang/System"), (13, .methodref 10 210), (0, .nameAndType 5 211), (0, u "([BB)V"), (0, .methodref 193 213), (0, .nameAndType 214 215), (0, u "arraycopy"), (0, u "(Ljava/lang/Object;ILjava/lang/Object;II)V"), (118, u "()I"), (0, .methodref 10 336), (0, .nameAndType 17 337), (0, u "()B"), (2, u "()[B"), (22, u "([BI)C"), (5, u "(C)Z"), (21, u "(II)V"), (35, u "(I)C"), (61, .methodref 10 490), (0, .nameAndType 5 491), (0, u "(Ljava/lang/AbstractStringBuilder;Ljava/lang/Void;)V"), (0, .methodref 10 493), (0, .nameAndType 494 142), (0, u "isLatin1"), (0, .methodref 107 496), (0, .nameAndType 497 363), (0, u "charAt"), (3, u "checkIndex"), (4, .nameAndType 507 334), (0, u "length"), (24, u "getBytes"), (16, .methodref 550 506), (0, .class_ 551), (0, u "java/lang/AbstractStringBuilder"), (0, .methodref 550 553), (0, .nameAndType 554 340), (0, u "getValue"), (20, .class_ 576), (0, u "java/lang/CharSequence"), (22, u "CASE_INSENSITIVE_ORDER"), (0, u "Ljava/util/Comparator;"), (181, u "valueOf"), (0, u "(C)Ljava/lang/String;"), (37, u "([BIB)V"), (188, u "([C)V"), (4, .methodref 107 1016), (0, .nameAndType 1017 369), (0, u "canEncode"), (0, .methodref 107 1019), (0, .nameAndType 53 1020), (0, u "(C)[B"), (26, .methodref 550 493), (5, .fieldref 1054 1055), (0, .class_ 1056), (0, .nameAndType 1057 1058), (0, u "jdk/internal/util/Preconditions"), (0, u "SIOOBE_FORMATTER"), (0, u "Ljava/util/function/BiFunction;"), (0, .methodref 1054 1060), (0, .nameAndType 501 1061), (0, u "(IILjava/util/function/BiFunction;)I"), (39, u "serialPersistentFields"), (0, u "[Ljava/io/ObjectStreamField;"), (0, .class_ 1104), (0, u "java/lang/String$CaseInsensitiveComparator"), (1, .class_ 1107), (0, u "java/io/Serializable"), (0, .class_ 1109), (0, u "java/lang/Comparable"), (0, .class_ 1111), (0, u "java/lang/constant/Constable"), (0, .class_ 1113), (0, u "java/lang/constant/ConstantDesc"), (2, u "serialVersionUID"), (0, u "J"), (3, u "REPL"), (0, u "C"), (2, u "LATIN1"), (1, u "UTF16"), (105, u "(Ljava/lang/StringBuilder;)V")] 217

def k8m0 : Method := { name := "<init>", desc := "()V", sig := { parameters := [], returnType := none }, accessFlags := 1, code := none }
def k8c1 : Code := { maxStack := 5, maxLocals := 2, code := jdk_42_method_3_code, exceptionTable := #[], attributes := #[] }
def k8m1 : Method := { name := "<init>", desc := "([C)V", sig := { parameters := [(.array .char)], returnType := none }, accessFlags := 1, code := some k8c1 }
def k8c2 : Code := { maxStack := 3, maxLocals := 2, code := jdk_42_method_53_code, exceptionTable := #[], attributes := #[] }
def k8m2 : Method := { name := "<init>", desc := "(Ljava/lang/StringBuilder;)V", sig := { parameters := [(.object "java/lang/StringBuilder")], returnType := none }, accessFlags := 1, code := some k8c2 }
def k8c3 : Code := { maxStack := 2, maxLocals := 1, code := jdk_42_method_54_code, exceptionTable := #[], attributes := #[] }
def k8m3 : Method := { name := "length", desc := "()I", sig := { parameters := [], returnType := some .int }, accessFlags := 1, code := some k8c3 }
def k8c4 : Code := { maxStack := 2, maxLocals := 2, code := jdk_42_method_56_code, exceptionTable := #[], attributes := #[] }
def k8m4 : Method := { name := "charAt", desc := "(I)C", sig := { parameters := [.int], returnType := some .char }, accessFlags := 1, code := some k8c4 }
def k8c5 : Code := { maxStack := 4, maxLocals := 1, code := jdk_42_method_139_code, exceptionTable := #[], attributes := #[] }
def k8m5 : Method := { name := "valueOf", desc := "(C)Ljava/lang/String;", sig := { parameters := [.char], returnType := some (.object "java/lang/String") }, accessFlags := 9, code := some k8c5 }
def k8c6 : Code := { maxStack := 5, maxLocals := 4, code := jdk_42_method_147_code, exceptionTable := #[], attributes := #[] }
def k8m6 : Method := { name := "getBytes", desc := "([BIB)V", sig := { parameters := [(.array .byte), .int, .byte], returnType := none }, accessFlags := 0, code := some k8c6 }
def k8c7 : Code := { maxStack := 4, maxLocals := 6, code := jdk_42_method_149_code, exceptionTable := #[], attributes := #[] }
def k8m7 : Method := { name := "<init>", desc := "([CIILjava/lang/Void;)V", sig := { parameters := [(.array .char), .int, .int, (.object "java/lang/Void")], returnType := none }, accessFlags := 2, code := some k8c7 }
def k8c8 : Code := { maxStack := 5, maxLocals := 5, code := jdk_42_method_150_code, exceptionTable := #[], attributes := #[] }
def k8m8 : Method := { name := "<init>", desc := "(Ljava/lang/AbstractStringBuilder;Ljava/lang/Void;)V", sig := { parameters := [(.object "java/lang/AbstractStringBuilder"), (.object "java/lang/Void")], returnType := none }, accessFlags := 0, code := some k8c8 }
def k8c9 : Code := { maxStack := 2, maxLocals := 3, code := jdk_42_method_151_code, exceptionTable := #[], attributes := #[] }
def k8m9 : Method := { name := "<init>", desc := "([BB)V", sig := { parameters := [(.array .byte), .byte], returnType := none }, accessFlags := 0, code := some k8c9 }
def k8c10 : Code := { maxStack := 1, maxLocals := 1, code := jdk_42_method_152_code, exceptionTable := #[], attributes := #[] }
def k8m10 : Method := { name := "coder", desc := "()B", sig := { parameters := [], returnType := some .byte }, accessFlags := 0, code := some k8c10 }
def k8c11 : Code := { maxStack := 1, maxLocals := 1, code := jdk_42_method_154_code, exceptionTable := #[], attributes := #[] }
def k8m11 : Method := { name := "isLatin1", desc := "()Z", sig := { parameters := [], returnType := some .boolean }, accessFlags := 0, code := some k8c11 }
def k8c12 : Code := { maxStack := 3, maxLocals := 2, code := jdk_42_method_155_code, exceptionTable := #[], attributes := #[] }
def k8m12 : Method := { name := "checkIndex", desc := "(II)V", sig := { parameters := [.int, .int], returnType := none }, accessFlags := 8, code := some k8c12 }
/-- java/lang/String -/
def k8 : Class := { plain "java/lang/String" (some 0) with
  accessFlags := 49
  interfaces := #[3, 4, 5, 6, 7]
  cf := some (fileOf pool8 10 #[.nestMembers #[1103]] #[{ accessFlags := 1, nameIndex := 5, descriptorIndex := 6, attributes := #[] }, { accessFlags := 1, nameIndex := 5, descriptorIndex := 1010, attributes := #[] }, { accessFlags := 1, nameIndex := 5, descriptorIndex := 1233, attributes := #[] }, { accessFlags := 1, nameIndex := 507, descriptorIndex := 334, attributes := #[] }, { accessFlags := 1, nameIndex := 497, descriptorIndex := 427, attributes := #[] }, { accessFlags := 9, nameIndex := 782, descriptorIndex := 783, attributes := #[] }, { accessFlags := 0, nameIndex := 532, descriptorIndex := 821, attributes := #[] }, { accessFlags := 2, nameIndex := 5, descriptorIndex := 29, attributes := #[] }, { accessFlags := 0, nameIndex := 5, descriptorIndex := 491, attributes := #[] }, { accessFlags := 0, nameIndex := 5, descriptorIndex := 211, attributes := #[] }, { accessFlags := 0, nameIndex := 17, descriptorIndex := 337, attributes := #[] }, { accessFlags := 0, nameIndex := 494, descriptorIndex := 142, attributes := #[] }, { accessFlags := 8, nameIndex := 501, descriptorIndex := 391, attributes := #[] }] 49 2 #[1106, 1108, 575, 1110, 1112] #[{ accessFlags := 18, nameIndex := 13, descriptorIndex := 14, attributes := #[] }, { accessFlags := 18, nameIndex := 17, descriptorIndex := 18, attributes := #[] }, { accessFlags := 2, nameIndex := 21, descriptorIndex := 22, attributes := #[] }, { accessFlags := 2, nameIndex := 25, descriptorIndex := 26, attributes := #[] }, { accessFlags := 26, nameIndex := 1116, descriptorIndex := 1117, attributes := #[] }, { accessFlags := 24, nameIndex := 40, descriptorIndex := 26, attributes := #[] }, { accessFlags := 26, nameIndex := 1101, descriptorIndex := 1102, attributes := #[] }, { accessFlags := 26, nameIndex := 1121, descriptorIndex := 1122, attributes := #[] }, { accessFlags := 25, nameIndex := 599, descriptorIndex := 600, attributes := #[] }, { accessFlags := 24, nameIndex := 1125, descriptorIndex := 18, attributes := #[] }, { accessFlags := 24, nameIndex := 1127, descriptorIndex := 18, attributes := #[] }])
  fields := #[{ name := "value", type := (.array .byte), accessFlags := 18, slot := 0, constantValue := 0 }, { name := "coder", type := .byte, accessFlags := 18, slot := 1, constantValue := 0 }, { name := "hash", type := .int, accessFlags := 2, slot := 2, constantValue := 0 }, { name := "hashIsZero", type := .boolean, accessFlags := 2, slot := 3, constantValue := 0 }, { name := "serialVersionUID", type := .long, accessFlags := 26, slot := 0, constantValue := 0 }, { name := "COMPACT_STRINGS", type := .boolean, accessFlags := 24, slot := 1, constantValue := 0 }, { name := "serialPersistentFields", type := (.array (.object "java/io/ObjectStreamField")), accessFlags := 26, slot := 2, constantValue := 0 }, { name := "REPL", type := .char, accessFlags := 26, slot := 3, constantValue := 0 }, { name := "CASE_INSENSITIVE_ORDER", type := (.object "java/util/Comparator"), accessFlags := 25, slot := 4, constantValue := 0 }, { name := "LATIN1", type := .byte, accessFlags := 24, slot := 5, constantValue := 0 }, { name := "UTF16", type := .byte, accessFlags := 24, slot := 6, constantValue := 0 }]
  methods := #[k8m0, k8m1, k8m2, k8m3, k8m4, k8m5, k8m6, k8m7, k8m8, k8m9, k8m10, k8m11, k8m12]
  instanceTypes := #[(.array .byte), .byte, .int, .boolean]
  staticTypes := #[.long, .boolean, (.array (.object "java/io/ObjectStreamField")), .char, (.object "java/util/Comparator"), .byte, .byte]
  resolved := Array.replicate 1451 none
  statics := some 0 }

def pool9 : Array CpInfo := pool [(6, .class_ 8), (1, u "java/lang/Object"), (0, u "<init>"), (0, u "()V"), (1, .class_ 14), (1, u "java/lang/StringUTF16"), (31, u "$assertionsDisabled"), (0, u "Z"), (13, u "HI_BYTE_SHIFT"), (0, u "I"), (2, u "LO_BYTE_SHIFT"), (49, .methodref 12 116), (0, .nameAndType 117 118), (0, u "compress"), (0, u "([CI[BII)I"), (3, u "([CII)[B"), (138, u "coderFromArrayLen"), (0, u "([BI)B"), (106, .class_ 371), (1, u "java/lang/StringUTF16$LinesSpliterator"), (58, u "MAX_LENGTH"), (196, .class_ 628), (0, u "java/lang/StringUTF16$CodePointsSpliterator"), (0, .class_ 630), (0, u "java/lang/StringUTF16$CharsSpliterator")] 4

def k9m0 : Method := { name := "<init>", desc := "()V", sig := { parameters := [], returnType := none }, accessFlags := 0, code := none }
def k9c1 : Code := { maxStack := 2, maxLocals := 2, code := jdk_52_method_15_code, exceptionTable := #[], attributes := #[] }
def k9m1 : Method := { name := "coderFromArrayLen", desc := "([BI)B", sig := { parameters := [(.array .byte), .int], returnType := some .byte }, accessFlags := 8, code := some k9c1 }
def k9c2 : Code := { maxStack := 5, maxLocals := 6, code := jdk_52_method_16_code, exceptionTable := #[], attributes := #[] }
def k9m2 : Method := { name := "compress", desc := "([CII)[B", sig := { parameters := [(.array .char), .int, .int], returnType := some (.array .byte) }, accessFlags := 9, code := some k9c2 }
def k9c3 : Code := { maxStack := 3, maxLocals := 7, code := jdk_52_method_21_code, exceptionTable := #[], attributes := #[] }
def k9m3 : Method := { name := "compress", desc := "([CI[BII)I", sig := { parameters := [(.array .char), .int, (.array .byte), .int, .int], returnType := some .int }, accessFlags := 9, code := some k9c3 }
/-- java/lang/StringUTF16 -/
def k9 : Class := { plain "java/lang/StringUTF16" (some 0) with
  accessFlags := 48
  interfaces := #[]
  cf := some (fileOf pool9 12 #[.nestMembers #[627, 629, 369]] #[{ accessFlags := 0, nameIndex := 9, descriptorIndex := 10, attributes := #[] }, { accessFlags := 8, nameIndex := 261, descriptorIndex := 262, attributes := #[] }, { accessFlags := 9, nameIndex := 117, descriptorIndex := 122, attributes := #[] }, { accessFlags := 9, nameIndex := 117, descriptorIndex := 118, attributes := #[] }] 48 6 #[] #[{ accessFlags := 26, nameIndex := 61, descriptorIndex := 62, attributes := #[] }, { accessFlags := 26, nameIndex := 65, descriptorIndex := 62, attributes := #[] }, { accessFlags := 24, nameIndex := 430, descriptorIndex := 62, attributes := #[] }, { accessFlags := 4120, nameIndex := 46, descriptorIndex := 47, attributes := #[] }])
  fields := #[{ name := "HI_BYTE_SHIFT", type := .int, accessFlags := 26, slot := 0, constantValue := 0 }, { name := "LO_BYTE_SHIFT", type := .int, accessFlags := 26, slot := 1, constantValue := 0 }, { name := "MAX_LENGTH", type := .int, accessFlags := 24, slot := 2, constantValue := 0 }, { name := "$assertionsDisabled", type := .boolean, accessFlags := 4120, slot := 3, constantValue := 0 }]
  methods := #[k9m0, k9m1, k9m2, k9m3]
  instanceTypes := #[]
  staticTypes := #[.int, .int, .int, .boolean]
  resolved := Array.replicate 635 none
  statics := none }

def pool10 : Array CpInfo := pool [(2, .class_ 4), (0, .nameAndType 5 6), (0, u "java/lang/Object"), (0, u "<init>"), (0, u "()V"), (11, u "()Ljava/lang/String;"), (10, .class_ 31), (1, u "com/example/intentio/intentio/hddl/Declarations"), (0, u "types"), (0, u "Ljava/util/Map;"), (5, u "constants"), (0, u "Lcom/example/intentio/intentio/hddl/NameTable;"), (3, u "predicates"), (2, u "tasks"), (2, u "actions"), (2, u "constantsInAnyCase"), (0, u "Z"), (122, .class_ 178), (0, u "com/example/intentio/intentio/hddl/HddlException"), (6, .methodref 177 186), (0, .nameAndType 5 187), (0, u "(ILjava/lang/String;)V"), (6, .class_ 195), (0, u "java/lang/StringBuilder"), (0, .methodref 194 3), (2, .methodref 194 200), (0, .nameAndType 201 202), (0, u "append"), (0, u "(Ljava/lang/String;)Ljava/lang/StringBuilder;"), (0, .methodref 194 204), (0, .nameAndType 205 18), (0, u "toString"), (34, u "notDeclared"), (0, u "(ILjava/lang/String;Ljava/lang/String;)Lcom/example/intentio/intentio/hddl/HddlException;"), (2, u "TRUE"), (0, u "Lcom/example/intentio/intentio/hddl/Formula;"), (111, u "LOGICAL_KEYWORDS"), (0, u "Ljava/util/Set;"), (31, u "SUBTASK_KEYS"), (0, u "Ljava/util/List;"), (8, u "ORDERED_KEYS"), (2, .class_ 404), (0, u "com/example/intentio/intentio/hddl/Declarations$Subtasks"), (89, .string 495), (0, u " "), (0, .string 497), (0, u " is not declared"), (19, u "EXPECTED_STEP"), (0, u "Ljava/lang/String;"), (1, u "EXPECTED_ORDER")] 70

def k10m0 : Method := { name := "<init>", desc := "()V", sig := { parameters := [], returnType := none }, accessFlags := 0, code := none }
def k10c1 : Code := { maxStack := 5, maxLocals := 3, code := prog_46_method_29_code, exceptionTable := #[], attributes := #[] }
def k10m1 : Method := { name := "notDeclared", desc := "(ILjava/lang/String;Ljava/lang/String;)Lcom/example/intentio/intentio/hddl/HddlException;", sig := { parameters := [.int, (.object "java/lang/String"), (.object "java/lang/String")], returnType := some (.object "com/example/intentio/intentio/hddl/HddlException") }, accessFlags := 8, code := some k10c1 }
/-- com/example/intentio/intentio/hddl/Declarations -/
def k10 : Class := { plain "com/example/intentio/intentio/hddl/Declarations" (some 0) with
  accessFlags := 48
  interfaces := #[]
  cf := some (fileOf pool10 29 #[.nestMembers #[403]] #[{ accessFlags := 0, nameIndex := 5, descriptorIndex := 6, attributes := #[] }, { accessFlags := 8, nameIndex := 240, descriptorIndex := 241, attributes := #[] }] 48 2 #[] #[{ accessFlags := 26, nameIndex := 517, descriptorIndex := 518, attributes := #[] }, { accessFlags := 26, nameIndex := 520, descriptorIndex := 518, attributes := #[] }, { accessFlags := 26, nameIndex := 357, descriptorIndex := 358, attributes := #[] }, { accessFlags := 24, nameIndex := 390, descriptorIndex := 391, attributes := #[] }, { accessFlags := 26, nameIndex := 400, descriptorIndex := 358, attributes := #[] }, { accessFlags := 26, nameIndex := 244, descriptorIndex := 245, attributes := #[] }, { accessFlags := 18, nameIndex := 32, descriptorIndex := 33, attributes := #[] }, { accessFlags := 18, nameIndex := 39, descriptorIndex := 40, attributes := #[] }, { accessFlags := 18, nameIndex := 44, descriptorIndex := 33, attributes := #[] }, { accessFlags := 18, nameIndex := 47, descriptorIndex := 33, attributes := #[] }, { accessFlags := 18, nameIndex := 50, descriptorIndex := 33, attributes := #[] }, { accessFlags := 18, nameIndex := 53, descriptorIndex := 54, attributes := #[] }])
  fields := #[{ name := "EXPECTED_STEP", type := (.object "java/lang/String"), accessFlags := 26, slot := 0, constantValue := 0 }, { name := "EXPECTED_ORDER", type := (.object "java/lang/String"), accessFlags := 26, slot := 1, constantValue := 0 }, { name := "LOGICAL_KEYWORDS", type := (.object "java/util/Set"), accessFlags := 26, slot := 2, constantValue := 0 }, { name := "SUBTASK_KEYS", type := (.object "java/util/List"), accessFlags := 24, slot := 3, constantValue := 0 }, { name := "ORDERED_KEYS", type := (.object "java/util/Set"), accessFlags := 26, slot := 4, constantValue := 0 }, { name := "TRUE", type := (.object "com/example/intentio/intentio/hddl/Formula"), accessFlags := 26, slot := 5, constantValue := 0 }, { name := "types", type := (.object "java/util/Map"), accessFlags := 18, slot := 0, constantValue := 0 }, { name := "constants", type := (.object "com/example/intentio/intentio/hddl/NameTable"), accessFlags := 18, slot := 1, constantValue := 0 }, { name := "predicates", type := (.object "java/util/Map"), accessFlags := 18, slot := 2, constantValue := 0 }, { name := "tasks", type := (.object "java/util/Map"), accessFlags := 18, slot := 3, constantValue := 0 }, { name := "actions", type := (.object "java/util/Map"), accessFlags := 18, slot := 4, constantValue := 0 }, { name := "constantsInAnyCase", type := .boolean, accessFlags := 18, slot := 5, constantValue := 0 }]
  methods := #[k10m0, k10m1]
  instanceTypes := #[(.object "java/util/Map"), (.object "com/example/intentio/intentio/hddl/NameTable"), (.object "java/util/Map"), (.object "java/util/Map"), (.object "java/util/Map"), .boolean]
  staticTypes := #[(.object "java/lang/String"), (.object "java/lang/String"), (.object "java/util/Set"), (.object "java/util/List"), (.object "java/util/Set"), (.object "com/example/intentio/intentio/hddl/Formula")]
  resolved := Array.replicate 591 none
  statics := none }

def pool11 : Array CpInfo := pool [(1, .methodref 2 3), (0, .class_ 4), (0, .nameAndType 5 6), (0, u "java/lang/Object"), (0, u "<init>"), (0, u "()V"), (0, .fieldref 8 9), (0, .class_ 10), (0, .nameAndType 11 12), (0, u "java/lang/Throwable"), (0, u "cause"), (0, u "Ljava/lang/Throwable;"), (0, .fieldref 8 14), (0, .nameAndType 15 16), (0, u "UNASSIGNED_STACK"), (0, u "[Ljava/lang/StackTraceElement;"), (0, .fieldref 8 18), (0, .nameAndType 19 16), (0, u "stackTrace"), (0, .fieldref 8 21), (0, .nameAndType 22 23), (0, u "SUPPRESSED_SENTINEL"), (0, u "Ljava/util/List;"), (0, .fieldref 8 25), (0, .nameAndType 26 23), (0, u "suppressedExceptions"), (0, .methodref 8 28), (0, .nameAndType 29 30), (0, u "fillInStackTrace"), (0, u "()Ljava/lang/Throwable;"), (0, .fieldref 8 32), (0, .nameAndType 33 34), (0, u "detailMessage"), (0, u "Ljava/lang/String;"), (3, u "()Ljava/lang/String;"), (2, u "getMessage"), (51, .class_ 94), (0, u "java/lang/Throwable$WrappedPrintStream"), (6, .class_ 103), (1, u "java/lang/Throwable$PrintStreamOrWriter"), (61, u "$assertionsDisabled"), (0, u "Z"), (26, .class_ 194), (0, u "java/lang/Throwable$WrappedPrintWriter"), (3, .fieldref 8 199), (0, .nameAndType 200 201), (0, u "backtrace"), (0, u "Ljava/lang/Object;"), (0, .methodref 8 203), (0, .nameAndType 29 204), (0, u "(I)Ljava/lang/Throwable;"), (6, u "depth"), (0, u "I"), (10, u "(Ljava/lang/String;)V"), (45, .class_ 271), (1, u "java/lang/Throwable$SentinelHolder"), (32, u "EMPTY_THROWABLE_ARRAY"), (0, u "[Ljava/lang/Throwable;"), (12, .class_ 319), (0, u "java/io/Serializable"), (0, u "serialVersionUID"), (0, u "J"), (5, u "NULL_CAUSE_MESSAGE"), (0, u "SELF_SUPPRESSION_MESSAGE"), (0, u "CAUSE_CAPTION"), (0, u "SUPPRESSED_CAPTION")] 73

def k11c0 : Code := { maxStack := 2, maxLocals := 1, code := jdk_78_method_1_code, exceptionTable := #[], attributes := #[] }
def k11m0 : Method := { name := "<init>", desc := "()V", sig := { parameters := [], returnType := none }, accessFlags := 1, code := some k11c0 }
def k11c1 : Code := { maxStack := 2, maxLocals := 2, code := jdk_78_method_2_code, exceptionTable := #[], attributes := #[] }
def k11m1 : Method := { name := "<init>", desc := "(Ljava/lang/String;)V", sig := { parameters := [(.object "java/lang/String")], returnType := none }, accessFlags := 1, code := some k11c1 }
def k11c2 : Code := { maxStack := 1, maxLocals := 1, code := jdk_78_method_6_code, exceptionTable := #[], attributes := #[] }
def k11m2 : Method := { name := "getMessage", desc := "()Ljava/lang/String;", sig := { parameters := [], returnType := some (.object "java/lang/String") }, accessFlags := 1, code := some k11c2 }
def k11c3 : Code := { maxStack := 2, maxLocals := 1, code := jdk_78_method_18_code, exceptionTable := #[], attributes := #[] }
def k11m3 : Method := { name := "fillInStackTrace", desc := "()Ljava/lang/Throwable;", sig := { parameters := [], returnType := some (.object "java/lang/Throwable") }, accessFlags := 33, code := some k11c3 }
def k11m4 : Method := { name := "fillInStackTrace", desc := "(I)Ljava/lang/Throwable;", sig := { parameters := [.int], returnType := some (.object "java/lang/Throwable") }, accessFlags := 258, code := none }
/-- java/lang/Throwable -/
def k11 : Class := { plain "java/lang/Throwable" (some 0) with
  accessFlags := 33
  interfaces := #[3]
  cf := some (fileOf pool11 8 #[.nestMembers #[193, 93, 101, 269]] #[{ accessFlags := 1, nameIndex := 5, descriptorIndex := 6, attributes := #[] }, { accessFlags := 1, nameIndex := 5, descriptorIndex := 223, attributes := #[] }, { accessFlags := 1, nameIndex := 41, descriptorIndex := 38, attributes := #[] }, { accessFlags := 33, nameIndex := 29, descriptorIndex := 30, attributes := #[] }, { accessFlags := 258, nameIndex := 29, descriptorIndex := 204, attributes := #[] }] 33 2 #[318] #[{ accessFlags := 26, nameIndex := 320, descriptorIndex := 321, attributes := #[] }, { accessFlags := 130, nameIndex := 200, descriptorIndex := 201, attributes := #[] }, { accessFlags := 2, nameIndex := 33, descriptorIndex := 34, attributes := #[] }, { accessFlags := 26, nameIndex := 15, descriptorIndex := 16, attributes := #[] }, { accessFlags := 2, nameIndex := 11, descriptorIndex := 12, attributes := #[] }, { accessFlags := 2, nameIndex := 19, descriptorIndex := 16, attributes := #[] }, { accessFlags := 130, nameIndex := 211, descriptorIndex := 212, attributes := #[] }, { accessFlags := 26, nameIndex := 22, descriptorIndex := 23, attributes := #[] }, { accessFlags := 2, nameIndex := 26, descriptorIndex := 23, attributes := #[] }, { accessFlags := 26, nameIndex := 327, descriptorIndex := 34, attributes := #[] }, { accessFlags := 26, nameIndex := 328, descriptorIndex := 34, attributes := #[] }, { accessFlags := 26, nameIndex := 329, descriptorIndex := 34, attributes := #[] }, { accessFlags := 26, nameIndex := 330, descriptorIndex := 34, attributes := #[] }, { accessFlags := 26, nameIndex := 304, descriptorIndex := 305, attributes := #[] }, { accessFlags := 4120, nameIndex := 165, descriptorIndex := 166, attributes := #[] }])
  fields := #[{ name := "serialVersionUID", type := .long, accessFlags := 26, slot := 0, constantValue := 0 }, { name := "backtrace", type := (.object "java/lang/Object"), accessFlags := 130, slot := 0, constantValue := 0 }, { name := "detailMessage", type := (.object "java/lang/String"), accessFlags := 2, slot := 1, constantValue := 0 }, { name := "UNASSIGNED_STACK", type := (.array (.object "java/lang/StackTraceElement")), accessFlags := 26, slot := 1, constantValue := 0 }, { name := "cause", type := (.object "java/lang/Throwable"), accessFlags := 2, slot := 2, constantValue := 0 }, { name := "stackTrace", type := (.array (.object "java/lang/StackTraceElement")), accessFlags := 2, slot := 3, constantValue := 0 }, { name := "depth", type := .int, accessFlags := 130, slot := 4, constantValue := 0 }, { name := "SUPPRESSED_SENTINEL", type := (.object "java/util/List"), accessFlags := 26, slot := 2, constantValue := 0 }, { name := "suppressedExceptions", type := (.object "java/util/List"), accessFlags := 2, slot := 5, constantValue := 0 }, { name := "NULL_CAUSE_MESSAGE", type := (.object "java/lang/String"), accessFlags := 26, slot := 3, constantValue := 0 }, { name := "SELF_SUPPRESSION_MESSAGE", type := (.object "java/lang/String"), accessFlags := 26, slot := 4, constantValue := 0 }, { name := "CAUSE_CAPTION", type := (.object "java/lang/String"), accessFlags := 26, slot := 5, constantValue := 0 }, { name := "SUPPRESSED_CAPTION", type := (.object "java/lang/String"), accessFlags := 26, slot := 6, constantValue := 0 }, { name := "EMPTY_THROWABLE_ARRAY", type := (.array (.object "java/lang/Throwable")), accessFlags := 26, slot := 7, constantValue := 0 }, { name := "$assertionsDisabled", type := .boolean, accessFlags := 4120, slot := 8, constantValue := 0 }]
  methods := #[k11m0, k11m1, k11m2, k11m3, k11m4]
  instanceTypes := #[(.object "java/lang/Object"), (.object "java/lang/String"), (.object "java/lang/Throwable"), (.array (.object "java/lang/StackTraceElement")), .int, (.object "java/util/List")]
  staticTypes := #[.long, (.array (.object "java/lang/StackTraceElement")), (.object "java/util/List"), (.object "java/lang/String"), (.object "java/lang/String"), (.object "java/lang/String"), (.object "java/lang/String"), (.array (.object "java/lang/Throwable")), .boolean]
  resolved := Array.replicate 404 none
  statics := some 1 }

def pool12 : Array CpInfo := pool [(2, .class_ 4), (1, u "java/lang/Throwable"), (0, u "<init>"), (0, u "()V"), (0, .methodref 2 8), (0, .nameAndType 5 9), (0, u "(Ljava/lang/String;)V"), (9, .class_ 20), (0, u "java/lang/Exception"), (0, u "serialVersionUID"), (0, u "J")] 17

def k12m0 : Method := { name := "<init>", desc := "()V", sig := { parameters := [], returnType := none }, accessFlags := 1, code := none }
def k12c1 : Code := { maxStack := 2, maxLocals := 2, code := jdk_59_method_2_code, exceptionTable := #[], attributes := #[] }
def k12m1 : Method := { name := "<init>", desc := "(Ljava/lang/String;)V", sig := { parameters := [(.object "java/lang/String")], returnType := none }, accessFlags := 1, code := some k12c1 }
/-- java/lang/Exception -/
def k12 : Class := { plain "java/lang/Exception" (some 11) with
  accessFlags := 33
  interfaces := #[]
  cf := some (fileOf pool12 19 #[] #[{ accessFlags := 1, nameIndex := 5, descriptorIndex := 6, attributes := #[] }, { accessFlags := 1, nameIndex := 5, descriptorIndex := 9, attributes := #[] }] 33 2 #[] #[{ accessFlags := 24, nameIndex := 21, descriptorIndex := 22, attributes := #[] }])
  fields := #[{ name := "serialVersionUID", type := .long, accessFlags := 24, slot := 0, constantValue := 0 }]
  methods := #[k12m0, k12m1]
  instanceTypes := #[(.object "java/lang/Object"), (.object "java/lang/String"), (.object "java/lang/Throwable"), (.array (.object "java/lang/StackTraceElement")), .int, (.object "java/util/List")]
  staticTypes := #[.long]
  resolved := Array.replicate 40 none
  statics := none }

def pool13 : Array CpInfo := pool [(1, .methodref 2 3), (0, .class_ 4), (0, .nameAndType 5 6), (0, u "java/lang/Exception"), (0, u "<init>"), (0, u "(Ljava/lang/String;)V"), (0, .fieldref 8 9), (0, .class_ 10), (0, .nameAndType 11 12), (0, u "com/example/intentio/intentio/hddl/HddlException"), (0, u "line"), (0, u "I"), (0, u "serialVersionUID"), (0, u "J"), (3, u "(ILjava/lang/String;)V"), (2, u "()I")] 2

def k13c0 : Code := { maxStack := 2, maxLocals := 3, code := prog_61_method_1_code, exceptionTable := #[], attributes := #[] }
def k13m0 : Method := { name := "<init>", desc := "(ILjava/lang/String;)V", sig := { parameters := [.int, (.object "java/lang/String")], returnType := none }, accessFlags := 1, code := some k13c0 }
def k13c1 : Code := { maxStack := 1, maxLocals := 1, code := prog_61_method_2_code, exceptionTable := #[], attributes := #[] }
def k13m1 : Method := { name := "line", desc := "()I", sig := { parameters := [], returnType := some .int }, accessFlags := 1, code := some k13c1 }
/-- com/example/intentio/intentio/hddl/HddlException -/
def k13 : Class := { plain "com/example/intentio/intentio/hddl/HddlException" (some 12) with
  accessFlags := 49
  interfaces := #[]
  cf := some (fileOf pool13 8 #[] #[{ accessFlags := 1, nameIndex := 5, descriptorIndex := 18, attributes := #[] }, { accessFlags := 1, nameIndex := 11, descriptorIndex := 21, attributes := #[] }] 49 2 #[] #[{ accessFlags := 26, nameIndex := 13, descriptorIndex := 14, attributes := #[] }, { accessFlags := 18, nameIndex := 11, descriptorIndex := 12, attributes := #[] }])
  fields := #[{ name := "serialVersionUID", type := .long, accessFlags := 26, slot := 0, constantValue := 0 }, { name := "line", type := .int, accessFlags := 18, slot := 6, constantValue := 0 }]
  methods := #[k13m0, k13m1]
  instanceTypes := #[(.object "java/lang/Object"), (.object "java/lang/String"), (.object "java/lang/Throwable"), (.array (.object "java/lang/StackTraceElement")), .int, (.object "java/util/List"), .int]
  staticTypes := #[.long]
  resolved := Array.replicate 24 none
  statics := none }

def pool14 : Array CpInfo := pool [(1, .class_ 2), (0, u "java/lang/Appendable"), (0, .class_ 4), (0, u "java/lang/Object")] 9

/-- java/lang/Appendable -/
def k14 : Class := { plain "java/lang/Appendable" (some 0) with
  accessFlags := 1537
  interfaces := #[]
  cf := some (fileOf pool14 1 #[] #[] 1537 3 #[] #[])
  fields := #[]
  methods := #[]
  instanceTypes := #[]
  staticTypes := #[]
  resolved := Array.replicate 14 none
  statics := none }

def pool15 : Array CpInfo := pool [(1, .class_ 2), (0, u "java/lang/String"), (0, .methodref 4 5), (0, .class_ 6), (0, .nameAndType 7 8), (0, u "java/lang/Object"), (0, u "<init>"), (0, u "()V"), (1, .class_ 12), (1, u "java/lang/AbstractStringBuilder"), (0, u "EMPTYVALUE"), (0, u "[B"), (0, .fieldref 10 16), (0, .nameAndType 17 14), (0, u "value"), (0, .fieldref 1 19), (0, .nameAndType 20 21), (0, u "COMPACT_STRINGS"), (0, u "Z"), (0, .fieldref 10 23), (0, .nameAndType 24 25), (0, u "coder"), (0, u "B"), (6, .methodref 1 33), (0, .nameAndType 34 35), (0, u "length"), (0, u "()I"), (3, .integer 2147483647), (0, .methodref 1 41), (0, .nameAndType 24 42), (0, u "()B"), (2, u "append"), (0, u "(Ljava/lang/String;)Ljava/lang/AbstractStringBuilder;"), (1, .class_ 49), (0, u "java/lang/CharSequence"), (19, u "(Ljava/lang/String;)V"), (5, u "maybeLatin1"), (3, .fieldref 10 80), (0, .nameAndType 81 82), (0, u "count"), (0, u "I"), (2, u "isLatin1"), (0, u "()Z"), (13, .methodref 10 101), (0, .nameAndType 102 103), (0, u "ensureCapacityInternal"), (0, u "(I)V"), (0, .methodref 10 105), (0, .nameAndType 106 107), (0, u "newCapacity"), (0, u "(I)I"), (0, .methodref 109 110), (0, .class_ 111), (0, .nameAndType 112 113), (0, u "java/util/Arrays"), (0, u "copyOf"), (0, u "([BI)[B"), (0, .methodref 115 116), (0, .class_ 117), (0, .nameAndType 118 119), (0, u "jdk/internal/util/ArraysSupport"), (0, u "newLength"), (0, u "(III)I"), (88, .methodref 10 209), (0, .nameAndType 210 211), (0, u "putStringAt"), (0, u "(ILjava/lang/String;)V"), (5, u "inflateIfNeededFor"), (2, .nameAndType 221 222), (0, u "getBytes"), (0, u "([BIB)V"), (174, .methodref 10 398), (0, .nameAndType 217 69), (0, .methodref 1 220), (3, u "()[B"), (40, .class_ 445), (0, u "java/lang/Appendable"), (106, u "getValue")] 56

def k15m0 : Method := { name := "<init>", desc := "()V", sig := { parameters := [], returnType := none }, accessFlags := 0, code := none }
def k15c1 : Code := { maxStack := 2, maxLocals := 2, code := jdk_68_method_2_code, exceptionTable := #[], attributes := #[] }
def k15m1 : Method := { name := "<init>", desc := "(I)V", sig := { parameters := [.int], returnType := none }, accessFlags := 0, code := some k15c1 }
def k15c2 : Code := { maxStack := 1, maxLocals := 1, code := jdk_68_method_6_code, exceptionTable := #[], attributes := #[] }
def k15m2 : Method := { name := "length", desc := "()I", sig := { parameters := [], returnType := some .int }, accessFlags := 1, code := some k15c2 }
def k15c3 : Code := { maxStack := 4, maxLocals := 3, code := jdk_68_method_9_code, exceptionTable := #[], attributes := #[] }
def k15m3 : Method := { name := "ensureCapacityInternal", desc := "(I)V", sig := { parameters := [.int], returnType := none }, accessFlags := 2, code := some k15c3 }
def k15c4 : Code := { maxStack := 5, maxLocals := 6, code := jdk_68_method_10_code, exceptionTable := #[], attributes := #[] }
def k15m4 : Method := { name := "newCapacity", desc := "(I)I", sig := { parameters := [.int], returnType := some .int }, accessFlags := 2, code := some k15c4 }
def k15c5 : Code := { maxStack := 3, maxLocals := 3, code := jdk_68_method_22_code, exceptionTable := #[], attributes := #[] }
def k15m5 : Method := { name := "append", desc := "(Ljava/lang/String;)Ljava/lang/AbstractStringBuilder;", sig := { parameters := [(.object "java/lang/String")], returnType := some (.object "java/lang/AbstractStringBuilder") }, accessFlags := 1, code := some k15c5 }
def k15c6 : Code := { maxStack := 1, maxLocals := 1, code := jdk_68_method_64_code, exceptionTable := #[], attributes := #[] }
def k15m6 : Method := { name := "getValue", desc := "()[B", sig := { parameters := [], returnType := some (.array .byte) }, accessFlags := 16, code := some k15c6 }
def k15c7 : Code := { maxStack := 1, maxLocals := 1, code := jdk_68_method_68_code, exceptionTable := #[], attributes := #[] }
def k15m7 : Method := { name := "isLatin1", desc := "()Z", sig := { parameters := [], returnType := some .boolean }, accessFlags := 16, code := some k15c7 }
def k15c8 : Code := { maxStack := 2, maxLocals := 2, code := jdk_68_method_71_code, exceptionTable := #[], attributes := #[] }
def k15m8 : Method := { name := "inflateIfNeededFor", desc := "(Ljava/lang/String;)V", sig := { parameters := [(.object "java/lang/String")], returnType := none }, accessFlags := 2, code := some k15c8 }
def k15c9 : Code := { maxStack := 4, maxLocals := 3, code := jdk_68_method_73_code, exceptionTable := #[], attributes := #[] }
def k15m9 : Method := { name := "putStringAt", desc := "(ILjava/lang/String;)V", sig := { parameters := [.int, (.object "java/lang/String")], returnType := none }, accessFlags := 2, code := some k15c9 }
/-- java/lang/AbstractStringBuilder -/
def k15 : Class := { plain "java/lang/AbstractStringBuilder" (some 0) with
  accessFlags := 1056
  interfaces := #[14, 5]
  cf := some (fileOf pool15 10 #[] #[{ accessFlags := 0, nameIndex := 7, descriptorIndex := 8, attributes := #[] }, { accessFlags := 0, nameIndex := 7, descriptorIndex := 103, attributes := #[] }, { accessFlags := 1, nameIndex := 34, descriptorIndex := 35, attributes := #[] }, { accessFlags := 2, nameIndex := 102, descriptorIndex := 103, attributes := #[] }, { accessFlags := 2, nameIndex := 106, descriptorIndex := 107, attributes := #[] }, { accessFlags := 1, nameIndex := 45, descriptorIndex := 46, attributes := #[] }, { accessFlags := 16, nameIndex := 552, descriptorIndex := 403, attributes := #[] }, { accessFlags := 16, nameIndex := 85, descriptorIndex := 86, attributes := #[] }, { accessFlags := 2, nameIndex := 217, descriptorIndex := 69, attributes := #[] }, { accessFlags := 2, nameIndex := 210, descriptorIndex := 211, attributes := #[] }] 1056 4 #[444, 48] #[{ accessFlags := 0, nameIndex := 17, descriptorIndex := 14, attributes := #[] }, { accessFlags := 0, nameIndex := 24, descriptorIndex := 25, attributes := #[] }, { accessFlags := 0, nameIndex := 75, descriptorIndex := 21, attributes := #[] }, { accessFlags := 0, nameIndex := 81, descriptorIndex := 82, attributes := #[] }, { accessFlags := 26, nameIndex := 13, descriptorIndex := 14, attributes := #[] }])
  fields := #[{ name := "value", type := (.array .byte), accessFlags := 0, slot := 0, constantValue := 0 }, { name := "coder", type := .byte, accessFlags := 0, slot := 1, constantValue := 0 }, { name := "maybeLatin1", type := .boolean, accessFlags := 0, slot := 2, constantValue := 0 }, { name := "count", type := .int, accessFlags := 0, slot := 3, constantValue := 0 }, { name := "EMPTYVALUE", type := (.array .byte), accessFlags := 26, slot := 0, constantValue := 0 }]
  methods := #[k15m0, k15m1, k15m2, k15m3, k15m4, k15m5, k15m6, k15m7, k15m8, k15m9]
  instanceTypes := #[(.array .byte), .byte, .boolean, .int]
  staticTypes := #[(.array .byte)]
  resolved := Array.replicate 609 none
  statics := none }

def pool16 : Array CpInfo := pool [(1, .methodref 2 3), (0, .class_ 4), (0, .nameAndType 5 6), (0, u "java/lang/AbstractStringBuilder"), (0, u "<init>"), (0, u "(I)V"), (11, .class_ 20), (1, u "java/lang/String"), (3, .class_ 26), (1, u "java/lang/StringBuilder"), (0, u "append"), (0, u "(Ljava/lang/String;)Ljava/lang/StringBuilder;"), (0, .methodref 2 30), (0, .nameAndType 27 31), (0, u "(Ljava/lang/String;)Ljava/lang/AbstractStringBuilder;"), (105, .methodref 18 138), (0, .nameAndType 5 139), (0, u "(Ljava/lang/StringBuilder;)V"), (5, u "()V"), (10, u "()I"), (186, .methodref 2 344), (0, .nameAndType 345 156), (0, u "length"), (3, .class_ 350), (0, u "java/lang/Appendable"), (0, .class_ 352), (0, u "java/io/Serializable"), (0, .class_ 354), (0, u "java/lang/Comparable"), (0, .class_ 356), (0, u "java/lang/CharSequence"), (0, u "serialVersionUID"), (0, u "J"), (40, u "toString"), (0, u "()Ljava/lang/String;")] 21

def k16c0 : Code := { maxStack := 2, maxLocals := 1, code := jdk_67_method_1_code, exceptionTable := #[], attributes := #[] }
def k16m0 : Method := { name := "<init>", desc := "()V", sig := { parameters := [], returnType := none }, accessFlags := 1, code := some k16c0 }
def k16c1 : Code := { maxStack := 2, maxLocals := 2, code := jdk_67_method_7_code, exceptionTable := #[], attributes := #[] }
def k16m1 : Method := { name := "append", desc := "(Ljava/lang/String;)Ljava/lang/StringBuilder;", sig := { parameters := [(.object "java/lang/String")], returnType := some (.object "java/lang/StringBuilder") }, accessFlags := 1, code := some k16c1 }
def k16c2 : Code := { maxStack := 3, maxLocals := 1, code := jdk_67_method_42_code, exceptionTable := #[], attributes := #[] }
def k16m2 : Method := { name := "toString", desc := "()Ljava/lang/String;", sig := { parameters := [], returnType := some (.object "java/lang/String") }, accessFlags := 1, code := some k16c2 }
def k16c3 : Code := { maxStack := 1, maxLocals := 1, code := jdk_67_method_93_code, exceptionTable := #[], attributes := #[] }
def k16m3 : Method := { name := "length", desc := "()I", sig := { parameters := [], returnType := some .int }, accessFlags := 4161, code := some k16c3 }
/-- java/lang/StringBuilder -/
def k16 : Class := { plain "java/lang/StringBuilder" (some 15) with
  accessFlags := 49
  interfaces := #[14, 3, 4, 5]
  cf := some (fileOf pool16 24 #[] #[{ accessFlags := 1, nameIndex := 5, descriptorIndex := 145, attributes := #[] }, { accessFlags := 1, nameIndex := 27, descriptorIndex := 28, attributes := #[] }, { accessFlags := 1, nameIndex := 399, descriptorIndex := 400, attributes := #[] }, { accessFlags := 4161, nameIndex := 345, descriptorIndex := 156, attributes := #[] }] 49 2 #[349, 351, 353, 355] #[{ accessFlags := 24, nameIndex := 357, descriptorIndex := 358, attributes := #[] }])
  fields := #[{ name := "serialVersionUID", type := .long, accessFlags := 24, slot := 0, constantValue := 0 }]
  methods := #[k16m0, k16m1, k16m2, k16m3]
  instanceTypes := #[(.array .byte), .byte, .boolean, .int]
  staticTypes := #[.long]
  resolved := Array.replicate 422 none
  statics := none }

def pool17 : Array CpInfo := pool [(2, .class_ 4), (1, u "java/lang/Object"), (0, u "<init>"), (0, u "()V"), (1, .class_ 10), (1, u "java/lang/System"), (0, u "allowSecurityManager"), (0, u "I"), (16, u "cons"), (0, u "Ljava/io/Console;"), (77, .class_ 110), (1, u "java/lang/System$CallersHolder"), (43, u "initialErrStream"), (0, u "Ljava/io/PrintStream;"), (19, u "security"), (0, u "Ljava/lang/SecurityManager;"), (31, .class_ 209), (0, u "java/lang/System$1"), (7, u "props"), (0, u "Ljava/util/Properties;"), (2, u "lineSeparator"), (0, u "Ljava/lang/String;"), (96, .class_ 321), (1, u "java/lang/System$LoggerFinder"), (5, .class_ 328), (0, u "java/lang/System$Logger"), (67, u "err"), (2, u "out"), (91, u "notSupportedJnuEncoding"), (15, u "in"), (17, u "initialIn"), (0, u "Ljava/io/InputStream;"), (35, u "bootLayer"), (0, u "Ljava/lang/ModuleLayer;"), (99, .class_ 664), (0, u "java/lang/System$2"), (9, u "NEVER"), (2, u "MAYBE"), (49, u "arraycopy"), (0, u "(Ljava/lang/Object;ILjava/lang/Object;II)V"), (72, .class_ 802), (0, u "java/lang/System$Logger$Level")] 31

def k17m0 : Method := { name := "<init>", desc := "()V", sig := { parameters := [], returnType := none }, accessFlags := 2, code := none }
def k17m1 : Method := { name := "arraycopy", desc := "(Ljava/lang/Object;ILjava/lang/Object;II)V", sig := { parameters := [(.object "java/lang/Object"), .int, (.object "java/lang/Object"), .int, .int], returnType := none }, accessFlags := 265, code := none }
/-- java/lang/System -/
def k17 : Class := { plain "java/lang/System" (some 0) with
  accessFlags := 49
  interfaces := #[]
  cf := some (fileOf pool17 8 #[.nestMembers #[319, 327, 801, 108, 663, 208]] #[{ accessFlags := 2, nameIndex := 5, descriptorIndex := 6, attributes := #[] }, { accessFlags := 265, nameIndex := 727, descriptorIndex := 728, attributes := #[] }] 49 2 #[] #[{ accessFlags := 25, nameIndex := 507, descriptorIndex := 526, attributes := #[] }, { accessFlags := 25, nameIndex := 399, descriptorIndex := 155, attributes := #[] }, { accessFlags := 25, nameIndex := 396, descriptorIndex := 155, attributes := #[] }, { accessFlags := 10, nameIndex := 525, descriptorIndex := 526, attributes := #[] }, { accessFlags := 26, nameIndex := 674, descriptorIndex := 12, attributes := #[] }, { accessFlags := 26, nameIndex := 677, descriptorIndex := 12, attributes := #[] }, { accessFlags := 10, nameIndex := 11, descriptorIndex := 12, attributes := #[] }, { accessFlags := 74, nameIndex := 175, descriptorIndex := 176, attributes := #[] }, { accessFlags := 10, nameIndex := 491, descriptorIndex := 222, attributes := #[] }, { accessFlags := 74, nameIndex := 29, descriptorIndex := 30, attributes := #[] }, { accessFlags := 74, nameIndex := 154, descriptorIndex := 155, attributes := #[] }, { accessFlags := 10, nameIndex := 217, descriptorIndex := 218, attributes := #[] }, { accessFlags := 10, nameIndex := 221, descriptorIndex := 222, attributes := #[] }, { accessFlags := 8, nameIndex := 562, descriptorIndex := 563, attributes := #[] }])
  fields := #[{ name := "in", type := (.object "java/io/InputStream"), accessFlags := 25, slot := 0, constantValue := 0 }, { name := "out", type := (.object "java/io/PrintStream"), accessFlags := 25, slot := 1, constantValue := 0 }, { name := "err", type := (.object "java/io/PrintStream"), accessFlags := 25, slot := 2, constantValue := 0 }, { name := "initialIn", type := (.object "java/io/InputStream"), accessFlags := 10, slot := 3, constantValue := 0 }, { name := "NEVER", type := .int, accessFlags := 26, slot := 4, constantValue := 0 }, { name := "MAYBE", type := .int, accessFlags := 26, slot := 5, constantValue := 0 }, { name := "allowSecurityManager", type := .int, accessFlags := 10, slot := 6, constantValue := 0 }, { name := "security", type := (.object "java/lang/SecurityManager"), accessFlags := 74, slot := 7, constantValue := 0 }, { name := "notSupportedJnuEncoding", type := (.object "java/lang/String"), accessFlags := 10, slot := 8, constantValue := 0 }, { name := "cons", type := (.object "java/io/Console"), accessFlags := 74, slot := 9, constantValue := 0 }, { name := "initialErrStream", type := (.object "java/io/PrintStream"), accessFlags := 74, slot := 10, constantValue := 0 }, { name := "props", type := (.object "java/util/Properties"), accessFlags := 10, slot := 11, constantValue := 0 }, { name := "lineSeparator", type := (.object "java/lang/String"), accessFlags := 10, slot := 12, constantValue := 0 }, { name := "bootLayer", type := (.object "java/lang/ModuleLayer"), accessFlags := 8, slot := 13, constantValue := 0 }]
  methods := #[k17m0, k17m1]
  instanceTypes := #[]
  staticTypes := #[(.object "java/io/InputStream"), (.object "java/io/PrintStream"), (.object "java/io/PrintStream"), (.object "java/io/InputStream"), .int, .int, .int, (.object "java/lang/SecurityManager"), (.object "java/lang/String"), (.object "java/io/Console"), (.object "java/io/PrintStream"), (.object "java/util/Properties"), (.object "java/lang/String"), (.object "java/lang/ModuleLayer")]
  resolved := Array.replicate 834 none
  statics := none }

def pool18 : Array CpInfo := pool [(9, u "<init>"), (6, .class_ 18), (1, u "java/lang/Object"), (0, u "()V"), (1, .class_ 23), (1, u "jdk/internal/util/ArraysSupport"), (0, u "LOG2_ARRAY_LONG_INDEX_SCALE"), (0, u "I"), (2, u "U"), (0, u "Ljdk/internal/misc/Unsafe;"), (8, u "BIG_ENDIAN"), (0, u "Z"), (8, u "LOG2_BYTE_BIT_SIZE"), (4, u "LOG2_ARRAY_INT_INDEX_SCALE"), (54, u "JLA"), (0, u "Ljdk/internal/access/JavaLangAccess;"), (11, u "LOG2_ARRAY_BOOLEAN_INDEX_SCALE"), (9, u "LOG2_ARRAY_BYTE_INDEX_SCALE"), (5, u "LOG2_ARRAY_CHAR_INDEX_SCALE"), (5, u "LOG2_ARRAY_SHORT_INDEX_SCALE"), (18, u "LOG2_ARRAY_FLOAT_INDEX_SCALE"), (24, u "LOG2_ARRAY_DOUBLE_INDEX_SCALE"), (6, .methodref 195 196), (0, .class_ 197), (0, .nameAndType 198 199), (0, u "java/lang/Math"), (0, u "max"), (0, u "(II)I"), (0, .integer 2147483639), (76, u "T_BOOLEAN"), (2, u "T_CHAR"), (1, u "T_FLOAT"), (1, u "T_DOUBLE"), (1, u "T_BYTE"), (1, u "T_SHORT"), (1, u "T_INT"), (1, u "T_LONG"), (1, u "SOFT_MAX_ARRAY_LENGTH"), (56, u "newLength"), (0, u "(III)I")] 25

def k18m0 : Method := { name := "<init>", desc := "()V", sig := { parameters := [], returnType := none }, accessFlags := 2, code := none }
def k18c1 : Code := { maxStack := 3, maxLocals := 4, code := jdk_48_method_27_code, exceptionTable := #[], attributes := #[] }
def k18m1 : Method := { name := "newLength", desc := "(III)I", sig := { parameters := [.int, .int, .int], returnType := some .int }, accessFlags := 9, code := some k18c1 }
/-- jdk/internal/util/ArraysSupport -/
def k18 : Class := { plain "jdk/internal/util/ArraysSupport" (some 0) with
  accessFlags := 33
  interfaces := #[]
  cf := some (fileOf pool18 21 #[] #[{ accessFlags := 2, nameIndex := 9, descriptorIndex := 19, attributes := #[] }, { accessFlags := 9, nameIndex := 351, descriptorIndex := 352, attributes := #[] }] 33 16 #[] #[{ accessFlags := 24, nameIndex := 28, descriptorIndex := 29, attributes := #[] }, { accessFlags := 26, nameIndex := 38, descriptorIndex := 39, attributes := #[] }, { accessFlags := 25, nameIndex := 121, descriptorIndex := 25, attributes := #[] }, { accessFlags := 25, nameIndex := 131, descriptorIndex := 25, attributes := #[] }, { accessFlags := 25, nameIndex := 137, descriptorIndex := 25, attributes := #[] }, { accessFlags := 25, nameIndex := 143, descriptorIndex := 25, attributes := #[] }, { accessFlags := 25, nameIndex := 53, descriptorIndex := 25, attributes := #[] }, { accessFlags := 25, nameIndex := 24, descriptorIndex := 25, attributes := #[] }, { accessFlags := 25, nameIndex := 162, descriptorIndex := 25, attributes := #[] }, { accessFlags := 25, nameIndex := 187, descriptorIndex := 25, attributes := #[] }, { accessFlags := 26, nameIndex := 48, descriptorIndex := 25, attributes := #[] }, { accessFlags := 25, nameIndex := 277, descriptorIndex := 25, attributes := #[] }, { accessFlags := 25, nameIndex := 280, descriptorIndex := 25, attributes := #[] }, { accessFlags := 25, nameIndex := 282, descriptorIndex := 25, attributes := #[] }, { accessFlags := 25, nameIndex := 284, descriptorIndex := 25, attributes := #[] }, { accessFlags := 25, nameIndex := 286, descriptorIndex := 25, attributes := #[] }, { accessFlags := 25, nameIndex := 288, descriptorIndex := 25, attributes := #[] }, { accessFlags := 25, nameIndex := 290, descriptorIndex := 25, attributes := #[] }, { accessFlags := 25, nameIndex := 292, descriptorIndex := 25, attributes := #[] }, { accessFlags := 26, nameIndex := 108, descriptorIndex := 109, attributes := #[] }, { accessFlags := 25, nameIndex := 294, descriptorIndex := 25, attributes := #[] }])
  fields := #[{ name := "U", type := (.object "jdk/internal/misc/Unsafe"), accessFlags := 24, slot := 0, constantValue := 0 }, { name := "BIG_ENDIAN", type := .boolean, accessFlags := 26, slot := 1, constantValue := 0 }, { name := "LOG2_ARRAY_BOOLEAN_INDEX_SCALE", type := .int, accessFlags := 25, slot := 2, constantValue := 0 }, { name := "LOG2_ARRAY_BYTE_INDEX_SCALE", type := .int, accessFlags := 25, slot := 3, constantValue := 0 }, { name := "LOG2_ARRAY_CHAR_INDEX_SCALE", type := .int, accessFlags := 25, slot := 4, constantValue := 0 }, { name := "LOG2_ARRAY_SHORT_INDEX_SCALE", type := .int, accessFlags := 25, slot := 5, constantValue := 0 }, { name := "LOG2_ARRAY_INT_INDEX_SCALE", type := .int, accessFlags := 25, slot := 6, constantValue := 0 }, { name := "LOG2_ARRAY_LONG_INDEX_SCALE", type := .int, accessFlags := 25, slot := 7, constantValue := 0 }, { name := "LOG2_ARRAY_FLOAT_INDEX_SCALE", type := .int, accessFlags := 25, slot := 8, constantValue := 0 }, { name := "LOG2_ARRAY_DOUBLE_INDEX_SCALE", type := .int, accessFlags := 25, slot := 9, constantValue := 0 }, { name := "LOG2_BYTE_BIT_SIZE", type := .int, accessFlags := 26, slot := 10, constantValue := 0 }, { name := "T_BOOLEAN", type := .int, accessFlags := 25, slot := 11, constantValue := 0 }, { name := "T_CHAR", type := .int, accessFlags := 25, slot := 12, constantValue := 0 }, { name := "T_FLOAT", type := .int, accessFlags := 25, slot := 13, constantValue := 0 }, { name := "T_DOUBLE", type := .int, accessFlags := 25, slot := 14, constantValue := 0 }, { name := "T_BYTE", type := .int, accessFlags := 25, slot := 15, constantValue := 0 }, { name := "T_SHORT", type := .int, accessFlags := 25, slot := 16, constantValue := 0 }, { name := "T_INT", type := .int, accessFlags := 25, slot := 17, constantValue := 0 }, { name := "T_LONG", type := .int, accessFlags := 25, slot := 18, constantValue := 0 }, { name := "JLA", type := (.object "jdk/internal/access/JavaLangAccess"), accessFlags := 26, slot := 19, constantValue := 0 }, { name := "SOFT_MAX_ARRAY_LENGTH", type := .int, accessFlags := 25, slot := 20, constantValue := 0 }]
  methods := #[k18m0, k18m1]
  instanceTypes := #[]
  staticTypes := #[(.object "jdk/internal/misc/Unsafe"), .boolean, .int, .int, .int, .int, .int, .int, .int, .int, .int, .int, .int, .int, .int, .int, .int, .int, .int, (.object "jdk/internal/access/JavaLangAccess"), .int]
  resolved := Array.replicate 378 none
  statics := none }

def pool19 : Array CpInfo := pool [(2, .class_ 4), (1, u "java/lang/Object"), (0, u "<init>"), (0, u "()V"), (7, .class_ 16), (1, u "java/util/Arrays"), (57, .class_ 76), (1, u "java/util/Arrays$NaturalOrder"), (36, .class_ 115), (1, u "java/util/Arrays$LegacyMergeSort"), (1, u "Z"), (21, u "copyOfRange"), (10, .methodref 151 152), (0, .class_ 153), (0, .nameAndType 154 155), (0, u "java/lang/System"), (0, u "arraycopy"), (0, u "(Ljava/lang/Object;ILjava/lang/Object;II)V"), (146, u "copyOf"), (1, .methodref 305 306), (0, .class_ 307), (0, .nameAndType 308 309), (0, u "java/lang/Math"), (0, u "min"), (0, u "(II)I"), (29, .methodref 14 340), (0, .nameAndType 341 342), (0, u "copyOfRangeByte"), (0, u "([BII)[B"), (0, .methodref 14 344), (0, .nameAndType 345 346), (0, u "checkLength"), (0, u "(II)V"), (28, .class_ 376), (0, u "java/util/Arrays$ArrayList"), (68, u "$assertionsDisabled"), (269, u "MIN_ARRAY_SORT_GRAN"), (0, u "I"), (2, u "INSERTIONSORT_THRESHOLD"), (149, u "([BI)[B"), (105, .class_ 976), (0, u "java/util/Arrays$ArrayItr")] 52

def k19m0 : Method := { name := "<init>", desc := "()V", sig := { parameters := [], returnType := none }, accessFlags := 2, code := none }
def k19c1 : Code := { maxStack := 6, maxLocals := 3, code := jdk_65_method_121_code, exceptionTable := #[], attributes := #[] }
def k19m1 : Method := { name := "copyOf", desc := "([BI)[B", sig := { parameters := [(.array .byte), .int], returnType := some (.array .byte) }, accessFlags := 9, code := some k19c1 }
def k19c2 : Code := { maxStack := 4, maxLocals := 2, code := jdk_65_method_131_code, exceptionTable := #[], attributes := #[] }
def k19m2 : Method := { name := "checkLength", desc := "(II)V", sig := { parameters := [.int, .int], returnType := none }, accessFlags := 10, code := some k19c2 }
def k19c3 : Code := { maxStack := 3, maxLocals := 3, code := jdk_65_method_132_code, exceptionTable := #[], attributes := #[] }
def k19m3 : Method := { name := "copyOfRange", desc := "([BII)[B", sig := { parameters := [(.array .byte), .int, .int], returnType := some (.array .byte) }, accessFlags := 9, code := some k19c3 }
def k19c4 : Code := { maxStack := 6, maxLocals := 5, code := jdk_65_method_133_code, exceptionTable := #[], attributes := #[] }
def k19m4 : Method := { name := "copyOfRangeByte", desc := "([BII)[B", sig := { parameters := [(.array .byte), .int, .int], returnType := some (.array .byte) }, accessFlags := 10, code := some k19c4 }
/-- java/util/Arrays -/
def k19 : Class := { plain "java/util/Arrays" (some 0) with
  accessFlags := 49
  interfaces := #[]
  cf := some (fileOf pool19 14 #[.nestMembers #[975, 375, 113, 74]] #[{ accessFlags := 2, nameIndex := 5, descriptorIndex := 6, attributes := #[] }, { accessFlags := 9, nameIndex := 302, descriptorIndex := 869, attributes := #[] }, { accessFlags := 10, nameIndex := 345, descriptorIndex := 346, attributes := #[] }, { accessFlags := 9, nameIndex := 139, descriptorIndex := 342, attributes := #[] }, { accessFlags := 10, nameIndex := 341, descriptorIndex := 342, attributes := #[] }] 49 2 #[] #[{ accessFlags := 26, nameIndex := 715, descriptorIndex := 716, attributes := #[] }, { accessFlags := 26, nameIndex := 719, descriptorIndex := 716, attributes := #[] }, { accessFlags := 4120, nameIndex := 445, descriptorIndex := 117, attributes := #[] }])
  fields := #[{ name := "MIN_ARRAY_SORT_GRAN", type := .int, accessFlags := 26, slot := 0, constantValue := 0 }, { name := "INSERTIONSORT_THRESHOLD", type := .int, accessFlags := 26, slot := 1, constantValue := 0 }, { name := "$assertionsDisabled", type := .boolean, accessFlags := 4120, slot := 2, constantValue := 0 }]
  methods := #[k19m0, k19m1, k19m2, k19m3, k19m4]
  instanceTypes := #[]
  staticTypes := #[.int, .int, .boolean]
  resolved := Array.replicate 1029 none
  statics := none }

def pool20 : Array CpInfo := pool [(1, .class_ 2), (0, u "java/lang/String"), (1, .class_ 6), (1, u "java/lang/Object"), (0, u "<init>"), (0, u "()V"), (0, .methodref 1 10), (0, .nameAndType 11 12), (0, u "checkIndex"), (0, u "(II)V"), (1, .class_ 16), (1, u "java/lang/StringLatin1"), (36, u "([BI)C"), (36, u "canEncode"), (14, u "(C)Z"), (15, u "$assertionsDisabled"), (0, u "Z"), (98, .class_ 223), (1, u "java/lang/StringLatin1$LinesSpliterator"), (28, u "charAt"), (127, u "toBytes"), (1, u "(C)[B"), (7, .class_ 391), (0, u "java/lang/StringLatin1$CharsSpliterator")] 3

def k20m0 : Method := { name := "<init>", desc := "()V", sig := { parameters := [], returnType := none }, accessFlags := 0, code := none }
def k20c1 : Code := { maxStack := 2, maxLocals := 2, code := jdk_43_method_2_code, exceptionTable := #[], attributes := #[] }
def k20m1 : Method := { name := "charAt", desc := "([BI)C", sig := { parameters := [(.array .byte), .int], returnType := some .char }, accessFlags := 9, code := some k20c1 }
def k20c2 : Code := { maxStack := 2, maxLocals := 1, code := jdk_43_method_3_code, exceptionTable := #[], attributes := #[] }
def k20m2 : Method := { name := "canEncode", desc := "(C)Z", sig := { parameters := [.char], returnType := some .boolean }, accessFlags := 9, code := some k20c2 }
def k20c3 : Code := { maxStack := 4, maxLocals := 1, code := jdk_43_method_46_code, exceptionTable := #[], attributes := #[] }
def k20m3 : Method := { name := "toBytes", desc := "(C)[B", sig := { parameters := [.char], returnType := some (.array .byte) }, accessFlags := 9, code := some k20c3 }
/-- java/lang/StringLatin1 -/
def k20 : Class := { plain "java/lang/StringLatin1" (some 0) with
  accessFlags := 48
  interfaces := #[]
  cf := some (fileOf pool20 14 #[.nestMembers #[390, 221]] #[{ accessFlags := 0, nameIndex := 7, descriptorIndex := 8, attributes := #[] }, { accessFlags := 9, nameIndex := 252, descriptorIndex := 53, attributes := #[] }, { accessFlags := 9, nameIndex := 90, descriptorIndex := 105, attributes := #[] }, { accessFlags := 9, nameIndex := 380, descriptorIndex := 382, attributes := #[] }] 48 4 #[] #[{ accessFlags := 4120, nameIndex := 121, descriptorIndex := 122, attributes := #[] }])
  fields := #[{ name := "$assertionsDisabled", type := .boolean, accessFlags := 4120, slot := 0, constantValue := 0 }]
  methods := #[k20m0, k20m1, k20m2, k20m3]
  instanceTypes := #[]
  staticTypes := #[.boolean]
  resolved := Array.replicate 395 none
  statics := none }

def pool21 : Array CpInfo := pool [(2, .class_ 4), (1, u "java/lang/Object"), (0, u "<init>"), (0, u "()V"), (17, .class_ 26), (1, u "jdk/internal/util/Preconditions"), (6, u "checkIndex"), (21, .class_ 56), (0, u "jdk/internal/util/Preconditions$4"), (57, .class_ 115), (0, u "jdk/internal/util/Preconditions$1"), (7, u "SIOOBE_FORMATTER"), (0, u "Ljava/util/function/BiFunction;"), (0, .class_ 126), (0, u "jdk/internal/util/Preconditions$2"), (3, u "AIOOBE_FORMATTER"), (0, .class_ 132), (0, u "jdk/internal/util/Preconditions$3"), (3, u "IOOBE_FORMATTER"), (41, u "(IILjava/util/function/BiFunction;)I")] 15

def k21m0 : Method := { name := "<init>", desc := "()V", sig := { parameters := [], returnType := none }, accessFlags := 1, code := none }
def k21c1 : Code := { maxStack := 3, maxLocals := 3, code := jdk_41_method_11_code, exceptionTable := #[], attributes := #[] }
def k21m1 : Method := { name := "checkIndex", desc := "(IILjava/util/function/BiFunction;)I", sig := { parameters := [.int, .int, (.object "java/util/function/BiFunction")], returnType := some .int }, accessFlags := 9, code := some k21c1 }
/-- jdk/internal/util/Preconditions -/
def k21 : Class := { plain "jdk/internal/util/Preconditions" (some 0) with
  accessFlags := 33
  interfaces := #[]
  cf := some (fileOf pool21 24 #[.nestMembers #[55, 131, 125, 114]] #[{ accessFlags := 1, nameIndex := 5, descriptorIndex := 6, attributes := #[] }, { accessFlags := 9, nameIndex := 33, descriptorIndex := 178, attributes := #[] }] 33 2 #[] #[{ accessFlags := 25, nameIndex := 123, descriptorIndex := 124, attributes := #[] }, { accessFlags := 25, nameIndex := 130, descriptorIndex := 124, attributes := #[] }, { accessFlags := 25, nameIndex := 136, descriptorIndex := 124, attributes := #[] }])
  fields := #[{ name := "SIOOBE_FORMATTER", type := (.object "java/util/function/BiFunction"), accessFlags := 25, slot := 0, constantValue := 0 }, { name := "AIOOBE_FORMATTER", type := (.object "java/util/function/BiFunction"), accessFlags := 25, slot := 1, constantValue := 0 }, { name := "IOOBE_FORMATTER", type := (.object "java/util/function/BiFunction"), accessFlags := 25, slot := 2, constantValue := 0 }]
  methods := #[k21m0, k21m1]
  instanceTypes := #[]
  staticTypes := #[(.object "java/util/function/BiFunction"), (.object "java/util/function/BiFunction"), (.object "java/util/function/BiFunction")]
  resolved := Array.replicate 194 none
  statics := some 2 }

def pool22 : Array CpInfo := pool [(2, .class_ 4), (1, u "java/lang/Object"), (0, u "<init>"), (0, u "()V"), (12, .class_ 20), (0, u "java/util/Collections"), (63, u "r"), (0, u "Ljava/util/Random;"), (80, .class_ 167), (0, u "java/util/Collections$UnmodifiableCollection"), (6, .class_ 175), (0, u "java/util/Collections$UnmodifiableSequencedCollection"), (6, .class_ 183), (0, u "java/util/Collections$UnmodifiableSet"), (6, .class_ 191), (0, u "java/util/Collections$UnmodifiableSequencedSet"), (6, .class_ 199), (0, u "java/util/Collections$UnmodifiableSortedSet"), (6, .class_ 207), (0, u "java/util/Collections$UnmodifiableNavigableSet"), (4, .class_ 213), (0, u "java/util/Collections$UnmodifiableList"), (1, .class_ 216), (0, u "java/util/Collections$UnmodifiableRandomAccessList"), (6, .class_ 224), (0, u "java/util/Collections$UnmodifiableMap"), (6, .class_ 232), (0, u "java/util/Collections$UnmodifiableSequencedMap"), (4, .class_ 238), (0, u "java/util/Collections$UnmodifiableSortedMap"), (6, .class_ 246), (0, u "java/util/Collections$UnmodifiableNavigableMap"), (3, .class_ 251), (0, u "java/util/Collections$SynchronizedCollection"), (4, .class_ 257), (0, u "java/util/Collections$SynchronizedSet"), (4, .class_ 263), (0, u "java/util/Collections$SynchronizedSortedSet"), (1, .class_ 266), (0, u "java/util/Collections$SynchronizedNavigableSet"), (1, .class_ 269), (0, u "java/util/Collections$SynchronizedRandomAccessList"), (1, .class_ 272), (0, u "java/util/Collections$SynchronizedList"), (5, .class_ 279), (0, u "java/util/Collections$SynchronizedMap"), (1, .class_ 282), (0, u "java/util/Collections$SynchronizedSortedMap"), (1, .class_ 285), (0, u "java/util/Collections$SynchronizedNavigableMap"), (1, .class_ 288), (0, u "java/util/Collections$CheckedCollection"), (11, .class_ 301), (0, u "java/util/Collections$CheckedQueue"), (3, .class_ 306), (0, u "java/util/Collections$CheckedSet"), (3, .class_ 311), (0, u "java/util/Collections$CheckedSortedSet"), (3, .class_ 316), (0, u "java/util/Collections$CheckedNavigableSet"), (3, .class_ 321), (0, u "java/util/Collections$CheckedRandomAccessList"), (3, .class_ 326), (0, u "java/util/Collections$CheckedList"), (1, .class_ 329), (0, u "java/util/Collections$CheckedMap"), (3, .class_ 334), (0, u "java/util/Collections$CheckedSortedMap"), (3, .class_ 339), (0, u "java/util/Collections$CheckedNavigableMap"), (4, .class_ 346), (1, u "java/util/Collections$EmptyIterator"), (3, .class_ 352), (1, u "java/util/Collections$EmptyListIterator"), (2, .class_ 357), (1, u "java/util/Collections$EmptyEnumeration"), (4, u "EMPTY_SET"), (0, u "Ljava/util/Set;"), (6, u "EMPTY_LIST"), (0, u "Ljava/util/List;"), (2, u "EMPTY_MAP"), (0, u "Ljava/util/Map;"), (4, .class_ 381), (0, u "java/util/Collections$SingletonSet"), (2, .class_ 385), (0, u "java/util/Collections$1"), (1, .class_ 388), (0, u "java/util/Collections$2"), (1, .class_ 391), (0, u "java/util/Collections$SingletonList"), (1, .class_ 394), (0, u "java/util/Collections$SingletonMap"), (22, .class_ 418), (0, u "java/util/Collections$CopiesList"), (4, .class_ 425), (1, u "java/util/Collections$ReverseComparator"), (8, .class_ 435), (0, u "java/util/Collections$ReverseComparator2"), (6, .class_ 443), (0, u "java/util/Collections$3"), (25, .class_ 470), (0, u "java/util/Collections$SetFromMap"), (2, .class_ 474), (0, u "java/util/Collections$SequencedSetFromMap"), (3, .class_ 479), (0, u "java/util/Collections$AsLIFOQueue"), (11, .class_ 492), (0, u "java/util/Collections$EmptySet"), (1, .class_ 495), (0, u "java/util/Collections$EmptyList"), (1, .class_ 498), (0, u "java/util/Collections$EmptyMap"), (1, u "BINARYSEARCH_THRESHOLD"), (0, u "I"), (2, u "REVERSE_THRESHOLD"), (1, u "SHUFFLE_THRESHOLD"), (1, u "FILL_THRESHOLD"), (1, u "ROTATE_THRESHOLD"), (1, u "COPY_THRESHOLD"), (1, u "REPLACEALL_THRESHOLD"), (1, u "INDEXOFSUBLIST_THRESHOLD"), (333, .class_ 851), (0, u "java/util/Collections$CheckedMap$CheckedEntrySet"), (0, .class_ 853), (0, u "java/util/Collections$CheckedMap$CheckedEntrySet$CheckedEntry"), (0, .class_ 855), (0, u "java/util/Collections$CheckedMap$CheckedEntrySet$1"), (0, .class_ 857), (0, u "java/util/Collections$CheckedList$1"), (0, .class_ 859), (0, u "java/util/Collections$CheckedCollection$1"), (0, .class_ 861), (0, u "java/util/Collections$UnmodifiableNavigableMap$EmptyNavigableMap"), (0, .class_ 863), (0, u "java/util/Collections$UnmodifiableMap$UnmodifiableEntrySet"), (0, .class_ 865), (0, u "java/util/Collections$UnmodifiableMap$UnmodifiableEntrySet$UnmodifiableEntry"), (0, .class_ 867), (0, u "java/util/Collections$UnmodifiableMap$UnmodifiableEntrySet$UnmodifiableEntrySetSpliterator"), (0, .class_ 869), (0, u "java/util/Collections$UnmodifiableMap$UnmodifiableEntrySet$1"), (0, .class_ 871), (0, u "java/util/Collections$UnmodifiableList$1"), (0, .class_ 873), (0, u "java/util/Collections$UnmodifiableNavigableSet$EmptyNavigableSet"), (0, .class_ 875), (0, u "java/util/Collections$UnmodifiableCollection$1")] 57

def k22m0 : Method := { name := "<init>", desc := "()V", sig := { parameters := [], returnType := none }, accessFlags := 2, code := none }
/-- java/util/Collections -/
def k22 : Class := { plain "java/util/Collections" (some 0) with
  accessFlags := 33
  interfaces := #[]
  cf := some (fileOf pool22 19 #[.nestMembers #[478, 473, 469, 434, 423, 417, 393, 390, 380, 497, 494, 491, 355, 350, 344, 338, 333, 328, 850, 852, 854, 320, 325, 856, 315, 310, 305, 300, 287, 858, 284, 281, 278, 268, 271, 265, 262, 256, 250, 245, 860, 237, 231, 223, 862, 864, 866, 868, 215, 212, 870, 206, 872, 198, 190, 182, 174, 166, 874, 442, 387, 384]] #[{ accessFlags := 2, nameIndex := 5, descriptorIndex := 6, attributes := #[] }] 33 2 #[] #[{ accessFlags := 26, nameIndex := 500, descriptorIndex := 501, attributes := #[] }, { accessFlags := 26, nameIndex := 504, descriptorIndex := 501, attributes := #[] }, { accessFlags := 26, nameIndex := 506, descriptorIndex := 501, attributes := #[] }, { accessFlags := 26, nameIndex := 508, descriptorIndex := 501, attributes := #[] }, { accessFlags := 26, nameIndex := 510, descriptorIndex := 501, attributes := #[] }, { accessFlags := 26, nameIndex := 512, descriptorIndex := 501, attributes := #[] }, { accessFlags := 26, nameIndex := 514, descriptorIndex := 501, attributes := #[] }, { accessFlags := 26, nameIndex := 516, descriptorIndex := 501, attributes := #[] }, { accessFlags := 10, nameIndex := 84, descriptorIndex := 85, attributes := #[] }, { accessFlags := 25, nameIndex := 362, descriptorIndex := 363, attributes := #[] }, { accessFlags := 25, nameIndex := 370, descriptorIndex := 371, attributes := #[] }, { accessFlags := 25, nameIndex := 374, descriptorIndex := 375, attributes := #[] }])
  fields := #[{ name := "BINARYSEARCH_THRESHOLD", type := .int, accessFlags := 26, slot := 0, constantValue := 0 }, { name := "REVERSE_THRESHOLD", type := .int, accessFlags := 26, slot := 1, constantValue := 0 }, { name := "SHUFFLE_THRESHOLD", type := .int, accessFlags := 26, slot := 2, constantValue := 0 }, { name := "FILL_THRESHOLD", type := .int, accessFlags := 26, slot := 3, constantValue := 0 }, { name := "ROTATE_THRESHOLD", type := .int, accessFlags := 26, slot := 4, constantValue := 0 }, { name := "COPY_THRESHOLD", type := .int, accessFlags := 26, slot := 5, constantValue := 0 }, { name := "REPLACEALL_THRESHOLD", type := .int, accessFlags := 26, slot := 6, constantValue := 0 }, { name := "INDEXOFSUBLIST_THRESHOLD", type := .int, accessFlags := 26, slot := 7, constantValue := 0 }, { name := "r", type := (.object "java/util/Random"), accessFlags := 10, slot := 8, constantValue := 0 }, { name := "EMPTY_SET", type := (.object "java/util/Set"), accessFlags := 25, slot := 9, constantValue := 0 }, { name := "EMPTY_LIST", type := (.object "java/util/List"), accessFlags := 25, slot := 10, constantValue := 0 }, { name := "EMPTY_MAP", type := (.object "java/util/Map"), accessFlags := 25, slot := 11, constantValue := 0 }]
  methods := #[k22m0]
  instanceTypes := #[]
  staticTypes := #[.int, .int, .int, .int, .int, .int, .int, .int, (.object "java/util/Random"), (.object "java/util/Set"), (.object "java/util/List"), (.object "java/util/Map")]
  resolved := Array.replicate 933 none
  statics := some 3 }

def pool23 : Array CpInfo := pool [(8, .class_ 10), (1, u "java/lang/Iterable"), (24, .class_ 36), (0, u "java/lang/Object")] 25

/-- java/lang/Iterable -/
def k23 : Class := { plain "java/lang/Iterable" (some 0) with
  accessFlags := 1537
  interfaces := #[]
  cf := some (fileOf pool23 8 #[] #[] 1537 35 #[] #[])
  fields := #[]
  methods := #[]
  instanceTypes := #[]
  staticTypes := #[]
  resolved := Array.replicate 62 none
  statics := none }

def pool24 : Array CpInfo := pool [(10, .class_ 12), (1, u "java/util/Collection"), (47, .class_ 61), (0, u "java/lang/Object"), (0, .class_ 63), (0, u "java/lang/Iterable")] 51

/-- java/util/Collection -/
def k24 : Class := { plain "java/util/Collection" (some 0) with
  accessFlags := 1537
  interfaces := #[23]
  cf := some (fileOf pool24 10 #[] #[] 1537 60 #[62] #[])
  fields := #[]
  methods := #[]
  instanceTypes := #[]
  staticTypes := #[]
  resolved := Array.replicate 115 none
  statics := none }

def pool25 : Array CpInfo := pool [(2, .class_ 4), (1, u "java/lang/Object"), (0, u "<init>"), (0, u "()V"), (1, .class_ 10), (1, u "java/util/AbstractCollection"), (66, .class_ 78), (0, u "java/util/Collection")] 81

def k25m0 : Method := { name := "<init>", desc := "()V", sig := { parameters := [], returnType := none }, accessFlags := 4, code := none }
/-- java/util/AbstractCollection -/
def k25 : Class := { plain "java/util/AbstractCollection" (some 0) with
  accessFlags := 1057
  interfaces := #[24]
  cf := some (fileOf pool25 8 #[] #[{ accessFlags := 4, nameIndex := 5, descriptorIndex := 6, attributes := #[] }] 1057 2 #[77] #[])
  fields := #[]
  methods := #[k25m0]
  instanceTypes := #[]
  staticTypes := #[]
  resolved := Array.replicate 160 none
  statics := none }

def pool26 : Array CpInfo := pool [(8, .class_ 10), (1, u "java/util/SequencedCollection"), (15, .class_ 27), (0, u "java/lang/Object"), (0, .class_ 29), (0, u "java/util/Collection")] 27

/-- java/util/SequencedCollection -/
def k26 : Class := { plain "java/util/SequencedCollection" (some 0) with
  accessFlags := 1537
  interfaces := #[24]
  cf := some (fileOf pool26 8 #[] #[] 1537 26 #[28] #[])
  fields := #[]
  methods := #[]
  instanceTypes := #[]
  staticTypes := #[]
  resolved := Array.replicate 57 none
  statics := none }

def pool27 : Array CpInfo := pool [(8, .class_ 10), (1, u "java/util/List"), (92, .class_ 104), (0, u "java/lang/Object"), (15, .class_ 121), (0, u "java/util/SequencedCollection")] 129

/-- java/util/List -/
def k27 : Class := { plain "java/util/List" (some 0) with
  accessFlags := 1537
  interfaces := #[26]
  cf := some (fileOf pool27 8 #[] #[] 1537 103 #[120] #[])
  fields := #[]
  methods := #[]
  instanceTypes := #[]
  staticTypes := #[]
  resolved := Array.replicate 251 none
  statics := none }

def pool28 : Array CpInfo := pool [(2, .class_ 4), (1, u "java/util/AbstractCollection"), (0, u "<init>"), (0, u "()V"), (1, .class_ 10), (1, u "java/util/AbstractList"), (0, u "modCount"), (0, u "I"), (64, .class_ 78), (0, u "java/util/AbstractList$Itr"), (3, .class_ 83), (0, u "java/util/AbstractList$ListItr"), (9, .class_ 94), (0, u "java/util/AbstractList$RandomAccessSubList"), (3, .class_ 99), (0, u "java/util/AbstractList$SubList"), (33, .class_ 134), (0, u "java/util/List"), (73, .class_ 209), (0, u "java/util/AbstractList$SubList$1"), (0, .class_ 211), (0, u "java/util/AbstractList$RandomAccessSpliterator")] 6

def k28m0 : Method := { name := "<init>", desc := "()V", sig := { parameters := [], returnType := none }, accessFlags := 4, code := none }
/-- java/util/AbstractList -/
def k28 : Class := { plain "java/util/AbstractList" (some 25) with
  accessFlags := 1057
  interfaces := #[27]
  cf := some (fileOf pool28 8 #[.nestMembers #[93, 98, 208, 210, 82, 77]] #[{ accessFlags := 4, nameIndex := 5, descriptorIndex := 6, attributes := #[] }] 1057 2 #[133] #[{ accessFlags := 132, nameIndex := 11, descriptorIndex := 12, attributes := #[] }])
  fields := #[{ name := "modCount", type := .int, accessFlags := 132, slot := 0, constantValue := 0 }]
  methods := #[k28m0]
  instanceTypes := #[.int]
  staticTypes := #[]
  resolved := Array.replicate 218 none
  statics := none }

def pool29 : Array CpInfo := pool [(1, .class_ 2), (0, u "java/util/RandomAccess"), (0, .class_ 4), (0, u "java/lang/Object")] 2

/-- java/util/RandomAccess -/
def k29 : Class := { plain "java/util/RandomAccess" (some 0) with
  accessFlags := 1537
  interfaces := #[]
  cf := some (fileOf pool29 1 #[] #[] 1537 3 #[] #[])
  fields := #[]
  methods := #[]
  instanceTypes := #[]
  staticTypes := #[]
  resolved := Array.replicate 7 none
  statics := none }

def pool30 : Array CpInfo := pool [(2, .class_ 4), (1, u "java/util/AbstractList"), (0, u "<init>"), (0, u "()V"), (1, .class_ 10), (1, u "java/util/Collections"), (54, .class_ 66), (0, u "java/util/Collections$EmptyList"), (0, .class_ 68), (0, u "java/util/RandomAccess"), (0, .class_ 70), (0, u "java/io/Serializable"), (0, u "serialVersionUID"), (0, u "J")] 77

def k30m0 : Method := { name := "<init>", desc := "()V", sig := { parameters := [], returnType := none }, accessFlags := 2, code := none }
/-- java/util/Collections$EmptyList -/
def k30 : Class := { plain "java/util/Collections$EmptyList" (some 28) with
  accessFlags := 32
  interfaces := #[29, 3]
  cf := some (fileOf pool30 65 #[.nestHost 8] #[{ accessFlags := 2, nameIndex := 5, descriptorIndex := 6, attributes := #[] }] 32 2 #[67, 69] #[{ accessFlags := 26, nameIndex := 71, descriptorIndex := 72, attributes := #[] }])
  fields := #[{ name := "serialVersionUID", type := .long, accessFlags := 26, slot := 0, constantValue := 0 }]
  methods := #[k30m0]
  instanceTypes := #[.int]
  staticTypes := #[.long]
  resolved := Array.replicate 150 none
  statics := none }

def pool31 : Array CpInfo := pool [(2, .class_ 4), (1, u "java/lang/StackTraceElement"), (0, u "<init>"), (2, .class_ 10), (1, u "java/lang/Object"), (0, u "()V"), (2, u "format"), (0, u "B"), (2, u "classLoaderName"), (0, u "Ljava/lang/String;"), (2, u "moduleName"), (2, u "moduleVersion"), (12, u "declaringClass"), (4, u "methodName"), (2, u "fileName"), (2, u "lineNumber"), (0, u "I"), (65, u "declaringClassObject"), (0, u "Ljava/lang/Class;"), (33, .class_ 153), (1, u "java/lang/StackTraceElement$HashedModules"), (17, .class_ 172), (0, u "java/io/Serializable"), (0, u "NATIVE_METHOD"), (1, u "UNKNOWN_SOURCE"), (2, u "BUILTIN_CLASS_LOADER"), (1, u "JDK_NON_UPGRADEABLE_MODULE"), (1, u "serialVersionUID"), (0, u "J")] 51

def k31m0 : Method := { name := "<init>", desc := "()V", sig := { parameters := [], returnType := none }, accessFlags := 2, code := none }
/-- java/lang/StackTraceElement -/
def k31 : Class := { plain "java/lang/StackTraceElement" (some 0) with
  accessFlags := 49
  interfaces := #[3]
  cf := some (fileOf pool31 2 #[.nestMembers #[151]] #[{ accessFlags := 2, nameIndex := 5, descriptorIndex := 11, attributes := #[] }] 49 8 #[171] #[{ accessFlags := 26, nameIndex := 173, descriptorIndex := 19, attributes := #[] }, { accessFlags := 26, nameIndex := 175, descriptorIndex := 19, attributes := #[] }, { accessFlags := 130, nameIndex := 116, descriptorIndex := 117, attributes := #[] }, { accessFlags := 2, nameIndex := 18, descriptorIndex := 19, attributes := #[] }, { accessFlags := 2, nameIndex := 22, descriptorIndex := 19, attributes := #[] }, { accessFlags := 2, nameIndex := 25, descriptorIndex := 19, attributes := #[] }, { accessFlags := 2, nameIndex := 38, descriptorIndex := 19, attributes := #[] }, { accessFlags := 2, nameIndex := 43, descriptorIndex := 19, attributes := #[] }, { accessFlags := 2, nameIndex := 46, descriptorIndex := 19, attributes := #[] }, { accessFlags := 2, nameIndex := 49, descriptorIndex := 50, attributes := #[] }, { accessFlags := 2, nameIndex := 14, descriptorIndex := 15, attributes := #[] }, { accessFlags := 26, nameIndex := 178, descriptorIndex := 15, attributes := #[] }, { accessFlags := 26, nameIndex := 180, descriptorIndex := 15, attributes := #[] }, { accessFlags := 26, nameIndex := 182, descriptorIndex := 183, attributes := #[] }])
  fields := #[{ name := "NATIVE_METHOD", type := (.object "java/lang/String"), accessFlags := 26, slot := 0, constantValue := 0 }, { name := "UNKNOWN_SOURCE", type := (.object "java/lang/String"), accessFlags := 26, slot := 1, constantValue := 0 }, { name := "declaringClassObject", type := (.object "java/lang/Class"), accessFlags := 130, slot := 0, constantValue := 0 }, { name := "classLoaderName", type := (.object "java/lang/String"), accessFlags := 2, slot := 1, constantValue := 0 }, { name := "moduleName", type := (.object "java/lang/String"), accessFlags := 2, slot := 2, constantValue := 0 }, { name := "moduleVersion", type := (.object "java/lang/String"), accessFlags := 2, slot := 3, constantValue := 0 }, { name := "declaringClass", type := (.object "java/lang/String"), accessFlags := 2, slot := 4, constantValue := 0 }, { name := "methodName", type := (.object "java/lang/String"), accessFlags := 2, slot := 5, constantValue := 0 }, { name := "fileName", type := (.object "java/lang/String"), accessFlags := 2, slot := 6, constantValue := 0 }, { name := "lineNumber", type := .int, accessFlags := 2, slot := 7, constantValue := 0 }, { name := "format", type := .byte, accessFlags := 2, slot := 8, constantValue := 0 }, { name := "BUILTIN_CLASS_LOADER", type := .byte, accessFlags := 26, slot := 2, constantValue := 0 }, { name := "JDK_NON_UPGRADEABLE_MODULE", type := .byte, accessFlags := 26, slot := 3, constantValue := 0 }, { name := "serialVersionUID", type := .long, accessFlags := 26, slot := 4, constantValue := 0 }]
  methods := #[k31m0]
  instanceTypes := #[(.object "java/lang/Class"), (.object "java/lang/String"), (.object "java/lang/String"), (.object "java/lang/String"), (.object "java/lang/String"), (.object "java/lang/String"), (.object "java/lang/String"), .int, .byte]
  staticTypes := #[(.object "java/lang/String"), (.object "java/lang/String"), .byte, .byte, .long]
  resolved := Array.replicate 235 none
  statics := none }

def pool32 : Array CpInfo := pool [(1, u "java/lang/Cloneable"), (0, .class_ 1), (0, u "java/lang/Object"), (0, .class_ 3)] 3

/-- java/lang/Cloneable -/
def k32 : Class := { plain "java/lang/Cloneable" (some 0) with
  accessFlags := 1537
  interfaces := #[]
  cf := some (fileOf pool32 2 #[] #[] 1537 4 #[] #[])
  fields := #[]
  methods := #[]
  instanceTypes := #[]
  staticTypes := #[]
  resolved := Array.replicate 8 none
  statics := none }

/-- the primitive byte -/
def k33 : Class := { plain "byte" none with kind := .primitive 'B', accessFlags := 0x411 }
/-- [B -/
def k34 : Class := { plain "[B" (some 0) with kind := .array 33 .byte, interfaces := #[32, 3], accessFlags := 1041 }

/-- the primitive char -/
def k35 : Class := { plain "char" none with kind := .primitive 'C', accessFlags := 0x411 }
/-- [C -/
def k36 : Class := { plain "[C" (some 0) with kind := .array 35 .char, interfaces := #[32, 3], accessFlags := 1041 }

/-- the primitive int -/
def k37 : Class := { plain "int" none with kind := .primitive 'I', accessFlags := 0x411 }
/-- [I -/
def k38 : Class := { plain "[I" (some 0) with kind := .array 37 .int, interfaces := #[32, 3], accessFlags := 1041 }

/-- [Ljava/lang/Object; -/
def k39 : Class := { plain "[Ljava/lang/Object;" (some 0) with kind := .array 0 (.object "java/lang/Object"), interfaces := #[32, 3], accessFlags := 1041 }

/-- [Ljava/lang/StackTraceElement; -/
def k40 : Class := { plain "[Ljava/lang/StackTraceElement;" (some 0) with kind := .array 31 (.object "java/lang/StackTraceElement"), interfaces := #[32, 3], accessFlags := 1041 }

/-- [Ljava/lang/Throwable; -/
def k41 : Class := { plain "[Ljava/lang/Throwable;" (some 0) with kind := .array 11 (.object "java/lang/Throwable"), interfaces := #[32, 3], accessFlags := 1041 }

def heap : Heap := #[{ cls := 8, slots := #[.long 0, .int 1, .null, .int 0, .null, .int 0, .int 0], vm := .statics 8 },
  { cls := 11, slots := #[.long 0, .ref 4, .ref 5, .null, .null, .null, .null, .ref 6, .int 1], vm := .statics 11 },
  { cls := 21, slots := #[.null, .null, .null], vm := .statics 21 },
  { cls := 22, slots := #[.int 0, .int 0, .int 0, .int 0, .int 0, .int 0, .int 0, .int 0, .null, .null, .ref 5, .null], vm := .statics 22 },
  { cls := 40, slots := #[], vm := .none },
  { cls := 30, slots := #[.int 0], vm := .none },
  { cls := 41, slots := #[], vm := .none }]
def classes : Array Class := #[k0, k1, k2, k3, k4, k5, k6, k7, k8, k9, k10, k11, k12, k13, k14, k15, k16, k17, k18, k19, k20, k21, k22, k23, k24, k25, k26, k27, k28, k29, k30, k31, k32, k33, k34, k35, k36, k37, k38, k39, k40, k41]
def interned : List (Array UInt16 × Addr) := []
def slotsUsed : Nat := 32
def theMethod : MethodId := ⟨1, 3⟩
def args0 : Array Value := #[.int 7, .int 1030, .int 2060]
def aboutOver (below : List Frame) : State where
  vm := { classes := classes, interned := interned.toArray }
  heap := heap
  slotsUsed := slotsUsed
  threads := #[{ frames := .invoking theMethod args0 :: below }]
def below0 : List Frame := [.native { method := ⟨0, 0⟩, args := #[] }]
def about1 : State := aboutOver below0
def p0 : Program := .bare "" "" ""
def e0 : Env := launch0.env 0 0 0
theorem w_frames : about1.frames = Frame.invoking theMethod args0 :: below0 := rfl
set_option maxRecDepth 65536 in
theorem w_args : argsFit about1.vm theMethod args0 = true := by decide +kernel
set_option maxRecDepth 65536 in
theorem w_heap : heapFits about1 = true := by decide +kernel
set_option maxRecDepth 65536 in
theorem w_runnable : about1.curStatus? = some .runnable := by decide +kernel
set_option maxRecDepth 65536 in
theorem w_alone : about1.alone = true := by decide +kernel
set_option maxRecDepth 65536 in
theorem w_named : about1.methodNamed? x = some theMethod := by decide +kernel
set_option maxRecDepth 65536 in
theorem w_hears : about1.hears theMethod below0 = true := by decide +kernel
set_option maxRecDepth 65536 in
theorem w_ripe : about1.ripe theMethod args0 below0 = true := by decide +kernel
theorem w_running : about1.status = .running := rfl
set_option maxRecDepth 65536 in
theorem w_room : about1.hasRoom e0.platform room_1 = true :=
  launch0.hasRoom_least _ room_1 (by decide +kernel) (by decide +kernel) (by decide +kernel) (by decide +kernel) (by decide +kernel) (by decide +kernel)
theorem allAtoms_all (ts : List Jvm.Cond) (a : Array Jvm.Value) (st : Jvm.State) : (allAtoms ts).before a st = ts.all (fun c => c.before a st) := by
  induction ts with
  | nil => rfl
  | cons c t ih =>
    show (Jvm.Cond.and c (allAtoms t)).before a st = _
    rw [Jvm.Cond.before_and, ih, List.all_cons]
def words1 : List Jvm.Cond := Jvm.Cond.code x code maxLocals ret :: tables_1
/-- a 'code' word, met by the world's own term for the bytes: nothing is compared byte by byte -/
theorem code_word {y : MethodName} {bytes : ByteArray} {mx : Nat} {rt : Option FieldType} {a : Array Value} {s : State} {m : MethodId} {meth : Method} {c : Code} (h1 : s.methodNamed? y = some m) (h2 : s.vm.method? m = some meth) (h3 : meth.code = some c) (h4 : c.code = bytes)
    (h5 : (c.maxLocals == mx && c.exceptionTable.isEmpty && decide (c.maxStack ≤ mostOperands) && decide (meth.sig.returnType = rt) && !meth.locks && decide (parseMethodDescriptor y.desc = some meth.sig)) = true) : (Jvm.Cond.code y bytes mx rt).before a s = true := by
  simp only [Bool.and_eq_true, beq_iff_eq, Bool.not_eq_true', decide_eq_true_eq] at h5
  obtain ⟨⟨⟨⟨⟨g1, g2⟩, g3⟩, g4⟩, g5⟩, g6⟩ := h5
  simp [Cond.before, Cond.holds, Cond.value, h1, h2, h3, h4, g1, g2, g3, g4, g5, g6]
def isCode : Jvm.Cond → Bool
  | .code _ _ _ _ => true
  | _ => false
theorem all_split {L : List Jvm.Cond} {P : Jvm.Cond → Bool} (h1 : L.all (fun c => isCode c || P c) = true) (h2 : ∀ c ∈ L.filter isCode, P c = true) : L.all P = true := by
  refine List.all_eq_true.mpr fun c hc => ?_
  have h := List.all_eq_true.mp h1 c hc
  rcases Bool.eq_false_or_eq_true (isCode c) with hi | hi
  · exact h2 c (List.mem_filter.mpr ⟨hc, hi⟩)
  · simpa [hi] using h
set_option maxRecDepth 65536 in
theorem w_c0 : (Jvm.Cond.code x code maxLocals ret).before args0 about1 = true := code_word (m := ⟨1, 3⟩) (meth := k1m3) (c := k1c3) (by decide +kernel) rfl rfl rfl (by decide +kernel)
set_option maxRecDepth 65536 in
theorem w_c1 : (Jvm.Cond.code ({ cls := "java/lang/Math", name := "min", desc := "(II)I" } : Jvm.MethodName) jdk_29_method_69_code (2 : Nat) (Option.some Jvm.ClassFile.FieldType.int)).before args0 about1 = true := code_word (m := ⟨2, 2⟩) (meth := k2m2) (c := k2c2) (by decide +kernel) rfl rfl rfl (by decide +kernel)
set_option maxRecDepth 65536 in
theorem w_c2 : (Jvm.Cond.code ({ cls := "com/example/intentio/intentio/hddl/DeclarationsNotDeclaredPinLaw", name := "mk", desc := "(ICC)Ljava/lang/String;" } : Jvm.MethodName) method_2_code (3 : Nat) (Option.some (Jvm.ClassFile.FieldType.object "java/lang/String"))).before args0 about1 = true := code_word (m := ⟨1, 1⟩) (meth := k1m1) (c := k1c1) (by decide +kernel) rfl rfl rfl (by decide +kernel)
set_option maxRecDepth 65536 in
theorem w_c3 : (Jvm.Cond.code ({ cls := "java/lang/String", name := "<init>", desc := "([C)V" } : Jvm.MethodName) jdk_42_method_3_code (2 : Nat) (Option.none : Option Jvm.ClassFile.FieldType)).before args0 about1 = true := code_word (m := ⟨8, 1⟩) (meth := k8m1) (c := k8c1) (by decide +kernel) rfl rfl rfl (by decide +kernel)
set_option maxRecDepth 65536 in
theorem w_c4 : (Jvm.Cond.code ({ cls := "java/lang/String", name := "<init>", desc := "([CIILjava/lang/Void;)V" } : Jvm.MethodName) jdk_42_method_149_code (6 : Nat) (Option.none : Option Jvm.ClassFile.FieldType)).before args0 about1 = true := code_word (m := ⟨8, 7⟩) (meth := k8m7) (c := k8c7) (by decide +kernel) rfl rfl rfl (by decide +kernel)
set_option maxRecDepth 65536 in
theorem w_c5 : (Jvm.Cond.code ({ cls := "java/lang/Object", name := "<init>", desc := "()V" } : Jvm.MethodName) object_method_1_code (1 : Nat) (Option.none : Option Jvm.ClassFile.FieldType)).before args0 about1 = true := code_word (m := ⟨0, 0⟩) (meth := k0m0) (c := k0c0) (by decide +kernel) rfl rfl rfl (by decide +kernel)
set_option maxRecDepth 65536 in
theorem w_c6 : (Jvm.Cond.code ({ cls := "java/lang/StringUTF16", name := "compress", desc := "([CII)[B" } : Jvm.MethodName) jdk_52_method_16_code (6 : Nat) (Option.some (Jvm.ClassFile.FieldType.array Jvm.ClassFile.FieldType.byte))).before args0 about1 = true := code_word (m := ⟨9, 2⟩) (meth := k9m2) (c := k9c2) (by decide +kernel) rfl rfl rfl (by decide +kernel)
set_option maxRecDepth 65536 in
theorem w_c7 : (Jvm.Cond.code ({ cls := "java/lang/StringUTF16", name := "compress", desc := "([CI[BII)I" } : Jvm.MethodName) jdk_52_method_21_code (7 : Nat) (Option.some Jvm.ClassFile.FieldType.int)).before args0 about1 = true := code_word (m := ⟨9, 3⟩) (meth := k9m3) (c := k9c3) (by decide +kernel) rfl rfl rfl (by decide +kernel)
set_option maxRecDepth 65536 in
theorem w_c8 : (Jvm.Cond.code ({ cls := "java/lang/StringUTF16", name := "coderFromArrayLen", desc := "([BI)B" } : Jvm.MethodName) jdk_52_method_15_code (2 : Nat) (Option.some Jvm.ClassFile.FieldType.byte)).before args0 about1 = true := code_word (m := ⟨9, 1⟩) (meth := k9m1) (c := k9c1) (by decide +kernel) rfl rfl rfl (by decide +kernel)
set_option maxRecDepth 65536 in
theorem w_c9 : (Jvm.Cond.code ({ cls := "com/example/intentio/intentio/hddl/Declarations", name := "notDeclared", desc := "(ILjava/lang/String;Ljava/lang/String;)Lcom/example/intentio/intentio/hddl/HddlException;" } : Jvm.MethodName) prog_46_method_29_code (3 : Nat) (Option.some (Jvm.ClassFile.FieldType.object "com/example/intentio/intentio/hddl/HddlException"))).before args0 about1 = true := code_word (m := ⟨10, 1⟩) (meth := k10m1) (c := k10c1) (by decide +kernel) rfl rfl rfl (by decide +kernel)
set_option maxRecDepth 65536 in
theorem w_c10 : (Jvm.Cond.code ({ cls := "java/lang/StringBuilder", name := "<init>", desc := "()V" } : Jvm.MethodName) jdk_67_method_1_code (1 : Nat) (Option.none : Option Jvm.ClassFile.FieldType)).before args0 about1 = true := code_word (m := ⟨16, 0⟩) (meth := k16m0) (c := k16c0) (by decide +kernel) rfl rfl rfl (by decide +kernel)
set_option maxRecDepth 65536 in
theorem w_c11 : (Jvm.Cond.code ({ cls := "java/lang/AbstractStringBuilder", name := "<init>", desc := "(I)V" } : Jvm.MethodName) jdk_68_method_2_code (2 : Nat) (Option.none : Option Jvm.ClassFile.FieldType)).before args0 about1 = true := code_word (m := ⟨15, 1⟩) (meth := k15m1) (c := k15c1) (by decide +kernel) rfl rfl rfl (by decide +kernel)
set_option maxRecDepth 65536 in
theorem w_c12 : (Jvm.Cond.code ({ cls := "java/lang/StringBuilder", name := "append", desc := "(Ljava/lang/String;)Ljava/lang/StringBuilder;" } : Jvm.MethodName) jdk_67_method_7_code (2 : Nat) (Option.some (Jvm.ClassFile.FieldType.object "java/lang/StringBuilder"))).before args0 about1 = true := code_word (m := ⟨16, 1⟩) (meth := k16m1) (c := k16c1) (by decide +kernel) rfl rfl rfl (by decide +kernel)
set_option maxRecDepth 65536 in
theorem w_c13 : (Jvm.Cond.code ({ cls := "java/lang/AbstractStringBuilder", name := "append", desc := "(Ljava/lang/String;)Ljava/lang/AbstractStringBuilder;" } : Jvm.MethodName) jdk_68_method_22_code (3 : Nat) (Option.some (Jvm.ClassFile.FieldType.object "java/lang/AbstractStringBuilder"))).before args0 about1 = true := code_word (m := ⟨15, 5⟩) (meth := k15m5) (c := k15c5) (by decide +kernel) rfl rfl rfl (by decide +kernel)
set_option maxRecDepth 65536 in
theorem w_c14 : (Jvm.Cond.code ({ cls := "java/lang/String", name := "length", desc := "()I" } : Jvm.MethodName) jdk_42_method_54_code (1 : Nat) (Option.some Jvm.ClassFile.FieldType.int)).before args0 about1 = true := code_word (m := ⟨8, 3⟩) (meth := k8m3) (c := k8c3) (by decide +kernel) rfl rfl rfl (by decide +kernel)
set_option maxRecDepth 65536 in
theorem w_c15 : (Jvm.Cond.code ({ cls := "java/lang/String", name := "coder", desc := "()B" } : Jvm.MethodName) jdk_42_method_152_code (1 : Nat) (Option.some Jvm.ClassFile.FieldType.byte)).before args0 about1 = true := code_word (m := ⟨8, 10⟩) (meth := k8m10) (c := k8c10) (by decide +kernel) rfl rfl rfl (by decide +kernel)
set_option maxRecDepth 65536 in
theorem w_c16 : (Jvm.Cond.code ({ cls := "java/lang/AbstractStringBuilder", name := "ensureCapacityInternal", desc := "(I)V" } : Jvm.MethodName) jdk_68_method_9_code (3 : Nat) (Option.none : Option Jvm.ClassFile.FieldType)).before args0 about1 = true := code_word (m := ⟨15, 3⟩) (meth := k15m3) (c := k15c3) (by decide +kernel) rfl rfl rfl (by decide +kernel)
set_option maxRecDepth 65536 in
theorem w_c17 : (Jvm.Cond.code ({ cls := "java/lang/AbstractStringBuilder", name := "putStringAt", desc := "(ILjava/lang/String;)V" } : Jvm.MethodName) jdk_68_method_73_code (3 : Nat) (Option.none : Option Jvm.ClassFile.FieldType)).before args0 about1 = true := code_word (m := ⟨15, 9⟩) (meth := k15m9) (c := k15c9) (by decide +kernel) rfl rfl rfl (by decide +kernel)
set_option maxRecDepth 65536 in
theorem w_c18 : (Jvm.Cond.code ({ cls := "java/lang/AbstractStringBuilder", name := "inflateIfNeededFor", desc := "(Ljava/lang/String;)V" } : Jvm.MethodName) jdk_68_method_71_code (2 : Nat) (Option.none : Option Jvm.ClassFile.FieldType)).before args0 about1 = true := code_word (m := ⟨15, 8⟩) (meth := k15m8) (c := k15c8) (by decide +kernel) rfl rfl rfl (by decide +kernel)
set_option maxRecDepth 65536 in
theorem w_c19 : (Jvm.Cond.code ({ cls := "java/lang/String", name := "getBytes", desc := "([BIB)V" } : Jvm.MethodName) jdk_42_method_147_code (4 : Nat) (Option.none : Option Jvm.ClassFile.FieldType)).before args0 about1 = true := code_word (m := ⟨8, 6⟩) (meth := k8m6) (c := k8c6) (by decide +kernel) rfl rfl rfl (by decide +kernel)
set_option maxRecDepth 65536 in
theorem w_c20 : (Jvm.Cond.code ({ cls := "java/lang/AbstractStringBuilder", name := "newCapacity", desc := "(I)I" } : Jvm.MethodName) jdk_68_method_10_code (6 : Nat) (Option.some Jvm.ClassFile.FieldType.int)).before args0 about1 = true := code_word (m := ⟨15, 4⟩) (meth := k15m4) (c := k15c4) (by decide +kernel) rfl rfl rfl (by decide +kernel)
set_option maxRecDepth 65536 in
theorem w_c21 : (Jvm.Cond.code ({ cls := "jdk/internal/util/ArraysSupport", name := "newLength", desc := "(III)I" } : Jvm.MethodName) jdk_48_method_27_code (4 : Nat) (Option.some Jvm.ClassFile.FieldType.int)).before args0 about1 = true := code_word (m := ⟨18, 1⟩) (meth := k18m1) (c := k18c1) (by decide +kernel) rfl rfl rfl (by decide +kernel)
set_option maxRecDepth 65536 in
theorem w_c22 : (Jvm.Cond.code ({ cls := "java/lang/Math", name := "max", desc := "(II)I" } : Jvm.MethodName) jdk_29_method_65_code (2 : Nat) (Option.some Jvm.ClassFile.FieldType.int)).before args0 about1 = true := code_word (m := ⟨2, 1⟩) (meth := k2m1) (c := k2c1) (by decide +kernel) rfl rfl rfl (by decide +kernel)
set_option maxRecDepth 65536 in
theorem w_c23 : (Jvm.Cond.code ({ cls := "java/util/Arrays", name := "copyOf", desc := "([BI)[B" } : Jvm.MethodName) jdk_65_method_121_code (3 : Nat) (Option.some (Jvm.ClassFile.FieldType.array Jvm.ClassFile.FieldType.byte))).before args0 about1 = true := code_word (m := ⟨19, 1⟩) (meth := k19m1) (c := k19c1) (by decide +kernel) rfl rfl rfl (by decide +kernel)
set_option maxRecDepth 65536 in
theorem w_c24 : (Jvm.Cond.code ({ cls := "java/lang/StringBuilder", name := "toString", desc := "()Ljava/lang/String;" } : Jvm.MethodName) jdk_67_method_42_code (1 : Nat) (Option.some (Jvm.ClassFile.FieldType.object "java/lang/String"))).before args0 about1 = true := code_word (m := ⟨16, 2⟩) (meth := k16m2) (c := k16c2) (by decide +kernel) rfl rfl rfl (by decide +kernel)
set_option maxRecDepth 65536 in
theorem w_c25 : (Jvm.Cond.code ({ cls := "java/lang/String", name := "<init>", desc := "(Ljava/lang/StringBuilder;)V" } : Jvm.MethodName) jdk_42_method_53_code (2 : Nat) (Option.none : Option Jvm.ClassFile.FieldType)).before args0 about1 = true := code_word (m := ⟨8, 2⟩) (meth := k8m2) (c := k8c2) (by decide +kernel) rfl rfl rfl (by decide +kernel)
set_option maxRecDepth 65536 in
theorem w_c26 : (Jvm.Cond.code ({ cls := "java/lang/String", name := "<init>", desc := "(Ljava/lang/AbstractStringBuilder;Ljava/lang/Void;)V" } : Jvm.MethodName) jdk_42_method_150_code (5 : Nat) (Option.none : Option Jvm.ClassFile.FieldType)).before args0 about1 = true := code_word (m := ⟨8, 8⟩) (meth := k8m8) (c := k8c8) (by decide +kernel) rfl rfl rfl (by decide +kernel)
set_option maxRecDepth 65536 in
theorem w_c27 : (Jvm.Cond.code ({ cls := "java/lang/AbstractStringBuilder", name := "getValue", desc := "()[B" } : Jvm.MethodName) jdk_68_method_64_code (1 : Nat) (Option.some (Jvm.ClassFile.FieldType.array Jvm.ClassFile.FieldType.byte))).before args0 about1 = true := code_word (m := ⟨15, 6⟩) (meth := k15m6) (c := k15c6) (by decide +kernel) rfl rfl rfl (by decide +kernel)
set_option maxRecDepth 65536 in
theorem w_c28 : (Jvm.Cond.code ({ cls := "java/lang/StringBuilder", name := "length", desc := "()I" } : Jvm.MethodName) jdk_67_method_93_code (1 : Nat) (Option.some Jvm.ClassFile.FieldType.int)).before args0 about1 = true := code_word (m := ⟨16, 3⟩) (meth := k16m3) (c := k16c3) (by decide +kernel) rfl rfl rfl (by decide +kernel)
set_option maxRecDepth 65536 in
theorem w_c29 : (Jvm.Cond.code ({ cls := "java/lang/AbstractStringBuilder", name := "length", desc := "()I" } : Jvm.MethodName) jdk_68_method_6_code (1 : Nat) (Option.some Jvm.ClassFile.FieldType.int)).before args0 about1 = true := code_word (m := ⟨15, 2⟩) (meth := k15m2) (c := k15c2) (by decide +kernel) rfl rfl rfl (by decide +kernel)
set_option maxRecDepth 65536 in
theorem w_c30 : (Jvm.Cond.code ({ cls := "java/lang/AbstractStringBuilder", name := "isLatin1", desc := "()Z" } : Jvm.MethodName) jdk_68_method_68_code (1 : Nat) (Option.some Jvm.ClassFile.FieldType.boolean)).before args0 about1 = true := code_word (m := ⟨15, 7⟩) (meth := k15m7) (c := k15c7) (by decide +kernel) rfl rfl rfl (by decide +kernel)
set_option maxRecDepth 65536 in
theorem w_c31 : (Jvm.Cond.code ({ cls := "java/util/Arrays", name := "copyOfRange", desc := "([BII)[B" } : Jvm.MethodName) jdk_65_method_132_code (3 : Nat) (Option.some (Jvm.ClassFile.FieldType.array Jvm.ClassFile.FieldType.byte))).before args0 about1 = true := code_word (m := ⟨19, 3⟩) (meth := k19m3) (c := k19c3) (by decide +kernel) rfl rfl rfl (by decide +kernel)
set_option maxRecDepth 65536 in
theorem w_c32 : (Jvm.Cond.code ({ cls := "java/util/Arrays", name := "copyOfRangeByte", desc := "([BII)[B" } : Jvm.MethodName) jdk_65_method_133_code (5 : Nat) (Option.some (Jvm.ClassFile.FieldType.array Jvm.ClassFile.FieldType.byte))).before args0 about1 = true := code_word (m := ⟨19, 4⟩) (meth := k19m4) (c := k19c4) (by decide +kernel) rfl rfl rfl (by decide +kernel)
set_option maxRecDepth 65536 in
theorem w_c33 : (Jvm.Cond.code ({ cls := "java/util/Arrays", name := "checkLength", desc := "(II)V" } : Jvm.MethodName) jdk_65_method_131_code (2 : Nat) (Option.none : Option Jvm.ClassFile.FieldType)).before args0 about1 = true := code_word (m := ⟨19, 2⟩) (meth := k19m2) (c := k19c2) (by decide +kernel) rfl rfl rfl (by decide +kernel)
set_option maxRecDepth 65536 in
theorem w_c34 : (Jvm.Cond.code ({ cls := "com/example/intentio/intentio/hddl/HddlException", name := "<init>", desc := "(ILjava/lang/String;)V" } : Jvm.MethodName) prog_61_method_1_code (3 : Nat) (Option.none : Option Jvm.ClassFile.FieldType)).before args0 about1 = true := code_word (m := ⟨13, 0⟩) (meth := k13m0) (c := k13c0) (by decide +kernel) rfl rfl rfl (by decide +kernel)
set_option maxRecDepth 65536 in
theorem w_c35 : (Jvm.Cond.code ({ cls := "java/lang/Exception", name := "<init>", desc := "(Ljava/lang/String;)V" } : Jvm.MethodName) jdk_59_method_2_code (2 : Nat) (Option.none : Option Jvm.ClassFile.FieldType)).before args0 about1 = true := code_word (m := ⟨12, 1⟩) (meth := k12m1) (c := k12c1) (by decide +kernel) rfl rfl rfl (by decide +kernel)
set_option maxRecDepth 65536 in
theorem w_c36 : (Jvm.Cond.code ({ cls := "java/lang/Throwable", name := "<init>", desc := "(Ljava/lang/String;)V" } : Jvm.MethodName) jdk_78_method_2_code (2 : Nat) (Option.none : Option Jvm.ClassFile.FieldType)).before args0 about1 = true := code_word (m := ⟨11, 1⟩) (meth := k11m1) (c := k11c1) (by decide +kernel) rfl rfl rfl (by decide +kernel)
set_option maxRecDepth 65536 in
theorem w_c37 : (Jvm.Cond.code ({ cls := "java/lang/Throwable", name := "<init>", desc := "()V" } : Jvm.MethodName) jdk_78_method_1_code (1 : Nat) (Option.none : Option Jvm.ClassFile.FieldType)).before args0 about1 = true := code_word (m := ⟨11, 0⟩) (meth := k11m0) (c := k11c0) (by decide +kernel) rfl rfl rfl (by decide +kernel)
set_option maxRecDepth 65536 in
theorem w_c38 : (Jvm.Cond.code ({ cls := "com/example/intentio/intentio/hddl/HddlException", name := "line", desc := "()I" } : Jvm.MethodName) prog_61_method_2_code (1 : Nat) (Option.some Jvm.ClassFile.FieldType.int)).before args0 about1 = true := code_word (m := ⟨13, 1⟩) (meth := k13m1) (c := k13c1) (by decide +kernel) rfl rfl rfl (by decide +kernel)
set_option maxRecDepth 65536 in
theorem w_c39 : (Jvm.Cond.code ({ cls := "java/lang/Throwable", name := "getMessage", desc := "()Ljava/lang/String;" } : Jvm.MethodName) jdk_78_method_6_code (1 : Nat) (Option.some (Jvm.ClassFile.FieldType.object "java/lang/String"))).before args0 about1 = true := code_word (m := ⟨11, 2⟩) (meth := k11m2) (c := k11c2) (by decide +kernel) rfl rfl rfl (by decide +kernel)
set_option maxRecDepth 65536 in
theorem w_c40 : (Jvm.Cond.code ({ cls := "java/lang/String", name := "charAt", desc := "(I)C" } : Jvm.MethodName) jdk_42_method_56_code (2 : Nat) (Option.some Jvm.ClassFile.FieldType.char)).before args0 about1 = true := code_word (m := ⟨8, 4⟩) (meth := k8m4) (c := k8c4) (by decide +kernel) rfl rfl rfl (by decide +kernel)
set_option maxRecDepth 65536 in
theorem w_c41 : (Jvm.Cond.code ({ cls := "java/lang/String", name := "isLatin1", desc := "()Z" } : Jvm.MethodName) jdk_42_method_154_code (1 : Nat) (Option.some Jvm.ClassFile.FieldType.boolean)).before args0 about1 = true := code_word (m := ⟨8, 11⟩) (meth := k8m11) (c := k8c11) (by decide +kernel) rfl rfl rfl (by decide +kernel)
set_option maxRecDepth 65536 in
theorem w_c42 : (Jvm.Cond.code ({ cls := "java/lang/StringLatin1", name := "charAt", desc := "([BI)C" } : Jvm.MethodName) jdk_43_method_2_code (2 : Nat) (Option.some Jvm.ClassFile.FieldType.char)).before args0 about1 = true := code_word (m := ⟨20, 1⟩) (meth := k20m1) (c := k20c1) (by decide +kernel) rfl rfl rfl (by decide +kernel)
set_option maxRecDepth 65536 in
theorem w_c43 : (Jvm.Cond.code ({ cls := "java/lang/String", name := "checkIndex", desc := "(II)V" } : Jvm.MethodName) jdk_42_method_155_code (2 : Nat) (Option.none : Option Jvm.ClassFile.FieldType)).before args0 about1 = true := code_word (m := ⟨8, 12⟩) (meth := k8m12) (c := k8c12) (by decide +kernel) rfl rfl rfl (by decide +kernel)
set_option maxRecDepth 65536 in
theorem w_c44 : (Jvm.Cond.code ({ cls := "jdk/internal/util/Preconditions", name := "checkIndex", desc := "(IILjava/util/function/BiFunction;)I" } : Jvm.MethodName) jdk_41_method_11_code (3 : Nat) (Option.some Jvm.ClassFile.FieldType.int)).before args0 about1 = true := code_word (m := ⟨21, 1⟩) (meth := k21m1) (c := k21c1) (by decide +kernel) rfl rfl rfl (by decide +kernel)
set_option maxRecDepth 65536 in
theorem w_c45 : (Jvm.Cond.code ({ cls := "com/example/intentio/intentio/hddl/DeclarationsNotDeclaredPinLaw", name := "tail", desc := "(Ljava/lang/String;I)Z" } : Jvm.MethodName) method_3_code (3 : Nat) (Option.some Jvm.ClassFile.FieldType.boolean)).before args0 about1 = true := code_word (m := ⟨1, 2⟩) (meth := k1m2) (c := k1c2) (by decide +kernel) rfl rfl rfl (by decide +kernel)
set_option maxRecDepth 65536 in
theorem w_c46 : (Jvm.Cond.code ({ cls := "java/lang/String", name := "valueOf", desc := "(C)Ljava/lang/String;" } : Jvm.MethodName) jdk_42_method_139_code (1 : Nat) (Option.some (Jvm.ClassFile.FieldType.object "java/lang/String"))).before args0 about1 = true := code_word (m := ⟨8, 5⟩) (meth := k8m5) (c := k8c5) (by decide +kernel) rfl rfl rfl (by decide +kernel)
set_option maxRecDepth 65536 in
theorem w_c47 : (Jvm.Cond.code ({ cls := "java/lang/StringLatin1", name := "canEncode", desc := "(C)Z" } : Jvm.MethodName) jdk_43_method_3_code (1 : Nat) (Option.some Jvm.ClassFile.FieldType.boolean)).before args0 about1 = true := code_word (m := ⟨20, 2⟩) (meth := k20m2) (c := k20c2) (by decide +kernel) rfl rfl rfl (by decide +kernel)
set_option maxRecDepth 65536 in
theorem w_c48 : (Jvm.Cond.code ({ cls := "java/lang/StringLatin1", name := "toBytes", desc := "(C)[B" } : Jvm.MethodName) jdk_43_method_46_code (1 : Nat) (Option.some (Jvm.ClassFile.FieldType.array Jvm.ClassFile.FieldType.byte))).before args0 about1 = true := code_word (m := ⟨20, 3⟩) (meth := k20m3) (c := k20c3) (by decide +kernel) rfl rfl rfl (by decide +kernel)
set_option maxRecDepth 65536 in
theorem w_c49 : (Jvm.Cond.code ({ cls := "java/lang/String", name := "<init>", desc := "([BB)V" } : Jvm.MethodName) jdk_42_method_151_code (3 : Nat) (Option.none : Option Jvm.ClassFile.FieldType)).before args0 about1 = true := code_word (m := ⟨8, 9⟩) (meth := k8m9) (c := k8c9) (by decide +kernel) rfl rfl rfl (by decide +kernel)
def codes1 : List Jvm.Cond := [Jvm.Cond.code x code maxLocals ret, Jvm.Cond.code ({ cls := "java/lang/Math", name := "min", desc := "(II)I" } : Jvm.MethodName) jdk_29_method_69_code (2 : Nat) (Option.some Jvm.ClassFile.FieldType.int), Jvm.Cond.code ({ cls := "com/example/intentio/intentio/hddl/DeclarationsNotDeclaredPinLaw", name := "mk", desc := "(ICC)Ljava/lang/String;" } : Jvm.MethodName) method_2_code (3 : Nat) (Option.some (Jvm.ClassFile.FieldType.object "java/lang/String")), Jvm.Cond.code ({ cls := "java/lang/String", name := "<init>", desc := "([C)V" } : Jvm.MethodName) jdk_42_method_3_code (2 : Nat) (Option.none : Option Jvm.ClassFile.FieldType), Jvm.Cond.code ({ cls := "java/lang/String", name := "<init>", desc := "([CIILjava/lang/Void;)V" } : Jvm.MethodName) jdk_42_method_149_code (6 : Nat) (Option.none : Option Jvm.ClassFile.FieldType), Jvm.Cond.code ({ cls := "java/lang/Object", name := "<init>", desc := "()V" } : Jvm.MethodName) object_method_1_code (1 : Nat) (Option.none : Option Jvm.ClassFile.FieldType), Jvm.Cond.code ({ cls := "java/lang/StringUTF16", name := "compress", desc := "([CII)[B" } : Jvm.MethodName) jdk_52_method_16_code (6 : Nat) (Option.some (Jvm.ClassFile.FieldType.array Jvm.ClassFile.FieldType.byte)), Jvm.Cond.code ({ cls := "java/lang/StringUTF16", name := "compress", desc := "([CI[BII)I" } : Jvm.MethodName) jdk_52_method_21_code (7 : Nat) (Option.some Jvm.ClassFile.FieldType.int), Jvm.Cond.code ({ cls := "java/lang/StringUTF16", name := "coderFromArrayLen", desc := "([BI)B" } : Jvm.MethodName) jdk_52_method_15_code (2 : Nat) (Option.some Jvm.ClassFile.FieldType.byte), Jvm.Cond.code ({ cls := "com/example/intentio/intentio/hddl/Declarations", name := "notDeclared", desc := "(ILjava/lang/String;Ljava/lang/String;)Lcom/example/intentio/intentio/hddl/HddlException;" } : Jvm.MethodName) prog_46_method_29_code (3 : Nat) (Option.some (Jvm.ClassFile.FieldType.object "com/example/intentio/intentio/hddl/HddlException")), Jvm.Cond.code ({ cls := "java/lang/StringBuilder", name := "<init>", desc := "()V" } : Jvm.MethodName) jdk_67_method_1_code (1 : Nat) (Option.none : Option Jvm.ClassFile.FieldType), Jvm.Cond.code ({ cls := "java/lang/AbstractStringBuilder", name := "<init>", desc := "(I)V" } : Jvm.MethodName) jdk_68_method_2_code (2 : Nat) (Option.none : Option Jvm.ClassFile.FieldType), Jvm.Cond.code ({ cls := "java/lang/StringBuilder", name := "append", desc := "(Ljava/lang/String;)Ljava/lang/StringBuilder;" } : Jvm.MethodName) jdk_67_method_7_code (2 : Nat) (Option.some (Jvm.ClassFile.FieldType.object "java/lang/StringBuilder")), Jvm.Cond.code ({ cls := "java/lang/AbstractStringBuilder", name := "append", desc := "(Ljava/lang/String;)Ljava/lang/AbstractStringBuilder;" } : Jvm.MethodName) jdk_68_method_22_code (3 : Nat) (Option.some (Jvm.ClassFile.FieldType.object "java/lang/AbstractStringBuilder")), Jvm.Cond.code ({ cls := "java/lang/String", name := "length", desc := "()I" } : Jvm.MethodName) jdk_42_method_54_code (1 : Nat) (Option.some Jvm.ClassFile.FieldType.int), Jvm.Cond.code ({ cls := "java/lang/String", name := "coder", desc := "()B" } : Jvm.MethodName) jdk_42_method_152_code (1 : Nat) (Option.some Jvm.ClassFile.FieldType.byte), Jvm.Cond.code ({ cls := "java/lang/AbstractStringBuilder", name := "ensureCapacityInternal", desc := "(I)V" } : Jvm.MethodName) jdk_68_method_9_code (3 : Nat) (Option.none : Option Jvm.ClassFile.FieldType), Jvm.Cond.code ({ cls := "java/lang/AbstractStringBuilder", name := "putStringAt", desc := "(ILjava/lang/String;)V" } : Jvm.MethodName) jdk_68_method_73_code (3 : Nat) (Option.none : Option Jvm.ClassFile.FieldType), Jvm.Cond.code ({ cls := "java/lang/AbstractStringBuilder", name := "inflateIfNeededFor", desc := "(Ljava/lang/String;)V" } : Jvm.MethodName) jdk_68_method_71_code (2 : Nat) (Option.none : Option Jvm.ClassFile.FieldType), Jvm.Cond.code ({ cls := "java/lang/String", name := "getBytes", desc := "([BIB)V" } : Jvm.MethodName) jdk_42_method_147_code (4 : Nat) (Option.none : Option Jvm.ClassFile.FieldType), Jvm.Cond.code ({ cls := "java/lang/AbstractStringBuilder", name := "newCapacity", desc := "(I)I" } : Jvm.MethodName) jdk_68_method_10_code (6 : Nat) (Option.some Jvm.ClassFile.FieldType.int), Jvm.Cond.code ({ cls := "jdk/internal/util/ArraysSupport", name := "newLength", desc := "(III)I" } : Jvm.MethodName) jdk_48_method_27_code (4 : Nat) (Option.some Jvm.ClassFile.FieldType.int), Jvm.Cond.code ({ cls := "java/lang/Math", name := "max", desc := "(II)I" } : Jvm.MethodName) jdk_29_method_65_code (2 : Nat) (Option.some Jvm.ClassFile.FieldType.int), Jvm.Cond.code ({ cls := "java/util/Arrays", name := "copyOf", desc := "([BI)[B" } : Jvm.MethodName) jdk_65_method_121_code (3 : Nat) (Option.some (Jvm.ClassFile.FieldType.array Jvm.ClassFile.FieldType.byte)), Jvm.Cond.code ({ cls := "java/lang/StringBuilder", name := "toString", desc := "()Ljava/lang/String;" } : Jvm.MethodName) jdk_67_method_42_code (1 : Nat) (Option.some (Jvm.ClassFile.FieldType.object "java/lang/String")), Jvm.Cond.code ({ cls := "java/lang/String", name := "<init>", desc := "(Ljava/lang/StringBuilder;)V" } : Jvm.MethodName) jdk_42_method_53_code (2 : Nat) (Option.none : Option Jvm.ClassFile.FieldType), Jvm.Cond.code ({ cls := "java/lang/String", name := "<init>", desc := "(Ljava/lang/AbstractStringBuilder;Ljava/lang/Void;)V" } : Jvm.MethodName) jdk_42_method_150_code (5 : Nat) (Option.none : Option Jvm.ClassFile.FieldType), Jvm.Cond.code ({ cls := "java/lang/AbstractStringBuilder", name := "getValue", desc := "()[B" } : Jvm.MethodName) jdk_68_method_64_code (1 : Nat) (Option.some (Jvm.ClassFile.FieldType.array Jvm.ClassFile.FieldType.byte)), Jvm.Cond.code ({ cls := "java/lang/StringBuilder", name := "length", desc := "()I" } : Jvm.MethodName) jdk_67_method_93_code (1 : Nat) (Option.some Jvm.ClassFile.FieldType.int), Jvm.Cond.code ({ cls := "java/lang/AbstractStringBuilder", name := "length", desc := "()I" } : Jvm.MethodName) jdk_68_method_6_code (1 : Nat) (Option.some Jvm.ClassFile.FieldType.int), Jvm.Cond.code ({ cls := "java/lang/AbstractStringBuilder", name := "isLatin1", desc := "()Z" } : Jvm.MethodName) jdk_68_method_68_code (1 : Nat) (Option.some Jvm.ClassFile.FieldType.boolean), Jvm.Cond.code ({ cls := "java/util/Arrays", name := "copyOfRange", desc := "([BII)[B" } : Jvm.MethodName) jdk_65_method_132_code (3 : Nat) (Option.some (Jvm.ClassFile.FieldType.array Jvm.ClassFile.FieldType.byte)), Jvm.Cond.code ({ cls := "java/util/Arrays", name := "copyOfRangeByte", desc := "([BII)[B" } : Jvm.MethodName) jdk_65_method_133_code (5 : Nat) (Option.some (Jvm.ClassFile.FieldType.array Jvm.ClassFile.FieldType.byte)), Jvm.Cond.code ({ cls := "java/util/Arrays", name := "checkLength", desc := "(II)V" } : Jvm.MethodName) jdk_65_method_131_code (2 : Nat) (Option.none : Option Jvm.ClassFile.FieldType), Jvm.Cond.code ({ cls := "com/example/intentio/intentio/hddl/HddlException", name := "<init>", desc := "(ILjava/lang/String;)V" } : Jvm.MethodName) prog_61_method_1_code (3 : Nat) (Option.none : Option Jvm.ClassFile.FieldType), Jvm.Cond.code ({ cls := "java/lang/Exception", name := "<init>", desc := "(Ljava/lang/String;)V" } : Jvm.MethodName) jdk_59_method_2_code (2 : Nat) (Option.none : Option Jvm.ClassFile.FieldType), Jvm.Cond.code ({ cls := "java/lang/Throwable", name := "<init>", desc := "(Ljava/lang/String;)V" } : Jvm.MethodName) jdk_78_method_2_code (2 : Nat) (Option.none : Option Jvm.ClassFile.FieldType), Jvm.Cond.code ({ cls := "java/lang/Throwable", name := "<init>", desc := "()V" } : Jvm.MethodName) jdk_78_method_1_code (1 : Nat) (Option.none : Option Jvm.ClassFile.FieldType), Jvm.Cond.code ({ cls := "com/example/intentio/intentio/hddl/HddlException", name := "line", desc := "()I" } : Jvm.MethodName) prog_61_method_2_code (1 : Nat) (Option.some Jvm.ClassFile.FieldType.int), Jvm.Cond.code ({ cls := "java/lang/Throwable", name := "getMessage", desc := "()Ljava/lang/String;" } : Jvm.MethodName) jdk_78_method_6_code (1 : Nat) (Option.some (Jvm.ClassFile.FieldType.object "java/lang/String")), Jvm.Cond.code ({ cls := "java/lang/String", name := "charAt", desc := "(I)C" } : Jvm.MethodName) jdk_42_method_56_code (2 : Nat) (Option.some Jvm.ClassFile.FieldType.char), Jvm.Cond.code ({ cls := "java/lang/String", name := "isLatin1", desc := "()Z" } : Jvm.MethodName) jdk_42_method_154_code (1 : Nat) (Option.some Jvm.ClassFile.FieldType.boolean), Jvm.Cond.code ({ cls := "java/lang/StringLatin1", name := "charAt", desc := "([BI)C" } : Jvm.MethodName) jdk_43_method_2_code (2 : Nat) (Option.some Jvm.ClassFile.FieldType.char), Jvm.Cond.code ({ cls := "java/lang/String", name := "checkIndex", desc := "(II)V" } : Jvm.MethodName) jdk_42_method_155_code (2 : Nat) (Option.none : Option Jvm.ClassFile.FieldType), Jvm.Cond.code ({ cls := "jdk/internal/util/Preconditions", name := "checkIndex", desc := "(IILjava/util/function/BiFunction;)I" } : Jvm.MethodName) jdk_41_method_11_code (3 : Nat) (Option.some Jvm.ClassFile.FieldType.int), Jvm.Cond.code ({ cls := "com/example/intentio/intentio/hddl/DeclarationsNotDeclaredPinLaw", name := "tail", desc := "(Ljava/lang/String;I)Z" } : Jvm.MethodName) method_3_code (3 : Nat) (Option.some Jvm.ClassFile.FieldType.boolean), Jvm.Cond.code ({ cls := "java/lang/String", name := "valueOf", desc := "(C)Ljava/lang/String;" } : Jvm.MethodName) jdk_42_method_139_code (1 : Nat) (Option.some (Jvm.ClassFile.FieldType.object "java/lang/String")), Jvm.Cond.code ({ cls := "java/lang/StringLatin1", name := "canEncode", desc := "(C)Z" } : Jvm.MethodName) jdk_43_method_3_code (1 : Nat) (Option.some Jvm.ClassFile.FieldType.boolean), Jvm.Cond.code ({ cls := "java/lang/StringLatin1", name := "toBytes", desc := "(C)[B" } : Jvm.MethodName) jdk_43_method_46_code (1 : Nat) (Option.some (Jvm.ClassFile.FieldType.array Jvm.ClassFile.FieldType.byte)), Jvm.Cond.code ({ cls := "java/lang/String", name := "<init>", desc := "([BB)V" } : Jvm.MethodName) jdk_42_method_151_code (3 : Nat) (Option.none : Option Jvm.ClassFile.FieldType)]
set_option maxRecDepth 65536 in
theorem codes_eq : words1.filter isCode = codes1 := rfl
theorem w_codes : ∀ c ∈ words1.filter isCode, c.before args0 about1 = true := by
  rw [codes_eq]
  intro c hc
  simp only [codes1, List.mem_cons, List.not_mem_nil, or_false] at hc
  rcases hc with rfl | rfl | rfl | rfl | rfl | rfl | rfl | rfl | rfl | rfl | rfl | rfl | rfl | rfl | rfl | rfl | rfl | rfl | rfl | rfl | rfl | rfl | rfl | rfl | rfl | rfl | rfl | rfl | rfl | rfl | rfl | rfl | rfl | rfl | rfl | rfl | rfl | rfl | rfl | rfl | rfl | rfl | rfl | rfl | rfl | rfl | rfl | rfl | rfl | rfl
  · exact w_c0
  · exact w_c1
  · exact w_c2
  · exact w_c3
  · exact w_c4
  · exact w_c5
  · exact w_c6
  · exact w_c7
  · exact w_c8
  · exact w_c9
  · exact w_c10
  · exact w_c11
  · exact w_c12
  · exact w_c13
  · exact w_c14
  · exact w_c15
  · exact w_c16
  · exact w_c17
  · exact w_c18
  · exact w_c19
  · exact w_c20
  · exact w_c21
  · exact w_c22
  · exact w_c23
  · exact w_c24
  · exact w_c25
  · exact w_c26
  · exact w_c27
  · exact w_c28
  · exact w_c29
  · exact w_c30
  · exact w_c31
  · exact w_c32
  · exact w_c33
  · exact w_c34
  · exact w_c35
  · exact w_c36
  · exact w_c37
  · exact w_c38
  · exact w_c39
  · exact w_c40
  · exact w_c41
  · exact w_c42
  · exact w_c43
  · exact w_c44
  · exact w_c45
  · exact w_c46
  · exact w_c47
  · exact w_c48
  · exact w_c49
set_option maxRecDepth 65536 in
theorem w_t1 : (words1.take 24).all (fun c => isCode c || c.before args0 about1) = true := by decide +kernel
set_option maxRecDepth 65536 in
theorem w_t2 : ((words1.drop 24).take 24).all (fun c => isCode c || c.before args0 about1) = true := by decide +kernel
set_option maxRecDepth 65536 in
theorem w_t3 : (((words1.drop 24).drop 24).take 24).all (fun c => isCode c || c.before args0 about1) = true := by decide +kernel
set_option maxRecDepth 65536 in
theorem w_t4 : ((((words1.drop 24).drop 24).drop 24).take 24).all (fun c => isCode c || c.before args0 about1) = true := by decide +kernel
set_option maxRecDepth 65536 in
theorem w_t5 : (((((words1.drop 24).drop 24).drop 24).drop 24).take 24).all (fun c => isCode c || c.before args0 about1) = true := by decide +kernel
set_option maxRecDepth 65536 in
theorem w_t6 : ((((((words1.drop 24).drop 24).drop 24).drop 24).drop 24).take 24).all (fun c => isCode c || c.before args0 about1) = true := by decide +kernel
set_option maxRecDepth 65536 in
theorem w_t7 : (((((((words1.drop 24).drop 24).drop 24).drop 24).drop 24).drop 24).take 24).all (fun c => isCode c || c.before args0 about1) = true := by decide +kernel
set_option maxRecDepth 65536 in
theorem w_t8 : ((((((((words1.drop 24).drop 24).drop 24).drop 24).drop 24).drop 24).drop 24).take 24).all (fun c => isCode c || c.before args0 about1) = true := by decide +kernel
set_option maxRecDepth 65536 in
theorem w_t9 : (((((((((words1.drop 24).drop 24).drop 24).drop 24).drop 24).drop 24).drop 24).drop 24).take 24).all (fun c => isCode c || c.before args0 about1) = true := by decide +kernel
set_option maxRecDepth 65536 in
theorem w_t10 : ((((((((((words1.drop 24).drop 24).drop 24).drop 24).drop 24).drop 24).drop 24).drop 24).drop 24).take 24).all (fun c => isCode c || c.before args0 about1) = true := by decide +kernel
set_option maxRecDepth 65536 in
theorem w_t11 : (((((((((((words1.drop 24).drop 24).drop 24).drop 24).drop 24).drop 24).drop 24).drop 24).drop 24).drop 24).take 24).all (fun c => isCode c || c.before args0 about1) = true := by decide +kernel
set_option maxRecDepth 65536 in
theorem w_t12 : (((((((((((words1.drop 24).drop 24).drop 24).drop 24).drop 24).drop 24).drop 24).drop 24).drop 24).drop 24).drop 24).all (fun c => isCode c || c.before args0 about1) = true := by decide +kernel
theorem w_tables : (allAtoms (Jvm.Cond.code x code maxLocals ret :: tables_1)).before args0 about1 = true := by
  rw [allAtoms_all]
  show words1.all (fun c => c.before args0 about1) = true
  refine all_split ?_ w_codes
  rw [← List.take_append_drop 24 words1, List.all_append, w_t1, ← List.take_append_drop 24 (words1.drop 24), List.all_append, w_t2, ← List.take_append_drop 24 ((words1.drop 24).drop 24), List.all_append, w_t3, ← List.take_append_drop 24 (((words1.drop 24).drop 24).drop 24), List.all_append, w_t4, ← List.take_append_drop 24 ((((words1.drop 24).drop 24).drop 24).drop 24), List.all_append, w_t5, ← List.take_append_drop 24 (((((words1.drop 24).drop 24).drop 24).drop 24).drop 24), List.all_append, w_t6, ← List.take_append_drop 24 ((((((words1.drop 24).drop 24).drop 24).drop 24).drop 24).drop 24), List.all_append, w_t7, ← List.take_append_drop 24 (((((((words1.drop 24).drop 24).drop 24).drop 24).drop 24).drop 24).drop 24), List.all_append, w_t8, ← List.take_append_drop 24 ((((((((words1.drop 24).drop 24).drop 24).drop 24).drop 24).drop 24).drop 24).drop 24), List.all_append, w_t9, ← List.take_append_drop 24 (((((((((words1.drop 24).drop 24).drop 24).drop 24).drop 24).drop 24).drop 24).drop 24).drop 24), List.all_append, w_t10, ← List.take_append_drop 24 ((((((((((words1.drop 24).drop 24).drop 24).drop 24).drop 24).drop 24).drop 24).drop 24).drop 24).drop 24), List.all_append, w_t11, w_t12]
  rfl
set_option maxRecDepth 65536 in
theorem w_rest : rest_1_c.before args0 about1 = true := by decide +kernel
set_option maxRecDepth 65536 in
theorem w_case : (Jvm.Cond.and given_1 narrow_1).before args0 about1 = true := by decide +kernel
set_option maxRecDepth 65536 in
theorem w_consts : constsHeld consts_1 about1 := Jvm.Lit.constsHeldB_iff.mp (by decide +kernel)
theorem w_applies : (headSpec (Jvm.Cond.code x code maxLocals ret :: tables_1) room_1).applies x e0.platform about1 = true :=
  (Spec.applies_iff w_frames).mpr ⟨w_running, w_runnable, w_alone, w_named, w_hears, w_ripe, w_room, w_tables⟩
theorem atStart : AtStart classFile x code maxLocals ret World_1 tables_1 room_1 Calls_1 rest_1 Pre_1 launch0 p0 e0 about1 theMethod args0 below0 :=
  ⟨lists_1, trivial, launch0.admits_env _ _ _, launch0.least_env, fairChoices_fair.cas, fairChoices_fair.clock, w_frames, w_args, w_heap, w_applies, ⟨(by decide +kernel : framesKnown about1 = true), ⟨(by decide +kernel : tablesKnown about1 = true), ⟨w_consts, trivial⟩⟩⟩, w_rest, w_case⟩
end start1
theorem witness_1 : WitnessClaimed_1 := ⟨start1.p0, start1.e0, start1.about1, start1.theMethod, start1.args0, start1.below0, start1.atStart⟩
end Jvm.Pilot.@@N@@
