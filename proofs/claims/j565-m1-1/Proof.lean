import JvmDerived
import JvmDerived.Pilot.@@N@@Statement
import JvmDerived.Pilot.@@N@@Code
set_option linter.unusedVariables false
set_option linter.unusedSimpArgs false
/- laws to paste: Road.backV, Road.codOf (cut by pick.py; bodies as the Statement names them) -/
namespace Jvm.Pilot.@@N@@
namespace StrChars
open Jvm Sem ClassFile Op Lib Jvm.Stand Jvm.Free.XT Jvm.Free.ALB Jvm.Free.JM Jvm.Free
open Jvm.Lib.Cold (StaticIs)
/-- a char array whose places are chars -/
def Ch (a : Addr) (A : Cell) (U : State) : Prop := Arr .char a A U ∧ Typed .char A
theorem Ch.mv {a : Addr} {A : Cell} {U U' : State} (h : Ch a A U) (hal : U.vm.Alike U'.vm) (hh : U'.heap = U.heap) : Ch a A U' := ⟨h.1.mv hal hh, h.2⟩
theorem Ch.keep {a : Addr} {A : Cell} {U U' : State} (h : Ch a A U) (hal : U.vm.Alike U'.vm) (hk : U'.heap[a]? = some A) : Ch a A U' := ⟨h.1.keep hal hk, h.2⟩
/-- what place i of a char[]'s cell holds -/
def cv (A : Cell) (i : Nat) : Int32 := match A.slots[i]? with | some (.int x) => x | _ => 0
theorem Ch.get {a : Addr} {A : Cell} {U : State} (h : Ch a A U) {i : Nat} (hi : i < A.slots.size) : A.slots[i]? = some (.int (cv A i)) := by
  have e := Array.getElem?_eq_getElem hi
  have f := h.2 i _ e
  unfold cv; rw [e]
  generalize A.slots[i] = v at f
  cases v <;> simp [fits] at f ⊢
/-- the byte that i2b leaves of a char -/
def lo8 (x : Int32) : Int32 := x.toInt8.toInt32
theorem fits_lo8 (y : Int32) : fits .byte (.int (lo8 y)) = true := by
  have h1 := y.toInt8.le_toInt
  have h2 := y.toInt8.toInt_lt
  simp only [lo8, fits, Bool.and_eq_true, decide_eq_true_eq, Int32.le_iff_toInt_le, Int8.toInt_toInt32, show (-128 : Int32).toInt = -128 from by decide, show (127 : Int32).toInt = 127 from by decide]
  omega
/-- A' is A but that each place j of lo .. hi - 1 holds f j -/
def Laid (A A' : Cell) (lo hi : Nat) (f : Nat → Value) : Prop := A'.cls = A.cls ∧ A'.vm = A.vm ∧ A'.slots.size = A.slots.size ∧ ∀ i, A'.slots[i]? = if lo ≤ i ∧ i < hi then some (f i) else A.slots[i]?
theorem Laid.zero (A : Cell) (lo : Nat) (f : Nat → Value) : Laid A A lo (lo + 0) f := ⟨rfl, rfl, rfl, fun i => by rw [if_neg (by omega)]⟩
theorem Laid.step {A Ak : Cell} {lo k : Nat} {f : Nat → Value} {v : Value} (h : Laid A Ak lo k f) (hlo : lo ≤ k) (hk : k < Ak.slots.size) (hv : v = f k) : Laid A (Ak.setSlot k v) lo (k + 1) f := by
  refine ⟨h.1, h.2.1, by simpa [Cell.setSlot] using h.2.2.1, fun i => ?_⟩
  by_cases e : k = i
  · subst e; rw [Cell.slots_setSlot_self v hk, if_pos (by omega), hv]
  · rw [Cell.slots_setSlot_ne v e, h.2.2.2 i]
    by_cases q : lo ≤ i ∧ i < k
    · rw [if_pos q, if_pos (by omega)]
    · rw [if_neg q, if_neg (by omega)]
def U16 : String := "java/lang/StringUTF16"
namespace Cmp5
def yN : MethodName := ⟨"java/lang/StringUTF16", "compress", "([CI[BII)I"⟩
abbrev yB : ByteArray := jdk_52_method_21_code
theorem d0 : decode yB 0 = .ok (.iconst 0, 1) := by decide +kernel
theorem d1 : decode yB 1 = .ok (.istore 5, 2) := by decide +kernel
theorem d3 : decode yB 3 = .ok (.iload 5, 2) := by decide +kernel
theorem d5 : decode yB 5 = .ok (.iload 4, 2) := by decide +kernel
theorem d7 : decode yB 7 = .ok (.if_icmp (.ge) 37, 3) := by decide +kernel
theorem d10 : decode yB 10 = .ok (.aload_n 0, 1) := by decide +kernel
theorem d11 : decode yB 11 = .ok (.iload_n 1, 1) := by decide +kernel
theorem d12 : decode yB 12 = .ok (.caload, 1) := by decide +kernel
theorem d13 : decode yB 13 = .ok (.istore 6, 2) := by decide +kernel
theorem d15 : decode yB 15 = .ok (.iload 6, 2) := by decide +kernel
theorem d17 : decode yB 17 = .ok (.sipush 255, 3) := by decide +kernel
theorem d20 : decode yB 20 = .ok (.if_icmp (.le) 6, 3) := by decide +kernel
theorem d26 : decode yB 26 = .ok (.aload_n 2, 1) := by decide +kernel
theorem d27 : decode yB 27 = .ok (.iload_n 3, 1) := by decide +kernel
theorem d28 : decode yB 28 = .ok (.iload 6, 2) := by decide +kernel
theorem d30 : decode yB 30 = .ok (.i2b, 1) := by decide +kernel
theorem d31 : decode yB 31 = .ok (.bastore, 1) := by decide +kernel
theorem d32 : decode yB 32 = .ok (.iinc 1 1, 3) := by decide +kernel
theorem d35 : decode yB 35 = .ok (.iinc 3 1, 3) := by decide +kernel
theorem d38 : decode yB 38 = .ok (.iinc 5 1, 3) := by decide +kernel
theorem d41 : decode yB 41 = .ok (.goto (-38), 3) := by decide +kernel
theorem d44 : decode yB 44 = .ok (.iload 4, 2) := by decide +kernel
theorem d46 : decode yB 46 = .ok (.ireturn, 1) := by decide +kernel
def site : List Cond := []
def tab : Cond := tabOf yN yB 7 (some .int) site
def P (b : Addr) (A : Cell) (d : Addr) (B : Cell) (o q len : Nat) (args : Array Value) (s : State) : Prop := args = #[.ref b, .int (Int32.ofNat o), .ref d, .int (Int32.ofNat q), .int (Int32.ofNat len)] ∧ Ch b A s ∧ Arr .byte d B s ∧ b ≠ d ∧ o + len ≤ A.slots.size ∧ q + len ≤ B.slots.size ∧ ∀ i, i < len → ¬ 255 < cv A (o + i)
def E (b : Addr) (A : Cell) (d : Addr) (B : Cell) (o q len : Nat) (r : Option Value) (s u : State) : Prop := r = some (.int (Int32.ofNat len)) ∧ ∃ B', Put d B' s u ∧ Laid B B' q (q + len) (fun j => Value.int (lo8 (cv A (o + (j - q)))))
/-- no char of the range above 255: len; the places written hold each char's low byte -/
theorem law (l : Launch) (b : Addr) (A : Cell) (d : Addr) (B : Cell) (o q len : Nat) : Law l yN 5 5 0 0 yB 7 (some .int) site (P b A d B o q len) (E b A d B o q len) (copyLocs d q len) 0 0 := by
  refine Law.of_walk (plainFor_of_name (by decide +kernel)) (by decide +kernel) (by decide +kernel) (by decide) (fun _ _ h => by rw [h.1]; rfl) (fun _ U U' hal hh h => ⟨h.1, h.2.1.mv hal hh, h.2.2.1.mv hal hh, h.2.2.2⟩) (fun r U U' V V' h1 hal h2 h => ⟨h.1, h.2.elim fun B' q => ⟨B', q.1.mv h1 h2, q.2⟩⟩) ?_
  intro p e s m args below meth c s₁ X0 hexec hbytes hml hret hlk hnm hown hh0 W hP
  obtain ⟨rfl, hA, hB, hne, l1, l2, hp⟩ := hP
  have c1 : Steps p.tables e below (s₁.setTop (entryFrame m #[.ref b, .int (Int32.ofNat o), .ref d, .int (Int32.ofNat q), .int (Int32.ofNat len)] 7)) (s₁.setTop (mkF m 0 #[.val (.ref b), .val (.int (Int32.ofNat o)), .val (.ref d), .val (.int (Int32.ofNat q)), .val (.int (Int32.ofNat len)), .unset, .unset] [])) := entry rfl
  have hA0 := hA.1.mv X0.warmed.alike hh0
  have hB0 := hB.mv X0.warmed.alike hh0
  have a31 := hA.1.2.2.2
  have c2 : Steps p.tables e below (s₁.setTop (entryFrame m #[.ref b, .int (Int32.ofNat o), .ref d, .int (Int32.ofNat q), .int (Int32.ofNat len)] 7)) (s₁.setTop (mkF m 3 #[.val (.ref b), .val (.int (Int32.ofNat o)), .val (.ref d), .val (.int (Int32.ofNat q)), .val (.int (Int32.ofNat len)), .val (.int 0), .unset] [])) := c1.trans (by
    refine iconstV X0.here hexec rfl 0 (hb hbytes d0) (by decide) ?_
    refine XS.istore X0.here hexec rfl (hb hbytes d1) rfl rfl ?_
    exact Steps.refl _)
  have loop : ∀ (r i : Nat), i + r = len → ∀ (z : Slot), (z = .unset ∨ ∃ w, z = .val w ∧ w.category = 1) → ∀ (Tl : State) (Bk : Cell), Stand p l e { frames := 0, locals := 0, cells := 0, slots := 0 } s m #[.ref b, .int (Int32.ofNat o), .ref d, .int (Int32.ofNat q), .int (Int32.ofNat len)] below meth c Tl ([] ++ copyLocs d q i) 0 0 → Put d Bk s₁ Tl → Laid B Bk q (q + i) (fun j => Value.int (lo8 (cv A (o + (j - q))))) →
      Steps p.tables e below (s₁.setTop (entryFrame m #[.ref b, .int (Int32.ofNat o), .ref d, .int (Int32.ofNat q), .int (Int32.ofNat len)] 7)) (Tl.setTop (mkF m 3 #[.val (.ref b), .val (.int (Int32.ofNat (o + i))), .val (.ref d), .val (.int (Int32.ofNat (q + i))), .val (.int (Int32.ofNat len)), .val (.int (Int32.ofNat i)), z] [])) → ∃ (T' : State) (B' : Cell) (z' : Slot), Stand p l e { frames := 0, locals := 0, cells := 0, slots := 0 } s m #[.ref b, .int (Int32.ofNat o), .ref d, .int (Int32.ofNat q), .int (Int32.ofNat len)] below meth c T' ([] ++ copyLocs d q len) 0 0 ∧ Put d B' s₁ T' ∧ Laid B B' q (q + len) (fun j => Value.int (lo8 (cv A (o + (j - q))))) ∧
      Steps p.tables e below (s₁.setTop (entryFrame m #[.ref b, .int (Int32.ofNat o), .ref d, .int (Int32.ofNat q), .int (Int32.ofNat len)] 7)) (T'.setTop (mkF m 3 #[.val (.ref b), .val (.int (Int32.ofNat (o + len))), .val (.ref d), .val (.int (Int32.ofNat (q + len))), .val (.int (Int32.ofNat len)), .val (.int (Int32.ofNat len)), z'] [])) := by
    intro r
    induction r with
    | zero =>
      intro i hi z hz Tl Bk Xl pl fl cl
      have hil : i = len := by omega
      rw [hil] at Xl fl cl
      exact ⟨Tl, Bk, z, Xl, pl, fl, cl⟩
    | succ r ih =>
      intro i hi z hz Tl Bk Xl pl fl cl
      have all := X0.warmed.alike.symm.trans Xl.warmed.alike
      have hAl := hA0.keep all (pl.other hne hA0.1)
      have hBk := hB0.like all pl.1 fl.1 fl.2.1 fl.2.2.1
      have hlt : q + i < Bk.slots.size := by rw [fl.2.2.1]; omega
      have c3 : Steps p.tables e below (s₁.setTop (entryFrame m #[.ref b, .int (Int32.ofNat o), .ref d, .int (Int32.ofNat q), .int (Int32.ofNat len)] 7)) (Tl.setTop (mkF m 12 #[.val (.ref b), .val (.int (Int32.ofNat (o + i))), .val (.ref d), .val (.int (Int32.ofNat (q + i))), .val (.int (Int32.ofNat len)), .val (.int (Int32.ofNat i)), z] [.int (Int32.ofNat (o + i)), .ref b])) := cl.trans (by
        refine XS.iload Xl.here hexec rfl (hb hbytes d3) rfl ?_
        refine XS.iload Xl.here hexec rfl (hb hbytes d5) rfl ?_
        refine XS.icmpNo Xl.here hexec rfl (hb hbytes d7) rfl (ii_ge_f (lt32 (by omega) (by omega))) ?_
        refine XS.aloadN Xl.here hexec rfl (hb hbytes d10) rfl rfl ?_
        refine XS.iloadN Xl.here hexec rfl (hb hbytes d11) rfl ?_
        exact Steps.refl _)
      have c4 : Steps p.tables e below (s₁.setTop (entryFrame m #[.ref b, .int (Int32.ofNat o), .ref d, .int (Int32.ofNat q), .int (Int32.ofNat len)] 7)) (Tl.setTop (mkF m 13 #[.val (.ref b), .val (.int (Int32.ofNat (o + i))), .val (.ref d), .val (.int (Int32.ofNat (q + i))), .val (.int (Int32.ofNat len)), .val (.int (Int32.ofNat i)), z] [.int (cv A (o + i))])) := c3.trans (by
        refine Xl.aget hexec hAl rfl (hA.get (i := o + i) (by omega)) rfl rfl (hb hbytes d12) ?_
        exact Steps.refl _)
      have c5 : Steps p.tables e below (s₁.setTop (entryFrame m #[.ref b, .int (Int32.ofNat o), .ref d, .int (Int32.ofNat q), .int (Int32.ofNat len)] 7)) (Tl.setTop (mkF m 15 #[.val (.ref b), .val (.int (Int32.ofNat (o + i))), .val (.ref d), .val (.int (Int32.ofNat (q + i))), .val (.int (Int32.ofNat len)), .val (.int (Int32.ofNat i)), .val (.int (cv A (o + i)))] [])) := c4.trans (by
        refine XS.istoreS Xl.here hexec rfl (hb hbytes d13) rfl rfl hz ?_
        exact Steps.refl _)
      have c6 : Steps p.tables e below (s₁.setTop (entryFrame m #[.ref b, .int (Int32.ofNat o), .ref d, .int (Int32.ofNat q), .int (Int32.ofNat len)] 7)) (Tl.setTop (mkF m 31 #[.val (.ref b), .val (.int (Int32.ofNat (o + i))), .val (.ref d), .val (.int (Int32.ofNat (q + i))), .val (.int (Int32.ofNat len)), .val (.int (Int32.ofNat i)), .val (.int (cv A (o + i)))] [.int (lo8 (cv A (o + i))), .int (Int32.ofNat (q + i)), .ref d])) := c5.trans (by
        refine XS.iload Xl.here hexec rfl (hb hbytes d15) rfl ?_
        refine sipushV Xl.here hexec rfl 255 (hb hbytes d17) (by decide) ?_
        refine XS.icmpYes Xl.here hexec rfl (pc0 := 20) rfl (hb hbytes d20) rfl (ii_le_t (hp i (by omega))) (by decide) rfl ?_
        refine XS.aloadN Xl.here hexec rfl (hb hbytes d26) rfl rfl ?_
        refine XS.iloadN Xl.here hexec rfl (hb hbytes d27) rfl ?_
        refine XS.iload Xl.here hexec rfl (hb hbytes d28) rfl ?_
        refine i2b Xl.here hexec rfl (hb hbytes d30) rfl ?_
        exact Steps.refl _)
      obtain ⟨T7, X7, p7, st7⟩ := Xl.aput hexec hBk rfl hlt rfl (fits_lo8 (cv A (o + i))) (g := (mkF m 31 #[.val (.ref b), .val (.int (Int32.ofNat (o + i))), .val (.ref d), .val (.int (Int32.ofNat (q + i))), .val (.int (Int32.ofNat len)), .val (.int (Int32.ofNat i)), .val (.int (cv A (o + i)))] [.int (lo8 (cv A (o + i))), .int (Int32.ofNat (q + i)), .ref d])) rfl (rest := []) rfl (hb hbytes d31)
      have c8 : Steps p.tables e below (s₁.setTop (entryFrame m #[.ref b, .int (Int32.ofNat o), .ref d, .int (Int32.ofNat q), .int (Int32.ofNat len)] 7)) (T7.setTop (mkF m 32 #[.val (.ref b), .val (.int (Int32.ofNat (o + i))), .val (.ref d), .val (.int (Int32.ofNat (q + i))), .val (.int (Int32.ofNat len)), .val (.int (Int32.ofNat i)), .val (.int (cv A (o + i)))] [])) := c6.trans (st7 _ (Steps.refl _))
      have c9 : Steps p.tables e below (s₁.setTop (entryFrame m #[.ref b, .int (Int32.ofNat o), .ref d, .int (Int32.ofNat q), .int (Int32.ofNat len)] 7)) (T7.setTop (mkF m 3 #[.val (.ref b), .val (.int (Int32.ofNat (o + i) + 1)), .val (.ref d), .val (.int (Int32.ofNat (q + i) + 1)), .val (.int (Int32.ofNat len)), .val (.int (Int32.ofNat i + 1)), .val (.int (cv A (o + i)))] [])) := c8.trans (by
        refine iincV X7.here hexec rfl 1 (hb hbytes d32) (by decide) rfl rfl ?_
        refine iincV X7.here hexec rfl 1 (hb hbytes d35) (by decide) rfl rfl ?_
        refine iincV X7.here hexec rfl 1 (hb hbytes d38) (by decide) rfl rfl ?_
        refine XS.goto X7.here hexec rfl (pc0 := 41) rfl (hb hbytes d41) (by decide) rfl ?_
        exact Steps.refl _)
      have c10 : Steps p.tables e below (s₁.setTop (entryFrame m #[.ref b, .int (Int32.ofNat o), .ref d, .int (Int32.ofNat q), .int (Int32.ofNat len)] 7)) (T7.setTop (mkF m 3 #[.val (.ref b), .val (.int (Int32.ofNat (o + (i + 1)))), .val (.ref d), .val (.int (Int32.ofNat (q + (i + 1)))), .val (.int (Int32.ofNat len)), .val (.int (Int32.ofNat (i + 1))), .val (.int (cv A (o + i)))] [])) := by
        have := c9
        rw [succ32, succ32, succ32] at this
        exact this
      exact ih (i + 1) (by omega) _ (Or.inr ⟨_, rfl, rfl⟩) T7 _ (by rw [copyLocs_step, ← List.append_assoc]; exact X7) (pl.trans p7) (fl.step (by omega) hlt (by simp)) c10
  obtain ⟨T9, B9, z9, X9, p9, f9, g9⟩ := loop len 0 (by omega) .unset (Or.inl rfl) s₁ B (by simpa [copyLocs] using X0) ⟨hB0.1, fun _ _ => rfl, rfl⟩ (Laid.zero _ _ _) c2
  have c11 : Steps p.tables e below (s₁.setTop (entryFrame m #[.ref b, .int (Int32.ofNat o), .ref d, .int (Int32.ofNat q), .int (Int32.ofNat len)] 7)) (T9.setTop (mkF m 46 #[.val (.ref b), .val (.int (Int32.ofNat (o + len))), .val (.ref d), .val (.int (Int32.ofNat (q + len))), .val (.int (Int32.ofNat len)), .val (.int (Int32.ofNat len)), z9] [.int (Int32.ofNat len)])) := g9.trans (by
    refine XS.iload X9.here hexec rfl (hb hbytes d3) rfl ?_
    refine XS.iload X9.here hexec rfl (hb hbytes d5) rfl ?_
    refine XS.icmpYes X9.here hexec rfl (pc0 := 7) rfl (hb hbytes d7) rfl (ii_ge_t (nlt32 (by omega) (Nat.le_refl _))) (by decide) rfl ?_
    refine XS.iload X9.here hexec rfl (hb hbytes d44) rfl ?_
    exact Steps.refl _)
  exact ⟨T9, some (.int (Int32.ofNat len)), _, _, _, X9, by simp, rfl, rfl, (fun h => by cases h), ⟨rfl, B9, p9.from hh0, f9⟩, fun fs hl => c11.trans (X9.ireturnOut hexec hret rfl (Or.inl rfl) (hb hbytes d46) hl)⟩
end Cmp5
namespace Cmp3
def yN : MethodName := ⟨"java/lang/StringUTF16", "compress", "([CII)[B"⟩
abbrev yB : ByteArray := jdk_52_method_16_code
theorem d0 : decode yB 0 = .ok (.iload_n 2, 1) := by decide +kernel
theorem d1 : decode yB 1 = .ok (.newarray .byte, 2) := by decide +kernel
theorem d3 : decode yB 3 = .ok (.astore_n 3, 1) := by decide +kernel
theorem d4 : decode yB 4 = .ok (.aload_n 0, 1) := by decide +kernel
theorem d5 : decode yB 5 = .ok (.iload_n 1, 1) := by decide +kernel
theorem d6 : decode yB 6 = .ok (.aload_n 3, 1) := by decide +kernel
theorem d7 : decode yB 7 = .ok (.iconst 0, 1) := by decide +kernel
theorem d8 : decode yB 8 = .ok (.iload_n 2, 1) := by decide +kernel
theorem d9 : decode yB 9 = .ok (.invokestatic 115, 3) := by decide +kernel
theorem d12 : decode yB 12 = .ok (.istore 4, 2) := by decide +kernel
theorem d14 : decode yB 14 = .ok (.iload 4, 2) := by decide +kernel
theorem d16 : decode yB 16 = .ok (.iload_n 2, 1) := by decide +kernel
theorem d17 : decode yB 17 = .ok (.if_icmp (.eq) 40, 3) := by decide +kernel
theorem d57 : decode yB 57 = .ok (.aload_n 3, 1) := by decide +kernel
theorem d58 : decode yB 58 = .ok (.areturn, 1) := by decide +kernel
def site : List Cond := [.arrayClass .byte, Cmp5.tab] ++ staticW U16 115 Cmp5.yN
def tab : Cond := tabOf yN yB 6 (some (.array .byte)) site
def P (b : Addr) (A : Cell) (o len : Nat) (args : Array Value) (s : State) : Prop := args = #[.ref b, .int (Int32.ofNat o), .int (Int32.ofNat len)] ∧ Ch b A s ∧ o + len ≤ A.slots.size ∧ len ≤ 536870912 ∧ ∀ i, i < len → ¬ 255 < cv A (o + i)
def E (b : Addr) (A : Cell) (o len : Nat) (r : Option Value) (s u : State) : Prop := NewArr .byte "[B" len (fun j => .int (lo8 (cv A (o + j)))) r s u ∧ u.heap.size = s.heap.size + 1
/-- no char of the range above 255: a new byte[] of their low bytes -/
theorem law (l : Launch) (b : Addr) (A : Cell) (o len : Nat) : Law l yN 3 3 1 18 yB 6 (some (.array .byte)) site (P b A o len) (E b A o len) [] 1 len := by
  refine Law.of_walk (plainFor_of_name (by decide +kernel)) (by decide +kernel) (by decide +kernel) (by decide) (fun _ _ h => by rw [h.1]; rfl) (fun _ U U' hal hh h => ⟨h.1, h.2.1.mv hal hh, h.2.2⟩) (fun r U U' V V' h1 hal h2 h => ⟨NewArr.mv r U U' V V' h1 hal h2 h.1, by rw [h1, h2]; exact h.2⟩) ?_
  intro p e s m args below meth c s₁ X0 hexec hbytes hml hret hlk hnm hown hh0 W hP
  obtain ⟨rfl, hA, l1, l2, hp⟩ := hP
  have a31 := hA.1.2.2.2
  have c1 : Steps p.tables e below (s₁.setTop (entryFrame m #[.ref b, .int (Int32.ofNat o), .int (Int32.ofNat len)] 6)) (s₁.setTop (mkF m 0 #[.val (.ref b), .val (.int (Int32.ofNat o)), .val (.int (Int32.ofNat len)), .unset, .unset, .unset] [])) := entry rfl
  have c2 : Steps p.tables e below (s₁.setTop (entryFrame m #[.ref b, .int (Int32.ofNat o), .int (Int32.ofNat len)] 6)) (s₁.setTop (mkF m 1 #[.val (.ref b), .val (.int (Int32.ofNat o)), .val (.int (Int32.ofNat len)), .unset, .unset, .unset] [.int (Int32.ofNat len)])) := c1.trans (by
    refine XS.iloadN X0.here hexec rfl (hb hbytes d0) rfl ?_
    exact Steps.refl _)
  obtain ⟨T3, B3, X3, ba3, bs3, bv3, bh3, bf3, st3⟩ := X0.anew hexec (atype := .byte) (wk W (.arrayClass .byte)) rfl (by show len * 1 ≤ _; omega) (by omega) (g := (mkF m 1 #[.val (.ref b), .val (.int (Int32.ofNat o)), .val (.int (Int32.ofNat len)), .unset, .unset, .unset] [.int (Int32.ofNat len)])) rfl (hb hbytes d1) (rest := []) rfl (Nat.le_refl _) (by show 0 + len ≤ len; omega)
  rw [hh0] at ba3 st3
  have kp3 : XT.Kept s T3 := (XT.Kept.of_eq hh0).push bh3
  have hA3 := hA.keep X3.warmed.alike (kp3 _ _ hA.1.1)
  have hne : b ≠ s.heap.size := hA.1.ne
  have c4 : Steps p.tables e below (s₁.setTop (entryFrame m #[.ref b, .int (Int32.ofNat o), .int (Int32.ofNat len)] 6)) (T3.setTop (mkF m 3 #[.val (.ref b), .val (.int (Int32.ofNat o)), .val (.int (Int32.ofNat len)), .unset, .unset, .unset] [.ref s.heap.size])) := c2.trans (st3 _ (Steps.refl _))
  have c5 : Steps p.tables e below (s₁.setTop (entryFrame m #[.ref b, .int (Int32.ofNat o), .int (Int32.ofNat len)] 6)) (T3.setTop (mkF m 9 #[.val (.ref b), .val (.int (Int32.ofNat o)), .val (.int (Int32.ofNat len)), .val (.ref s.heap.size), .unset, .unset] [.int (Int32.ofNat len), .int 0, .ref s.heap.size, .int (Int32.ofNat o), .ref b])) := c4.trans (by
    refine XS.astoreN X3.here hexec rfl (hb hbytes d3) rfl rfl rfl ?_
    refine XS.aloadN X3.here hexec rfl (hb hbytes d4) rfl rfl ?_
    refine XS.iloadN X3.here hexec rfl (hb hbytes d5) rfl ?_
    refine XS.aloadN X3.here hexec rfl (hb hbytes d6) rfl rfl ?_
    refine iconstV X3.here hexec rfl 0 (hb hbytes d7) (by decide) ?_
    refine XS.iloadN X3.here hexec rfl (hb hbytes d8) rfl ?_
    exact Steps.refl _)
  obtain ⟨v6, T6, X6, E6, g6⟩ := X3.callS hexec (Cmp5.law l b A s.heap.size B3 o 0 len) hown (wks W (staticW U16 115 Cmp5.yN)) (wk W Cmp5.tab) (W := 0) (Nat.le_of_ble_eq_true rfl) (Nat.le_of_ble_eq_true rfl) (Nat.le_refl _) (by show 0 + len + 0 ≤ len; omega) (g := (mkF m 9 #[.val (.ref b), .val (.int (Int32.ofNat o)), .val (.int (Int32.ofNat len)), .val (.ref s.heap.size), .unset, .unset] [.int (Int32.ofNat len), .int (Int32.ofNat 0), .ref s.heap.size, .int (Int32.ofNat o), .ref b])) rfl (by rw [hml]; rfl) c5 (argsL := [.ref b, .int (Int32.ofNat o), .ref s.heap.size, .int (Int32.ofNat 0), .int (Int32.ofNat len)]) (rest := []) rfl rfl (by show 2 * 0 + 0 ≤ _; decide) (hb hbytes d9) (⟨rfl, hA3, ba3, hne, l1, by rw [bs3]; simp, hp⟩)
  obtain ⟨rfl, B6, p6, f6⟩ := E6
  have c7 : Steps p.tables e below (s₁.setTop (entryFrame m #[.ref b, .int (Int32.ofNat o), .int (Int32.ofNat len)] 6)) (T6.setTop (mkF m 12 #[.val (.ref b), .val (.int (Int32.ofNat o)), .val (.int (Int32.ofNat len)), .val (.ref s.heap.size), .unset, .unset] [.int (Int32.ofNat len)])) := g6
  have c8 : Steps p.tables e below (s₁.setTop (entryFrame m #[.ref b, .int (Int32.ofNat o), .int (Int32.ofNat len)] 6)) (T6.setTop (mkF m 58 #[.val (.ref b), .val (.int (Int32.ofNat o)), .val (.int (Int32.ofNat len)), .val (.ref s.heap.size), .val (.int (Int32.ofNat len)), .unset] [.ref s.heap.size])) := c7.trans (by
    refine XS.istore X6.here hexec rfl (hb hbytes d12) rfl rfl ?_
    refine XS.iload X6.here hexec rfl (hb hbytes d14) rfl ?_
    refine XS.iloadN X6.here hexec rfl (hb hbytes d16) rfl ?_
    refine XS.icmpYes X6.here hexec rfl (pc0 := 17) rfl (hb hbytes d17) rfl (ii_eq_t rfl) (by decide) rfl ?_
    refine XS.aloadN X6.here hexec rfl (hb hbytes d57) rfl rfl ?_
    exact Steps.refl _)
  have X8 := X6.wide (L' := []) (cells' := 1) (slots' := len) (fun x hx hlt => by
    simp only [List.nil_append, copyLocs, List.mem_map, List.mem_range] at hx
    obtain ⟨i, -, rfl⟩ := hx
    exact absurd hlt (Nat.lt_irrefl _)) (Nat.le_refl _) (by omega)
  exact ⟨T6, some (.ref s.heap.size), _, _, _, X8, rfl, rfl, rfl, (fun h => by cases h), ⟨⟨rfl, B6, ba3.like (X3.warmed.alike.symm.trans X6.warmed.alike) p6.1 f6.1 f6.2.1 f6.2.2.1, f6.2.1.trans bv3, by rw [X6.warmed.alike.findClass, f6.1]; exact bf3, by rw [f6.2.2.1, bs3]; simp, fun j hj => by rw [f6.2.2.2 j, if_pos (by omega)]; rfl, kp3.put p6 (Nat.le_refl _)⟩, by rw [p6.2.2, bh3, hh0]; simp⟩, fun fs hl => c8.trans (X8.areturnOut hexec rfl hret rfl (hb hbytes d58) hl)⟩
end Cmp3
namespace CodL
def yN : MethodName := ⟨"java/lang/StringUTF16", "coderFromArrayLen", "([BI)B"⟩
abbrev yB : ByteArray := jdk_52_method_15_code
theorem d0 : decode yB 0 = .ok (.iload_n 1, 1) := by decide +kernel
theorem d1 : decode yB 1 = .ok (.aload_n 0, 1) := by decide +kernel
theorem d2 : decode yB 2 = .ok (.arraylength, 1) := by decide +kernel
theorem d3 : decode yB 3 = .ok (.isub, 1) := by decide +kernel
theorem d4 : decode yB 4 = .ok (.bipush 31, 2) := by decide +kernel
theorem d6 : decode yB 6 = .ok (.iushr, 1) := by decide +kernel
theorem d7 : decode yB 7 = .ok (.i2b, 1) := by decide +kernel
theorem d8 : decode yB 8 = .ok (.ireturn, 1) := by decide +kernel
def site : List Cond := []
def tab : Cond := tabOf yN yB 2 (some .byte) site
def P (d : Addr) (B : Cell) (args : Array Value) (s : State) : Prop := args = #[.ref d, .int (Int32.ofNat B.slots.size)] ∧ Arr .byte d B s
def E (r : Option Value) (s u : State) : Prop := XT.PureE (some (.int 0)) r s u
/-- an array as long as the number of chars: LATIN1 -/
theorem law (l : Launch) (d : Addr) (B : Cell) : Law l yN 2 2 0 0 yB 2 (some .byte) site (P d B) E [] 0 0 := by
  refine Law.of_walk (plainFor_of_name (by decide +kernel)) (by decide +kernel) (by decide +kernel) (by decide) (fun _ _ h => by rw [h.1]; rfl) (fun _ U U' hal hh h => ⟨h.1, h.2.mv hal hh⟩) (fun r U U' V V' h1 hal h2 h => XT.PureE.mv r U U' V V' h1 hal h2 h) ?_
  intro p e s m args below meth c s₁ X0 hexec hbytes hml hret hlk hnm hown hh0 W hP
  obtain ⟨rfl, hB⟩ := hP
  have hB0 := hB.mv X0.warmed.alike hh0
  have c1 : Steps p.tables e below (s₁.setTop (entryFrame m #[.ref d, .int (Int32.ofNat B.slots.size)] 2)) (s₁.setTop (mkF m 0 #[.val (.ref d), .val (.int (Int32.ofNat B.slots.size))] [])) := entry rfl
  have c2 : Steps p.tables e below (s₁.setTop (entryFrame m #[.ref d, .int (Int32.ofNat B.slots.size)] 2)) (s₁.setTop (mkF m 2 #[.val (.ref d), .val (.int (Int32.ofNat B.slots.size))] [.ref d, .int (Int32.ofNat B.slots.size)])) := c1.trans (by
    refine XS.iloadN X0.here hexec rfl (hb hbytes d0) rfl ?_
    refine XS.aloadN X0.here hexec rfl (hb hbytes d1) rfl rfl ?_
    exact Steps.refl _)
  have c3 : Steps p.tables e below (s₁.setTop (entryFrame m #[.ref d, .int (Int32.ofNat B.slots.size)] 2)) (s₁.setTop (mkF m 8 #[.val (.ref d), .val (.int (Int32.ofNat B.slots.size))] [.int (lo8 (ushr (Int32.ofNat B.slots.size - Int32.ofNat B.slots.size) 31))])) := c2.trans (by
    refine X0.alen hexec hB0 rfl rfl (hb hbytes d2) ?_
    refine XS.isub X0.here hexec rfl (hb hbytes d3) rfl ?_
    refine bipushV X0.here hexec rfl 31 (hb hbytes d4) (by decide) ?_
    refine iushr X0.here hexec rfl (hb hbytes d6) rfl ?_
    refine i2b X0.here hexec rfl (hb hbytes d7) rfl ?_
    exact Steps.refl _)
  have e0 : lo8 (ushr (Int32.ofNat B.slots.size - Int32.ofNat B.slots.size) 31) = 0 := by rw [Int32.sub_self]; decide
  rw [e0] at c3
  exact ⟨s₁, some (.int 0), _, _, _, X0, rfl, rfl, rfl, (fun h => by cases h), ⟨rfl, hh0⟩, fun fs hl => c3.trans (X0.ireturnOut hexec hret rfl (Or.inr (Or.inr (Or.inl rfl))) (hb hbytes d8) hl)⟩
end CodL
/-- the String at a is Latin-1 over a new byte[] (the heap's one new cell): the low bytes of the len chars of A from o on; every cell but a is kept -/
def Got (a : Addr) (D : Cell) (fV fC : Field) (A : Cell) (o len : Nat) (r : Option Value) (s u : State) : Prop := r = none ∧ ∃ D' V : Cell, Blank "java/lang/String" a D' u ∧ Same D D' [fV.slot, fC.slot] ∧ D'.slots[fV.slot]? = some (.ref s.heap.size) ∧ D'.slots[fC.slot]? = some (.int 0) ∧ Arr .byte s.heap.size V u ∧ V.vm = .none ∧ u.vm.findClass "[B" = some V.cls ∧ V.slots.size = len ∧ (∀ j, j < len → V.slots[j]? = some (.int (lo8 (cv A (o + j))))) ∧ (∀ (y : Addr) (c : Cell), y ≠ a → s.heap[y]? = some c → u.heap[y]? = some c) ∧ u.heap.size = s.heap.size + 1
theorem Got.mv {a : Addr} {D A : Cell} {fV fC : Field} {o len : Nat} : ∀ r (U U' V V' : State), U'.heap = U.heap → V.vm.Alike V'.vm → V'.heap = V.heap → Got a D fV fC A o len r U V → Got a D fV fC A o len r U' V' :=
  fun r U U' V V' h1 hal h2 ⟨e0, D', X, a1, a2, a3, a4, a5, a6, a7, a8, a9, a10, a11⟩ => ⟨e0, D', X, a1.mv hal h2, a2, by rw [h1]; exact a3, a4, by rw [h1]; exact a5.mv hal h2, a6, by rw [hal.findClass]; exact a7, a8, a9, by rw [h1, h2]; exact a10, by rw [h1, h2]; exact a11⟩
namespace New4
def yN : MethodName := ⟨"java/lang/String", "<init>", "([CIILjava/lang/Void;)V"⟩
abbrev yB : ByteArray := jdk_42_method_149_code
theorem d0 : decode yB 0 = .ok (.aload_n 0, 1) := by decide +kernel
theorem d1 : decode yB 1 = .ok (.invokespecial 1, 3) := by decide +kernel
theorem d4 : decode yB 4 = .ok (.iload_n 3, 1) := by decide +kernel
theorem d5 : decode yB 5 = .ok (.ifCond (.ne) 22, 3) := by decide +kernel
theorem d27 : decode yB 27 = .ok (.getstatic 38, 3) := by decide +kernel
theorem d30 : decode yB 30 = .ok (.ifCond (.eq) 28, 3) := by decide +kernel
theorem d33 : decode yB 33 = .ok (.aload_n 1, 1) := by decide +kernel
theorem d34 : decode yB 34 = .ok (.iload_n 2, 1) := by decide +kernel
theorem d35 : decode yB 35 = .ok (.iload_n 3, 1) := by decide +kernel
theorem d36 : decode yB 36 = .ok (.invokestatic 177, 3) := by decide +kernel
theorem d39 : decode yB 39 = .ok (.astore 5, 2) := by decide +kernel
theorem d41 : decode yB 41 = .ok (.aload_n 0, 1) := by decide +kernel
theorem d42 : decode yB 42 = .ok (.aload 5, 2) := by decide +kernel
theorem d44 : decode yB 44 = .ok (.iload_n 3, 1) := by decide +kernel
theorem d45 : decode yB 45 = .ok (.invokestatic 47, 3) := by decide +kernel
theorem d48 : decode yB 48 = .ok (.putfield 15, 3) := by decide +kernel
theorem d51 : decode yB 51 = .ok (.aload_n 0, 1) := by decide +kernel
theorem d52 : decode yB 52 = .ok (.aload 5, 2) := by decide +kernel
theorem d54 : decode yB 54 = .ok (.putfield 9, 3) := by decide +kernel
theorem d57 : decode yB 57 = .ok (.return_, 1) := by decide +kernel
def site : List Cond := [.fieldLink "java/lang/String" 38 "java/lang/String" "COMPACT_STRINGS" "Z", Cmp3.tab, CodL.tab, .laysFinal "java/lang/String" "java/lang/String" "value" "[B", .fieldLink "java/lang/String" 9 "java/lang/String" "value" "[B", .laysFinal "java/lang/String" "java/lang/String" "coder" "B", .fieldLink "java/lang/String" 15 "java/lang/String" "coder" "B"] ++ objW "java/lang/String" 1 ++ staticW "java/lang/String" 177 Cmp3.yN ++ staticW "java/lang/String" 47 CodL.yN
def tab : Cond := tabOf yN yB 6 none site
def P (a : Addr) (D : Cell) (fV fC : Field) (b : Addr) (A : Cell) (z : Int32) (o len : Nat) (args : Array Value) (s : State) : Prop := args = #[.ref a, .ref b, .int (Int32.ofNat o), .int (Int32.ofNat len), .null] ∧ Blank "java/lang/String" a D s ∧ Found "java/lang/String" "value" "[B" fV s ∧ Found "java/lang/String" "coder" "B" fC s ∧ Ch b A s ∧ StaticIs s "java/lang/String" "COMPACT_STRINGS" "Z" (.int z) ∧ ¬ z = 0 ∧ 0 < len ∧ o + len ≤ A.slots.size ∧ len ≤ 536870912 ∧ ∀ i, i < len → ¬ 255 < cv A (o + i)
def E (a : Addr) (D : Cell) (fV fC : Field) (A : Cell) (o len : Nat) (r : Option Value) (s u : State) : Prop := Got a D fV fC A o len r s u
/-- len > 0, no char of the range above 255: a Latin-1 String of their low bytes -/
theorem law (l : Launch) (a : Addr) (D : Cell) (fV fC : Field) (b : Addr) (A : Cell) (z : Int32) (o len : Nat) : Law l yN 5 4 2 35 yB 6 none site (P a D fV fC b A z o len) (E a D fV fC A o len) [⟨a, fC.slot⟩, ⟨a, fV.slot⟩] 1 len := by
  refine Law.of_walk (plainFor_of_name (by decide +kernel)) (by decide +kernel) (by decide +kernel) (by decide) (fun _ _ h => by rw [h.1]; rfl) (fun _ U U' hal hh h => ⟨h.1, h.2.1.mv hal hh, h.2.2.1.al hal, h.2.2.2.1.al hal, h.2.2.2.2.1.mv hal hh, h.2.2.2.2.2.1.there hal hh, h.2.2.2.2.2.2⟩) (fun r U U' V V' h1 hal h2 h => Got.mv r U U' V V' h1 hal h2 h) ?_
  intro p e s m args below meth c s₁ X0 hexec hbytes hml hret hlk hnm hown hh0 W hP
  obtain ⟨rfl, hB, f1, f2, hA, s1, hz, l0, l1, l2, hp⟩ := hP
  have a31 := hA.1.2.2.2
  have c1 : Steps p.tables e below (s₁.setTop (entryFrame m #[.ref a, .ref b, .int (Int32.ofNat o), .int (Int32.ofNat len), .null] 6)) (s₁.setTop (mkF m 0 #[.val (.ref a), .val (.ref b), .val (.int (Int32.ofNat o)), .val (.int (Int32.ofNat len)), .val .null, .unset] [])) := entry rfl
  have c2 : Steps p.tables e below (s₁.setTop (entryFrame m #[.ref a, .ref b, .int (Int32.ofNat o), .int (Int32.ofNat len), .null] 6)) (s₁.setTop (mkF m 1 #[.val (.ref a), .val (.ref b), .val (.int (Int32.ofNat o)), .val (.int (Int32.ofNat len)), .val .null, .unset] [.ref a])) := c1.trans (by
    refine XS.aloadN X0.here hexec rfl (hb hbytes d0) rfl rfl ?_
    exact Steps.refl _)
  obtain ⟨T3, X3, q3, st3⟩ := X0.oinit hexec hown (wks W (objW "java/lang/String" 1)) (g := (mkF m 1 #[.val (.ref a), .val (.ref b), .val (.int (Int32.ofNat o)), .val (.int (Int32.ofNat len)), .val .null, .unset] [.ref a])) rfl (by rw [hml]; rfl) (rest := []) rfl (hb hbytes d1) (W := 0) (by show 2 * 0 + 0 ≤ _; decide) (Nat.le_of_ble_eq_true rfl) (Nat.le_of_ble_eq_true rfl)
  have hh3 := q3.trans hh0
  have c4 : Steps p.tables e below (s₁.setTop (entryFrame m #[.ref a, .ref b, .int (Int32.ofNat o), .int (Int32.ofNat len), .null] 6)) (T3.setTop (mkF m 27 #[.val (.ref a), .val (.ref b), .val (.int (Int32.ofNat o)), .val (.int (Int32.ofNat len)), .val .null, .unset] [])) := (c2.trans (st3 _ (Steps.refl _))).trans (by
    refine XS.iloadN X3.here hexec rfl (hb hbytes d4) rfl ?_
    refine XS.ifYes X3.here hexec rfl (pc0 := 5) rfl (hb hbytes d5) rfl (i0_ne_t (nz32 (by omega) l0)) (by decide) rfl ?_
    exact Steps.refl _)
  obtain ⟨T5, X5, q5, st5⟩ := X3.sget hexec hown (wk W (.fieldLink "java/lang/String" 38 "java/lang/String" "COMPACT_STRINGS" "Z")) s1 (fun _ _ h => by rw [hh3]; exact h) (g := (mkF m 27 #[.val (.ref a), .val (.ref b), .val (.int (Int32.ofNat o)), .val (.int (Int32.ofNat len)), .val .null, .unset] [])) rfl (hb hbytes d27)
  have hh5 := q5.trans hh3
  have c6 : Steps p.tables e below (s₁.setTop (entryFrame m #[.ref a, .ref b, .int (Int32.ofNat o), .int (Int32.ofNat len), .null] 6)) (T5.setTop (mkF m 30 #[.val (.ref a), .val (.ref b), .val (.int (Int32.ofNat o)), .val (.int (Int32.ofNat len)), .val .null, .unset] [.int z])) := c4.trans (st5 _ (Steps.refl _))
  have c7 : Steps p.tables e below (s₁.setTop (entryFrame m #[.ref a, .ref b, .int (Int32.ofNat o), .int (Int32.ofNat len), .null] 6)) (T5.setTop (mkF m 36 #[.val (.ref a), .val (.ref b), .val (.int (Int32.ofNat o)), .val (.int (Int32.ofNat len)), .val .null, .unset] [.int (Int32.ofNat len), .int (Int32.ofNat o), .ref b])) := c6.trans (by
    refine XS.ifNo X5.here hexec rfl (hb hbytes d30) rfl (i0_eq_f hz) ?_
    refine XS.aloadN X5.here hexec rfl (hb hbytes d33) rfl rfl ?_
    refine XS.iloadN X5.here hexec rfl (hb hbytes d34) rfl ?_
    refine XS.iloadN X5.here hexec rfl (hb hbytes d35) rfl ?_
    exact Steps.refl _)
  obtain ⟨v8, T8, X8, E8, g8⟩ := X5.callS hexec (Cmp3.law l b A o len) hown (wks W (staticW "java/lang/String" 177 Cmp3.yN)) (wk W Cmp3.tab) (W := 0) (Nat.le_of_ble_eq_true rfl) (Nat.le_of_ble_eq_true rfl) (Nat.le_refl _) (by show 0 + len ≤ len; omega) (g := (mkF m 36 #[.val (.ref a), .val (.ref b), .val (.int (Int32.ofNat o)), .val (.int (Int32.ofNat len)), .val .null, .unset] [.int (Int32.ofNat len), .int (Int32.ofNat o), .ref b])) rfl (by rw [hml]; rfl) c7 (argsL := [.ref b, .int (Int32.ofNat o), .int (Int32.ofNat len)]) (rest := []) rfl rfl (by show 2 * 0 + 0 ≤ _; decide) (hb hbytes d36) (⟨rfl, hA.mv X5.warmed.alike hh5, l1, l2, hp⟩)
  obtain ⟨e8, z8⟩ := E8
  obtain ⟨rfl, N, n1, n2, n3, n4, n5, n6⟩ := NewArr.mv _ T5 s _ _ hh5.symm (Vm.Alike.refl _) rfl e8
  rw [hh5] at z8
  have hB1 := hB.keep X8.warmed.alike (n6 _ _ hB.1)
  have hne : s.heap.size ≠ a := (Nat.ne_of_lt (Array.getElem?_eq_some_iff.mp hB.1).1).symm
  have c9 : Steps p.tables e below (s₁.setTop (entryFrame m #[.ref a, .ref b, .int (Int32.ofNat o), .int (Int32.ofNat len), .null] 6)) (T8.setTop (mkF m 39 #[.val (.ref a), .val (.ref b), .val (.int (Int32.ofNat o)), .val (.int (Int32.ofNat len)), .val .null, .unset] [.ref s.heap.size])) := g8
  have c10 : Steps p.tables e below (s₁.setTop (entryFrame m #[.ref a, .ref b, .int (Int32.ofNat o), .int (Int32.ofNat len), .null] 6)) (T8.setTop (mkF m 45 #[.val (.ref a), .val (.ref b), .val (.int (Int32.ofNat o)), .val (.int (Int32.ofNat len)), .val .null, .val (.ref s.heap.size)] [.int (Int32.ofNat N.slots.size), .ref s.heap.size, .ref a])) := by
    have hc : Steps p.tables e below (s₁.setTop (entryFrame m #[.ref a, .ref b, .int (Int32.ofNat o), .int (Int32.ofNat len), .null] 6)) (T8.setTop (mkF m 45 #[.val (.ref a), .val (.ref b), .val (.int (Int32.ofNat o)), .val (.int (Int32.ofNat len)), .val .null, .val (.ref s.heap.size)] [.int (Int32.ofNat len), .ref s.heap.size, .ref a])) := c9.trans (by
      refine XS.astore X8.here hexec rfl (hb hbytes d39) rfl rfl rfl ?_
      refine XS.aloadN X8.here hexec rfl (hb hbytes d41) rfl rfl ?_
      refine XS.aload X8.here hexec rfl (hb hbytes d42) rfl rfl ?_
      refine XS.iloadN X8.here hexec rfl (hb hbytes d44) rfl ?_
      exact Steps.refl _)
    rw [n4]; exact hc
  obtain ⟨v11, T11, X11, E11, g11⟩ := X8.callS hexec (CodL.law l s.heap.size N) hown (wks W (staticW "java/lang/String" 47 CodL.yN)) (wk W CodL.tab) (W := 1) (Nat.le_of_ble_eq_true rfl) (Nat.le_of_ble_eq_true rfl) (Nat.le_refl _) (by show 0 + len + 0 ≤ len; omega) (g := (mkF m 45 #[.val (.ref a), .val (.ref b), .val (.int (Int32.ofNat o)), .val (.int (Int32.ofNat len)), .val .null, .val (.ref s.heap.size)] [.int (Int32.ofNat N.slots.size), .ref s.heap.size, .ref a])) rfl (by rw [hml]; rfl) c10 (argsL := [.ref s.heap.size, .int (Int32.ofNat N.slots.size)]) (rest := [.ref a]) rfl rfl (by show 2 * 0 + (1 + 0) ≤ _; decide) (hb hbytes d45) (⟨rfl, n1⟩)
  obtain ⟨rfl, q11⟩ := E11
  have hB11 := hB1.mv (X8.warmed.alike.symm.trans X11.warmed.alike) q11
  have c12 : Steps p.tables e below (s₁.setTop (entryFrame m #[.ref a, .ref b, .int (Int32.ofNat o), .int (Int32.ofNat len), .null] 6)) (T11.setTop (mkF m 48 #[.val (.ref a), .val (.ref b), .val (.int (Int32.ofNat o)), .val (.int (Int32.ofNat len)), .val .null, .val (.ref s.heap.size)] [.int 0, .ref a])) := g11
  obtain ⟨T13, X13, p13, bl13, sl13, st13⟩ := X11.finit hexec hown (wk W (.fieldLink "java/lang/String" 15 "java/lang/String" "coder" "B")) (Or.inr ⟨_, (wk W (.laysFinal "java/lang/String" "java/lang/String" "coder" "B"))⟩) (Or.inl ⟨rfl, hnm⟩) f2 (Or.inl rfl) hB11 (t := .byte) (by decide +kernel) rfl (g := (mkF m 48 #[.val (.ref a), .val (.ref b), .val (.int (Int32.ofNat o)), .val (.int (Int32.ofNat len)), .val .null, .val (.ref s.heap.size)] [.int 0, .ref a])) rfl (rest := []) rfl (hb hbytes d48)
  have c14 : Steps p.tables e below (s₁.setTop (entryFrame m #[.ref a, .ref b, .int (Int32.ofNat o), .int (Int32.ofNat len), .null] 6)) (T13.setTop (mkF m 54 #[.val (.ref a), .val (.ref b), .val (.int (Int32.ofNat o)), .val (.int (Int32.ofNat len)), .val .null, .val (.ref s.heap.size)] [.ref s.heap.size, .ref a])) := (c12.trans (st13 _ (Steps.refl _))).trans (by
    refine XS.aloadN X13.here hexec rfl (hb hbytes d51) rfl rfl ?_
    refine XS.aload X13.here hexec rfl (hb hbytes d52) rfl rfl ?_
    exact Steps.refl _)
  obtain ⟨T15, X15, p15, bl15, sl15, st15⟩ := X13.finit hexec hown (wk W (.fieldLink "java/lang/String" 9 "java/lang/String" "value" "[B")) (Or.inr ⟨_, (wk W (.laysFinal "java/lang/String" "java/lang/String" "value" "[B"))⟩) (Or.inl ⟨rfl, hnm⟩) f1 (Or.inl rfl) bl13 (t := (.array .byte)) (by decide +kernel) rfl (g := (mkF m 54 #[.val (.ref a), .val (.ref b), .val (.int (Int32.ofNat o)), .val (.int (Int32.ofNat len)), .val .null, .val (.ref s.heap.size)] [.ref s.heap.size, .ref a])) rfl (rest := []) rfl (hb hbytes d54)
  have c16 : Steps p.tables e below (s₁.setTop (entryFrame m #[.ref a, .ref b, .int (Int32.ofNat o), .int (Int32.ofNat len), .null] 6)) (T15.setTop (mkF m 57 #[.val (.ref a), .val (.ref b), .val (.int (Int32.ofNat o)), .val (.int (Int32.ofNat len)), .val .null, .val (.ref s.heap.size)] [])) := c14.trans (st15 _ (Steps.refl _))
  have ap := apart (Or.inr ⟨_, (wk W (.laysFinal "java/lang/String" "java/lang/String" "value" "[B"))⟩) (Or.inr ⟨_, (wk W (.laysFinal "java/lang/String" "java/lang/String" "coder" "B"))⟩) f1 f2 (t₁ := .array .byte) (t₂ := .byte) (by decide +kernel) (by decide +kernel) (by decide)
  have al := X8.warmed.alike.symm.trans X15.warmed.alike
  have n7 : T11.heap[s.heap.size]? = some N := by rw [q11]; exact n1.1
  exact ⟨T15, none, _, _, _, X15, by simp, rfl, by omega, (fun _ => rfl), ⟨rfl, _, N, bl15, ((Same.refl D _).set _ (by simp)).set _ (by simp), sl15, (Cell.slots_setSlot_ne _ ap).trans sl13, n1.keep al (p15.other hne (p13.other hne n7)), n2, by rw [al.findClass]; exact n3, n4, n5, fun y c h1 h2 => p15.other h1 (p13.other h1 (by rw [q11]; exact n6 y c h2)), by rw [p15.2.2, p13.2.2, q11]; exact z8⟩, fun fs hl => c16.trans (X15.returnOut hexec hret (hb hbytes d57) hl)⟩
end New4
namespace New1
def yN : MethodName := ⟨"java/lang/String", "<init>", "([C)V"⟩
abbrev yB : ByteArray := jdk_42_method_3_code
theorem d0 : decode yB 0 = .ok (.aload_n 0, 1) := by decide +kernel
theorem d1 : decode yB 1 = .ok (.aload_n 1, 1) := by decide +kernel
theorem d2 : decode yB 2 = .ok (.iconst 0, 1) := by decide +kernel
theorem d3 : decode yB 3 = .ok (.aload_n 1, 1) := by decide +kernel
theorem d4 : decode yB 4 = .ok (.arraylength, 1) := by decide +kernel
theorem d5 : decode yB 5 = .ok (.aconst_null, 1) := by decide +kernel
theorem d6 : decode yB 6 = .ok (.invokespecial 27, 3) := by decide +kernel
theorem d9 : decode yB 9 = .ok (.return_, 1) := by decide +kernel
def site : List Cond := [New4.tab] ++ initW "java/lang/String" 27 New4.yN
def tab : Cond := tabOf yN yB 2 none site
def P (a : Addr) (D : Cell) (fV fC : Field) (b : Addr) (A : Cell) (z : Int32) (args : Array Value) (s : State) : Prop := args = #[.ref a, .ref b] ∧ Blank "java/lang/String" a D s ∧ Found "java/lang/String" "value" "[B" fV s ∧ Found "java/lang/String" "coder" "B" fC s ∧ Ch b A s ∧ StaticIs s "java/lang/String" "COMPACT_STRINGS" "Z" (.int z) ∧ ¬ z = 0 ∧ 0 < A.slots.size ∧ A.slots.size ≤ 536870912 ∧ ∀ i, i < A.slots.size → ¬ 255 < cv A i
def E (a : Addr) (D : Cell) (fV fC : Field) (A : Cell) (r : Option Value) (s u : State) : Prop := Got a D fV fC A 0 A.slots.size r s u
/-- new String(chars), not empty, no char above 255: a Latin-1 String of their low bytes -/
theorem law (l : Launch) (a : Addr) (D : Cell) (fV fC : Field) (b : Addr) (A : Cell) (z : Int32) : Law l yN 2 1 3 52 yB 2 none site (P a D fV fC b A z) (E a D fV fC A) [⟨a, fC.slot⟩, ⟨a, fV.slot⟩] 1 A.slots.size := by
  refine Law.of_walk (plainFor_of_name (by decide +kernel)) (by decide +kernel) (by decide +kernel) (by decide) (fun _ _ h => by rw [h.1]; rfl) (fun _ U U' hal hh h => ⟨h.1, h.2.1.mv hal hh, h.2.2.1.al hal, h.2.2.2.1.al hal, h.2.2.2.2.1.mv hal hh, h.2.2.2.2.2.1.there hal hh, h.2.2.2.2.2.2⟩) (fun r U U' V V' h1 hal h2 h => Got.mv r U U' V V' h1 hal h2 h) ?_
  intro p e s m args below meth c s₁ X0 hexec hbytes hml hret hlk hnm hown hh0 W hP
  obtain ⟨rfl, hB, f1, f2, hA, s1, hz, l0, l2, hp⟩ := hP
  have c1 : Steps p.tables e below (s₁.setTop (entryFrame m #[.ref a, .ref b] 2)) (s₁.setTop (mkF m 0 #[.val (.ref a), .val (.ref b)] [])) := entry rfl
  have c2 : Steps p.tables e below (s₁.setTop (entryFrame m #[.ref a, .ref b] 2)) (s₁.setTop (mkF m 6 #[.val (.ref a), .val (.ref b)] [.null, .int (Int32.ofNat A.slots.size), .int 0, .ref b, .ref a])) := c1.trans (by
    refine XS.aloadN X0.here hexec rfl (hb hbytes d0) rfl rfl ?_
    refine XS.aloadN X0.here hexec rfl (hb hbytes d1) rfl rfl ?_
    refine iconstV X0.here hexec rfl 0 (hb hbytes d2) (by decide) ?_
    refine XS.aloadN X0.here hexec rfl (hb hbytes d3) rfl rfl ?_
    refine X0.alen hexec (hA.1.mv X0.warmed.alike hh0) rfl rfl (hb hbytes d4) ?_
    refine XS.aconstNull X0.here hexec rfl (hb hbytes d5) ?_
    exact Steps.refl _)
  obtain ⟨v3, T3, X3, E3, g3⟩ := X0.callN hexec (New4.law l a D fV fC b A z 0 A.slots.size) rfl hown (wks W (initW "java/lang/String" 27 New4.yN)) (W New4.tab (by simp only [site, List.mem_cons, List.mem_append, true_or, or_true])) (W := 0) (Nat.le_of_ble_eq_true rfl) (Nat.le_of_ble_eq_true rfl) (Nat.le_refl _) (by show 0 + A.slots.size ≤ A.slots.size; omega) (g := (mkF m 6 #[.val (.ref a), .val (.ref b)] [.null, .int (Int32.ofNat A.slots.size), .int (Int32.ofNat 0), .ref b, .ref a])) rfl (by rw [hml]; rfl) c2 (argsL := [.ref b, .int (Int32.ofNat 0), .int (Int32.ofNat A.slots.size), .null]) (rest := []) rfl rfl (by show 2 * 0 + 0 ≤ _; decide) (hb hbytes d6) (⟨rfl, hB.mv X0.warmed.alike hh0, f1.al X0.warmed.alike, f2.al X0.warmed.alike, hA.mv X0.warmed.alike hh0, s1.there X0.warmed.alike hh0, hz, l0, by omega, l2, fun i hi => by rw [Nat.zero_add]; exact hp i hi⟩)
  have e0 := Got.mv _ s₁ s _ _ hh0.symm (Vm.Alike.refl _) rfl E3
  obtain rfl := e0.1
  have c4 : Steps p.tables e below (s₁.setTop (entryFrame m #[.ref a, .ref b] 2)) (T3.setTop (mkF m 9 #[.val (.ref a), .val (.ref b)] [])) := g3
  exact ⟨T3, none, _, _, _, X3, by simp, rfl, by omega, (fun _ => rfl), e0, fun fs hl => c4.trans (X3.returnOut hexec hret (hb hbytes d9) hl)⟩
theorem pays {l : Launch} {R : Room} {p : Program} {e : Env} {below : List Frame} {s : State} {sargs : Array Value} {len W : Nat} (a : Addr) (D : Cell) (fV fC : Field) (b : Addr) (A : Cell) (z : Int32) (htab : tab.before sargs s = true) (hfr : 4 ≤ R.frames) (hlo : W + 65 ≤ R.locals) :
    Back l R p e below s sargs yN len W (fun A₁ a₁ => A₁.cells + 1 ≤ R.cells ∧ A₁.slots + A.slots.size ≤ R.slots ∧ P a D fV fC b A z a₁ A₁.U) (fun A₁ _ v₁ B₁ => E a D fV fC A v₁ A₁.U B₁.U ∧ B₁.locs = A₁.locs ++ [⟨a, fC.slot⟩, ⟨a, fV.slot⟩] ∧ B₁.cells = A₁.cells + 1 ∧ B₁.slots = A₁.slots + A.slots.size) :=
  (law l a D fV fC b A z).pays htab hfr (by omega)
end New1
end StrChars
namespace StrChars.Road
open Jvm Sem ClassFile Op Lib Jvm.Stand Jvm.Free Jvm.Free.XT
open Jvm.Lib.Cold (StaticIs)
abbrev ST : String := "java/lang/String"
/-- every table word that New1's law asks, flat -/
abbrev words : List Jvm.Cond := [.code New1.yN New1.yB 2 none, .initialized ST, .methodLink ST 27 New4.yN, .instanceMethod New4.yN,
  .code New4.yN New4.yB 6 none, .fieldLink ST 38 ST "COMPACT_STRINGS" "Z", .laysFinal ST ST "value" "[B", .fieldLink ST 9 ST "value" "[B", .laysFinal ST ST "coder" "B", .fieldLink ST 15 ST "coder" "B",
  .methodLink ST 1 Lib.objectInit, .instanceMethod Lib.objectInit, .code Lib.objectInit ⟨#[0xb1]⟩ 1 none, .methodLink ST 177 Cmp3.yN, .static Cmp3.yN, .methodLink ST 47 CodL.yN, .static CodL.yN,
  .code Cmp3.yN Cmp3.yB 6 (some (.array .byte)), .initialized U16, .arrayClass .byte, .methodLink U16 115 Cmp5.yN, .static Cmp5.yN, .code Cmp5.yN Cmp5.yB 7 (some .int), .code CodL.yN CodL.yB 2 (some .byte)]
theorem tab_of {a : Array Value} {s : State} (h : ∀ w ∈ words, w.before a s = true) : New1.tab.before a s = true := by
  have h5 : Cmp5.tab.before a s = true := unparts (wk h (.code Cmp5.yN Cmp5.yB 7 (some .int))) (wks h (.initialized Cmp5.yN.cls :: Cmp5.site))
  have hc : CodL.tab.before a s = true := unparts (wk h (.code CodL.yN CodL.yB 2 (some .byte))) (wks h (.initialized CodL.yN.cls :: CodL.site))
  have q5 : ∀ w ∈ Cmp5.tab :: words, w.before a s = true := fun w hw => (List.mem_cons.mp hw).elim (fun e => e ▸ h5) (h w)
  have h3 : Cmp3.tab.before a s = true := unparts (wk q5 (.code Cmp3.yN Cmp3.yB 6 (some (.array .byte)))) (wks q5 (.initialized Cmp3.yN.cls :: Cmp3.site))
  have q3 : ∀ w ∈ Cmp3.tab :: CodL.tab :: words, w.before a s = true := fun w hw => (List.mem_cons.mp hw).elim (fun e => e ▸ h3) fun hw => (List.mem_cons.mp hw).elim (fun e => e ▸ hc) (h w)
  have h4 : New4.tab.before a s = true := unparts (wk q3 (.code New4.yN New4.yB 6 none)) (wks q3 (.initialized New4.yN.cls :: New4.site))
  have q4 : ∀ w ∈ New4.tab :: words, w.before a s = true := fun w hw => (List.mem_cons.mp hw).elim (fun e => e ▸ h4) (h w)
  exact unparts (wk q4 (.code New1.yN New1.yB 2 none)) (wks q4 (.initialized New1.yN.cls :: New1.site))
/-- the words ride from the start Z to the walk's own state -/
theorem moved {Z s : State} {a0 args : Array Value} (hZ : Z.Warmed39 s.vm) (hw : ∀ d ∈ words, d.before a0 Z = true) : ∀ d ∈ words, d.before args s = true := fun d hd => by
  have q := hw d hd
  have t : ∀ d ∈ words, d = .arrayClass .byte ∨ (d.onTables && d.keepsFace) = true := by decide +kernel
  rcases t d hd with rfl | t
  · exact RoadKit.mvA hZ q
  · exact RoadKit.mv hZ q t
/-- WHAT COMES BACK, over the tables of the start Z: h the heap at the call, h' behind it -/
def Q (Z : State) (x : Addr) (A : Cell) (h : Heap) (v : Option Value) (h' : Heap) (L : List Loc) : Prop := v = none ∧ (∀ y ∈ L, y.base = x) ∧ RoadKit.Keep h h' [x] ∧ h'.size = h.size + 1 ∧ RoadKit.Exa Z h' x ST ∧ RoadKit.Fld Z h' x ST "value" "[B" (.ref h.size) ∧ RoadKit.Fld Z h' x ST "coder" "B" (.int 0) ∧
  (∃ V : Cell, RoadKit.Arr Z h' h.size V .byte ∧ V.vm = .none ∧ Z.vm.findClass "[B" = some V.cls ∧ V.slots.size = A.slots.size ∧ ∀ j, j < A.slots.size → V.slots[j]? = some (.int (lo8 (cv A j)))) ∧
  ∀ (O n d : String) (w : Value), RoadKit.Fld Z h x O n d w → RoadKit.slotOf Z O n d ≠ RoadKit.slotOf Z ST "value" "[B" → RoadKit.slotOf Z O n d ≠ RoadKit.slotOf Z ST "coder" "B" → RoadKit.Fld Z h' x O n d w
/-- **new String(chars) AT A CALL, IN THE ROAD'S FORM**: for specialBack behind newO: x the fresh String, b the char[] with the cell A -/
theorem back {p : Program} {l : Launch} {e : Env} {R : Room} {s : State} {args : Array Value} {below : List Frame} {len W : Nat} {Z : State} {a0 : Array Value} {h : Heap} (hZ : Z.Warmed39 s.vm) (hw : ∀ d ∈ words, d.before a0 Z = true) {kI : Nat} (wi : (Jvm.Cond.instantiable ST kI).before a0 Z = true)
    {x b : Addr} {A : Cell} {z : Int32} {v0 c0 : Value} (E : RoadKit.Exa Z h x ST) (V : RoadKit.Fld Z h x ST "value" "[B" v0) (C : RoadKit.Fld Z h x ST "coder" "B" c0) (K : RoadKit.Arr Z h b A .char) (hty : Typed .char A) (S : RoadKit.Sta Z h ST "COMPACT_STRINGS" "Z" (.int z)) (hz : ¬ z = 0)
    (l0 : 0 < A.slots.size) (l2 : A.slots.size ≤ 536870912) (hp : ∀ i, i < A.slots.size → ¬ 255 < cv A i) (hfr : 4 ≤ R.frames) (hlo : W + 65 ≤ R.locals) :
    Back l R p e below s args New1.yN len W (fun P a => a = #[.ref x, .ref b] ∧ P.U.heap = h ∧ P.cells + 1 ≤ R.cells ∧ P.slots + A.slots.size ≤ R.slots)
      (fun P _ v B => ∃ L, Q Z x A h v B.U.heap L ∧ B.locs = P.locs ++ L ∧ B.cells = P.cells + 1 ∧ B.slots = P.slots + A.slots.size) := by
  intro m meth c P g ig mk a X hg hsize hdg hW hn hp'
  obtain ⟨rfl, rfl, r1, r2⟩ := hp'
  have al : Z.vm.Alike P.U.vm := hZ.alike.trans X.warmed.alike
  obtain ⟨D, cfV, kV, iV, fV, hD, gV, stV, knV, obV, asV, slV⟩ := id V
  obtain ⟨D', cfC, kC, iC, fC, hD', gC, stC, -, -, asC, slC⟩ := id C
  cases hD.symm.trans hD'
  obtain ⟨D2, kD, e1, e2, e3, e4, e5⟩ := id E
  cases hD.symm.trans e1
  obtain ⟨c2, k2, i1, i2, i3, -⟩ := Cond.instantiable_spec wi
  cases e2.symm.trans i1
  cases e3.symm.trans i2
  obtain ⟨kU, u1, u2⟩ := al.2.2 _ _ e3
  have hB : Blank ST x D P.U := ⟨hD, ⟨knV, fun q hq => by rw [hq] at obV; cases obV⟩, by rw [al.findClass]; exact e2, kU, u1, by rw [u2]; exact i3, by rw [u2]; exact e5 i3⟩
  have F1 : Found ST "value" "[B" fV P.U := ⟨SBG.found_only al ⟨cfV, kV, iV, gV⟩, stV⟩
  have F2 : Found ST "coder" "B" fC P.U := ⟨SBG.found_only al ⟨cfC, kC, iC, gC⟩, stC⟩
  have hA : Ch b A P.U := ⟨⟨K.1, State.isArrayOf_alike al K.2.1, K.2.2, by omega⟩, hty⟩
  have hS : StaticIs P.U ST "COMPACT_STRINGS" "Z" (.int z) := by
    obtain ⟨cfS, iS, kS, fS, st, cS, t1, t2, t3, t4, t5, t6, t7⟩ := S
    exact StaticIs.there (s := { Z with heap := P.U.heap }) ⟨cfS, iS, kS, fS, st, cS, t1, t2, t3, t4, t5, (fun q => by rw [q] at t6; cases t6), t7⟩ al rfl
  obtain ⟨v, B, X', ⟨⟨hv, E', V', q1, q2, q3, q4, q5, q6, q7, q8, q9, q10, q11⟩, hl, hc, hs⟩, st⟩ := New1.pays x D fV fC b A z (tab_of (moved hZ hw)) hfr hlo m meth c P g ig mk _ X hg hsize hdg hW hn ⟨r1, r2, rfl, hB, F1, F2, hA, hS, hz, l0, l2, hp⟩
  have al' : Z.vm.Alike B.U.vm := hZ.alike.trans X'.warmed.alike
  have hsz : E'.slots.size = D.slots.size := by
    obtain ⟨-, -, -, kB, w1, w2, w3⟩ := q1
    obtain ⟨kB', y1, y2⟩ := al'.2.2 _ _ e3
    rw [q2.2.1] at w1
    cases w1.symm.trans y1
    rw [w3, e5 i3, y2]
  refine ⟨v, B, X', ⟨_, ⟨hv, ?_, ⟨by omega, fun y cy hy hn' => q10 y cy (by simpa using hn') hy, fun y cy hy => ?_⟩, q11, ⟨E', _, q1.1, by rw [q2.2.1]; exact e2, by rw [q2.2.1]; exact e3, by rw [q2.1]; exact obV, fun _ => by rw [hsz]; exact e5 i3⟩,
    ⟨E', cfV, kV, iV, fV, q1.1, gV, stV, by rw [q2.1]; exact knV, by rw [q2.1]; exact obV, by rw [q2.2.1]; exact asV, q3⟩, ⟨E', cfC, kC, iC, fC, q1.1, gC, stC, by rw [q2.1]; exact knV, by rw [q2.1]; exact obV, by rw [q2.2.1]; exact asC, q4⟩,
    ⟨V', ⟨q5.1, State.isArrayOf_alike al'.symm q5.2.1, q5.2.2.1⟩, q6, by rw [← al'.findClass]; exact q7, q8, fun j hj => by have := q9 j hj; rwa [Nat.zero_add] at this⟩, fun O n d w F n1 n2 => ?_⟩, hl, hc, hs⟩, st⟩
  · intro y hy
    simp only [List.mem_cons, List.not_mem_nil, or_false] at hy
    rcases hy with rfl | rfl <;> rfl
  · by_cases q : y = x
    · subst q
      cases hD.symm.trans hy
      exact ⟨E', q1.1, q2.2.1, q2.1, hsz⟩
    · exact ⟨cy, q10 y cy q hy, rfl, rfl, rfl⟩
  · obtain ⟨D3, cf, k, i, f, g1, g2, g3, g4, g5, g6, g7⟩ := F
    cases hD.symm.trans g1
    simp only [RoadKit.slotOf, g2, gV, gC, Option.map_some, Option.getD_some] at n1 n2
    exact ⟨E', cf, k, i, f, q1.1, g2, g3, by rw [q2.1]; exact g4, by rw [q2.1]; exact g5, by rw [q2.2.1]; exact g6, by rw [q2.2.2 f.slot (by simp [n1, n2])]; exact g7⟩
end StrChars.Road
namespace StrChars.Road
open Jvm Sem ClassFile Op Lib Jvm.Stand Jvm.Free Jvm.Free.XT
/-- WHAT COMES BACK, the byte[] as a list of values -/
def QA (Z : State) (x : Addr) (zn : Int32) (cs : List Int32) (h : Heap) (v : Option Value) (h' : Heap) (L : List Loc) : Prop := v = none ∧ (∀ y ∈ L, y.base = x) ∧ RoadKit.Keep h h' [x] ∧ h'.size = h.size + 1 ∧ RoadKit.Exa Z h' x ST ∧ RoadKit.Fld Z h' x ST "value" "[B" (.ref h.size) ∧ RoadKit.Fld Z h' x ST "coder" "B" (.int 0) ∧
  (∃ kb, Z.vm.findClass "[B" = some kb ∧ RoadKit.Arv Z h' h.size kb .byte zn (cs.map fun c => .int (lo8 c)) (.int 0)) ∧
  ∀ (O n d : String) (w : Value), RoadKit.Fld Z h x O n d w → RoadKit.slotOf Z O n d ≠ RoadKit.slotOf Z ST "value" "[B" → RoadKit.slotOf Z O n d ≠ RoadKit.slotOf Z ST "coder" "B" → RoadKit.Fld Z h' x O n d w
/-- **new String(chars) AT A CALL, THE ARRAYS AS LISTS**: the char[] at b holds cs, not empty, no char above 255 -/
theorem backArv {p : Program} {l : Launch} {e : Env} {R : Room} {s : State} {args : Array Value} {below : List Frame} {len W : Nat} {Z : State} {a0 : Array Value} {h : Heap} (hZ : Z.Warmed39 s.vm) (hw : ∀ d ∈ words, d.before a0 Z = true) {kI : Nat} (wi : (Jvm.Cond.instantiable ST kI).before a0 Z = true)
    {x b : Addr} {k : ClassId} {zn z : Int32} {cs : List Int32} {dv v0 c0 : Value} (E : RoadKit.Exa Z h x ST) (V : RoadKit.Fld Z h x ST "value" "[B" v0) (C : RoadKit.Fld Z h x ST "coder" "B" c0) (K : RoadKit.Arv Z h b k .char zn (cs.map Value.int) dv) (S : RoadKit.Sta Z h ST "COMPACT_STRINGS" "Z" (.int z)) (hz : ¬ z = 0)
    (hlen : zn.toNatClampNeg = cs.length) (h0 : 0 < cs.length) (hbig : cs.length ≤ 536870912) (hall : ∀ c ∈ cs, ¬ 255 < c) (hfr : 4 ≤ R.frames) (hlo : W + 65 ≤ R.locals) :
    Back l R p e below s args New1.yN len W (fun P a => a = #[.ref x, .ref b] ∧ P.U.heap = h ∧ P.cells + 1 ≤ R.cells ∧ P.slots + cs.length ≤ R.slots)
      (fun P _ v B => ∃ L, QA Z x zn cs h v B.U.heap L ∧ B.locs = P.locs ++ L ∧ B.cells = P.cells + 1 ∧ B.slots = P.slots + cs.length) := by
  obtain ⟨A, K1, K2, K3, K4, K5, K6⟩ := K
  have e : A.slots.size = cs.length := K3.trans hlen
  have hat : ∀ (i : Nat) (hi : i < cs.length), A.slots[i]? = some (.int cs[i]) := fun i hi => by rw [K5 i (by omega)]; simp [List.getD_eq_getElem?_getD, hi]
  have hcv : ∀ (i : Nat) (hi : i < cs.length), cv A i = cs[i] := fun i hi => by unfold cv; rw [hat i hi]
  have hty : Typed .char A := fun i v hv => by
    have hi : i < A.slots.size := (Array.getElem?_eq_some_iff.mp hv).1
    have q := K5 i hi
    rw [hv] at q
    rw [Option.some.inj q]
    exact K6 i hi
  refine Back.mono (back hZ hw wi E V C K1 hty S hz (by omega) (by omega) (fun i hi => by rw [hcv i (by omega)]; exact hall _ (List.getElem_mem _)) hfr hlo) (fun P a hp => ⟨hp.1, hp.2.1, hp.2.2.1, by rw [e]; exact hp.2.2.2⟩) (fun P a v B hp hq => ?_)
  obtain ⟨L, ⟨q1, q2, q3, q4, q5, q6, q7, ⟨V', v1, v2, v3, v4, v5⟩, q9⟩, hl, hc, hs⟩ := hq
  refine ⟨L, ⟨q1, q2, q3, q4, q5, q6, q7, ⟨V'.cls, v3, V', v1, rfl, by rw [v4, e, hlen], K4, fun i hi => ?_, fun i hi => ?_⟩, q9⟩, hl, hc, by rw [hs, e]⟩
  · have hi' : i < cs.length := by omega
    rw [v5 i (by omega), hcv i hi']; simp [List.getD_eq_getElem?_getD, hi']
  · have hi' : i < cs.length := by omega
    simp only [List.getD_eq_getElem?_getD, List.getElem?_map, List.getElem?_eq_getElem hi', Option.map_some, Option.getD_some]
    exact fits_lo8 _
end StrChars.Road
namespace StrChars.Road
open Jvm Sem ClassFile Op Lib Jvm.Stand Jvm.Free Jvm.Free.XT
/-- WHAT COMES BACK, in the writer's own shape -/
def QV (Z : State) (x : Addr) (N : Int32) (bs : List Int32) (h : Heap) (n0 : Nat) (v : Option Value) (h' : Heap) (L : List Loc) : Prop := v = none ∧ RoadKit.Fr n0 L ∧ RoadKit.Keep h h' [x] ∧ RoadKit.Exa Z h' x ST ∧ RoadKit.Fld Z h' x ST "coder" "B" (.int 0) ∧
  ∃ (t : Addr) (kb : ClassId), n0 ≤ t ∧ h.size ≤ t ∧ ¬ t = x ∧ RoadKit.Fld Z h' x ST "value" "[B" (.ref t) ∧ RoadKit.Arv Z h' t kb .byte N (bs.map Value.int) (.int 0)
/-- **new String(chars) AT A CALL, FOR THE WRITER**: a char[] of n known ints, each 0 to 255 -/
theorem backV {p : Program} {l : Launch} {e : Env} {R : Room} {s : State} {args : Array Value} {below : List Frame} {len W : Nat} {Z : State} {a0 : Array Value} {h : Heap} (hZ : Z.Warmed39 s.vm) (hw : ∀ d ∈ words, d.before a0 Z = true) {kI : Nat} (wi : (Jvm.Cond.instantiable ST kI).before a0 Z = true)
    {x b : Addr} {kC : ClassId} {cs bs : List Int32} {d v0 c0 : Value} {z N : Int32} {n n0 : Nat} (hx0 : n0 ≤ x) (hh0 : n0 ≤ h.size) (E : RoadKit.Exa Z h x ST) (V : RoadKit.Fld Z h x ST "value" "[B" v0) (C : RoadKit.Fld Z h x ST "coder" "B" c0) (K : RoadKit.Arv Z h b kC .char N (cs.map Value.int) d) (S : RoadKit.Sta Z h ST "COMPACT_STRINGS" "Z" (.int z)) (hz : ¬ z = 0)
    (hn : cs.length = n) (hN : N = Int32.ofNat n) (l0 : 0 < n) (l2 : n ≤ 4000) (hp : ∀ c ∈ cs, ¬ c < 0 ∧ ¬ (255 : Int32) < c) (hb : bs = cs.map (fun c => c.toInt8.toInt32)) (hfr : 4 ≤ R.frames) (hlo : W + 65 ≤ R.locals) :
    Back l R p e below s args (⟨"java/lang/String", "<init>", "([C)V"⟩ : MethodName) len W (fun P a => a = #[.ref x, .ref b] ∧ P.U.heap = h ∧ P.cells + 1 ≤ R.cells ∧ P.slots + n ≤ R.slots)
      (fun P _ v B => ∃ L, QV Z x N bs h n0 v B.U.heap L ∧ B.locs = P.locs ++ L ∧ B.cells = P.cells + 1 ∧ B.slots = P.slots + n) := by
  subst hn hN hb
  refine Back.mono (backArv hZ hw wi E V C K S hz (n32 (by omega)) l0 (by omega) (fun c hc => (hp c hc).2) hfr hlo) (fun P a hp => hp) (fun P a v B hp hq => ?_)
  obtain ⟨L, ⟨q1, q2, q3, q4, q5, q6, q7, ⟨kb, v1, v2⟩, q9⟩, hl, hc, hs⟩ := hq
  exact ⟨L, ⟨q1, fun y hy => by rw [q2 y hy]; exact hx0, q3, q5, q7, h.size, kb, hh0, Nat.le_refl _, Nat.ne_of_gt E.lt, q6, by rw [List.map_map]; exact v2⟩, hl, hc, hs⟩
end StrChars.Road
namespace StrChars
open Jvm Sem ClassFile Op Lib Jvm.Stand Jvm.Free.XT Jvm.Free.ALB Jvm.Free.JM Jvm.Free
open Jvm.Lib.Cold (StaticIs)
def hi8 (x : Int32) : Int32 := lo8 (x >>> ((8 : Int32) &&& 31))
end StrChars
namespace StrChars.Road
open Jvm Sem ClassFile Op Lib Jvm.Stand Jvm.Free Jvm.Free.XT
open Jvm.Lib.Cold (StaticIs)
/-- the bytes of the chars cs, low before high -/
def wideBytes : List Int32 → List Value
  | [] => []
  | c :: cs => .int (lo8 c) :: .int (hi8 c) :: wideBytes cs
/-- an array of N2 bytes vs codes the chars cs by the coder cd -/
def CodA (cs : List Int32) (cd N2 : Int32) (vs : List Value) : Prop := (cd = 0 ∧ N2 = Int32.ofNat cs.length ∧ vs = (cs.map fun c => Value.int (lo8 c)) ∧ ∀ c ∈ cs, ¬ 255 < c) ∨ (cd = 1 ∧ N2 = Int32.ofNat (2 * cs.length) ∧ vs = wideBytes cs ∧ ∃ c ∈ cs, 255 < c)
end StrChars.Road
namespace StrChars.Road
open Jvm Sem ClassFile Op Lib Jvm.Stand Jvm.Free Jvm.Free.XT
open Jvm.Lib.Cold (StaticIs)
/-- what backV says of its String, as the contracts of this text ask it: cs's low bytes, coder 0 -/
theorem codOf {cs : List Int32} {n : Nat} (hn : cs.length = n) (hb : ∀ c ∈ cs, ¬ 255 < c) : CodA cs 0 (Int32.ofNat n) ((cs.map lo8).map Value.int) := Or.inl ⟨rfl, by rw [hn], by simp [List.map_map, Function.comp_def], hb⟩
end StrChars.Road
end Jvm.Pilot.@@N@@

namespace Jvm.Pilot.@@N@@
namespace Own
open Jvm Jvm.ClassFile Sem Op Lib Jvm.Free Jvm.Stand Jvm.LawKit Jvm.RoadKit
section Kit
variable {p : Program} {l : Launch} {e : Env} {R : Room} {s : State} {m : MethodId} {args : Array Value} {below : List Frame} {meth : Method} {c : Code} {T : State} {locs : List Loc} {cells slots : Nat} {Z : State} {a0 : Array Value} {h : Heap}
/-- what is left to show from a state S on: the run comes to the method's end, with Q of what it returned, the heap and the places written -/
def Gl (p : Program) (e : Env) (below : List Frame) (s : State) (rc rs : Nat) (Q : Option Value → Heap → List Loc → Prop) (S : State) : Prop :=
  ∃ s₂ o, Steps p.tables e below S s₂ ∧ s₂.status = .running ∧ Ended s₂ below o ∧ ∃ v L, o = .returned v ∧ Q v s₂.heap L ∧ FrameEnd s o s₂ L rc rs
variable {rc rs : Nat} {Q : Option Value → Heap → List Loc → Prop} {S S' : State}
theorem Gl.by (k : ∀ t, Steps p.tables e below S' t → Steps p.tables e below S t) (g : Gl p e below s rc rs Q S') : Gl p e below s rc rs Q S := by
  obtain ⟨t, o, h1, h2⟩ := g
  exact ⟨t, o, k t h1, h2⟩
theorem Gl.tr (k : Steps p.tables e below S S') (g : Gl p e below s rc rs Q S') : Gl p e below s rc rs Q S := Gl.by (fun _ q => k.trans q) g
theorem Gl.mono {Q' : Option Value → Heap → List Loc → Prop} (hq : ∀ v h L, Q v h L → Q' v h L) (g : Gl p e below s rc rs Q S) : Gl p e below s rc rs Q' S := by
  obtain ⟨t, o, h1, h2, h3, v, L, h4, h5, h6⟩ := g
  exact ⟨t, o, h1, h2, h3, v, L, h4, hq _ _ _ h5, h6⟩
theorem wider {c' n' : Nat} (X : Stand p l e R s m args below meth c T locs cells slots) (hc : cells ≤ c') (hn : slots ≤ n') : Stand p l e R s m args below meth c T locs c' n' :=
  { X with same := X.same.mono hc hn }
theorem Gl.retZ (X : Stand p l e R s m args below meth c T locs cells slots) (hx : p.tables.exec = Jvm.exec) (hlk : meth.locks = false) {t : FieldType} (hret : meth.sig.returnType = some t) (ht : t = .boolean ∨ t = .byte ∨ t = .char ∨ t = .short)
    {pc : Nat} {Ls : Array Slot} {z : Int32} {rest : List Value} (hd : decode c.code pc = .ok (.ireturn, 1)) (hc : cells ≤ rc) (hs : slots ≤ rs) (hq : Q (some (.int (nar t z))) T.heap locs) :
    Gl p e below s rc rs Q (T.setTop (mkF m pc Ls (.int z :: rest))) := by
  obtain ⟨fs, hr, hrun, hended, hW, hsame⟩ := X.leave (v := some (.int (nar t z))) (fun h => by rw [hret] at h; cases h) hlk
  exact ⟨_, _, retN X hx hret ht hd hr, hrun, hended, _, _, rfl, hq, ⟨_, rfl⟩, hW, hsame.mono hc hs⟩
theorem Gl.retI (X : Stand p l e R s m args below meth c T locs cells slots) (hx : p.tables.exec = Jvm.exec) (hlk : meth.locks = false) (hret : meth.sig.returnType = some .int)
    {pc : Nat} {Ls : Array Slot} {z : Int32} {rest : List Value} (hd : decode c.code pc = .ok (.ireturn, 1)) (hc : cells ≤ rc) (hs : slots ≤ rs) (hq : Q (some (.int z)) T.heap locs) :
    Gl p e below s rc rs Q (T.setTop (mkF m pc Ls (.int z :: rest))) := by
  obtain ⟨fs, hr, hrun, hended, hW, hsame⟩ := X.leave (v := some (.int z)) (fun h => by rw [hret] at h; cases h) hlk
  refine ⟨_, _, ?_, hrun, hended, _, _, rfl, hq, ⟨_, rfl⟩, hW, hsame.mono hc hs⟩
  have hm' : T.vm.method? m = some meth := X.method'
  have hn : narrow .int (.int z) = .int z := rfl
  show Steps p.tables e below (T.setTop { method := m, pc := pc, locals := Ls, stack := _ :: rest, locked := none }) _
  jvm_step X.here [X.here.top, hx, hd, hm', hret, hn]
  first | (intro acts; rw [hr _ acts rfl rfl rfl]) | rw [hr _ _ rfl rfl rfl]
  exact Steps.refl _
theorem Gl.retA (X : Stand p l e R s m args below meth c T locs cells slots) (hx : p.tables.exec = Jvm.exec) (hlk : meth.locks = false) {t : FieldType} (hret : meth.sig.returnType = some t) (ht : t.isReference = true)
    {pc : Nat} {Ls : Array Slot} {w : Value} {rest : List Value} (hv : w.isRef = true) (hd : decode c.code pc = .ok (.areturn, 1)) (hc : cells ≤ rc) (hs : slots ≤ rs) (hq : Q (some w) T.heap locs) :
    Gl p e below s rc rs Q (T.setTop (mkF m pc Ls (w :: rest))) := by
  obtain ⟨fs, hr, hrun, hended, hW, hsame⟩ := X.leave (v := some w) (fun h => by rw [hret] at h; cases h) hlk
  refine ⟨_, _, ?_, hrun, hended, _, _, rfl, hq, ⟨_, rfl⟩, hW, hsame.mono hc hs⟩
  have hm' : T.vm.method? m = some meth := X.method'
  show Steps p.tables e below (T.setTop { method := m, pc := pc, locals := Ls, stack := _ :: rest, locked := none }) _
  jvm_step X.here [X.here.top, hx, hd, hm', hret, hv, ht]
  first | (intro acts; rw [hr _ acts rfl rfl rfl]) | rw [hr _ _ rfl rfl rfl]
  exact Steps.refl _
theorem Gl.retJ (X : Stand p l e R s m args below meth c T locs cells slots) (hx : p.tables.exec = Jvm.exec) (hlk : meth.locks = false) (hret : meth.sig.returnType = some .long)
    {pc : Nat} {Ls : Array Slot} {z : Int64} (hd : decode c.code pc = .ok (.lreturn, 1)) (hc : cells ≤ rc) (hs : slots ≤ rs) (hq : Q (some (.long z)) T.heap locs) :
    Gl p e below s rc rs Q (T.setTop (mkF m pc Ls [.long z])) := by
  obtain ⟨fs, hr, hrun, hended, hW, hsame⟩ := X.leave (v := some (.long z)) (fun h => by rw [hret] at h; cases h) hlk
  exact ⟨_, _, X.lreturnOut hx hret hd hr, hrun, hended, _, _, rfl, hq, ⟨_, rfl⟩, hW, hsame.mono hc hs⟩
theorem Gl.retV (X : Stand p l e R s m args below meth c T locs cells slots) (hx : p.tables.exec = Jvm.exec) (hlk : meth.locks = false) (hret : meth.sig.returnType = none)
    {pc : Nat} {Ls : Array Slot} (hd : decode c.code pc = .ok (.return_, 1)) (hc : cells ≤ rc) (hs : slots ≤ rs) (hq : Q none T.heap locs) :
    Gl p e below s rc rs Q (T.setTop (mkF m pc Ls [])) := by
  obtain ⟨fs, hr, hrun, hended, hW, hsame⟩ := X.leave (v := none) (fun _ => rfl) hlk
  exact ⟨_, _, X.returnOut hx hret hd hr, hrun, hended, _, _, rfl, hq, ⟨_, rfl⟩, hW, hsame.mono hc hs⟩
/-- a body's contract -/
abbrev Ctr (l : Launch) (Z : State) (y : MethodName) (bytes : ByteArray) (maxL : Nat) (ret : Option FieldType) (ws : List Jvm.Cond) (rm : Room) (as' : Array Value) (h : Heap) (Q : Option Value → Heap → List Loc → Prop) : Prop :=
  MetFree l y (head1 (Jvm.Cond.code y bytes maxL ret :: ws) rm) (fun a U => a = as' ∧ Z.Warmed39 U.vm ∧ U.heap = h) (fun _ _ _ _ _ => True) (fun _ U o U' => ∃ v L, o = .returned v ∧ Q v U'.heap L ∧ FrameEnd U o U' L rm.cells rm.slots)
theorem Ctr.intro {y : MethodName} {bytes : ByteArray} {maxL : Nat} {ret : Option FieldType} {ws : List Jvm.Cond} {rm : Room} {as' : Array Value} (hpn : plainFor y = true) (Ls : Array Slot) (hef : ∀ m, entryFrame m as' maxL = mkF m 0 Ls [])
    (body : ∀ (p : Program) (e : Env) (s : State) (m : MethodId) (below : List Frame) (meth : Method) (c : Code) (T : State), p.tables.exec = Jvm.exec → c.code = bytes → c.maxLocals = maxL → s.vm.findClass y.cls = some m.cls → meth.name = y.name → meth.sig.returnType = ret → meth.locks = false → Z.Warmed39 s.vm → s.methodNamed? y = some m →
      Stand p l e rm s m as' below meth c T [] 0 0 → T.heap = h → Gl p e below s rm.cells rm.slots Q (T.setTop (mkF m 0 Ls []))) : Ctr l Z y bytes maxL ret ws rm as' h Q := by
  refine MetFree.of_bodySF hpn hisR ?_
  intro p e s m args below meth c s₁ Bd hml0 hP hK
  obtain ⟨rfl, hZ, hh⟩ := hP
  have g := body p e s m below meth c s₁ Bd.exec Bd.bytes hml0 (findClass_of_methodNamed Bd.named) (name_of_methodNamed Bd.named Bd.method).1 Bd.returns (BodyLoose.notSynchronized Bd) hZ Bd.named (Stand.of_body Bd) (by rw [← hh, Bd.state]; rfl)
  rw [← hef m] at g
  exact g
/-- a call's payer, by what it leaves -/
abbrev BackQ (l : Launch) (R : Room) (p : Program) (e : Env) (below : List Frame) (s : State) (args : Array Value) (y : MethodName) (len W : Nat) (as' : Array Value) (h : Heap) (kc ks : Nat) (Qc : Option Value → Heap → List Loc → Prop) : Prop :=
  Back l R p e below s args y len W (fun A a => a = as' ∧ A.U.heap = h ∧ A.cells + kc ≤ R.cells ∧ A.slots + ks ≤ R.slots) (fun A _ v B => ∃ L, Qc v B.U.heap L ∧ B.locs = A.locs ++ L ∧ B.cells = A.cells + kc ∧ B.slots = A.slots + ks)
theorem backC {y : MethodName} {bytes : ByteArray} {maxL : Nat} {ret : Option FieldType} {rm : Room} {len W : Nat} {as' : Array Value} {Qc : Option Value → Heap → List Loc → Prop} (hM : Ctr l Z y bytes maxL ret [] rm as' h Qc)
    (hZ : Z.Warmed39 s.vm) (wc : (Jvm.Cond.code y bytes maxL ret).before a0 Z = true) (wz : (Jvm.Cond.initialized y.cls).before a0 Z = true) (hf : rm.frames + 1 ≤ R.frames) (hl : W + (maxL + 11) + rm.locals ≤ R.locals) :
    BackQ l R p e below s args y len W as' h rm.cells rm.slots Qc := backOf hM hZ wc wz hf hl
variable {W kc ks : Nat} {as' : Array Value} {Qc : Option Value → Heap → List Loc → Prop}
theorem Gl.stat (X : Stand p l e R s m args below meth c T locs cells slots) (hx : p.tables.exec = Jvm.exec) (hZ : Z.Warmed39 s.vm) {own : String} {index : Nat} {y : MethodName} {bytes : ByteArray} {maxL : Nat} {ret : Option FieldType}
    (hown : s.vm.findClass own = some m.cls) (w1 : (Jvm.Cond.methodLink own index y).before a0 Z = true) (w2 : (Jvm.Cond.static y).before a0 Z = true) (w3 : (Jvm.Cond.initialized y.cls).before a0 Z = true)
    (w4 : (Jvm.Cond.code y bytes maxL ret).before a0 Z = true) (hy : y.cls ≠ "java/lang/invoke/MethodHandle" ∧ y.cls ≠ "java/lang/invoke/VarHandle")
    (hK : BackQ l R p e below s args y 3 W as' h kc ks Qc) (eT : T.heap = h) {pc : Nat} {Ls : Array Slot} {st : List Value} (hd : decode c.code pc = .ok (.invokestatic index, 3)) (hsz : Ls.size = c.maxLocals) (argsL rest : List Value)
    (hlen : ∀ sig, parseMethodDescriptor y.desc = some sig → argsL.length = sig.parameters.length) (hst : st = argsL.reverse ++ rest) (has : argsL.toArray = as') (hW : (rest.map fun v => v.category).sum ≤ W) (hc : cells + kc ≤ R.cells) (hs : slots + ks ≤ R.slots)
    (k : ∀ v T' L, Stand p l e R s m args below meth c T' (locs ++ L) (cells + kc) (slots + ks) → Qc v T'.heap L → Gl p e below s rc rs Q (T'.setTop (mkF m (pc + 3) Ls (v.toList ++ rest)))) :
    Gl p e below s rc rs Q (T.setTop (mkF m pc Ls st)) := by
  obtain ⟨v, vm₁, ⟨U', ls, cc, sl⟩, hW₁, X', ⟨L, q1, q2, q3, q4⟩, stp⟩ := Jvm.LawKit.callS X hx hown (mvT hZ w1) (mvT hZ w2) (mvT hZ w3) (mvT hZ w4) hy hK (g := mkF m pc Ls st) rfl hsz hlen hst (by show 2 * 0 + _ ≤ _; omega) hd (fun _ _ => ⟨has, eT, hc, hs⟩)
  dsimp only [Pt.U, Pt.locs, Pt.cells, Pt.slots] at X' q1 q2 q3 q4 stp
  subst q2 q3 q4
  exact Gl.by stp (k v U' L X' q1)
theorem Gl.spec (X : Stand p l e R s m args below meth c T locs cells slots) (hx : p.tables.exec = Jvm.exec) (hZ : Z.Warmed39 s.vm) {own : String} {index : Nat} {y : MethodName} {bytes : ByteArray} {maxL : Nat} (hy1 : y.name = "<init>")
    (hown : s.vm.findClass own = some m.cls) (w1 : (Jvm.Cond.methodLink own index y).before a0 Z = true) (w2 : (Jvm.Cond.instanceMethod y).before a0 Z = true)
    (w4 : (Jvm.Cond.code y bytes maxL none).before a0 Z = true) (hy : y.cls ≠ "java/lang/invoke/MethodHandle" ∧ y.cls ≠ "java/lang/invoke/VarHandle")
    (hK : BackQ l R p e below s args y 3 W as' h kc ks Qc) (eT : T.heap = h) {pc : Nat} {Ls : Array Slot} {st : List Value} (hd : decode c.code pc = .ok (.invokespecial index, 3)) (hsz : Ls.size = c.maxLocals) (a : Addr) (argsL rest : List Value)
    (hlen : ∀ sig, parseMethodDescriptor y.desc = some sig → argsL.length = sig.parameters.length) (hst : st = argsL.reverse ++ .ref a :: rest) (has : (.ref a :: argsL).toArray = as') (hW : (rest.map fun v => v.category).sum ≤ W) (hc : cells + kc ≤ R.cells) (hs : slots + ks ≤ R.slots)
    (k : ∀ v T' L, Stand p l e R s m args below meth c T' (locs ++ L) (cells + kc) (slots + ks) → Qc v T'.heap L → Gl p e below s rc rs Q (T'.setTop (mkF m (pc + 3) Ls (v.toList ++ rest)))) :
    Gl p e below s rc rs Q (T.setTop (mkF m pc Ls st)) := by
  obtain ⟨v, vm₁, ⟨U', ls, cc, sl⟩, hW₁, X', ⟨L, q1, q2, q3, q4⟩, stp⟩ := X.specialBack hx hy1 hown (mvT hZ w1) (mvT hZ w2) (mvT hZ w4) hy hK (g := mkF m pc Ls st) rfl hsz (Steps.refl _) hlen hst (by show 2 * 0 + _ ≤ _; omega) hd (fun _ _ => ⟨has, eT, hc, hs⟩)
  dsimp only [Pt.U, Pt.locs, Pt.cells, Pt.slots] at X' q1 q2 q3 q4 stp
  subst q2 q3 q4
  exact Gl.tr stp (k v U' L X' q1)
theorem Gl.specN (X : Stand p l e R s m args below meth c T locs cells slots) (hx : p.tables.exec = Jvm.exec) (hZ : Z.Warmed39 s.vm) {own host : String} {index : Nat} {y : MethodName} {bytes : ByteArray} {maxL : Nat} (hy1 : y.name = "<init>")
    (hown : s.vm.findClass own = some m.cls) (w1 : (Jvm.Cond.methodLinkNest own index y host).before a0 Z = true) (w2 : (Jvm.Cond.instanceMethod y).before a0 Z = true)
    (w4 : (Jvm.Cond.code y bytes maxL none).before a0 Z = true) (hy : y.cls ≠ "java/lang/invoke/MethodHandle" ∧ y.cls ≠ "java/lang/invoke/VarHandle")
    (hK : BackQ l R p e below s args y 3 W as' h kc ks Qc) (eT : T.heap = h) {pc : Nat} {Ls : Array Slot} {st : List Value} (hd : decode c.code pc = .ok (.invokespecial index, 3)) (hsz : Ls.size = c.maxLocals) (a : Addr) (argsL rest : List Value)
    (hlen : ∀ sig, parseMethodDescriptor y.desc = some sig → argsL.length = sig.parameters.length) (hst : st = argsL.reverse ++ .ref a :: rest) (has : (.ref a :: argsL).toArray = as') (hW : (rest.map fun v => v.category).sum ≤ W) (hc : cells + kc ≤ R.cells) (hs : slots + ks ≤ R.slots)
    (k : ∀ v T' L, Stand p l e R s m args below meth c T' (locs ++ L) (cells + kc) (slots + ks) → Qc v T'.heap L → Gl p e below s rc rs Q (T'.setTop (mkF m (pc + 3) Ls (v.toList ++ rest)))) :
    Gl p e below s rc rs Q (T.setTop (mkF m pc Ls st)) := by
  obtain ⟨v, vm₁, ⟨U', ls, cc, sl⟩, hW₁, X', ⟨L, q1, q2, q3, q4⟩, stp⟩ := X.specialBackNest hx hy1 hown (Cond.methodLinkNest_wide hZ w1 :) (mvT hZ w2) (mvT hZ w4) hy hK (g := mkF m pc Ls st) rfl hsz (Steps.refl _) hlen hst (by show 2 * 0 + _ ≤ _; omega) hd (fun _ _ => ⟨has, eT, hc, hs⟩)
  dsimp only [Pt.U, Pt.locs, Pt.cells, Pt.slots] at X' q1 q2 q3 q4 stp
  subst q2 q3 q4
  exact Gl.tr stp (k v U' L X' q1)
theorem Gl.virt (X : Stand p l e R s m args below meth c T locs cells slots) (hx : p.tables.exec = Jvm.exec) (hZ : Z.Warmed39 s.vm) {own C : String} {index : Nat} {y z : MethodName}
    (hown : s.vm.findClass own = some m.cls) (w1 : (Jvm.Cond.methodLink own index y).before a0 Z = true) (w2 : (Jvm.Cond.declares y).before a0 Z = true) (w3 : (Jvm.Cond.selects C y z).before a0 Z = true) (w4 : (Jvm.Cond.instanceMethod z).before a0 Z = true) (nf : NotFace s y)
    (hy : y.cls ≠ "java/lang/invoke/MethodHandle" ∧ y.cls ≠ "java/lang/invoke/VarHandle") {a : Addr} (E : Exa Z h a C)
    (hK : BackQ l R p e below s args z 3 W as' h kc ks Qc) (eT : T.heap = h) {pc : Nat} {Ls : Array Slot} {st : List Value} (hd : decode c.code pc = .ok (.invokevirtual index, 3)) (hsz : Ls.size = c.maxLocals) (argsL rest : List Value)
    (hlen : ∀ sig, parseMethodDescriptor y.desc = some sig → argsL.length = sig.parameters.length) (hst : st = argsL.reverse ++ .ref a :: rest) (has : (.ref a :: argsL).toArray = as') (hW : (rest.map fun v => v.category).sum ≤ W) (hc : cells + kc ≤ R.cells) (hs : slots + ks ≤ R.slots)
    (k : ∀ v T' L, Stand p l e R s m args below meth c T' (locs ++ L) (cells + kc) (slots + ks) → Qc v T'.heap L → Gl p e below s rc rs Q (T'.setTop (mkF m (pc + 3) Ls (v.toList ++ rest)))) :
    Gl p e below s rc rs Q (T.setTop (mkF m pc Ls st)) := by
  obtain ⟨cq, kq, i1, i2, i3⟩ := isOf hZ eT E
  obtain ⟨v, vm₁, ⟨U', ls, cc, sl⟩, hW₁, X', ⟨L, q1, q2, q3, q4⟩, stp⟩ := X.virtualBack hx hown (mvT hZ w1) (mvT hZ w2) nf (mvT hZ w3) (mvT hZ w4) hy hK i1 i3 (g := mkF m pc Ls st) rfl hsz (Steps.refl _) hlen hst (by show 2 * 0 + _ ≤ _; omega) hd (fun _ _ => ⟨has, eT, hc, hs⟩)
  dsimp only [Pt.U, Pt.locs, Pt.cells, Pt.slots] at X' q1 q2 q3 q4 stp
  subst q2 q3 q4
  exact Gl.tr stp (k v U' L X' q1)
theorem Gl.face (X : Stand p l e R s m args below meth c T locs cells slots) (hx : p.tables.exec = Jvm.exec) (hZ : Z.Warmed39 s.vm) {own C : String} {index count : Nat} {y z : MethodName}
    (hown : s.vm.findClass own = some m.cls) (w1 : (Jvm.Cond.methodLink own index y).before a0 Z = true) (w2 : (Jvm.Cond.declares y).before a0 Z = true) (w3 : (Jvm.Cond.interfaceMethod y.cls y.cls y.name y.desc).before args s = true) (w4 : (Jvm.Cond.selects C y z).before a0 Z = true) (w5 : (Jvm.Cond.instanceMethod z).before a0 Z = true)
    (w6 : (Jvm.Cond.publicMethod z).before a0 Z = true) (w7 : (Jvm.Cond.unhidden C y.name y.desc).before a0 Z = true) (w8 : (Jvm.Cond.castable C y.cls).before a0 Z = true)
    (hy : y.cls ≠ "java/lang/invoke/MethodHandle" ∧ y.cls ≠ "java/lang/invoke/VarHandle") {a : Addr} (E : Exa Z h a C)
    (hK : BackQ l R p e below s args z 5 W as' h kc ks Qc) (eT : T.heap = h) {pc : Nat} {Ls : Array Slot} {st : List Value} (hd : decode c.code pc = .ok (.invokeinterface index count, 5)) (hsz : Ls.size = c.maxLocals) (argsL rest : List Value)
    (hlen : ∀ sig, parseMethodDescriptor y.desc = some sig → argsL.length = sig.parameters.length) (hst : st = argsL.reverse ++ .ref a :: rest) (has : (.ref a :: argsL).toArray = as') (hW : (rest.map fun v => v.category).sum ≤ W) (hc : cells + kc ≤ R.cells) (hs : slots + ks ≤ R.slots)
    (k : ∀ v T' L, Stand p l e R s m args below meth c T' (locs ++ L) (cells + kc) (slots + ks) → Qc v T'.heap L → Gl p e below s rc rs Q (T'.setTop (mkF m (pc + 5) Ls (v.toList ++ rest)))) :
    Gl p e below s rc rs Q (T.setTop (mkF m pc Ls st)) := by
  obtain ⟨cq, kq, i1, i2, i3⟩ := isOf hZ eT E
  obtain ⟨v, vm₁, ⟨U', ls, cc, sl⟩, hW₁, X', ⟨L, q1, q2, q3, q4⟩, stp⟩ := X.interfaceBack hx (xi := y) (y := z) hown (mvT hZ w1) (mvT hZ w2) w3 (mvT hZ w4) (mvT hZ w5) (mvT hZ w6) (mvT hZ w7) (mvT hZ w8) hy hK i1 i2 i3 (g := mkF m pc Ls st) rfl hsz (Steps.refl _) hlen hst (by show 2 * 0 + _ ≤ _; omega) hd (fun _ _ => ⟨has, eT, hc, hs⟩)
  dsimp only [Pt.U, Pt.locs, Pt.cells, Pt.slots] at X' q1 q2 q3 q4 stp
  subst q2 q3 q4
  exact Gl.tr stp (k v U' L X' q1)
theorem Gl.priv (X : Stand p l e R s m args below meth c T locs cells slots) (hx : p.tables.exec = Jvm.exec) (hZ : Z.Warmed39 s.vm) {own C : String} {index : Nat} {y : MethodName} {bytes : ByteArray} {maxL : Nat} {ret : Option FieldType}
    (hown : s.vm.findClass own = some m.cls) (w1 : (Jvm.Cond.methodLink own index y).before a0 Z = true) (w2 : (Jvm.Cond.instanceMethod y).before a0 Z = true) (w3 : (Jvm.Cond.selects y.cls y y).before a0 Z = true) (w4 : (Jvm.Cond.privateMethod y).before a0 Z = true) (w5 : (Jvm.Cond.code y bytes maxL ret).before a0 Z = true)
    (hy : y.cls ≠ "java/lang/invoke/MethodHandle" ∧ y.cls ≠ "java/lang/invoke/VarHandle") {a : Addr} (E : Exa Z h a C)
    (hK : BackQ l R p e below s args y 3 W as' h kc ks Qc) (eT : T.heap = h) {pc : Nat} {Ls : Array Slot} {st : List Value} (hd : decode c.code pc = .ok (.invokevirtual index, 3)) (hsz : Ls.size = c.maxLocals) (argsL rest : List Value)
    (hlen : ∀ sig, parseMethodDescriptor y.desc = some sig → argsL.length = sig.parameters.length) (hst : st = argsL.reverse ++ .ref a :: rest) (has : (.ref a :: argsL).toArray = as') (hW : (rest.map fun v => v.category).sum ≤ W) (hc : cells + kc ≤ R.cells) (hs : slots + ks ≤ R.slots)
    (k : ∀ v T' L, Stand p l e R s m args below meth c T' (locs ++ L) (cells + kc) (slots + ks) → Qc v T'.heap L → Gl p e below s rc rs Q (T'.setTop (mkF m (pc + 3) Ls (v.toList ++ rest)))) :
    Gl p e below s rc rs Q (T.setTop (mkF m pc Ls st)) := by
  obtain ⟨cq, i1, i2⟩ := E.cell
  obtain ⟨v, vm₁, ⟨U', ls, cc, sl⟩, hW₁, X', ⟨L, q1, q2, q3, q4⟩, stp⟩ := X.privateBack hx hown (mvT hZ w1) (mvT hZ w2) (mvT hZ w3) (Cond.privateMethod_at (mvP hZ w4 (args := #[]))) (mvT hZ w5) hy hK (g := mkF m pc Ls st) rfl hsz (Steps.refl _) (by rw [eT]; exact i1) i2 hlen hst (by show 2 * 0 + _ ≤ _; omega) hd (fun _ _ => ⟨has, eT, hc, hs⟩)
  dsimp only [Pt.U, Pt.locs, Pt.cells, Pt.slots] at X' q1 q2 q3 q4 stp
  subst q2 q3 q4
  exact Gl.tr stp (k v U' L X' q1)
theorem sameOf {C : String} {y z yy : MethodName} (w3 : (Jvm.Cond.instanceMethod y).before a0 Z = true) (ws : (Jvm.Cond.selects C yy z).before a0 Z = true) (hc : z.cls = y.cls) (hy : y.cls ≠ "java/lang/invoke/MethodHandle" ∧ y.cls ≠ "java/lang/invoke/VarHandle") :
    (Jvm.Cond.sameMethod y.cls y.cls y.name y.desc).before a0 Z = true := by
  obtain ⟨mk, methM, hnamed, -, -, -⟩ := Cond.instanceMethod_spec w3
  obtain ⟨c2, r2, m2, q1, q2, q3, q4, kP, hkP, hkPi⟩ := Cond.selects_spec ws
  have f := State.methodFound?_of_named hnamed hy
  have a := findClass_of_methodNamed hnamed
  have b := findClass_of_methodNamed q3
  rw [hc] at b
  have e : mk.cls = m2.cls := Option.some.inj (a.symm.trans b)
  have hnamed' : Z.methodNamed? ⟨y.cls, y.name, y.desc⟩ = some mk := hnamed
  simp [Cond.before, Cond.holds, Cond.value, a, f, hnamed', e, hkP, hkPi]
theorem declOf {y : MethodName} {bytes : ByteArray} {maxL : Nat} {ret : Option FieldType} (w3 : (Jvm.Cond.instanceMethod y).before a0 Z = true) (wc : (Jvm.Cond.code y bytes maxL ret).before a0 Z = true) : (Jvm.Cond.declares y).before a0 Z = true := by
  obtain ⟨mk, methM, hnamed, hmethM, hstM, -⟩ := Cond.instanceMethod_spec w3
  obtain ⟨m2, cM, q1, -, -, -, -, -, -, hsig⟩ := Cond.code_spec hnamed wc
  cases hmethM.symm.trans q1
  simp [Cond.before, Cond.holds, Cond.value, hnamed, hmethM, hstM, hsig]
theorem Gl.supr (X : Stand p l e R s m args below meth c T locs cells slots) (hx : p.tables.exec = Jvm.exec) (hZ : Z.Warmed39 s.vm) {own K : String} {index : Nat} {y : MethodName} {bytes : ByteArray} {maxL : Nat} {ret : Option FieldType} (hn : y.name ≠ "<init>")
    (hown : s.vm.findClass own = some m.cls) (w1 : (Jvm.Cond.methodLink own index y).before a0 Z = true) (w2 : (Jvm.Cond.sameMethod y.cls y.cls y.name y.desc).before a0 Z = true) (w3 : (Jvm.Cond.instanceMethod y).before a0 Z = true) (w4 : (Jvm.Cond.superclass own y.cls).before a0 Z = true) (wc : (Jvm.Cond.code y bytes maxL ret).before a0 Z = true)
    {a : Addr} (F : Ins Z h a K true)
    (hK : BackQ l R p e below s args y 3 W as' h kc ks Qc) (eT : T.heap = h) {pc : Nat} {Ls : Array Slot} {st : List Value} (hd : decode c.code pc = .ok (.invokespecial index, 3)) (hsz : Ls.size = c.maxLocals) (argsL rest : List Value)
    (hlen : ∀ sig, parseMethodDescriptor y.desc = some sig → argsL.length = sig.parameters.length) (hst : st = argsL.reverse ++ .ref a :: rest) (has : (.ref a :: argsL).toArray = as') (hW : (rest.map fun v => v.category).sum ≤ W) (hc : cells + kc ≤ R.cells) (hs : slots + ks ≤ R.slots)
    (k : ∀ v T' L, Stand p l e R s m args below meth c T' (locs ++ L) (cells + kc) (slots + ks) → Qc v T'.heap L → Gl p e below s rc rs Q (T'.setTop (mkF m (pc + 3) Ls (v.toList ++ rest)))) :
    Gl p e below s rc rs Q (T.setTop (mkF m pc Ls st)) := by
  obtain ⟨v, vm₁, ⟨U', ls, cc, sl⟩, hW₁, X', ⟨L, q1, q2, q3, q4⟩, stp⟩ := superBack X hx hZ hown w1 w2 w3 w4 hn hK eT F (g := mkF m pc Ls st) rfl hsz wc hlen hst (by show 2 * 0 + _ ≤ _; omega) hd (fun _ _ => ⟨has, eT, hc, hs⟩)
  dsimp only [Pt.U, Pt.locs, Pt.cells, Pt.slots] at X' q1 q2 q3 q4 stp
  subst q2 q3 q4
  exact Gl.tr stp (k v U' L X' q1)
theorem nf_of_sel {C : String} {y z y' : MethodName} (hsel : (Jvm.Cond.selects C y z).before args s = true) (hc : z.cls = y'.cls) : NotFace s y' := fun r0 h0 => by
  obtain ⟨c2, r2, m2, q1, q2, q3, q4, kP, hkP, hkPi⟩ := Cond.selects_spec hsel
  have a := findClass_of_methodNamed h0
  have b := findClass_of_methodNamed q3
  rw [hc] at b
  have e : r0.cls = m2.cls := Option.some.inj (a.symm.trans b)
  exact ⟨kP, by rw [e]; exact hkP, hkPi⟩
theorem nea {a b : Nat} (h : a < b ∨ b < a) : a ≠ b := by omega
theorem fitsR {C : String} {v : Value} (h : v.isRef = true) : fits (.object C) v = true := by cases v <;> first | rfl | (simp [Value.isRef] at h)
theorem narR {C : String} {v : Value} : narrow (.object C) v = v := by cases v <;> rfl
theorem isref_cat {v : Value} (h : v.isRef = true) : v.category = 1 := by cases v <;> first | rfl | (simp [Value.isRef] at h)
theorem notAssign {C O K : String} {n : Nat} (w0 : (Jvm.Cond.noSuperclass O).before a0 Z = true) (w1 : (Jvm.Cond.superclass C O).before a0 Z = true) (wi : (Jvm.Cond.instantiable K n).before a0 Z = true) (hn : C ≠ K) (hn' : O ≠ K) :
    ∃ c t, Z.vm.findClass C = some c ∧ Z.vm.findClass K = some t ∧ Z.vm.assignable c t = false := by
  obtain ⟨t, kt, t1, t2, t3, t4, -⟩ := Cond.instantiable_spec wi
  obtain ⟨o, ko, o1, o2, o3, -, -⟩ := Cond.noSuperclass_spec w0
  obtain ⟨c, h0⟩ := found_sup w1
  obtain ⟨p, k, kp, h1, h2, h3, h4, h5, -, h7⟩ := Cond.superclass_spec h0 w1
  cases o1.symm.trans h1
  have ne1 : c ≠ t := ids_ne h0 t1 hn
  have ne2 : o ≠ t := ids_ne o1 t1 hn'
  have t5 : kt.isInterface = false := by
    cases q : kt.isInterface with
    | false => rfl
    | true => rw [q] at t4; cases t4
  have n2 : ∀ fuel, Z.vm.isSubclassAux fuel o t = false := fun fuel => by
    cases fuel with
    | zero => rfl
    | succ f => simp [Vm.isSubclassAux, ne2, o2, o3]
  have n3 : ∀ fuel, Z.vm.isSubclassAux fuel c t = false := fun fuel => by
    cases fuel with
    | zero => rfl
    | succ f => simp [Vm.isSubclassAux, ne1, h2, h4, n2]
  refine ⟨c, t, h0, t1, ?_⟩
  show Z.vm.assignableAux (255 + 1) c t = false
  simp [Vm.assignableAux, ne1, h2, t2, h5, t3, t5, Vm.isSubclass, n3]
end Kit
end Own
end Jvm.Pilot.@@N@@

namespace Jvm.Pilot.@@N@@
namespace Own
open Jvm Jvm.ClassFile Sem Op Lib Jvm.Free Jvm.Stand Jvm.LawKit Jvm.RoadKit
section StrKit
variable {p : Program} {l : Launch} {e : Env} {R : Room} {s : State} {m : MethodId} {args : Array Value} {below : List Frame} {Z : State} {a0 : Array Value} {h h' : Heap} {W n0 : Nat}
/-- a Latin-1 String whose chars are cs -/
def Str (Z : State) (h : Heap) (x : Addr) (cs : List Int32) : Prop :=
  Exa Z h x "java/lang/String" ∧ (∀ c ∈ cs, ¬ c < 0 ∧ ¬ (255 : Int32) < c) ∧ cs.length ≤ 4000 ∧ Fld Z h x "java/lang/String" "coder" "B" (.int 0) ∧
  ∃ (t : Addr) (kb : ClassId), Fld Z h x "java/lang/String" "value" "[B" (.ref t) ∧ Arv Z h t kb .byte (Int32.ofNat cs.length) ((cs.map (fun c => c.toInt8.toInt32)).map Value.int) (.int 0)
theorem Str.exa {x : Addr} {cs : List Int32} (F : Str Z h x cs) : Exa Z h x "java/lang/String" := F.1
theorem Str.lt {x : Addr} {cs : List Int32} (F : Str Z h x cs) : x < h.size := F.1.lt
theorem Str.ext {x : Addr} {cs : List Int32} (F : Str Z h x cs) (E : Ext h h') : Str Z h' x cs := by
  obtain ⟨h1, h2, h3, h4, t, kb, h5, h6⟩ := F
  exact ⟨h1.ext E, h2, h3, h4.ext E, t, kb, h5.ext E, h6.ext E⟩
/-- over a Keep whose written objects are new, or objects of another class -/
theorem Str.keep {x : Addr} {cs : List Int32} {ws : List Addr} (F : Str Z h x cs) (K : Keep h h' ws) (q : ∀ b ∈ ws, h.size ≤ b ∨ ∃ C k, C ≠ "java/lang/String" ∧ Exa Z h b C ∧ (Jvm.Cond.instantiable C k).before a0 Z = true) : Str Z h' x cs := by
  obtain ⟨h1, h2, h3, h4, t, kb, h5, h6⟩ := F
  have n1 : x ∉ ws := fun hx => by
    rcases q x hx with q | ⟨C, k, q1, q2, q3⟩
    · exact absurd h1.lt (Nat.not_lt.mpr q)
    · exact ne_exa q2 h1 q1 rfl
  have n2 : t ∉ ws := fun hx => by
    rcases q t hx with q | ⟨C, k, q1, q2, q3⟩
    · exact absurd h6.lt (Nat.not_lt.mpr q)
    · obtain ⟨c, A, -⟩ := h6
      exact ne_arr q2 q3 A rfl
  exact ⟨h1.keep K, h2, h3, h4.keep K n1, t, kb, h5.keep K n1, h6.keep K n2⟩
theorem Str.keep0 {x : Addr} {cs : List Int32} (F : Str Z h x cs) (K : Keep h h' []) : Str Z h' x cs := F.keep (a0 := #[]) K (fun b hb => nomatch hb)
theorem up255 (cs : List Int32) (h : ∀ c ∈ cs, ¬ c < 0 ∧ ¬ (255 : Int32) < c) : ∀ c ∈ cs, ¬ c < 0 ∧ ¬ (65535 : Int32) < c := fun c hc => ⟨(h c hc).1, fun q => (h c hc).2 (by rw [Int32.lt_iff_toInt_lt] at q ⊢; have e1 : (65535 : Int32).toInt = 65535 := rfl; have e2 : (255 : Int32).toInt = 255 := rfl; omega)⟩
theorem and255_fin (x : Int32) : (x &&& 255) = Int32.ofNat (x &&& 255).toBitVec.toNat ∧ (x &&& 255).toBitVec.toNat < 256 := by
  constructor
  · apply Int32.toBitVec_inj.mp
    show _ = BitVec.ofNat 32 _
    rw [BitVec.ofNat_toNat]; simp
  · simp only [Int32.toBitVec_and, BitVec.toNat_and]
    exact Nat.lt_succ_of_le Nat.and_le_right
theorem and255_char (x : Int32) : (x &&& (255 : Int32)).toUInt32.toUInt16.toUInt32.toInt32 = x &&& 255 ∧ nar .char (x &&& 255) = x &&& 255 ∧ ¬ (x &&& 255) < 0 ∧ ¬ (255 : Int32) < (x &&& 255) := by
  have t : ∀ k : Fin 256, (Int32.ofNat k.val).toUInt32.toUInt16.toUInt32.toInt32 = Int32.ofNat k.val ∧ nar .char (Int32.ofNat k.val) = Int32.ofNat k.val ∧ ¬ (Int32.ofNat k.val) < 0 ∧ ¬ (255 : Int32) < (Int32.ofNat k.val) := by decide +kernel
  obtain ⟨e, hl⟩ := and255_fin x
  rw [e]
  exact t ⟨_, hl⟩
end StrKit
end Own
end Jvm.Pilot.@@N@@

namespace Jvm.Pilot.@@N@@
namespace Own
open Jvm Jvm.ClassFile Sem Op Lib Jvm.Free Jvm.Stand Jvm.LawKit Jvm.RoadKit
theorem payNew {p : Program} {l : Launch} {e : Env} {R : Room} {s : State} {args : Array Value} {below : List Frame} {Z : State} {a0 : Array Value} {h : Heap} {len W n0 n : Nat} (hZ : Z.Warmed39 s.vm) (hw : ∀ d ∈ StrChars.Road.words, d.before a0 Z = true) {kI : Nat} (wi : (Jvm.Cond.instantiable "java/lang/String" kI).before a0 Z = true)
    {x b : Addr} {kC : ClassId} {d v0 c0 : Value} {z N : Int32} (cs : List Int32) (hx0 : n0 ≤ x) (hh0 : n0 ≤ h.size) (E : Exa Z h x "java/lang/String") (V : Fld Z h x "java/lang/String" "value" "[B" v0) (C : Fld Z h x "java/lang/String" "coder" "B" c0) (K : Arv Z h b kC .char N (cs.map Value.int) d)
    (S : Sta Z Z.heap "java/lang/String" "COMPACT_STRINGS" "Z" (.int z)) (hz : ¬ z = 0) (X : Old Z n0 h) (hn : cs.length = n) (hN : N = Int32.ofNat n) (l0 : 0 < n) (l2 : n ≤ 4000) (hp : ∀ c ∈ cs, ¬ c < 0 ∧ ¬ (255 : Int32) < c) (hfr : 4 ≤ R.frames) (hlo : W + 65 ≤ R.locals) :
    BackQ l R p e below s args (⟨"java/lang/String", "<init>", "([C)V"⟩ : MethodName) len W #[.ref x, .ref b] h 1 n (fun v h' L => v = none ∧ Fr n0 L ∧ Keep h h' [x] ∧ Str Z h' x cs) := by
  subst hn hN
  refine Back.mono (StrChars.Road.backV (W := W) hZ hw wi (cs := cs) (bs := cs.map (fun c => c.toInt8.toInt32)) (n := cs.length) hx0 hh0 E V C K (S.ext X.2) hz rfl rfl l0 l2 hp rfl hfr hlo) (fun P a hp => hp) (fun P a v B _ hq => ?_)
  obtain ⟨L, ⟨q1, q2, q3, q4, q5, t, kb, -, -, -, q6, q7⟩, hl, hc, hs⟩ := hq
  exact ⟨L, ⟨q1, q2, q3, q4, hp, l2, q5, t, kb, q6, q7⟩, hl, hc, hs⟩
end Own
end Jvm.Pilot.@@N@@
namespace Jvm.Pilot.@@N@@
namespace Own
open Jvm Jvm.ClassFile Sem Op Lib Jvm.Free Jvm.Stand Jvm.LawKit Jvm.RoadKit
section Al
variable {p : Program} {l : Launch} {e : Env} {R : Room} {s : State} {m : MethodId} {args : Array Value} {below : List Frame} {meth : Method} {c : Code} {T : State} {locs : List Loc} {cells slots : Nat} {Z : State} {a0 : Array Value} {h h' : Heap}
/-- ldc of a class whose Class object is known -/
theorem ldcMir (X : Stand p l e R s m args below meth c T locs cells slots) (hx : p.tables.exec = Jvm.exec) (hZ : Z.Warmed39 s.vm) {own C : String} {index : Nat} (hown : s.vm.findClass own = some m.cls) (w : (Jvm.Cond.classLink own index C).before a0 Z = true) (eT : T.heap = h) {mr : Addr} (M : Mir Z C mr)
    {g : JFrame} (hg : g.method = m) (hd : decode c.code g.pc = .ok (.ldc index, 2)) : ∃ T', Stand p l e R s m args below meth c T' locs cells slots ∧ T'.heap = h ∧ ∀ target, Steps p.tables e below (T'.setTop { g with pc := g.pc + 2, stack := .ref mr :: g.stack }) target → Steps p.tables e below (T.setTop g) target := by
  obtain ⟨cc, kc, m1, m2, m3, -⟩ := M
  obtain ⟨k', q, ek⟩ := hZ.alike.2.2 _ _ m2
  have ev : (Term.mirror C).eval args s none [] s = some (.ref mr) := by
    have f : s.vm.findClass C = some cc := by rw [hZ.alike.findClass]; exact m1
    have g : k'.mirror = some mr := by rw [ek]; exact m3
    simp [Term.eval, f, q, g]
  obtain ⟨vm', X', st⟩ := X.ldcMirror hx hown (mvT hZ w) ev hg hd
  exact ⟨_, X', eT, st⟩
/-- C lies three classes under Object and isn't K, K no interface -/
theorem notAssign3 {C A B O K : String} {kP : Class} {t : ClassId} (w0 : (Jvm.Cond.noSuperclass O).before a0 Z = true) (w1 : (Jvm.Cond.superclass B O).before a0 Z = true) (w2 : (Jvm.Cond.superclass A B).before a0 Z = true) (w3 : (Jvm.Cond.superclass C A).before a0 Z = true)
    (t1 : Z.vm.findClass K = some t) (t2 : Z.vm.classes[t]? = some kP) (t3 : kP.isInterface = false) (hC : C ≠ K) (hA : A ≠ K) (hB : B ≠ K) (hO : O ≠ K) :
    ∃ c t, Z.vm.findClass C = some c ∧ Z.vm.findClass K = some t ∧ Z.vm.assignable c t = false := by
  obtain ⟨o, ko, o1, o2, o3, -, -⟩ := Cond.noSuperclass_spec w0
  obtain ⟨b, b0⟩ := found_sup w1
  obtain ⟨pb, kb, kpb, b1, b2, b3, b4, -⟩ := Cond.superclass_spec b0 w1
  cases o1.symm.trans b1
  obtain ⟨a, a0'⟩ := found_sup w2
  obtain ⟨pa, ka, kpa, a1, a2, a3, a4, -⟩ := Cond.superclass_spec a0' w2
  cases b0.symm.trans a1
  obtain ⟨c, c0⟩ := found_sup w3
  obtain ⟨pc, kc, kpc, c1, c2, c3, c4, c5, -⟩ := Cond.superclass_spec c0 w3
  cases a0'.symm.trans c1
  have n0 := ids_ne o1 t1 hO
  have n1 := ids_ne b0 t1 hB
  have n2 := ids_ne a0' t1 hA
  have n3 := ids_ne c0 t1 hC
  have s0 : ∀ fuel, Z.vm.isSubclassAux fuel o t = false := fun fuel => by
    cases fuel with
    | zero => rfl
    | succ f => simp [Vm.isSubclassAux, n0, o2, o3]
  have s1 : ∀ fuel, Z.vm.isSubclassAux fuel b t = false := fun fuel => by
    cases fuel with
    | zero => rfl
    | succ f => simp [Vm.isSubclassAux, n1, b2, b4, s0]
  have s2 : ∀ fuel, Z.vm.isSubclassAux fuel a t = false := fun fuel => by
    cases fuel with
    | zero => rfl
    | succ f => simp [Vm.isSubclassAux, n2, a2, a4, s1]
  have s3 : ∀ fuel, Z.vm.isSubclassAux fuel c t = false := fun fuel => by
    cases fuel with
    | zero => rfl
    | succ f => simp [Vm.isSubclassAux, n3, c2, c4, s2]
  refine ⟨c, t, c0, t1, ?_⟩
  show Z.vm.assignableAux (255 + 1) c t = false
  cases hk : kP.kind <;> simp [Vm.assignableAux, n3, c2, t2, c5, hk, t3, Vm.isSubclass, s3]
theorem noFace_inst {K : String} {n : Nat} (w : (Jvm.Cond.instantiable K n).before a0 Z = true) : ∃ t kP, Z.vm.findClass K = some t ∧ Z.vm.classes[t]? = some kP ∧ kP.isInterface = false := by
  obtain ⟨t, kt, t1, t2, t3, t4, -⟩ := Cond.instantiable_spec w
  refine ⟨t, kt, t1, t2, ?_⟩
  cases q : kt.isInterface with
  | false => rfl
  | true => rw [q] at t4; cases t4
theorem noFace_sel {C : String} {y z : MethodName} (hsel : (Jvm.Cond.selects C y z).before a0 Z = true) : ∃ t kP, Z.vm.findClass z.cls = some t ∧ Z.vm.classes[t]? = some kP ∧ kP.isInterface = false := by
  obtain ⟨c2, r2, m2, q1, q2, q3, q4, kP, hkP, hkPi⟩ := Cond.selects_spec hsel
  exact ⟨m2.cls, kP, findClass_of_methodNamed q3, hkP, hkPi⟩
end Al
end Own
end Jvm.Pilot.@@N@@

namespace Jvm.Pilot.@@N@@
open Jvm Jvm.ClassFile Sem Op Lib Jvm.Free Jvm.Stand Jvm.LawKit Jvm.RoadKit Bundle Jvm.Pilot.@@N@@.Jvm.D Jvm.Pilot.@@N@@.Own
theorem pd_0 : parseMethodDescriptor "()V" = some ⟨[], none⟩ := by decide +kernel
theorem pd_1 : parseMethodDescriptor "(II)I" = some ⟨[.int, .int], some .int⟩ := by decide +kernel
theorem pd_2 : parseMethodDescriptor "(I)[Ljava/lang/Object;" = some ⟨[.int], some (.array (.object "java/lang/Object"))⟩ := by decide +kernel
theorem pd_3 : parseMethodDescriptor "()[Ljava/lang/Object;" = some ⟨[], some (.array (.object "java/lang/Object"))⟩ := by decide +kernel
theorem pd_4 : parseMethodDescriptor "(Ljava/lang/Object;[Ljava/lang/Object;I)V" = some ⟨[(.object "java/lang/Object"), (.array (.object "java/lang/Object")), .int], none⟩ := by decide +kernel
theorem pd_5 : parseMethodDescriptor "([Ljava/lang/Object;ILjava/lang/Class;)[Ljava/lang/Object;" = some ⟨[(.array (.object "java/lang/Object")), .int, (.object "java/lang/Class")], some (.array (.object "java/lang/Object"))⟩ := by decide +kernel
theorem pd_6 : parseMethodDescriptor "([Ljava/lang/Object;I)[Ljava/lang/Object;" = some ⟨[(.array (.object "java/lang/Object")), .int], some (.array (.object "java/lang/Object"))⟩ := by decide +kernel
theorem pd_7 : parseMethodDescriptor "(Ljava/lang/Object;)Ljava/lang/Object;" = some ⟨[(.object "java/lang/Object")], some (.object "java/lang/Object")⟩ := by decide +kernel
theorem pd_8 : parseMethodDescriptor "(Ljava/lang/Object;)V" = some ⟨[(.object "java/lang/Object")], none⟩ := by decide +kernel
theorem pd_9 : parseMethodDescriptor "()Z" = some ⟨[], some .boolean⟩ := by decide +kernel
theorem pd_10 : parseMethodDescriptor "()Ljava/util/List;" = some ⟨[], some (.object "java/util/List")⟩ := by decide +kernel
theorem pd_11 : parseMethodDescriptor "([Ljava/lang/Object;)Ljava/util/List;" = some ⟨[(.array (.object "java/lang/Object"))], some (.object "java/util/List")⟩ := by decide +kernel
theorem pd_12 : parseMethodDescriptor "(Ljava/util/Collection;)Ljava/util/List;" = some ⟨[(.object "java/util/Collection")], some (.object "java/util/List")⟩ := by decide +kernel
theorem pd_13 : parseMethodDescriptor "(C)Z" = some ⟨[.char], some .boolean⟩ := by decide +kernel
theorem pd_14 : parseMethodDescriptor "(C)[B" = some ⟨[.char], some (.array .byte)⟩ := by decide +kernel
theorem pd_15 : parseMethodDescriptor "([BB)V" = some ⟨[(.array .byte), .byte], none⟩ := by decide +kernel
theorem pd_16 : parseMethodDescriptor "(Lcom/example/intentio/intentio/hddl/Atom;Z)V" = some ⟨[(.object "com/example/intentio/intentio/hddl/Atom"), .boolean], none⟩ := by decide +kernel
theorem pd_17 : parseMethodDescriptor "([C)V" = some ⟨[(.array .char)], none⟩ := by decide +kernel
theorem pd_18 : parseMethodDescriptor "(C)Ljava/lang/String;" = some ⟨[.char], some (.object "java/lang/String")⟩ := by decide +kernel
theorem pd_19 : parseMethodDescriptor "(Ljava/lang/String;Lcom/example/intentio/intentio/hddl/Type;)V" = some ⟨[(.object "java/lang/String"), (.object "com/example/intentio/intentio/hddl/Type")], none⟩ := by decide +kernel
theorem pd_20 : parseMethodDescriptor "(Ljava/lang/String;Ljava/util/List;)V" = some ⟨[(.object "java/lang/String"), (.object "java/util/List")], none⟩ := by decide +kernel
theorem pd_21 : parseMethodDescriptor "()Lcom/example/intentio/intentio/hddl/Literal;" = some ⟨[], some (.object "com/example/intentio/intentio/hddl/Literal")⟩ := by decide +kernel
theorem pd_22 : parseMethodDescriptor "()Lcom/example/intentio/intentio/hddl/Atom;" = some ⟨[], some (.object "com/example/intentio/intentio/hddl/Atom")⟩ := by decide +kernel
theorem pd_23 : parseMethodDescriptor "()Ljava/lang/String;" = some ⟨[], some (.object "java/lang/String")⟩ := by decide +kernel
theorem pd_24 : parseMethodDescriptor "(Ljava/lang/Object;)Z" = some ⟨[(.object "java/lang/Object")], some .boolean⟩ := by decide +kernel
theorem pd_25 : parseMethodDescriptor "()I" = some ⟨[], some .int⟩ := by decide +kernel
theorem pd_26 : parseMethodDescriptor "(I)Ljava/lang/Object;" = some ⟨[.int], some (.object "java/lang/Object")⟩ := by decide +kernel
theorem pn_0 : plainName "java/util/AbstractCollection" = true := by first | (simp [plainName, overriddenIn]; done) | decide +kernel
theorem pn_1 : plainName "java/util/AbstractList" = true := by first | (simp [plainName, overriddenIn]; done) | decide +kernel
theorem pn_2 : plainName "java/util/ArrayList" = true := by first | (simp [plainName, overriddenIn]; done) | decide +kernel
theorem pn_3 : plainName "java/util/Arrays" = true := by first | (simp [plainName, overriddenIn]; done) | decide +kernel
theorem pn_4 : plainName "java/util/ImmutableCollections$AbstractImmutableCollection" = true := by first | (simp [plainName, overriddenIn]; done) | decide +kernel
theorem pn_5 : plainName "java/util/ImmutableCollections$AbstractImmutableList" = true := by first | (simp [plainName, overriddenIn]; done) | decide +kernel
theorem pn_6 : plainName "java/util/Objects" = true := by first | (simp [plainName, overriddenIn]; done) | decide +kernel
theorem pn_7 : plainName "java/util/ImmutableCollections$List12" = true := by first | (simp [plainName, overriddenIn]; done) | decide +kernel
theorem pn_8 : plainName "java/util/List" = true := by first | (simp [plainName, overriddenIn]; done) | decide +kernel
theorem pn_9 : plainName "java/util/ImmutableCollections" = true := by first | (simp [plainName, overriddenIn]; done) | decide +kernel
theorem pn_10 : plainName "java/util/ImmutableCollections$ListN" = true := by first | (simp [plainName, overriddenIn]; done) | decide +kernel
theorem pn_11 : plainName "java/lang/StringLatin1" = true := by first | (simp [plainName, overriddenIn]; done) | decide +kernel
theorem pn_12 : plainName "java/lang/String" = true := by first | (simp [plainName, overriddenIn]; done) | decide +kernel
theorem pn_13 : plainName "java/lang/Record" = true := by first | (simp [plainName, overriddenIn]; done) | decide +kernel
theorem pn_14 : plainName "com/example/intentio/intentio/hddl/Term$Variable" = true := by first | (simp [plainName, overriddenIn]; done) | decide +kernel
theorem pn_15 : plainName "com/example/intentio/intentio/hddl/Literal" = true := by first | (simp [plainName, overriddenIn]; done) | decide +kernel
theorem pn_16 : plainName "com/example/intentio/intentio/hddl/Atom" = true := by first | (simp [plainName, overriddenIn]; done) | decide +kernel
theorem pn_17 : plainName "com/example/intentio/intentio/hddl/LiteralComplementPinLaw" = true := by first | (simp [plainName, overriddenIn]; done) | decide +kernel
theorem d7_0 : decode jdk_42_method_139_code 0 = .ok (.getstatic 38, 3) := by decide +kernel
theorem d7_3 : decode jdk_42_method_139_code 3 = .ok (.ifCond .eq 23, 3) := by decide +kernel
theorem d7_6 : decode jdk_42_method_139_code 6 = .ok (.iload_n 0, 1) := by decide +kernel
theorem d7_7 : decode jdk_42_method_139_code 7 = .ok (.invokestatic 1015, 3) := by decide +kernel
theorem d7_10 : decode jdk_42_method_139_code 10 = .ok (.ifCond .eq 16, 3) := by decide +kernel
theorem d7_13 : decode jdk_42_method_139_code 13 = .ok (.new 10, 3) := by decide +kernel
theorem d7_16 : decode jdk_42_method_139_code 16 = .ok (.dup, 1) := by decide +kernel
theorem d7_17 : decode jdk_42_method_139_code 17 = .ok (.iload_n 0, 1) := by decide +kernel
theorem d7_18 : decode jdk_42_method_139_code 18 = .ok (.invokestatic 1018, 3) := by decide +kernel
theorem d7_21 : decode jdk_42_method_139_code 21 = .ok (.iconst 0, 1) := by decide +kernel
theorem d7_22 : decode jdk_42_method_139_code 22 = .ok (.invokespecial 209, 3) := by decide +kernel
theorem d7_25 : decode jdk_42_method_139_code 25 = .ok (.areturn, 1) := by decide +kernel
theorem d8_0 : decode jdk_43_method_3_code 0 = .ok (.iload_n 0, 1) := by decide +kernel
theorem d8_1 : decode jdk_43_method_3_code 1 = .ok (.sipush 255, 3) := by decide +kernel
theorem d8_4 : decode jdk_43_method_3_code 4 = .ok (.if_icmp .gt 7, 3) := by decide +kernel
theorem d8_7 : decode jdk_43_method_3_code 7 = .ok (.iconst 1, 1) := by decide +kernel
theorem d8_8 : decode jdk_43_method_3_code 8 = .ok (.goto 4, 3) := by decide +kernel
theorem d8_12 : decode jdk_43_method_3_code 12 = .ok (.ireturn, 1) := by decide +kernel
theorem d9_0 : decode jdk_43_method_46_code 0 = .ok (.iconst 1, 1) := by decide +kernel
theorem d9_1 : decode jdk_43_method_46_code 1 = .ok (.newarray .byte, 2) := by decide +kernel
theorem d9_3 : decode jdk_43_method_46_code 3 = .ok (.dup, 1) := by decide +kernel
theorem d9_4 : decode jdk_43_method_46_code 4 = .ok (.iconst 0, 1) := by decide +kernel
theorem d9_5 : decode jdk_43_method_46_code 5 = .ok (.iload_n 0, 1) := by decide +kernel
theorem d9_6 : decode jdk_43_method_46_code 6 = .ok (.i2b, 1) := by decide +kernel
theorem d9_7 : decode jdk_43_method_46_code 7 = .ok (.bastore, 1) := by decide +kernel
theorem d9_8 : decode jdk_43_method_46_code 8 = .ok (.areturn, 1) := by decide +kernel
theorem d10_0 : decode jdk_42_method_151_code 0 = .ok (.aload_n 0, 1) := by decide +kernel
theorem d10_1 : decode jdk_42_method_151_code 1 = .ok (.invokespecial 1, 3) := by decide +kernel
theorem d10_4 : decode jdk_42_method_151_code 4 = .ok (.aload_n 0, 1) := by decide +kernel
theorem d10_5 : decode jdk_42_method_151_code 5 = .ok (.aload_n 1, 1) := by decide +kernel
theorem d10_6 : decode jdk_42_method_151_code 6 = .ok (.putfield 9, 3) := by decide +kernel
theorem d10_9 : decode jdk_42_method_151_code 9 = .ok (.aload_n 0, 1) := by decide +kernel
theorem d10_10 : decode jdk_42_method_151_code 10 = .ok (.iload_n 2, 1) := by decide +kernel
theorem d10_11 : decode jdk_42_method_151_code 11 = .ok (.putfield 15, 3) := by decide +kernel
theorem d10_14 : decode jdk_42_method_151_code 14 = .ok (.return_, 1) := by decide +kernel
theorem d11_0 : decode prog_78_method_1_code 0 = .ok (.aload_n 0, 1) := by decide +kernel
theorem d11_1 : decode prog_78_method_1_code 1 = .ok (.invokespecial 1, 3) := by decide +kernel
theorem d11_4 : decode prog_78_method_1_code 4 = .ok (.aload_n 0, 1) := by decide +kernel
theorem d11_5 : decode prog_78_method_1_code 5 = .ok (.aload_n 1, 1) := by decide +kernel
theorem d11_6 : decode prog_78_method_1_code 6 = .ok (.putfield 7, 3) := by decide +kernel
theorem d11_9 : decode prog_78_method_1_code 9 = .ok (.aload_n 0, 1) := by decide +kernel
theorem d11_10 : decode prog_78_method_1_code 10 = .ok (.aload_n 2, 1) := by decide +kernel
theorem d11_11 : decode prog_78_method_1_code 11 = .ok (.putfield 13, 3) := by decide +kernel
theorem d11_14 : decode prog_78_method_1_code 14 = .ok (.return_, 1) := by decide +kernel
theorem d12_0 : decode jdk_30_method_1_code 0 = .ok (.aload_n 0, 1) := by decide +kernel
theorem d12_1 : decode jdk_30_method_1_code 1 = .ok (.invokespecial 1, 3) := by decide +kernel
theorem d12_4 : decode jdk_30_method_1_code 4 = .ok (.return_, 1) := by decide +kernel
theorem d13_0 : decode jdk_38_method_2_code 0 = .ok (.aload_n 0, 1) := by decide +kernel
theorem d13_1 : decode jdk_38_method_2_code 1 = .ok (.invokespecial 1, 3) := by decide +kernel
theorem d13_4 : decode jdk_38_method_2_code 4 = .ok (.aload_n 0, 1) := by decide +kernel
theorem d13_5 : decode jdk_38_method_2_code 5 = .ok (.getstatic 39, 3) := by decide +kernel
theorem d13_8 : decode jdk_38_method_2_code 8 = .ok (.putfield 9, 3) := by decide +kernel
theorem d13_11 : decode jdk_38_method_2_code 11 = .ok (.return_, 1) := by decide +kernel
theorem d14_0 : decode jdk_39_method_1_code 0 = .ok (.aload_n 0, 1) := by decide +kernel
theorem d14_1 : decode jdk_39_method_1_code 1 = .ok (.invokespecial 1, 3) := by decide +kernel
theorem d14_4 : decode jdk_39_method_1_code 4 = .ok (.aload_n 0, 1) := by decide +kernel
theorem d14_5 : decode jdk_39_method_1_code 5 = .ok (.iconst 0, 1) := by decide +kernel
theorem d14_6 : decode jdk_39_method_1_code 6 = .ok (.putfield 7, 3) := by decide +kernel
theorem d14_9 : decode jdk_39_method_1_code 9 = .ok (.return_, 1) := by decide +kernel
theorem d15_0 : decode jdk_22_method_1_code 0 = .ok (.aload_n 0, 1) := by decide +kernel
theorem d15_1 : decode jdk_22_method_1_code 1 = .ok (.invokespecial 1, 3) := by decide +kernel
theorem d15_4 : decode jdk_22_method_1_code 4 = .ok (.return_, 1) := by decide +kernel
theorem d16_0 : decode prog_44_method_1_code 0 = .ok (.aload_n 0, 1) := by decide +kernel
theorem d16_1 : decode prog_44_method_1_code 1 = .ok (.invokespecial 1, 3) := by decide +kernel
theorem d16_4 : decode prog_44_method_1_code 4 = .ok (.aload_n 2, 1) := by decide +kernel
theorem d16_5 : decode prog_44_method_1_code 5 = .ok (.invokestatic 7, 3) := by decide +kernel
theorem d16_8 : decode prog_44_method_1_code 8 = .ok (.astore_n 2, 1) := by decide +kernel
theorem d16_9 : decode prog_44_method_1_code 9 = .ok (.aload_n 0, 1) := by decide +kernel
theorem d16_10 : decode prog_44_method_1_code 10 = .ok (.aload_n 1, 1) := by decide +kernel
theorem d16_11 : decode prog_44_method_1_code 11 = .ok (.putfield 13, 3) := by decide +kernel
theorem d16_14 : decode prog_44_method_1_code 14 = .ok (.aload_n 0, 1) := by decide +kernel
theorem d16_15 : decode prog_44_method_1_code 15 = .ok (.aload_n 2, 1) := by decide +kernel
theorem d16_16 : decode prog_44_method_1_code 16 = .ok (.putfield 19, 3) := by decide +kernel
theorem d16_19 : decode prog_44_method_1_code 19 = .ok (.return_, 1) := by decide +kernel
theorem d17_0 : decode jdk_40_method_48_code 0 = .ok (.aload_n 0, 1) := by decide +kernel
theorem d17_1 : decode jdk_40_method_48_code 1 = .ok (.invokestatic 112, 3) := by decide +kernel
theorem d17_4 : decode jdk_40_method_48_code 4 = .ok (.areturn, 1) := by decide +kernel
theorem d18_0 : decode jdk_56_method_3_code 0 = .ok (.aload_n 0, 1) := by decide +kernel
theorem d18_1 : decode jdk_56_method_3_code 1 = .ok (.instanceof 10, 3) := by decide +kernel
theorem d18_4 : decode jdk_56_method_3_code 4 = .ok (.ifCond .ne 22, 3) := by decide +kernel
theorem d18_7 : decode jdk_56_method_3_code 7 = .ok (.aload_n 0, 1) := by decide +kernel
theorem d18_8 : decode jdk_56_method_3_code 8 = .ok (.instanceof 12, 3) := by decide +kernel
theorem d18_11 : decode jdk_56_method_3_code 11 = .ok (.ifCond .eq 20, 3) := by decide +kernel
theorem d18_31 : decode jdk_56_method_3_code 31 = .ok (.aload_n 0, 1) := by decide +kernel
theorem d18_32 : decode jdk_56_method_3_code 32 = .ok (.invokeinterface 20 1, 5) := by decide +kernel
theorem d18_37 : decode jdk_56_method_3_code 37 = .ok (.ifCond .eq 7, 3) := by decide +kernel
theorem d18_40 : decode jdk_56_method_3_code 40 = .ok (.invokestatic 26, 3) := by decide +kernel
theorem d18_43 : decode jdk_56_method_3_code 43 = .ok (.areturn, 1) := by decide +kernel
theorem d18_44 : decode jdk_56_method_3_code 44 = .ok (.aload_n 0, 1) := by decide +kernel
theorem d18_45 : decode jdk_56_method_3_code 45 = .ok (.invokeinterface 30 1, 5) := by decide +kernel
theorem d18_50 : decode jdk_56_method_3_code 50 = .ok (.invokestatic 34, 3) := by decide +kernel
theorem d18_53 : decode jdk_56_method_3_code 53 = .ok (.areturn, 1) := by decide +kernel
theorem d19_0 : decode jdk_38_method_9_code 0 = .ok (.aload_n 0, 1) := by decide +kernel
theorem d19_1 : decode jdk_38_method_9_code 1 = .ok (.getfield 48, 3) := by decide +kernel
theorem d19_4 : decode jdk_38_method_9_code 4 = .ok (.ifCond .ne 7, 3) := by decide +kernel
theorem d19_7 : decode jdk_38_method_9_code 7 = .ok (.iconst 1, 1) := by decide +kernel
theorem d19_8 : decode jdk_38_method_9_code 8 = .ok (.goto 4, 3) := by decide +kernel
theorem d19_11 : decode jdk_38_method_9_code 11 = .ok (.iconst 0, 1) := by decide +kernel
theorem d19_12 : decode jdk_38_method_9_code 12 = .ok (.ireturn, 1) := by decide +kernel
theorem d20_0 : decode jdk_40_method_36_code 0 = .ok (.getstatic 90, 3) := by decide +kernel
theorem d20_3 : decode jdk_40_method_36_code 3 = .ok (.areturn, 1) := by decide +kernel
theorem d21_0 : decode prog_63_method_1_code 0 = .ok (.aload_n 0, 1) := by decide +kernel
theorem d21_1 : decode prog_63_method_1_code 1 = .ok (.invokespecial 1, 3) := by decide +kernel
theorem d21_4 : decode prog_63_method_1_code 4 = .ok (.aload_n 0, 1) := by decide +kernel
theorem d21_5 : decode prog_63_method_1_code 5 = .ok (.aload_n 1, 1) := by decide +kernel
theorem d21_6 : decode prog_63_method_1_code 6 = .ok (.putfield 7, 3) := by decide +kernel
theorem d21_9 : decode prog_63_method_1_code 9 = .ok (.aload_n 0, 1) := by decide +kernel
theorem d21_10 : decode prog_63_method_1_code 10 = .ok (.iload_n 2, 1) := by decide +kernel
theorem d21_11 : decode prog_63_method_1_code 11 = .ok (.putfield 13, 3) := by decide +kernel
theorem d21_14 : decode prog_63_method_1_code 14 = .ok (.return_, 1) := by decide +kernel
theorem d22_0 : decode prog_63_method_2_code 0 = .ok (.new 8, 3) := by decide +kernel
theorem d22_3 : decode prog_63_method_2_code 3 = .ok (.dup, 1) := by decide +kernel
theorem d22_4 : decode prog_63_method_2_code 4 = .ok (.aload_n 0, 1) := by decide +kernel
theorem d22_5 : decode prog_63_method_2_code 5 = .ok (.getfield 7, 3) := by decide +kernel
theorem d22_8 : decode prog_63_method_2_code 8 = .ok (.aload_n 0, 1) := by decide +kernel
theorem d22_9 : decode prog_63_method_2_code 9 = .ok (.getfield 13, 3) := by decide +kernel
theorem d22_12 : decode prog_63_method_2_code 12 = .ok (.ifCond .ne 7, 3) := by decide +kernel
theorem d22_15 : decode prog_63_method_2_code 15 = .ok (.iconst 1, 1) := by decide +kernel
theorem d22_16 : decode prog_63_method_2_code 16 = .ok (.goto 4, 3) := by decide +kernel
theorem d22_19 : decode prog_63_method_2_code 19 = .ok (.iconst 0, 1) := by decide +kernel
theorem d22_20 : decode prog_63_method_2_code 20 = .ok (.invokespecial 17, 3) := by decide +kernel
theorem d22_23 : decode prog_63_method_2_code 23 = .ok (.areturn, 1) := by decide +kernel
theorem d23_0 : decode prog_63_method_9_code 0 = .ok (.aload_n 0, 1) := by decide +kernel
theorem d23_1 : decode prog_63_method_9_code 1 = .ok (.getfield 13, 3) := by decide +kernel
theorem d23_4 : decode prog_63_method_9_code 4 = .ok (.ireturn, 1) := by decide +kernel
theorem d24_0 : decode prog_63_method_8_code 0 = .ok (.aload_n 0, 1) := by decide +kernel
theorem d24_1 : decode prog_63_method_8_code 1 = .ok (.getfield 7, 3) := by decide +kernel
theorem d24_4 : decode prog_63_method_8_code 4 = .ok (.areturn, 1) := by decide +kernel
theorem d25_0 : decode prog_44_method_7_code 0 = .ok (.aload_n 0, 1) := by decide +kernel
theorem d25_1 : decode prog_44_method_7_code 1 = .ok (.getfield 13, 3) := by decide +kernel
theorem d25_4 : decode prog_44_method_7_code 4 = .ok (.areturn, 1) := by decide +kernel
theorem d26_0 : decode jdk_42_method_66_code 0 = .ok (.aload_n 0, 1) := by decide +kernel
theorem d26_1 : decode jdk_42_method_66_code 1 = .ok (.aload_n 1, 1) := by decide +kernel
theorem d26_2 : decode jdk_42_method_66_code 2 = .ok (.if_acmp .ne 5, 3) := by decide +kernel
theorem d26_5 : decode jdk_42_method_66_code 5 = .ok (.iconst 1, 1) := by decide +kernel
theorem d26_6 : decode jdk_42_method_66_code 6 = .ok (.ireturn, 1) := by decide +kernel
theorem d27_0 : decode prog_44_method_8_code 0 = .ok (.aload_n 0, 1) := by decide +kernel
theorem d27_1 : decode prog_44_method_8_code 1 = .ok (.getfield 19, 3) := by decide +kernel
theorem d27_4 : decode prog_44_method_8_code 4 = .ok (.areturn, 1) := by decide +kernel
theorem d28_0 : decode jdk_45_method_3_code 0 = .ok (.aload_n 0, 1) := by decide +kernel
theorem d28_1 : decode jdk_45_method_3_code 1 = .ok (.getfield 7, 3) := by decide +kernel
theorem d28_4 : decode jdk_45_method_3_code 4 = .ok (.arraylength, 1) := by decide +kernel
theorem d28_5 : decode jdk_45_method_3_code 5 = .ok (.ireturn, 1) := by decide +kernel
theorem d29_0 : decode jdk_38_method_25_code 0 = .ok (.aload_n 0, 1) := by decide +kernel
theorem d29_1 : decode jdk_38_method_25_code 1 = .ok (.dup, 1) := by decide +kernel
theorem d29_2 : decode jdk_38_method_25_code 2 = .ok (.getfield 63, 3) := by decide +kernel
theorem d29_5 : decode jdk_38_method_25_code 5 = .ok (.iconst 1, 1) := by decide +kernel
theorem d29_6 : decode jdk_38_method_25_code 6 = .ok (.iadd, 1) := by decide +kernel
theorem d29_7 : decode jdk_38_method_25_code 7 = .ok (.putfield 63, 3) := by decide +kernel
theorem d29_10 : decode jdk_38_method_25_code 10 = .ok (.aload_n 0, 1) := by decide +kernel
theorem d29_11 : decode jdk_38_method_25_code 11 = .ok (.aload_n 1, 1) := by decide +kernel
theorem d29_12 : decode jdk_38_method_25_code 12 = .ok (.aload_n 0, 1) := by decide +kernel
theorem d29_13 : decode jdk_38_method_25_code 13 = .ok (.getfield 9, 3) := by decide +kernel
theorem d29_16 : decode jdk_38_method_25_code 16 = .ok (.aload_n 0, 1) := by decide +kernel
theorem d29_17 : decode jdk_38_method_25_code 17 = .ok (.getfield 48, 3) := by decide +kernel
theorem d29_20 : decode jdk_38_method_25_code 20 = .ok (.invokevirtual 131, 3) := by decide +kernel
theorem d29_23 : decode jdk_38_method_25_code 23 = .ok (.iconst 1, 1) := by decide +kernel
theorem d29_24 : decode jdk_38_method_25_code 24 = .ok (.ireturn, 1) := by decide +kernel
theorem d30_0 : decode jdk_38_method_24_code 0 = .ok (.iload_n 3, 1) := by decide +kernel
theorem d30_1 : decode jdk_38_method_24_code 1 = .ok (.aload_n 2, 1) := by decide +kernel
theorem d30_2 : decode jdk_38_method_24_code 2 = .ok (.arraylength, 1) := by decide +kernel
theorem d30_3 : decode jdk_38_method_24_code 3 = .ok (.if_icmp .ne 8, 3) := by decide +kernel
theorem d30_6 : decode jdk_38_method_24_code 6 = .ok (.aload_n 0, 1) := by decide +kernel
theorem d30_7 : decode jdk_38_method_24_code 7 = .ok (.invokevirtual 129, 3) := by decide +kernel
theorem d30_10 : decode jdk_38_method_24_code 10 = .ok (.astore_n 2, 1) := by decide +kernel
theorem d30_11 : decode jdk_38_method_24_code 11 = .ok (.aload_n 2, 1) := by decide +kernel
theorem d30_12 : decode jdk_38_method_24_code 12 = .ok (.iload_n 3, 1) := by decide +kernel
theorem d30_13 : decode jdk_38_method_24_code 13 = .ok (.aload_n 1, 1) := by decide +kernel
theorem d30_14 : decode jdk_38_method_24_code 14 = .ok (.aastore, 1) := by decide +kernel
theorem d30_15 : decode jdk_38_method_24_code 15 = .ok (.aload_n 0, 1) := by decide +kernel
theorem d30_16 : decode jdk_38_method_24_code 16 = .ok (.iload_n 3, 1) := by decide +kernel
theorem d30_17 : decode jdk_38_method_24_code 17 = .ok (.iconst 1, 1) := by decide +kernel
theorem d30_18 : decode jdk_38_method_24_code 18 = .ok (.iadd, 1) := by decide +kernel
theorem d30_19 : decode jdk_38_method_24_code 19 = .ok (.putfield 48, 3) := by decide +kernel
theorem d30_22 : decode jdk_38_method_24_code 22 = .ok (.return_, 1) := by decide +kernel
theorem d31_0 : decode jdk_38_method_7_code 0 = .ok (.aload_n 0, 1) := by decide +kernel
theorem d31_1 : decode jdk_38_method_7_code 1 = .ok (.aload_n 0, 1) := by decide +kernel
theorem d31_2 : decode jdk_38_method_7_code 2 = .ok (.getfield 48, 3) := by decide +kernel
theorem d31_5 : decode jdk_38_method_7_code 5 = .ok (.iconst 1, 1) := by decide +kernel
theorem d31_6 : decode jdk_38_method_7_code 6 = .ok (.iadd, 1) := by decide +kernel
theorem d31_7 : decode jdk_38_method_7_code 7 = .ok (.invokevirtual 69, 3) := by decide +kernel
theorem d31_10 : decode jdk_38_method_7_code 10 = .ok (.areturn, 1) := by decide +kernel
theorem d32_0 : decode jdk_38_method_6_code 0 = .ok (.aload_n 0, 1) := by decide +kernel
theorem d32_1 : decode jdk_38_method_6_code 1 = .ok (.getfield 9, 3) := by decide +kernel
theorem d32_4 : decode jdk_38_method_6_code 4 = .ok (.arraylength, 1) := by decide +kernel
theorem d32_5 : decode jdk_38_method_6_code 5 = .ok (.istore_n 2, 1) := by decide +kernel
theorem d32_6 : decode jdk_38_method_6_code 6 = .ok (.iload_n 2, 1) := by decide +kernel
theorem d32_7 : decode jdk_38_method_6_code 7 = .ok (.ifCond .gt 13, 3) := by decide +kernel
theorem d32_10 : decode jdk_38_method_6_code 10 = .ok (.aload_n 0, 1) := by decide +kernel
theorem d32_11 : decode jdk_38_method_6_code 11 = .ok (.getfield 9, 3) := by decide +kernel
theorem d32_14 : decode jdk_38_method_6_code 14 = .ok (.getstatic 39, 3) := by decide +kernel
theorem d32_17 : decode jdk_38_method_6_code 17 = .ok (.if_acmp .eq 28, 3) := by decide +kernel
theorem d32_45 : decode jdk_38_method_6_code 45 = .ok (.aload_n 0, 1) := by decide +kernel
theorem d32_46 : decode jdk_38_method_6_code 46 = .ok (.bipush 10, 2) := by decide +kernel
theorem d32_48 : decode jdk_38_method_6_code 48 = .ok (.iload_n 1, 1) := by decide +kernel
theorem d32_49 : decode jdk_38_method_6_code 49 = .ok (.invokestatic 79, 3) := by decide +kernel
theorem d32_52 : decode jdk_38_method_6_code 52 = .ok (.anewarray 7, 3) := by decide +kernel
theorem d32_55 : decode jdk_38_method_6_code 55 = .ok (.dup_x1, 1) := by decide +kernel
theorem d32_56 : decode jdk_38_method_6_code 56 = .ok (.putfield 9, 3) := by decide +kernel
theorem d32_59 : decode jdk_38_method_6_code 59 = .ok (.areturn, 1) := by decide +kernel
theorem d33_0 : decode jdk_29_method_65_code 0 = .ok (.iload_n 0, 1) := by decide +kernel
theorem d33_1 : decode jdk_29_method_65_code 1 = .ok (.iload_n 1, 1) := by decide +kernel
theorem d33_2 : decode jdk_29_method_65_code 2 = .ok (.if_icmp .lt 7, 3) := by decide +kernel
theorem d33_5 : decode jdk_29_method_65_code 5 = .ok (.iload_n 0, 1) := by decide +kernel
theorem d33_6 : decode jdk_29_method_65_code 6 = .ok (.goto 4, 3) := by decide +kernel
theorem d33_9 : decode jdk_29_method_65_code 9 = .ok (.iload_n 1, 1) := by decide +kernel
theorem d33_10 : decode jdk_29_method_65_code 10 = .ok (.ireturn, 1) := by decide +kernel
theorem d34_0 : decode jdk_38_method_16_code 0 = .ok (.aload_n 0, 1) := by decide +kernel
theorem d34_1 : decode jdk_38_method_16_code 1 = .ok (.getfield 9, 3) := by decide +kernel
theorem d34_4 : decode jdk_38_method_16_code 4 = .ok (.aload_n 0, 1) := by decide +kernel
theorem d34_5 : decode jdk_38_method_16_code 5 = .ok (.getfield 48, 3) := by decide +kernel
theorem d34_8 : decode jdk_38_method_16_code 8 = .ok (.invokestatic 66, 3) := by decide +kernel
theorem d34_11 : decode jdk_38_method_16_code 11 = .ok (.areturn, 1) := by decide +kernel
theorem d35_0 : decode jdk_65_method_119_code 0 = .ok (.aload_n 0, 1) := by decide +kernel
theorem d35_1 : decode jdk_65_method_119_code 1 = .ok (.iload_n 1, 1) := by decide +kernel
theorem d35_2 : decode jdk_65_method_119_code 2 = .ok (.aload_n 0, 1) := by decide +kernel
theorem d35_3 : decode jdk_65_method_119_code 3 = .ok (.invokevirtual 86, 3) := by decide +kernel
theorem d35_6 : decode jdk_65_method_119_code 6 = .ok (.invokestatic 300, 3) := by decide +kernel
theorem d35_9 : decode jdk_65_method_119_code 9 = .ok (.areturn, 1) := by decide +kernel
theorem d36_0 : decode jdk_65_method_120_code 0 = .ok (.aload_n 2, 1) := by decide +kernel
theorem d36_1 : decode jdk_65_method_120_code 1 = .ok (.ldc 110, 2) := by decide +kernel
theorem d36_3 : decode jdk_65_method_120_code 3 = .ok (.if_acmp .ne 10, 3) := by decide +kernel
theorem d36_6 : decode jdk_65_method_120_code 6 = .ok (.iload_n 1, 1) := by decide +kernel
theorem d36_7 : decode jdk_65_method_120_code 7 = .ok (.anewarray 2, 3) := by decide +kernel
theorem d36_10 : decode jdk_65_method_120_code 10 = .ok (.goto 14, 3) := by decide +kernel
theorem d36_24 : decode jdk_65_method_120_code 24 = .ok (.astore_n 3, 1) := by decide +kernel
theorem d36_25 : decode jdk_65_method_120_code 25 = .ok (.aload_n 0, 1) := by decide +kernel
theorem d36_26 : decode jdk_65_method_120_code 26 = .ok (.iconst 0, 1) := by decide +kernel
theorem d36_27 : decode jdk_65_method_120_code 27 = .ok (.aload_n 3, 1) := by decide +kernel
theorem d36_28 : decode jdk_65_method_120_code 28 = .ok (.iconst 0, 1) := by decide +kernel
theorem d36_29 : decode jdk_65_method_120_code 29 = .ok (.aload_n 0, 1) := by decide +kernel
theorem d36_30 : decode jdk_65_method_120_code 30 = .ok (.arraylength, 1) := by decide +kernel
theorem d36_31 : decode jdk_65_method_120_code 31 = .ok (.iload_n 1, 1) := by decide +kernel
theorem d36_32 : decode jdk_65_method_120_code 32 = .ok (.invokestatic 304, 3) := by decide +kernel
theorem d36_35 : decode jdk_65_method_120_code 35 = .ok (.invokestatic 150, 3) := by decide +kernel
theorem d36_38 : decode jdk_65_method_120_code 38 = .ok (.aload_n 3, 1) := by decide +kernel
theorem d36_39 : decode jdk_65_method_120_code 39 = .ok (.areturn, 1) := by decide +kernel
theorem d37_0 : decode jdk_29_method_69_code 0 = .ok (.iload_n 0, 1) := by decide +kernel
theorem d37_1 : decode jdk_29_method_69_code 1 = .ok (.iload_n 1, 1) := by decide +kernel
theorem d37_2 : decode jdk_29_method_69_code 2 = .ok (.if_icmp .gt 7, 3) := by decide +kernel
theorem d37_5 : decode jdk_29_method_69_code 5 = .ok (.iload_n 0, 1) := by decide +kernel
theorem d37_6 : decode jdk_29_method_69_code 6 = .ok (.goto 4, 3) := by decide +kernel
theorem d37_9 : decode jdk_29_method_69_code 9 = .ok (.iload_n 1, 1) := by decide +kernel
theorem d37_10 : decode jdk_29_method_69_code 10 = .ok (.ireturn, 1) := by decide +kernel
theorem d38_0 : decode jdk_40_method_47_code 0 = .ok (.aload_n 0, 1) := by decide +kernel
theorem d38_1 : decode jdk_40_method_47_code 1 = .ok (.arraylength, 1) := by decide +kernel
theorem d38_2 : decode jdk_40_method_47_code 2 = .ok (.tableswitch 57 0 2 #[26, 32, 43], 26) := by decide +kernel
theorem d38_34 : decode jdk_40_method_47_code 34 = .ok (.new 96, 3) := by decide +kernel
theorem d38_37 : decode jdk_40_method_47_code 37 = .ok (.dup, 1) := by decide +kernel
theorem d38_38 : decode jdk_40_method_47_code 38 = .ok (.aload_n 0, 1) := by decide +kernel
theorem d38_39 : decode jdk_40_method_47_code 39 = .ok (.iconst 0, 1) := by decide +kernel
theorem d38_40 : decode jdk_40_method_47_code 40 = .ok (.aaload, 1) := by decide +kernel
theorem d38_41 : decode jdk_40_method_47_code 41 = .ok (.invokespecial 98, 3) := by decide +kernel
theorem d38_44 : decode jdk_40_method_47_code 44 = .ok (.areturn, 1) := by decide +kernel
theorem d39_0 : decode jdk_44_method_1_code 0 = .ok (.aload_n 0, 1) := by decide +kernel
theorem d39_1 : decode jdk_44_method_1_code 1 = .ok (.invokespecial 1, 3) := by decide +kernel
theorem d39_4 : decode jdk_44_method_1_code 4 = .ok (.aload_n 0, 1) := by decide +kernel
theorem d39_5 : decode jdk_44_method_1_code 5 = .ok (.aload_n 1, 1) := by decide +kernel
theorem d39_6 : decode jdk_44_method_1_code 6 = .ok (.invokestatic 7, 3) := by decide +kernel
theorem d39_9 : decode jdk_44_method_1_code 9 = .ok (.putfield 13, 3) := by decide +kernel
theorem d39_12 : decode jdk_44_method_1_code 12 = .ok (.aload_n 0, 1) := by decide +kernel
theorem d39_13 : decode jdk_44_method_1_code 13 = .ok (.getstatic 19, 3) := by decide +kernel
theorem d39_16 : decode jdk_44_method_1_code 16 = .ok (.putfield 24, 3) := by decide +kernel
theorem d39_19 : decode jdk_44_method_1_code 19 = .ok (.return_, 1) := by decide +kernel
theorem d40_0 : decode jdk_46_method_1_code 0 = .ok (.aload_n 0, 1) := by decide +kernel
theorem d40_1 : decode jdk_46_method_1_code 1 = .ok (.invokespecial 1, 3) := by decide +kernel
theorem d40_4 : decode jdk_46_method_1_code 4 = .ok (.return_, 1) := by decide +kernel
theorem d41_0 : decode jdk_47_method_1_code 0 = .ok (.aload_n 0, 1) := by decide +kernel
theorem d41_1 : decode jdk_47_method_1_code 1 = .ok (.invokespecial 1, 3) := by decide +kernel
theorem d41_4 : decode jdk_47_method_1_code 4 = .ok (.return_, 1) := by decide +kernel
theorem d42_0 : decode jdk_31_method_10_code 0 = .ok (.aload_n 0, 1) := by decide +kernel
theorem d42_1 : decode jdk_31_method_10_code 1 = .ok (.ifnonnull 11, 3) := by decide +kernel
theorem d42_12 : decode jdk_31_method_10_code 12 = .ok (.aload_n 0, 1) := by decide +kernel
theorem d42_13 : decode jdk_31_method_10_code 13 = .ok (.areturn, 1) := by decide +kernel
theorem d43_0 : decode jdk_44_method_3_code 0 = .ok (.aload_n 0, 1) := by decide +kernel
theorem d43_1 : decode jdk_44_method_3_code 1 = .ok (.getfield 24, 3) := by decide +kernel
theorem d43_4 : decode jdk_44_method_3_code 4 = .ok (.getstatic 19, 3) := by decide +kernel
theorem d43_7 : decode jdk_44_method_3_code 7 = .ok (.if_acmp .eq 7, 3) := by decide +kernel
theorem d43_14 : decode jdk_44_method_3_code 14 = .ok (.iconst 1, 1) := by decide +kernel
theorem d43_15 : decode jdk_44_method_3_code 15 = .ok (.ireturn, 1) := by decide +kernel
theorem d44_0 : decode jdk_44_method_5_code 0 = .ok (.iload_n 1, 1) := by decide +kernel
theorem d44_1 : decode jdk_44_method_5_code 1 = .ok (.ifCond .ne 8, 3) := by decide +kernel
theorem d44_4 : decode jdk_44_method_5_code 4 = .ok (.aload_n 0, 1) := by decide +kernel
theorem d44_5 : decode jdk_44_method_5_code 5 = .ok (.getfield 13, 3) := by decide +kernel
theorem d44_8 : decode jdk_44_method_5_code 8 = .ok (.areturn, 1) := by decide +kernel
abbrev own_rN : Room := { frames := 1, cells := 0, slots := 0, locals := 12 }
abbrev own_rN2 : Room := { frames := 2, cells := 0, slots := 0, locals := 24 }
abbrev own_rN3 : Room := { frames := 3, cells := 0, slots := 0, locals := 36 }
abbrev own_rN4 : Room := { frames := 4, cells := 0, slots := 0, locals := 48 }
abbrev own_r0 : Room := { frames := 0, cells := 0, slots := 0, locals := 0 }
set_option maxRecDepth 65536 in
set_option maxHeartbeats 40000000 in
theorem own_abc (l : Launch) (Z : State) (a0 : Array Value) (hw : ∀ d ∈ tables_1, d.before a0 Z = true) (a : Nat) (h0 : Heap) (n0 : Nat)  :
    Ctr l Z (⟨"java/util/AbstractCollection", "<init>", "()V"⟩ : MethodName) jdk_22_method_1_code 1 none [] own_rN #[(.ref a)] h0 (fun v h L => v = none ∧ L = [] ∧ h = h0) := by
  refine Ctr.intro (plainFor_of_name pn_0) #[.val (.ref a)] (fun m => by first | (simp [entryFrame, mkF, argsToLocals, Value.category]; done) | rfl) ?_
  intro p e s m below meth c T hx hby hml hown hnm hret hlk hZ hnamed X eT
  have hown : s.vm.findClass "java/util/AbstractCollection" = some m.cls := hown
  have N := Fr.nil n0
  show Gl p e below s _ _ _ (T.setTop (mkF m 0 #[.val (.ref a)] []))
  refine Gl.by (fun t_ k_ => XS.aloadN X.here hx rfl (hb hby d15_0) rfl rfl k_) ?_
  show Gl p e below s _ _ _ (T.setTop (mkF m 1 #[.val (.ref a)] [(.ref a)]))
  obtain ⟨T, X, eT, st⟩ := initO X hx hZ hown (hw _ (List.mem_of_getElem? (i := 78) rfl)) (hw _ (List.mem_of_getElem? (i := 12) rfl)) (hw _ (List.mem_of_getElem? (i := 13) rfl)) eT (g := (mkF m 1 #[.val (.ref a)] [(.ref a)])) rfl (by rw [hml]; rfl) rfl (hb hby d15_1) (by decide) (W := 0) (by show 2 * 0 + _ ≤ _; exact Nat.le_of_eq rfl) (by decide)
  refine Gl.by st ?_
  show Gl p e below s _ _ _ (T.setTop (mkF m 4 #[.val (.ref a)] []))
  exact Gl.retV X hx hlk hret (hb hby d15_4) (by decide) (by decide) ⟨rfl, rfl, eT⟩
set_option maxRecDepth 65536 in
set_option maxHeartbeats 40000000 in
theorem own_abl (l : Launch) (Z : State) (a0 : Array Value) (hw : ∀ d ∈ tables_1, d.before a0 Z = true) (a : Nat) (h0 : Heap) (n0 : Nat) (Z0 : n0 ≤ a) (E : Exa Z h0 a "java/util/ArrayList") (F : Fld Z h0 a "java/util/AbstractList" "modCount" "I" (.int (0 : Int32))) :
    Ctr l Z (⟨"java/util/AbstractList", "<init>", "()V"⟩ : MethodName) jdk_39_method_1_code 1 none [] own_rN2 #[(.ref a)] h0 (fun v h L => v = none ∧ Fr n0 L ∧ Wr h0 h a (Jvm.RoadKit.slotOf Z "java/util/AbstractList" "modCount" "I") (.int 0) ∧ Fld Z h a "java/util/AbstractList" "modCount" "I" (.int 0)) := by
  refine Ctr.intro (plainFor_of_name pn_1) #[.val (.ref a)] (fun m => by first | (simp [entryFrame, mkF, argsToLocals, Value.category]; done) | rfl) ?_
  intro p e s m below meth c T hx hby hml hown hnm hret hlk hZ hnamed X eT
  have hown : s.vm.findClass "java/util/AbstractList" = some m.cls := hown
  have N := Fr.nil n0
  show Gl p e below s _ _ _ (T.setTop (mkF m 0 #[.val (.ref a)] []))
  refine Gl.by (fun t_ k_ => XS.aloadN X.here hx rfl (hb hby d14_0) rfl rfl k_) ?_
  show Gl p e below s _ _ _ (T.setTop (mkF m 1 #[.val (.ref a)] [(.ref a)]))
  refine Gl.spec X hx hZ rfl hown (hw _ (List.mem_of_getElem? (i := 72) rfl)) (hw _ (List.mem_of_getElem? (i := 73) rfl)) (hw _ (List.mem_of_getElem? (i := 77) rfl)) (by decide) (W := 0) (backC (own_abc l Z a0 hw a h0 n0) hZ (hw _ (List.mem_of_getElem? (i := 77) rfl)) (hw _ (List.mem_of_getElem? (i := 76) rfl)) (by decide) (by decide)) eT (hb hby d14_1) (by rw [hml]; rfl) a [] [] (lenOf pd_0 rfl) rfl rfl (Nat.le_of_eq rfl) (by decide) (by decide) ?_
  intro v T L X hq
  obtain ⟨rfl, rfl, eT⟩ := hq
  have N := Fr.app N (Fr.nil n0)
  show Gl p e below s _ _ _ (T.setTop (mkF m 4 #[.val (.ref a)] []))
  refine Gl.by (fun t_ k_ => XS.aloadN X.here hx rfl (hb hby d14_4) rfl rfl k_) ?_
  show Gl p e below s _ _ _ (T.setTop (mkF m 5 #[.val (.ref a)] [(.ref a)]))
  refine Gl.by (fun t_ k_ => XS.iconst X.here hx rfl (hb hby d14_5) k_) ?_
  show Gl p e below s _ _ _ (T.setTop (mkF m 6 #[.val (.ref a)] [(.int (0 : Int32)), (.ref a)]))
  obtain ⟨T, h1, X, eT, W1, st⟩ := putF X hx hZ hown (host := "") (Or.inl (hw _ (List.mem_of_getElem? (i := 79) rfl))) Via.refl eT F E (Or.inl (hw _ (List.mem_of_getElem? (i := 80) rfl))) (hw _ (List.mem_of_getElem? (i := 61) rfl)) (ty := .int) (by decide) rfl rfl (g := (mkF m 6 #[.val (.ref a)] [(.int (0 : Int32)), (.ref a)])) rfl rfl (hb hby d14_6)
  have F1_modCount : Fld Z h1 a "java/util/AbstractList" "modCount" "I" (.int (0 : Int32)) := Fld.same W1 F
  have sz1 := (Keep.of_wr W1).1
  have N := Fr.snoc X N (by omega)
  refine Gl.by st ?_
  show Gl p e below s _ _ _ (T.setTop (mkF m 9 #[.val (.ref a)] []))
  refine Gl.retV X hx hlk hret (hb hby d14_9) (by decide) (by decide) ?_
  rw [eT]
  exact ⟨rfl, N, W1, F1_modCount⟩
def Alo (Z : State) (h : Heap) (a : Nat) (ed : Value) (sz mc : Int32) : Prop := Exa Z h a "java/util/ArrayList" ∧ Fld Z h a "java/util/ArrayList" "elementData" "[Ljava/lang/Object;" ed ∧ Fld Z h a "java/util/ArrayList" "size" "I" (.int sz) ∧ Fld Z h a "java/util/AbstractList" "modCount" "I" (.int mc)
/-- what the JDK's statics hold at the start -/
def ALok (Z : State) (dc el mr : Nat) (em : Value) : Prop := Sta Z Z.heap "java/util/ArrayList" "DEFAULTCAPACITY_EMPTY_ELEMENTDATA" "[Ljava/lang/Object;" (.ref dc) ∧ (∃ k, Arv Z Z.heap dc k (.object "java/lang/Object") 0 [] .null) ∧ Sta Z Z.heap "java/util/ImmutableCollections" "EMPTY_LIST" "Ljava/util/ImmutableCollections$ListN;" (.ref el) ∧ Exa Z Z.heap el "java/util/ImmutableCollections$ListN" ∧
  (∃ ea k, Fld Z Z.heap el "java/util/ImmutableCollections$ListN" "elements" "[Ljava/lang/Object;" (.ref ea) ∧ Arv Z Z.heap ea k (.object "java/lang/Object") 0 [] .null) ∧ Sta Z Z.heap "java/util/ImmutableCollections" "EMPTY" "Ljava/lang/Object;" em ∧ em.isRef = true ∧ Mir Z "[Ljava/lang/Object;" mr
set_option maxRecDepth 65536 in
set_option maxHeartbeats 40000000 in
theorem own_ali (l : Launch) (Z : State) (a0 : Array Value) (hw : ∀ d ∈ tables_1, d.before a0 Z = true) (a : Nat) (dc el mr : Nat) (em : Value) (h0 : Heap) (n0 : Nat) (Z0 : n0 ≤ a) (E : Exa Z h0 a "java/util/ArrayList") (F_elementData : Fld Z h0 a "java/util/ArrayList" "elementData" "[Ljava/lang/Object;" .null) (F_size : Fld Z h0 a "java/util/ArrayList" "size" "I" (.int (0 : Int32))) (F_modCount : Fld Z h0 a "java/util/AbstractList" "modCount" "I" (.int (0 : Int32))) (O : Old Z n0 h0) (K : ALok Z dc el mr em) :
    Ctr l Z (⟨"java/util/ArrayList", "<init>", "()V"⟩ : MethodName) jdk_38_method_2_code 1 none [] own_rN3 #[(.ref a)] h0 (fun v h L => v = none ∧ Fr n0 L ∧ Keep h0 h [a] ∧ Alo Z h a (.ref dc) 0 0) := by
  refine Ctr.intro (plainFor_of_name pn_2) #[.val (.ref a)] (fun m => by first | (simp [entryFrame, mkF, argsToLocals, Value.category]; done) | rfl) ?_
  intro p e s m below meth c T hx hby hml hown hnm hret hlk hZ hnamed X eT
  have hown : s.vm.findClass "java/util/ArrayList" = some m.cls := hown
  have N := Fr.nil n0
  show Gl p e below s _ _ _ (T.setTop (mkF m 0 #[.val (.ref a)] []))
  refine Gl.by (fun t_ k_ => XS.aloadN X.here hx rfl (hb hby d13_0) rfl rfl k_) ?_
  show Gl p e below s _ _ _ (T.setTop (mkF m 1 #[.val (.ref a)] [(.ref a)]))
  refine Gl.spec X hx hZ rfl hown (hw _ (List.mem_of_getElem? (i := 66) rfl)) (hw _ (List.mem_of_getElem? (i := 67) rfl)) (hw _ (List.mem_of_getElem? (i := 71) rfl)) (by decide) (W := 0) (backC (own_abl l Z a0 hw a h0 n0 Z0 E F_modCount) hZ (hw _ (List.mem_of_getElem? (i := 71) rfl)) (hw _ (List.mem_of_getElem? (i := 70) rfl)) (by decide) (by decide)) eT (hb hby d13_1) (by rw [hml]; rfl) a [] [] (lenOf pd_0 rfl) rfl rfl (Nat.le_of_eq rfl) (by decide) (by decide) ?_
  intro v T L X hq
  obtain ⟨rfl, NQ, W1, G1⟩ := hq
  have N := Fr.app N NQ
  obtain ⟨h1, eT⟩ : ∃ z, T.heap = z := ⟨_, rfl⟩
  rw [eT] at W1 G1
  have sz1 := (Keep.of_wr W1).1
  show Gl p e below s _ _ _ (T.setTop (mkF m 4 #[.val (.ref a)] []))
  refine Gl.by (fun t_ k_ => XS.aloadN X.here hx rfl (hb hby d13_4) rfl rfl k_) ?_
  show Gl p e below s _ _ _ (T.setTop (mkF m 5 #[.val (.ref a)] [(.ref a)]))
  obtain ⟨T, X, eT, st⟩ := getS2 X hx hZ hown (host := "") (Or.inl (hw _ (List.mem_of_getElem? (i := 81) rfl))) Via.refl eT (K.1.ext (O.wr W1 (by omega)).2) (g := (mkF m 5 #[.val (.ref a)] [(.ref a)])) rfl (hb hby d13_5)
  refine Gl.by st ?_
  show Gl p e below s _ _ _ (T.setTop (mkF m 8 #[.val (.ref a)] [(.ref dc), (.ref a)]))
  obtain ⟨T, h2, X, eT, W2, st⟩ := putF X hx hZ hown (host := "") (Or.inl (hw _ (List.mem_of_getElem? (i := 82) rfl))) Via.refl eT (F_elementData.other W1 (Or.inr (slot_ne (C := "java/util/ArrayList") (Or.inl (hw _ (List.mem_of_getElem? (i := 83) rfl))) (Or.inl (hw _ (List.mem_of_getElem? (i := 80) rfl))) (by decide) (t := (.array (.object "java/lang/Object"))) (t' := .int) (by decide) (by decide)))) (E.wr W1) (Or.inl (hw _ (List.mem_of_getElem? (i := 83) rfl))) (hw _ (List.mem_of_getElem? (i := 61) rfl)) (ty := (.array (.object "java/lang/Object"))) (by decide) rfl rfl (g := (mkF m 8 #[.val (.ref a)] [(.ref dc), (.ref a)])) rfl rfl (hb hby d13_8)
  have F2_elementData : Fld Z h2 a "java/util/ArrayList" "elementData" "[Ljava/lang/Object;" (.ref dc) := Fld.same W2 (F_elementData.other W1 (Or.inr (slot_ne (C := "java/util/ArrayList") (Or.inl (hw _ (List.mem_of_getElem? (i := 83) rfl))) (Or.inl (hw _ (List.mem_of_getElem? (i := 80) rfl))) (by decide) (t := (.array (.object "java/lang/Object"))) (t' := .int) (by decide) (by decide))))
  have sz2 := (Keep.of_wr W2).1
  have N := Fr.snoc X N (by omega)
  refine Gl.by st ?_
  show Gl p e below s _ _ _ (T.setTop (mkF m 11 #[.val (.ref a)] []))
  refine Gl.retV X hx hlk hret (hb hby d13_11) (by decide) (by decide) ?_
  rw [eT]
  exact ⟨rfl, N, (((Keep.refl h0 [a]).wr W1 (Or.inl (by simp))).wr W2 (Or.inl (by simp))), ⟨((E.wr W1).wr W2), F2_elementData, ((F_size.other W1 (Or.inr (slot_ne (C := "java/util/ArrayList") (Or.inl (hw _ (List.mem_of_getElem? (i := 115) rfl))) (Or.inl (hw _ (List.mem_of_getElem? (i := 80) rfl))) (by decide) (t := .int) (t' := .int) (by decide) (by decide)))).other W2 (Or.inr (slot_ne (C := "java/util/ArrayList") (Or.inl (hw _ (List.mem_of_getElem? (i := 115) rfl))) (Or.inl (hw _ (List.mem_of_getElem? (i := 83) rfl))) (by decide) (t := .int) (t' := (.array (.object "java/lang/Object"))) (by decide) (by decide)))), (G1.other W2 (Or.inr (slot_ne (C := "java/util/ArrayList") (Or.inl (hw _ (List.mem_of_getElem? (i := 80) rfl))) (Or.inl (hw _ (List.mem_of_getElem? (i := 83) rfl))) (by decide) (t := .int) (t' := (.array (.object "java/lang/Object"))) (by decide) (by decide))))⟩⟩
def own_maxv (i j : Int32) : Int32 := if i < j then j else i
def own_minv (i j : Int32) : Int32 := if j < i then j else i
set_option maxRecDepth 65536 in
set_option maxHeartbeats 40000000 in
theorem own_max (l : Launch) (Z : State) (a0 : Array Value) (hw : ∀ d ∈ tables_1, d.before a0 Z = true) (i j : Int32) (h0 : Heap) (n0 : Nat)  :
    Ctr l Z (⟨"java/lang/Math", "max", "(II)I"⟩ : MethodName) jdk_29_method_65_code 2 (some .int) [] own_r0 #[(.int i), (.int j)] h0 (fun v h L => v = some (.int (own_maxv i j)) ∧ L = [] ∧ h = h0) := by
  refine Ctr.intro (by decide +kernel) #[.val (.int i), .val (.int j)] (fun m => by first | (simp [entryFrame, mkF, argsToLocals, Value.category]; done) | rfl) ?_
  intro p e s m below meth c T hx hby hml hown hnm hret hlk hZ hnamed X eT
  have hown : s.vm.findClass "java/lang/Math" = some m.cls := hown
  have N := Fr.nil n0
  show Gl p e below s _ _ _ (T.setTop (mkF m 0 #[.val (.int i), .val (.int j)] []))
  refine Gl.by (fun t_ k_ => XS.iloadN X.here hx rfl (hb hby d33_0) rfl k_) ?_
  show Gl p e below s _ _ _ (T.setTop (mkF m 1 #[.val (.int i), .val (.int j)] [(.int i)]))
  refine Gl.by (fun t_ k_ => XS.iloadN X.here hx rfl (hb hby d33_1) rfl k_) ?_
  show Gl p e below s _ _ _ (T.setTop (mkF m 2 #[.val (.int i), .val (.int j)] [(.int j), (.int i)]))
  by_cases c1 : i < j
  · refine Gl.by (fun t_ k_ => XS.icmpYes X.here hx rfl (pc0 := 2) (pc' := 9) rfl (hb hby d33_2) rfl (tlt c1).1 (by decide) (by decide) k_) ?_
    show Gl p e below s _ _ _ (T.setTop (mkF m 9 #[.val (.int i), .val (.int j)] []))
    refine Gl.by (fun t_ k_ => XS.iloadN X.here hx rfl (hb hby d33_9) rfl k_) ?_
    show Gl p e below s _ _ _ (T.setTop (mkF m 10 #[.val (.int i), .val (.int j)] [(.int j)]))
    refine Gl.retI X hx hlk hret (hb hby d33_10) (by decide) (by decide) ⟨?_, rfl, eT⟩
    rw [own_maxv, if_pos c1]
  · refine Gl.by (fun t_ k_ => XS.icmpNo X.here hx rfl (hb hby d33_2) rfl (flt c1).1 k_) ?_
    show Gl p e below s _ _ _ (T.setTop (mkF m 5 #[.val (.int i), .val (.int j)] []))
    refine Gl.by (fun t_ k_ => XS.iloadN X.here hx rfl (hb hby d33_5) rfl k_) ?_
    show Gl p e below s _ _ _ (T.setTop (mkF m 6 #[.val (.int i), .val (.int j)] [(.int i)]))
    refine Gl.by (fun t_ k_ => XS.goto X.here hx rfl (pc0 := 6) (pc' := 10) rfl (hb hby d33_6) (by decide) (by decide) k_) ?_
    show Gl p e below s _ _ _ (T.setTop (mkF m 10 #[.val (.int i), .val (.int j)] [(.int i)]))
    refine Gl.retI X hx hlk hret (hb hby d33_10) (by decide) (by decide) ⟨?_, rfl, eT⟩
    rw [own_maxv, if_neg c1]
set_option maxRecDepth 65536 in
set_option maxHeartbeats 40000000 in
theorem own_min (l : Launch) (Z : State) (a0 : Array Value) (hw : ∀ d ∈ tables_1, d.before a0 Z = true) (i j : Int32) (h0 : Heap) (n0 : Nat)  :
    Ctr l Z (⟨"java/lang/Math", "min", "(II)I"⟩ : MethodName) jdk_29_method_69_code 2 (some .int) [] own_r0 #[(.int i), (.int j)] h0 (fun v h L => v = some (.int (own_minv i j)) ∧ L = [] ∧ h = h0) := by
  refine Ctr.intro (by decide +kernel) #[.val (.int i), .val (.int j)] (fun m => by first | (simp [entryFrame, mkF, argsToLocals, Value.category]; done) | rfl) ?_
  intro p e s m below meth c T hx hby hml hown hnm hret hlk hZ hnamed X eT
  have hown : s.vm.findClass "java/lang/Math" = some m.cls := hown
  have N := Fr.nil n0
  show Gl p e below s _ _ _ (T.setTop (mkF m 0 #[.val (.int i), .val (.int j)] []))
  refine Gl.by (fun t_ k_ => XS.iloadN X.here hx rfl (hb hby d37_0) rfl k_) ?_
  show Gl p e below s _ _ _ (T.setTop (mkF m 1 #[.val (.int i), .val (.int j)] [(.int i)]))
  refine Gl.by (fun t_ k_ => XS.iloadN X.here hx rfl (hb hby d37_1) rfl k_) ?_
  show Gl p e below s _ _ _ (T.setTop (mkF m 2 #[.val (.int i), .val (.int j)] [(.int j), (.int i)]))
  by_cases c1 : j < i
  · refine Gl.by (fun t_ k_ => XS.icmpYes X.here hx rfl (pc0 := 2) (pc' := 9) rfl (hb hby d37_2) rfl (tlt c1).2.2.1 (by decide) (by decide) k_) ?_
    show Gl p e below s _ _ _ (T.setTop (mkF m 9 #[.val (.int i), .val (.int j)] []))
    refine Gl.by (fun t_ k_ => XS.iloadN X.here hx rfl (hb hby d37_9) rfl k_) ?_
    show Gl p e below s _ _ _ (T.setTop (mkF m 10 #[.val (.int i), .val (.int j)] [(.int j)]))
    refine Gl.retI X hx hlk hret (hb hby d37_10) (by decide) (by decide) ⟨?_, rfl, eT⟩
    rw [own_minv, if_pos c1]
  · refine Gl.by (fun t_ k_ => XS.icmpNo X.here hx rfl (hb hby d37_2) rfl (flt c1).2.2.1 k_) ?_
    show Gl p e below s _ _ _ (T.setTop (mkF m 5 #[.val (.int i), .val (.int j)] []))
    refine Gl.by (fun t_ k_ => XS.iloadN X.here hx rfl (hb hby d37_5) rfl k_) ?_
    show Gl p e below s _ _ _ (T.setTop (mkF m 6 #[.val (.int i), .val (.int j)] [(.int i)]))
    refine Gl.by (fun t_ k_ => XS.goto X.here hx rfl (pc0 := 6) (pc' := 10) rfl (hb hby d37_6) (by decide) (by decide) k_) ?_
    show Gl p e below s _ _ _ (T.setTop (mkF m 10 #[.val (.int i), .val (.int j)] [(.int i)]))
    refine Gl.retI X hx hlk hret (hb hby d37_10) (by decide) (by decide) ⟨?_, rfl, eT⟩
    rw [own_minv, if_neg c1]
abbrev own_rG1 : Room := { frames := 1, cells := 1, slots := 10, locals := 14 }
abbrev own_rG0 : Room := { frames := 2, cells := 1, slots := 10, locals := 30 }
abbrev own_rAH : Room := { frames := 3, cells := 1, slots := 10, locals := 44 }
abbrev own_rAD : Room := { frames := 4, cells := 1, slots := 10, locals := 62 }
set_option maxRecDepth 65536 in
set_option maxHeartbeats 40000000 in
theorem own_grow1 (l : Launch) (Z : State) (a0 : Array Value) (hw : ∀ d ∈ tables_1, d.before a0 Z = true) (a : Nat) (mc : Int32) (dc el mr : Nat) (em : Value) (h0 : Heap) (n0 : Nat) (Z0 : n0 ≤ h0.size) (Za : n0 ≤ a) (ha : Alo Z h0 a (.ref dc) 0 mc) (O : Old Z n0 h0) (K : ALok Z dc el mr em) :
    Ctr l Z (⟨"java/util/ArrayList", "grow", "(I)[Ljava/lang/Object;"⟩ : MethodName) jdk_38_method_6_code 4 (some (.array (.object "java/lang/Object"))) [] own_rG1 #[(.ref a), (.int (1 : Int32))] h0 (fun v h L => Fr n0 L ∧ Keep h0 h [a] ∧ ∃ (ed : Nat) (k : ClassId), v = some (.ref ed) ∧ h0.size ≤ ed ∧ Alo Z h a (.ref ed) 0 mc ∧ Arv Z h ed k (.object "java/lang/Object") 10 [.null, .null, .null, .null, .null, .null, .null, .null, .null, .null] .null ∧ Exa Z h ed "[Ljava/lang/Object;" ∧ Ovr Z k "java/lang/Object") := by
  refine Ctr.intro (plainFor_of_name pn_2) #[.val (.ref a), .val (.int (1 : Int32)), .unset, .unset] (fun m => by first | (simp [entryFrame, mkF, argsToLocals, Value.category]; done) | rfl) ?_
  intro p e s m below meth c T hx hby hml hown hnm hret hlk hZ hnamed X eT
  have hown : s.vm.findClass "java/util/ArrayList" = some m.cls := hown
  have N := Fr.nil n0
  obtain ⟨kd, Vd⟩ := K.2.1
  have la : a < h0.size := ha.1.lt
  show Gl p e below s _ _ _ (T.setTop (mkF m 0 #[.val (.ref a), .val (.int (1 : Int32)), .unset, .unset] []))
  refine Gl.by (fun t_ k_ => XS.aloadN X.here hx rfl (hb hby d32_0) rfl rfl k_) ?_
  show Gl p e below s _ _ _ (T.setTop (mkF m 1 #[.val (.ref a), .val (.int (1 : Int32)), .unset, .unset] [(.ref a)]))
  obtain ⟨T, X, eT, st⟩ := getF X hx hZ hown (host := "") (Or.inl (hw _ (List.mem_of_getElem? (i := 82) rfl))) Via.refl eT ha.2.1 (g := (mkF m 1 #[.val (.ref a), .val (.int (1 : Int32)), .unset, .unset] [(.ref a)])) rfl rfl (hb hby d32_1)
  refine Gl.by st ?_
  show Gl p e below s _ _ _ (T.setTop (mkF m 4 #[.val (.ref a), .val (.int (1 : Int32)), .unset, .unset] [(.ref dc)]))
  obtain ⟨cl1, Ar1, q1, S1, M1, H1, G1⟩ := (id ((Vd.ext O.2)) : Arv Z h0 dc kd (.object "java/lang/Object") (0 : Int32) [] .null)
  refine Gl.by (X.arraylength hx (by rw [eT]; exact Ar1.1) (State.isArrayOf_alike hZ.alike Ar1.2.1) (g := (mkF m 4 #[.val (.ref a), .val (.int (1 : Int32)), .unset, .unset] [(.ref dc)])) rfl rfl (hb hby d32_4)) ?_
  rw [len_of S1 M1]
  show Gl p e below s _ _ _ (T.setTop (mkF m 5 #[.val (.ref a), .val (.int (1 : Int32)), .unset, .unset] [(.int (0 : Int32))]))
  refine Gl.by (fun t_ k_ => XS.istoreN X.here hx rfl (hb hby d32_5) rfl (l' := #[.val (.ref a), .val (.int (1 : Int32)), .val (.int (0 : Int32)), .unset]) rfl k_) ?_
  show Gl p e below s _ _ _ (T.setTop (mkF m 6 #[.val (.ref a), .val (.int (1 : Int32)), .val (.int (0 : Int32)), .unset] []))
  refine Gl.by (fun t_ k_ => XS.iloadN X.here hx rfl (hb hby d32_6) rfl k_) ?_
  show Gl p e below s _ _ _ (T.setTop (mkF m 7 #[.val (.ref a), .val (.int (1 : Int32)), .val (.int (0 : Int32)), .unset] [(.int (0 : Int32))]))
  refine Gl.by (fun t_ k_ => XS.ifNo X.here hx rfl (hb hby d32_7) rfl ((if0 _ _).trans (flt (by decide : ¬ (0 : Int32) < 0)).2.2.1) k_) ?_
  show Gl p e below s _ _ _ (T.setTop (mkF m 10 #[.val (.ref a), .val (.int (1 : Int32)), .val (.int (0 : Int32)), .unset] []))
  refine Gl.by (fun t_ k_ => XS.aloadN X.here hx rfl (hb hby d32_10) rfl rfl k_) ?_
  show Gl p e below s _ _ _ (T.setTop (mkF m 11 #[.val (.ref a), .val (.int (1 : Int32)), .val (.int (0 : Int32)), .unset] [(.ref a)]))
  obtain ⟨T, X, eT, st⟩ := getF X hx hZ hown (host := "") (Or.inl (hw _ (List.mem_of_getElem? (i := 82) rfl))) Via.refl eT ha.2.1 (g := (mkF m 11 #[.val (.ref a), .val (.int (1 : Int32)), .val (.int (0 : Int32)), .unset] [(.ref a)])) rfl rfl (hb hby d32_11)
  refine Gl.by st ?_
  show Gl p e below s _ _ _ (T.setTop (mkF m 14 #[.val (.ref a), .val (.int (1 : Int32)), .val (.int (0 : Int32)), .unset] [(.ref dc)]))
  obtain ⟨T, X, eT, st⟩ := getS2 X hx hZ hown (host := "") (Or.inl (hw _ (List.mem_of_getElem? (i := 81) rfl))) Via.refl eT (K.1.ext O.2) (g := (mkF m 14 #[.val (.ref a), .val (.int (1 : Int32)), .val (.int (0 : Int32)), .unset] [(.ref dc)])) rfl (hb hby d32_14)
  refine Gl.by st ?_
  show Gl p e below s _ _ _ (T.setTop (mkF m 17 #[.val (.ref a), .val (.int (1 : Int32)), .val (.int (0 : Int32)), .unset] [(.ref dc), (.ref dc)]))
  refine Gl.by (fun t_ k_ => Jvm.RoadKit.acmp (g := (mkF m 17 #[.val (.ref a), .val (.int (1 : Int32)), .val (.int (0 : Int32)), .unset] [(.ref dc), (.ref dc)])) X hx rfl rfl rfl (pc0 := 17) (pc' := 45) (same := true) rfl (hb hby d32_17) rfl (decide_eq_true rfl) (by decide) (by decide) k_) ?_
  show Gl p e below s _ _ _ (T.setTop (mkF m 45 #[.val (.ref a), .val (.int (1 : Int32)), .val (.int (0 : Int32)), .unset] []))
  refine Gl.by (fun t_ k_ => XS.aloadN X.here hx rfl (hb hby d32_45) rfl rfl k_) ?_
  show Gl p e below s _ _ _ (T.setTop (mkF m 46 #[.val (.ref a), .val (.int (1 : Int32)), .val (.int (0 : Int32)), .unset] [(.ref a)]))
  refine Gl.by (fun t_ k_ => XS.bipush X.here hx rfl (hb hby d32_46) k_) ?_
  show Gl p e below s _ _ _ (T.setTop (mkF m 48 #[.val (.ref a), .val (.int (1 : Int32)), .val (.int (0 : Int32)), .unset] [(.int (10 : Int32)), (.ref a)]))
  refine Gl.by (fun t_ k_ => XS.iloadN X.here hx rfl (hb hby d32_48) rfl k_) ?_
  show Gl p e below s _ _ _ (T.setTop (mkF m 49 #[.val (.ref a), .val (.int (1 : Int32)), .val (.int (0 : Int32)), .unset] [(.int (1 : Int32)), (.int (10 : Int32)), (.ref a)]))
  refine Gl.stat X hx hZ hown (hw _ (List.mem_of_getElem? (i := 201) rfl)) (hw _ (List.mem_of_getElem? (i := 202) rfl)) (hw _ (List.mem_of_getElem? (i := 203) rfl)) (hw _ (List.mem_of_getElem? (i := 204) rfl)) (by decide) (W := 1) (backC (own_max l Z a0 hw 10 1 h0 n0) hZ (hw _ (List.mem_of_getElem? (i := 204) rfl)) (hw _ (List.mem_of_getElem? (i := 203) rfl)) (by decide) (by decide)) eT (hb hby d32_49) (by rw [hml]; rfl) [(.int (10 : Int32)), (.int (1 : Int32))] [(.ref a)] (lenOf pd_1 rfl) rfl rfl (Nat.le_of_eq rfl) (by decide) (by decide) ?_
  intro v T L X hq
  obtain ⟨rfl, rfl, eT⟩ := hq
  have N := Fr.app N (Fr.nil n0)
  show Gl p e below s _ _ _ (T.setTop (mkF m 52 #[.val (.ref a), .val (.int (1 : Int32)), .val (.int (0 : Int32)), .unset] [(.int (10 : Int32)), (.ref a)]))
  obtain ⟨T, h2, k2, X, eT, E2, A2, Ex2, Ov2, st⟩ := newRE X hx hZ hown (hw _ (List.mem_of_getElem? (i := 205) rfl)) (hw _ (List.mem_of_getElem? (i := 206) rfl)) eT (g := (mkF m 52 #[.val (.ref a), .val (.int (1 : Int32)), .val (.int (0 : Int32)), .unset] [(.int (10 : Int32)), (.ref a)])) rfl (hb hby d32_52) rfl (by decide) (cap := 10) (by decide) (by decide) (by decide) (by decide) (ad := "[Ljava/lang/Object;") (by decide)
  obtain ⟨ed, g2⟩ : ∃ z, z = h0.size := ⟨_, rfl⟩
  rw [← g2] at A2 Ex2 st
  have sz2 := E2.1
  have lt2 : ed < h2.size := A2.lt
  have V2 : Arv Z h2 ed k2 (.object "java/lang/Object") (10 : Int32) [.null, .null, .null, .null, .null, .null, .null, .null, .null, .null] .null := (Arv.new A2 (by decide)).pad (pad_rep [] .null 10)
  refine Gl.by st ?_
  show Gl p e below s _ _ _ (T.setTop (mkF m 55 #[.val (.ref a), .val (.int (1 : Int32)), .val (.int (0 : Int32)), .unset] [(.ref ed), (.ref a)]))
  refine Gl.by (fun t_ k_ => XS.dupX1 X.here hx rfl (hb hby d32_55) rfl rfl rfl k_) ?_
  show Gl p e below s _ _ _ (T.setTop (mkF m 56 #[.val (.ref a), .val (.int (1 : Int32)), .val (.int (0 : Int32)), .unset] [(.ref ed), (.ref a), (.ref ed)]))
  obtain ⟨T, h3, X, eT, W3, st⟩ := putF X hx hZ hown (host := "") (Or.inl (hw _ (List.mem_of_getElem? (i := 82) rfl))) Via.refl eT (ha.2.1.ext E2) (ha.1.ext E2) (Or.inl (hw _ (List.mem_of_getElem? (i := 83) rfl))) (hw _ (List.mem_of_getElem? (i := 61) rfl)) (ty := (.array (.object "java/lang/Object"))) (by decide) rfl rfl (g := (mkF m 56 #[.val (.ref a), .val (.int (1 : Int32)), .val (.int (0 : Int32)), .unset] [(.ref ed), (.ref a), (.ref ed)])) rfl rfl (hb hby d32_56)
  have F3_elementData : Fld Z h3 a "java/util/ArrayList" "elementData" "[Ljava/lang/Object;" (.ref ed) := Fld.same W3 (ha.2.1.ext E2)
  have sz3 := (Keep.of_wr W3).1
  have N := Fr.snoc X N (by omega)
  refine Gl.by st ?_
  show Gl p e below s _ _ _ (T.setTop (mkF m 59 #[.val (.ref a), .val (.int (1 : Int32)), .val (.int (0 : Int32)), .unset] [(.ref ed)]))
  refine Gl.retA X hx hlk hret rfl rfl (hb hby d32_59) (by decide) (by decide) ?_
  rw [eT]
  exact ⟨N, (((Keep.refl h0 [a]).ext E2).wr W3 (Or.inl (by simp))), ed, k2, rfl, by omega, ⟨((ha.1.ext E2).wr W3), F3_elementData, ((ha.2.2.1.ext E2).other W3 (Or.inr (slot_ne (C := "java/util/ArrayList") (Or.inl (hw _ (List.mem_of_getElem? (i := 115) rfl))) (Or.inl (hw _ (List.mem_of_getElem? (i := 83) rfl))) (by decide) (t := .int) (t' := (.array (.object "java/lang/Object"))) (by decide) (by decide)))), ((ha.2.2.2.ext E2).other W3 (Or.inr (slot_ne (C := "java/util/ArrayList") (Or.inl (hw _ (List.mem_of_getElem? (i := 80) rfl))) (Or.inl (hw _ (List.mem_of_getElem? (i := 83) rfl))) (by decide) (t := .int) (t' := (.array (.object "java/lang/Object"))) (by decide) (by decide))))⟩, (V2.other W3 (ne_exa Ex2 (ha.1.ext E2) (by decide))), (Ex2.wr W3), Ov2⟩
set_option maxRecDepth 65536 in
set_option maxHeartbeats 40000000 in
theorem own_grow0 (l : Launch) (Z : State) (a0 : Array Value) (hw : ∀ d ∈ tables_1, d.before a0 Z = true) (a : Nat) (mc : Int32) (dc el mr : Nat) (em : Value) (h0 : Heap) (n0 : Nat) (Z0 : n0 ≤ h0.size) (Za : n0 ≤ a) (ha : Alo Z h0 a (.ref dc) 0 mc) (O : Old Z n0 h0) (K : ALok Z dc el mr em) :
    Ctr l Z (⟨"java/util/ArrayList", "grow", "()[Ljava/lang/Object;"⟩ : MethodName) jdk_38_method_7_code 1 (some (.array (.object "java/lang/Object"))) [] own_rG0 #[(.ref a)] h0 (fun v h L => Fr n0 L ∧ Keep h0 h [a] ∧ ∃ (ed : Nat) (k : ClassId), v = some (.ref ed) ∧ h0.size ≤ ed ∧ Alo Z h a (.ref ed) 0 mc ∧ Arv Z h ed k (.object "java/lang/Object") 10 [.null, .null, .null, .null, .null, .null, .null, .null, .null, .null] .null ∧ Exa Z h ed "[Ljava/lang/Object;" ∧ Ovr Z k "java/lang/Object") := by
  refine Ctr.intro (plainFor_of_name pn_2) #[.val (.ref a)] (fun m => by first | (simp [entryFrame, mkF, argsToLocals, Value.category]; done) | rfl) ?_
  intro p e s m below meth c T hx hby hml hown hnm hret hlk hZ hnamed X eT
  have hown : s.vm.findClass "java/util/ArrayList" = some m.cls := hown
  have N := Fr.nil n0
  show Gl p e below s _ _ _ (T.setTop (mkF m 0 #[.val (.ref a)] []))
  refine Gl.by (fun t_ k_ => XS.aloadN X.here hx rfl (hb hby d31_0) rfl rfl k_) ?_
  show Gl p e below s _ _ _ (T.setTop (mkF m 1 #[.val (.ref a)] [(.ref a)]))
  refine Gl.by (fun t_ k_ => XS.aloadN X.here hx rfl (hb hby d31_1) rfl rfl k_) ?_
  show Gl p e below s _ _ _ (T.setTop (mkF m 2 #[.val (.ref a)] [(.ref a), (.ref a)]))
  obtain ⟨T, X, eT, st⟩ := getF X hx hZ hown (host := "") (Or.inl (hw _ (List.mem_of_getElem? (i := 114) rfl))) Via.refl eT ha.2.2.1 (g := (mkF m 2 #[.val (.ref a)] [(.ref a), (.ref a)])) rfl rfl (hb hby d31_2)
  refine Gl.by st ?_
  show Gl p e below s _ _ _ (T.setTop (mkF m 5 #[.val (.ref a)] [(.int 0), (.ref a)]))
  refine Gl.by (fun t_ k_ => XS.iconst X.here hx rfl (hb hby d31_5) k_) ?_
  show Gl p e below s _ _ _ (T.setTop (mkF m 6 #[.val (.ref a)] [(.int (1 : Int32)), (.int 0), (.ref a)]))
  refine Gl.by (fun t_ k_ => XS.iadd X.here hx rfl (hb hby d31_6) rfl k_) ?_
  show Gl p e below s _ _ _ (T.setTop (mkF m 7 #[.val (.ref a)] [(.int (0 + (1 : Int32))), (.ref a)]))
  show Gl p e below s _ _ _ (T.setTop (mkF m 7 #[.val (.ref a)] [(.int (1 : Int32)), (.ref a)]))
  refine Gl.priv X hx hZ hown (hw _ (List.mem_of_getElem? (i := 196) rfl)) (hw _ (List.mem_of_getElem? (i := 197) rfl)) (hw _ (List.mem_of_getElem? (i := 199) rfl)) (hw _ (List.mem_of_getElem? (i := 198) rfl)) (hw _ (List.mem_of_getElem? (i := 200) rfl)) (by decide) ha.1 (W := 0) (backC (own_grow1 l Z a0 hw a mc dc el mr em h0 n0 Z0 Za ha O K) hZ (hw _ (List.mem_of_getElem? (i := 200) rfl)) (hw _ (List.mem_of_getElem? (i := 62) rfl)) (by decide) (by decide)) eT (hb hby d31_7) (by rw [hml]; rfl) [(.int (1 : Int32))] [] (lenOf pd_2 rfl) rfl rfl (Nat.le_of_eq rfl) (by decide) (by decide) ?_
  intro v T L X hq
  obtain ⟨NQ, K1, ed, k, rfl, Q1⟩ := hq
  have N := Fr.app N NQ
  obtain ⟨h1, eT⟩ : ∃ z, T.heap = z := ⟨_, rfl⟩
  rw [eT] at K1 Q1
  have sz1 := K1.1
  show Gl p e below s _ _ _ (T.setTop (mkF m 10 #[.val (.ref a)] [(.ref ed)]))
  refine Gl.retA X hx hlk hret rfl rfl (hb hby d31_10) (by decide) (by decide) ?_
  rw [eT]
  exact ⟨N, K1, ed, k, rfl, Q1⟩
set_option maxRecDepth 65536 in
set_option maxHeartbeats 40000000 in
theorem own_addh (l : Launch) (Z : State) (a0 : Array Value) (hw : ∀ d ∈ tables_1, d.before a0 Z = true) (a x : Nat) (mc : Int32) (dc el mr : Nat) (em : Value) (h0 : Heap) (n0 : Nat) (Z0 : n0 ≤ h0.size) (Za : n0 ≤ a) (ha : Alo Z h0 a (.ref dc) 0 mc) (Ex : Exa Z h0 x "com/example/intentio/intentio/hddl/Term$Variable") (O : Old Z n0 h0) (K : ALok Z dc el mr em) :
    Ctr l Z (⟨"java/util/ArrayList", "add", "(Ljava/lang/Object;[Ljava/lang/Object;I)V"⟩ : MethodName) jdk_38_method_24_code 4 none [] own_rAH #[(.ref a), (.ref x), (.ref dc), (.int (0 : Int32))] h0 (fun v h L => v = none ∧ Fr n0 L ∧ Keep h0 h [a] ∧ ∃ (ed : Nat) (k : ClassId), h0.size ≤ ed ∧ Alo Z h a (.ref ed) 1 mc ∧ Arv Z h ed k (.object "java/lang/Object") 10 [(.ref x), .null, .null, .null, .null, .null, .null, .null, .null, .null] .null ∧ Exa Z h ed "[Ljava/lang/Object;") := by
  refine Ctr.intro (plainFor_of_name pn_2) #[.val (.ref a), .val (.ref x), .val (.ref dc), .val (.int (0 : Int32))] (fun m => by first | (simp [entryFrame, mkF, argsToLocals, Value.category]; done) | rfl) ?_
  intro p e s m below meth c T hx hby hml hown hnm hret hlk hZ hnamed X eT
  have hown : s.vm.findClass "java/util/ArrayList" = some m.cls := hown
  have N := Fr.nil n0
  obtain ⟨kd, Vd⟩ := K.2.1
  have la : a < h0.size := ha.1.lt
  show Gl p e below s _ _ _ (T.setTop (mkF m 0 #[.val (.ref a), .val (.ref x), .val (.ref dc), .val (.int (0 : Int32))] []))
  refine Gl.by (fun t_ k_ => XS.iloadN X.here hx rfl (hb hby d30_0) rfl k_) ?_
  show Gl p e below s _ _ _ (T.setTop (mkF m 1 #[.val (.ref a), .val (.ref x), .val (.ref dc), .val (.int (0 : Int32))] [(.int (0 : Int32))]))
  refine Gl.by (fun t_ k_ => XS.aloadN X.here hx rfl (hb hby d30_1) rfl rfl k_) ?_
  show Gl p e below s _ _ _ (T.setTop (mkF m 2 #[.val (.ref a), .val (.ref x), .val (.ref dc), .val (.int (0 : Int32))] [(.ref dc), (.int (0 : Int32))]))
  obtain ⟨cl1, Ar1, q1, S1, M1, H1, G1⟩ := (id ((Vd.ext O.2)) : Arv Z h0 dc kd (.object "java/lang/Object") (0 : Int32) [] .null)
  refine Gl.by (X.arraylength hx (by rw [eT]; exact Ar1.1) (State.isArrayOf_alike hZ.alike Ar1.2.1) (g := (mkF m 2 #[.val (.ref a), .val (.ref x), .val (.ref dc), .val (.int (0 : Int32))] [(.ref dc), (.int (0 : Int32))])) rfl rfl (hb hby d30_2)) ?_
  rw [len_of S1 M1]
  show Gl p e below s _ _ _ (T.setTop (mkF m 3 #[.val (.ref a), .val (.ref x), .val (.ref dc), .val (.int (0 : Int32))] [(.int (0 : Int32)), (.int (0 : Int32))]))
  refine Gl.by (fun t_ k_ => XS.icmpNo X.here hx rfl (hb hby d30_3) rfl (teq (rfl : (0 : Int32) = 0)).2 k_) ?_
  show Gl p e below s _ _ _ (T.setTop (mkF m 6 #[.val (.ref a), .val (.ref x), .val (.ref dc), .val (.int (0 : Int32))] []))
  refine Gl.by (fun t_ k_ => XS.aloadN X.here hx rfl (hb hby d30_6) rfl rfl k_) ?_
  show Gl p e below s _ _ _ (T.setTop (mkF m 7 #[.val (.ref a), .val (.ref x), .val (.ref dc), .val (.int (0 : Int32))] [(.ref a)]))
  refine Gl.priv X hx hZ hown (hw _ (List.mem_of_getElem? (i := 191) rfl)) (hw _ (List.mem_of_getElem? (i := 192) rfl)) (hw _ (List.mem_of_getElem? (i := 194) rfl)) (hw _ (List.mem_of_getElem? (i := 193) rfl)) (hw _ (List.mem_of_getElem? (i := 195) rfl)) (by decide) ha.1 (W := 0) (backC (own_grow0 l Z a0 hw a mc dc el mr em h0 n0 Z0 Za ha O K) hZ (hw _ (List.mem_of_getElem? (i := 195) rfl)) (hw _ (List.mem_of_getElem? (i := 62) rfl)) (by decide) (by decide)) eT (hb hby d30_7) (by rw [hml]; rfl) [] [] (lenOf pd_3 rfl) rfl rfl (Nat.le_of_eq rfl) (by decide) (by decide) ?_
  intro v T L X hq
  obtain ⟨NQ, K1, ed, k, rfl, ge, A1, V1, E1, Ov1⟩ := hq
  have N := Fr.app N NQ
  obtain ⟨h1, eT⟩ : ∃ z, T.heap = z := ⟨_, rfl⟩
  rw [eT] at K1 A1 V1 E1
  have sz1 := K1.1
  show Gl p e below s _ _ _ (T.setTop (mkF m 10 #[.val (.ref a), .val (.ref x), .val (.ref dc), .val (.int (0 : Int32))] [(.ref ed)]))
  have le : ed < h1.size := E1.lt
  refine Gl.by (fun t_ k_ => XS.astoreN X.here hx rfl (hb hby d30_10) rfl rfl (l' := #[.val (.ref a), .val (.ref x), .val (.ref ed), .val (.int (0 : Int32))]) rfl k_) ?_
  show Gl p e below s _ _ _ (T.setTop (mkF m 11 #[.val (.ref a), .val (.ref x), .val (.ref ed), .val (.int (0 : Int32))] []))
  refine Gl.by (fun t_ k_ => XS.aloadN X.here hx rfl (hb hby d30_11) rfl rfl k_) ?_
  show Gl p e below s _ _ _ (T.setTop (mkF m 12 #[.val (.ref a), .val (.ref x), .val (.ref ed), .val (.int (0 : Int32))] [(.ref ed)]))
  refine Gl.by (fun t_ k_ => XS.iloadN X.here hx rfl (hb hby d30_12) rfl k_) ?_
  show Gl p e below s _ _ _ (T.setTop (mkF m 13 #[.val (.ref a), .val (.ref x), .val (.ref ed), .val (.int (0 : Int32))] [(.int (0 : Int32)), (.ref ed)]))
  refine Gl.by (fun t_ k_ => XS.aloadN X.here hx rfl (hb hby d30_13) rfl rfl k_) ?_
  show Gl p e below s _ _ _ (T.setTop (mkF m 14 #[.val (.ref a), .val (.ref x), .val (.ref ed), .val (.int (0 : Int32))] [(.ref x), (.int (0 : Int32)), (.ref ed)]))
  obtain ⟨cl2, Ar2, q2, S2, M2, H2, G2⟩ := (id (V1) : Arv Z h1 ed k (.object "java/lang/Object") (10 : Int32) [.null, .null, .null, .null, .null, .null, .null, .null, .null, .null] .null)
  obtain ⟨T, h2, X, eT, W2, st⟩ := stR X hx hZ eT Ar2 (j := (0 : Int32)) (inb_of S2 ⟨by decide, by decide⟩) rfl (Sto.ofV Ar2 q2 Ov1 (Ins.of_exa (Ex.keep K1) (hw _ (List.mem_of_getElem? (i := 207) rfl)))) (g := (mkF m 14 #[.val (.ref a), .val (.ref x), .val (.ref ed), .val (.int (0 : Int32))] [(.ref x), (.int (0 : Int32)), (.ref ed)])) rfl rfl (hb hby d30_14)
  have V2 : Arv Z h2 ed k (.object "java/lang/Object") (10 : Int32) [(.ref x), .null, .null, .null, .null, .null, .null, .null, .null, .null] .null := Arv.set Ar2 q2 S2 M2 H2 G2 rfl W2 0 rfl (Nat.le_of_ble_eq_true rfl)
  have sz2 := (Keep.of_wr W2).1
  have N := Fr.snoc X N (by omega)
  refine Gl.by st ?_
  show Gl p e below s _ _ _ (T.setTop (mkF m 15 #[.val (.ref a), .val (.ref x), .val (.ref ed), .val (.int (0 : Int32))] []))
  refine Gl.by (fun t_ k_ => XS.aloadN X.here hx rfl (hb hby d30_15) rfl rfl k_) ?_
  show Gl p e below s _ _ _ (T.setTop (mkF m 16 #[.val (.ref a), .val (.ref x), .val (.ref ed), .val (.int (0 : Int32))] [(.ref a)]))
  refine Gl.by (fun t_ k_ => XS.iloadN X.here hx rfl (hb hby d30_16) rfl k_) ?_
  show Gl p e below s _ _ _ (T.setTop (mkF m 17 #[.val (.ref a), .val (.ref x), .val (.ref ed), .val (.int (0 : Int32))] [(.int (0 : Int32)), (.ref a)]))
  refine Gl.by (fun t_ k_ => XS.iconst X.here hx rfl (hb hby d30_17) k_) ?_
  show Gl p e below s _ _ _ (T.setTop (mkF m 18 #[.val (.ref a), .val (.ref x), .val (.ref ed), .val (.int (0 : Int32))] [(.int (1 : Int32)), (.int (0 : Int32)), (.ref a)]))
  refine Gl.by (fun t_ k_ => XS.iadd X.here hx rfl (hb hby d30_18) rfl k_) ?_
  show Gl p e below s _ _ _ (T.setTop (mkF m 19 #[.val (.ref a), .val (.ref x), .val (.ref ed), .val (.int (0 : Int32))] [(.int ((0 : Int32) + (1 : Int32))), (.ref a)]))
  show Gl p e below s _ _ _ (T.setTop (mkF m 19 #[.val (.ref a), .val (.ref x), .val (.ref ed), .val (.int (0 : Int32))] [(.int (1 : Int32)), (.ref a)]))
  obtain ⟨T, h3, X, eT, W3, st⟩ := putF X hx hZ hown (host := "") (Or.inl (hw _ (List.mem_of_getElem? (i := 114) rfl))) Via.refl eT (A1.2.2.1.other W2 (Or.inl (ne_exa (ha.1.keep K1) E1 (by decide)))) ((ha.1.keep K1).wr W2) (Or.inl (hw _ (List.mem_of_getElem? (i := 115) rfl))) (hw _ (List.mem_of_getElem? (i := 61) rfl)) (ty := .int) (by decide) rfl rfl (g := (mkF m 19 #[.val (.ref a), .val (.ref x), .val (.ref ed), .val (.int (0 : Int32))] [(.int (1 : Int32)), (.ref a)])) rfl rfl (hb hby d30_19)
  have F3_size : Fld Z h3 a "java/util/ArrayList" "size" "I" (.int (1 : Int32)) := Fld.same W3 (A1.2.2.1.other W2 (Or.inl (ne_exa (ha.1.keep K1) E1 (by decide))))
  have sz3 := (Keep.of_wr W3).1
  have N := Fr.snoc X N (by omega)
  refine Gl.by st ?_
  show Gl p e below s _ _ _ (T.setTop (mkF m 22 #[.val (.ref a), .val (.ref x), .val (.ref ed), .val (.int (0 : Int32))] []))
  refine Gl.retV X hx hlk hret (hb hby d30_22) (by decide) (by decide) ?_
  rw [eT]
  exact ⟨rfl, N, ((((Keep.refl h0 [a]).trans K1 (allS (Or.inl (by simp)) all0)).wr W2 (Or.inr (by omega))).wr W3 (Or.inl (by simp))), ed, k, by omega, ⟨(((ha.1.keep K1).wr W2).wr W3), ((A1.2.1.other W2 (Or.inl (ne_exa (ha.1.keep K1) E1 (by decide)))).other W3 (Or.inr (slot_ne (C := "java/util/ArrayList") (Or.inl (hw _ (List.mem_of_getElem? (i := 83) rfl))) (Or.inl (hw _ (List.mem_of_getElem? (i := 115) rfl))) (by decide) (t := (.array (.object "java/lang/Object"))) (t' := .int) (by decide) (by decide)))), F3_size, ((A1.2.2.2.other W2 (Or.inl (ne_exa (ha.1.keep K1) E1 (by decide)))).other W3 (Or.inr (slot_ne (C := "java/util/ArrayList") (Or.inl (hw _ (List.mem_of_getElem? (i := 80) rfl))) (Or.inl (hw _ (List.mem_of_getElem? (i := 115) rfl))) (by decide) (t := .int) (t' := .int) (by decide) (by decide))))⟩, (V2.other W3 (ne_exa (E1.wr W2) ((ha.1.keep K1).wr W2) (by decide))), ((E1.wr W2).wr W3)⟩
set_option maxRecDepth 65536 in
set_option maxHeartbeats 40000000 in
theorem own_add (l : Launch) (Z : State) (a0 : Array Value) (hw : ∀ d ∈ tables_1, d.before a0 Z = true) (a x : Nat) (mc : Int32) (dc el mr : Nat) (em : Value) (h0 : Heap) (n0 : Nat) (Z0 : n0 ≤ h0.size) (Za : n0 ≤ a) (ha : Alo Z h0 a (.ref dc) 0 mc) (Ex : Exa Z h0 x "com/example/intentio/intentio/hddl/Term$Variable") (O : Old Z n0 h0) (K : ALok Z dc el mr em) :
    Ctr l Z (⟨"java/util/ArrayList", "add", "(Ljava/lang/Object;)Z"⟩ : MethodName) jdk_38_method_25_code 2 (some .boolean) [] own_rAD #[(.ref a), (.ref x)] h0 (fun v h L => v = some (.int 1) ∧ Fr n0 L ∧ Keep h0 h [a] ∧ ∃ (ed : Nat) (k : ClassId), h0.size ≤ ed ∧ Alo Z h a (.ref ed) 1 (mc + 1) ∧ Arv Z h ed k (.object "java/lang/Object") 10 [(.ref x), .null, .null, .null, .null, .null, .null, .null, .null, .null] .null ∧ Exa Z h ed "[Ljava/lang/Object;") := by
  refine Ctr.intro (plainFor_of_name pn_2) #[.val (.ref a), .val (.ref x)] (fun m => by first | (simp [entryFrame, mkF, argsToLocals, Value.category]; done) | rfl) ?_
  intro p e s m below meth c T hx hby hml hown hnm hret hlk hZ hnamed X eT
  have hown : s.vm.findClass "java/util/ArrayList" = some m.cls := hown
  have N := Fr.nil n0
  show Gl p e below s _ _ _ (T.setTop (mkF m 0 #[.val (.ref a), .val (.ref x)] []))
  refine Gl.by (fun t_ k_ => XS.aloadN X.here hx rfl (hb hby d29_0) rfl rfl k_) ?_
  show Gl p e below s _ _ _ (T.setTop (mkF m 1 #[.val (.ref a), .val (.ref x)] [(.ref a)]))
  refine Gl.by (fun t_ k_ => XS.dup X.here hx rfl (hb hby d29_1) rfl rfl k_) ?_
  show Gl p e below s _ _ _ (T.setTop (mkF m 2 #[.val (.ref a), .val (.ref x)] [(.ref a), (.ref a)]))
  obtain ⟨T, X, eT, st⟩ := getF X hx hZ hown (host := "") (Or.inl (hw _ (List.mem_of_getElem? (i := 184) rfl))) (Via.of (hw _ (List.mem_of_getElem? (i := 185) rfl))) eT ha.2.2.2 (g := (mkF m 2 #[.val (.ref a), .val (.ref x)] [(.ref a), (.ref a)])) rfl rfl (hb hby d29_2)
  refine Gl.by st ?_
  show Gl p e below s _ _ _ (T.setTop (mkF m 5 #[.val (.ref a), .val (.ref x)] [(.int mc), (.ref a)]))
  refine Gl.by (fun t_ k_ => XS.iconst X.here hx rfl (hb hby d29_5) k_) ?_
  show Gl p e below s _ _ _ (T.setTop (mkF m 6 #[.val (.ref a), .val (.ref x)] [(.int (1 : Int32)), (.int mc), (.ref a)]))
  refine Gl.by (fun t_ k_ => XS.iadd X.here hx rfl (hb hby d29_6) rfl k_) ?_
  show Gl p e below s _ _ _ (T.setTop (mkF m 7 #[.val (.ref a), .val (.ref x)] [(.int (mc + (1 : Int32))), (.ref a)]))
  obtain ⟨T, h1, X, eT, W1, st⟩ := putF X hx hZ hown (host := "") (Or.inl (hw _ (List.mem_of_getElem? (i := 184) rfl))) (Via.of (hw _ (List.mem_of_getElem? (i := 185) rfl))) eT ha.2.2.2 ha.1 (Or.inl (hw _ (List.mem_of_getElem? (i := 80) rfl))) (hw _ (List.mem_of_getElem? (i := 61) rfl)) (ty := .int) (by decide) rfl rfl (g := (mkF m 7 #[.val (.ref a), .val (.ref x)] [(.int (mc + (1 : Int32))), (.ref a)])) rfl rfl (hb hby d29_7)
  have F1_modCount : Fld Z h1 a "java/util/AbstractList" "modCount" "I" (.int (mc + (1 : Int32))) := Fld.same W1 ha.2.2.2
  have sz1 := (Keep.of_wr W1).1
  have N := Fr.snoc X N (by omega)
  refine Gl.by st ?_
  show Gl p e below s _ _ _ (T.setTop (mkF m 10 #[.val (.ref a), .val (.ref x)] []))
  refine Gl.by (fun t_ k_ => XS.aloadN X.here hx rfl (hb hby d29_10) rfl rfl k_) ?_
  show Gl p e below s _ _ _ (T.setTop (mkF m 11 #[.val (.ref a), .val (.ref x)] [(.ref a)]))
  refine Gl.by (fun t_ k_ => XS.aloadN X.here hx rfl (hb hby d29_11) rfl rfl k_) ?_
  show Gl p e below s _ _ _ (T.setTop (mkF m 12 #[.val (.ref a), .val (.ref x)] [(.ref x), (.ref a)]))
  refine Gl.by (fun t_ k_ => XS.aloadN X.here hx rfl (hb hby d29_12) rfl rfl k_) ?_
  show Gl p e below s _ _ _ (T.setTop (mkF m 13 #[.val (.ref a), .val (.ref x)] [(.ref a), (.ref x), (.ref a)]))
  obtain ⟨T, X, eT, st⟩ := getF X hx hZ hown (host := "") (Or.inl (hw _ (List.mem_of_getElem? (i := 82) rfl))) Via.refl eT (ha.2.1.other W1 (Or.inr (slot_ne (C := "java/util/ArrayList") (Or.inl (hw _ (List.mem_of_getElem? (i := 83) rfl))) (Or.inl (hw _ (List.mem_of_getElem? (i := 80) rfl))) (by decide) (t := (.array (.object "java/lang/Object"))) (t' := .int) (by decide) (by decide)))) (g := (mkF m 13 #[.val (.ref a), .val (.ref x)] [(.ref a), (.ref x), (.ref a)])) rfl rfl (hb hby d29_13)
  refine Gl.by st ?_
  show Gl p e below s _ _ _ (T.setTop (mkF m 16 #[.val (.ref a), .val (.ref x)] [(.ref dc), (.ref x), (.ref a)]))
  refine Gl.by (fun t_ k_ => XS.aloadN X.here hx rfl (hb hby d29_16) rfl rfl k_) ?_
  show Gl p e below s _ _ _ (T.setTop (mkF m 17 #[.val (.ref a), .val (.ref x)] [(.ref a), (.ref dc), (.ref x), (.ref a)]))
  obtain ⟨T, X, eT, st⟩ := getF X hx hZ hown (host := "") (Or.inl (hw _ (List.mem_of_getElem? (i := 114) rfl))) Via.refl eT (ha.2.2.1.other W1 (Or.inr (slot_ne (C := "java/util/ArrayList") (Or.inl (hw _ (List.mem_of_getElem? (i := 115) rfl))) (Or.inl (hw _ (List.mem_of_getElem? (i := 80) rfl))) (by decide) (t := .int) (t' := .int) (by decide) (by decide)))) (g := (mkF m 17 #[.val (.ref a), .val (.ref x)] [(.ref a), (.ref dc), (.ref x), (.ref a)])) rfl rfl (hb hby d29_17)
  refine Gl.by st ?_
  show Gl p e below s _ _ _ (T.setTop (mkF m 20 #[.val (.ref a), .val (.ref x)] [(.int 0), (.ref dc), (.ref x), (.ref a)]))
  refine Gl.priv X hx hZ hown (hw _ (List.mem_of_getElem? (i := 186) rfl)) (hw _ (List.mem_of_getElem? (i := 187) rfl)) (hw _ (List.mem_of_getElem? (i := 189) rfl)) (hw _ (List.mem_of_getElem? (i := 188) rfl)) (hw _ (List.mem_of_getElem? (i := 190) rfl)) (by decide) (ha.1.wr W1) (W := 0) (backC (own_addh l Z a0 hw a x _ dc el mr em h1 n0 (by omega) Za ⟨(ha.1.wr W1), (ha.2.1.other W1 (Or.inr (slot_ne (C := "java/util/ArrayList") (Or.inl (hw _ (List.mem_of_getElem? (i := 83) rfl))) (Or.inl (hw _ (List.mem_of_getElem? (i := 80) rfl))) (by decide) (t := (.array (.object "java/lang/Object"))) (t' := .int) (by decide) (by decide)))), (ha.2.2.1.other W1 (Or.inr (slot_ne (C := "java/util/ArrayList") (Or.inl (hw _ (List.mem_of_getElem? (i := 115) rfl))) (Or.inl (hw _ (List.mem_of_getElem? (i := 80) rfl))) (by decide) (t := .int) (t' := .int) (by decide) (by decide)))), F1_modCount⟩ (Ex.wr W1) (O.wr W1 (by omega)) K) hZ (hw _ (List.mem_of_getElem? (i := 190) rfl)) (hw _ (List.mem_of_getElem? (i := 62) rfl)) (by decide) (by decide)) eT (hb hby d29_20) (by rw [hml]; rfl) [(.ref x), (.ref dc), (.int 0)] [] (lenOf pd_4 rfl) rfl rfl (Nat.le_of_eq rfl) (by decide) (by decide) ?_
  intro v T L X hq
  obtain ⟨rfl, NQ, K2, ed, kk, ge, Q2⟩ := hq
  have N := Fr.app N NQ
  obtain ⟨h2, eT⟩ : ∃ z, T.heap = z := ⟨_, rfl⟩
  rw [eT] at K2 Q2
  have sz2 := K2.1
  show Gl p e below s _ _ _ (T.setTop (mkF m 23 #[.val (.ref a), .val (.ref x)] []))
  refine Gl.by (fun t_ k_ => XS.iconst X.here hx rfl (hb hby d29_23) k_) ?_
  show Gl p e below s _ _ _ (T.setTop (mkF m 24 #[.val (.ref a), .val (.ref x)] [(.int (1 : Int32))]))
  refine Gl.retZ X hx hlk hret (by simp) (hb hby d29_24) (by decide) (by decide) ?_
  rw [eT]
  exact ⟨rfl, N, (((Keep.refl h0 [a]).wr W1 (Or.inl (by simp))).trans K2 (allS (Or.inl (by simp)) all0)), ed, kk, by omega, Q2⟩
set_option maxRecDepth 65536 in
set_option maxHeartbeats 40000000 in
theorem own_alie (l : Launch) (Z : State) (a0 : Array Value) (hw : ∀ d ∈ tables_1, d.before a0 Z = true) (a : Nat) (sz : Int32) (h0 : Heap) (n0 : Nat) (F : Fld Z h0 a "java/util/ArrayList" "size" "I" (.int sz)) :
    Ctr l Z (⟨"java/util/ArrayList", "isEmpty", "()Z"⟩ : MethodName) jdk_38_method_9_code 1 (some .boolean) [] own_r0 #[(.ref a)] h0 (fun v h L => v = some (.int (if sz = 0 then 1 else 0)) ∧ L = [] ∧ h = h0) := by
  refine Ctr.intro (plainFor_of_name pn_2) #[.val (.ref a)] (fun m => by first | (simp [entryFrame, mkF, argsToLocals, Value.category]; done) | rfl) ?_
  intro p e s m below meth c T hx hby hml hown hnm hret hlk hZ hnamed X eT
  have hown : s.vm.findClass "java/util/ArrayList" = some m.cls := hown
  have N := Fr.nil n0
  show Gl p e below s _ _ _ (T.setTop (mkF m 0 #[.val (.ref a)] []))
  refine Gl.by (fun t_ k_ => XS.aloadN X.here hx rfl (hb hby d19_0) rfl rfl k_) ?_
  show Gl p e below s _ _ _ (T.setTop (mkF m 1 #[.val (.ref a)] [(.ref a)]))
  obtain ⟨T, X, eT, st⟩ := getF X hx hZ hown (host := "") (Or.inl (hw _ (List.mem_of_getElem? (i := 114) rfl))) Via.refl eT F (g := (mkF m 1 #[.val (.ref a)] [(.ref a)])) rfl rfl (hb hby d19_1)
  refine Gl.by st ?_
  show Gl p e below s _ _ _ (T.setTop (mkF m 4 #[.val (.ref a)] [(.int sz)]))
  by_cases c1 : sz = (0 : Int32)
  · refine Gl.by (fun t_ k_ => XS.ifNo X.here hx rfl (hb hby d19_4) rfl ((if0 _ _).trans (teq c1).2) k_) ?_
    show Gl p e below s _ _ _ (T.setTop (mkF m 7 #[.val (.ref a)] []))
    refine Gl.by (fun t_ k_ => XS.iconst X.here hx rfl (hb hby d19_7) k_) ?_
    show Gl p e below s _ _ _ (T.setTop (mkF m 8 #[.val (.ref a)] [(.int (1 : Int32))]))
    refine Gl.by (fun t_ k_ => XS.goto X.here hx rfl (pc0 := 8) (pc' := 12) rfl (hb hby d19_8) (by decide) (by decide) k_) ?_
    show Gl p e below s _ _ _ (T.setTop (mkF m 12 #[.val (.ref a)] [(.int (1 : Int32))]))
    refine Gl.retZ X hx hlk hret (by simp) (hb hby d19_12) (by decide) (by decide) ⟨?_, rfl, eT⟩
    rw [if_pos c1]; rfl
  · refine Gl.by (fun t_ k_ => XS.ifYes X.here hx rfl (pc0 := 4) (pc' := 11) rfl (hb hby d19_4) rfl ((if0 _ _).trans (feq c1).2) (by decide) (by decide) k_) ?_
    show Gl p e below s _ _ _ (T.setTop (mkF m 11 #[.val (.ref a)] []))
    refine Gl.by (fun t_ k_ => XS.iconst X.here hx rfl (hb hby d19_11) k_) ?_
    show Gl p e below s _ _ _ (T.setTop (mkF m 12 #[.val (.ref a)] [(.int (0 : Int32))]))
    refine Gl.retZ X hx hlk hret (by simp) (hb hby d19_12) (by decide) (by decide) ⟨?_, rfl, eT⟩
    rw [if_neg c1]; rfl
abbrev own_rC3 : Room := { frames := 1, cells := 1, slots := 1, locals := 60 }
abbrev own_rC2 : Room := { frames := 2, cells := 1, slots := 1, locals := 80 }
abbrev own_rTA : Room := { frames := 3, cells := 1, slots := 1, locals := 100 }
set_option maxRecDepth 65536 in
set_option maxHeartbeats 40000000 in
theorem own_copy3 (l : Launch) (Z : State) (a0 : Array Value) (hw : ∀ d ∈ tables_1, d.before a0 Z = true) (ed x : Nat) (k : ClassId) (dc el mr : Nat) (em : Value) (h0 : Heap) (n0 : Nat) (Z0 : n0 ≤ h0.size) (V : Arv Z h0 ed k (.object "java/lang/Object") 10 [(.ref x), .null, .null, .null, .null, .null, .null, .null, .null, .null] .null) (Ed : Exa Z h0 ed "[Ljava/lang/Object;") (Ex : Exa Z h0 x "com/example/intentio/intentio/hddl/Term$Variable") (O : Old Z n0 h0) (K : ALok Z dc el mr em) :
    Ctr l Z (⟨"java/util/Arrays", "copyOf", "([Ljava/lang/Object;ILjava/lang/Class;)[Ljava/lang/Object;"⟩ : MethodName) jdk_65_method_120_code 4 (some (.array (.object "java/lang/Object"))) [] own_rC3 #[(.ref ed), (.int (1 : Int32)), (.ref mr)] h0 (fun v h L => Fr n0 L ∧ Keep h0 h [] ∧ ∃ (na : Nat) (kn : ClassId), v = some (.ref na) ∧ h0.size ≤ na ∧ Arv Z h na kn (.object "java/lang/Object") 1 [.ref x] .null) := by
  refine Ctr.intro (plainFor_of_name pn_3) #[.val (.ref ed), .val (.int (1 : Int32)), .val (.ref mr), .unset] (fun m => by first | (simp [entryFrame, mkF, argsToLocals, Value.category]; done) | rfl) ?_
  intro p e s m below meth c T hx hby hml hown hnm hret hlk hZ hnamed X eT
  have hown : s.vm.findClass "java/util/Arrays" = some m.cls := hown
  have N := Fr.nil n0
  have led : ed < h0.size := V.lt
  show Gl p e below s _ _ _ (T.setTop (mkF m 0 #[.val (.ref ed), .val (.int (1 : Int32)), .val (.ref mr), .unset] []))
  refine Gl.by (fun t_ k_ => XS.aloadN X.here hx rfl (hb hby d36_0) rfl rfl k_) ?_
  show Gl p e below s _ _ _ (T.setTop (mkF m 1 #[.val (.ref ed), .val (.int (1 : Int32)), .val (.ref mr), .unset] [(.ref mr)]))
  obtain ⟨T, X, eT, st⟩ := ldcMir X hx hZ hown (hw _ (List.mem_of_getElem? (i := 229) rfl)) eT K.2.2.2.2.2.2.2 (g := (mkF m 1 #[.val (.ref ed), .val (.int (1 : Int32)), .val (.ref mr), .unset] [(.ref mr)])) rfl (hb hby d36_1)
  refine Gl.by st ?_
  show Gl p e below s _ _ _ (T.setTop (mkF m 3 #[.val (.ref ed), .val (.int (1 : Int32)), .val (.ref mr), .unset] [(.ref mr), (.ref mr)]))
  refine Gl.by (fun t_ k_ => Jvm.RoadKit.acmp (g := (mkF m 3 #[.val (.ref ed), .val (.int (1 : Int32)), .val (.ref mr), .unset] [(.ref mr), (.ref mr)])) X hx rfl rfl rfl (pc0 := 3) (pc' := 6) (same := true) rfl (hb hby d36_3) rfl (decide_eq_true rfl) (by decide) (by decide) k_) ?_
  show Gl p e below s _ _ _ (T.setTop (mkF m 6 #[.val (.ref ed), .val (.int (1 : Int32)), .val (.ref mr), .unset] []))
  refine Gl.by (fun t_ k_ => XS.iloadN X.here hx rfl (hb hby d36_6) rfl k_) ?_
  show Gl p e below s _ _ _ (T.setTop (mkF m 7 #[.val (.ref ed), .val (.int (1 : Int32)), .val (.ref mr), .unset] [(.int (1 : Int32))]))
  obtain ⟨T, h1, k1, X, eT, E1, A1, Ex1, Ov1, st⟩ := newRE X hx hZ hown (hw _ (List.mem_of_getElem? (i := 230) rfl)) (hw _ (List.mem_of_getElem? (i := 206) rfl)) eT (g := (mkF m 7 #[.val (.ref ed), .val (.int (1 : Int32)), .val (.ref mr), .unset] [(.int (1 : Int32))])) rfl (hb hby d36_7) rfl (by decide) (cap := 1) (by decide) (by decide) (by decide) (by decide) (ad := "[Ljava/lang/Object;") (by decide)
  obtain ⟨na, g1⟩ : ∃ z, z = h0.size := ⟨_, rfl⟩
  rw [← g1] at A1 Ex1 st
  have sz1 := E1.1
  have lt1 : na < h1.size := A1.lt
  have V1 : Arv Z h1 na k1 (.object "java/lang/Object") (1 : Int32) [.null] .null := (Arv.new A1 (by decide)).pad (pad_rep [] .null 1)
  refine Gl.by st ?_
  show Gl p e below s _ _ _ (T.setTop (mkF m 10 #[.val (.ref ed), .val (.int (1 : Int32)), .val (.ref mr), .unset] [(.ref na)]))
  refine Gl.by (fun t_ k_ => XS.goto X.here hx rfl (pc0 := 10) (pc' := 24) rfl (hb hby d36_10) (by decide) (by decide) k_) ?_
  show Gl p e below s _ _ _ (T.setTop (mkF m 24 #[.val (.ref ed), .val (.int (1 : Int32)), .val (.ref mr), .unset] [(.ref na)]))
  refine Gl.by (fun t_ k_ => XS.astoreN X.here hx rfl (hb hby d36_24) rfl rfl (l' := #[.val (.ref ed), .val (.int (1 : Int32)), .val (.ref mr), .val (.ref na)]) rfl k_) ?_
  show Gl p e below s _ _ _ (T.setTop (mkF m 25 #[.val (.ref ed), .val (.int (1 : Int32)), .val (.ref mr), .val (.ref na)] []))
  refine Gl.by (fun t_ k_ => XS.aloadN X.here hx rfl (hb hby d36_25) rfl rfl k_) ?_
  show Gl p e below s _ _ _ (T.setTop (mkF m 26 #[.val (.ref ed), .val (.int (1 : Int32)), .val (.ref mr), .val (.ref na)] [(.ref ed)]))
  refine Gl.by (fun t_ k_ => XS.iconst X.here hx rfl (hb hby d36_26) k_) ?_
  show Gl p e below s _ _ _ (T.setTop (mkF m 27 #[.val (.ref ed), .val (.int (1 : Int32)), .val (.ref mr), .val (.ref na)] [(.int (0 : Int32)), (.ref ed)]))
  refine Gl.by (fun t_ k_ => XS.aloadN X.here hx rfl (hb hby d36_27) rfl rfl k_) ?_
  show Gl p e below s _ _ _ (T.setTop (mkF m 28 #[.val (.ref ed), .val (.int (1 : Int32)), .val (.ref mr), .val (.ref na)] [(.ref na), (.int (0 : Int32)), (.ref ed)]))
  refine Gl.by (fun t_ k_ => XS.iconst X.here hx rfl (hb hby d36_28) k_) ?_
  show Gl p e below s _ _ _ (T.setTop (mkF m 29 #[.val (.ref ed), .val (.int (1 : Int32)), .val (.ref mr), .val (.ref na)] [(.int (0 : Int32)), (.ref na), (.int (0 : Int32)), (.ref ed)]))
  refine Gl.by (fun t_ k_ => XS.aloadN X.here hx rfl (hb hby d36_29) rfl rfl k_) ?_
  show Gl p e below s _ _ _ (T.setTop (mkF m 30 #[.val (.ref ed), .val (.int (1 : Int32)), .val (.ref mr), .val (.ref na)] [(.ref ed), (.int (0 : Int32)), (.ref na), (.int (0 : Int32)), (.ref ed)]))
  obtain ⟨cl2, Ar2, q2, S2, M2, H2, G2⟩ := (id ((V.ext E1)) : Arv Z h1 ed k (.object "java/lang/Object") (10 : Int32) [(.ref x), .null, .null, .null, .null, .null, .null, .null, .null, .null] .null)
  refine Gl.by (X.arraylength hx (by rw [eT]; exact Ar2.1) (State.isArrayOf_alike hZ.alike Ar2.2.1) (g := (mkF m 30 #[.val (.ref ed), .val (.int (1 : Int32)), .val (.ref mr), .val (.ref na)] [(.ref ed), (.int (0 : Int32)), (.ref na), (.int (0 : Int32)), (.ref ed)])) rfl rfl (hb hby d36_30)) ?_
  rw [len_of S2 M2]
  show Gl p e below s _ _ _ (T.setTop (mkF m 31 #[.val (.ref ed), .val (.int (1 : Int32)), .val (.ref mr), .val (.ref na)] [(.int (10 : Int32)), (.int (0 : Int32)), (.ref na), (.int (0 : Int32)), (.ref ed)]))
  refine Gl.by (fun t_ k_ => XS.iloadN X.here hx rfl (hb hby d36_31) rfl k_) ?_
  show Gl p e below s _ _ _ (T.setTop (mkF m 32 #[.val (.ref ed), .val (.int (1 : Int32)), .val (.ref mr), .val (.ref na)] [(.int (1 : Int32)), (.int (10 : Int32)), (.int (0 : Int32)), (.ref na), (.int (0 : Int32)), (.ref ed)]))
  refine Gl.stat X hx hZ hown (hw _ (List.mem_of_getElem? (i := 231) rfl)) (hw _ (List.mem_of_getElem? (i := 232) rfl)) (hw _ (List.mem_of_getElem? (i := 203) rfl)) (hw _ (List.mem_of_getElem? (i := 233) rfl)) (by decide) (W := 4) (backC (own_min l Z a0 hw 10 1 h1 n0) hZ (hw _ (List.mem_of_getElem? (i := 233) rfl)) (hw _ (List.mem_of_getElem? (i := 203) rfl)) (by decide) (by decide)) eT (hb hby d36_32) (by rw [hml]; rfl) [(.int (10 : Int32)), (.int (1 : Int32))] [(.int (0 : Int32)), (.ref na), (.int (0 : Int32)), (.ref ed)] (lenOf pd_1 rfl) rfl rfl (Nat.le_of_eq rfl) (by decide) (by decide) ?_
  intro v T L X hq
  obtain ⟨rfl, rfl, eT⟩ := hq
  have N := Fr.app N (Fr.nil n0)
  show Gl p e below s _ _ _ (T.setTop (mkF m 35 #[.val (.ref ed), .val (.int (1 : Int32)), .val (.ref mr), .val (.ref na)] [(.int (1 : Int32)), (.int (0 : Int32)), (.ref na), (.int (0 : Int32)), (.ref ed)]))
  obtain ⟨cl3, Ar3, q3, S3, M3, H3, G3⟩ := (id (V1) : Arv Z h1 na k1 (.object "java/lang/Object") (1 : Int32) [.null] .null)
  obtain ⟨T, h4, L, X, eT, N, K4, V4, st⟩ := cpA X hx hZ hown (hw _ (List.mem_of_getElem? (i := 234) rfl)) (hw _ (List.mem_of_getElem? (i := 237) rfl)) (hw _ (List.mem_of_getElem? (i := 235) rfl)) (hw _ (List.mem_of_getElem? (i := 236) rfl)) eT (sp := 0) (dp := 0) (nn := 1) (us := [.ref x]) (V.ext E1) V1 (Or.inr ⟨rfl, rfl, Sto.ofV Ar3 q3 Ov1 (Ins.of_exa (Ex.ext E1) (hw _ (List.mem_of_getElem? (i := 207) rfl))), trivial⟩) (by decide) (by decide) (by decide) (by decide) (by decide) rfl (by decide) N (by omega) (g := (mkF m 35 #[.val (.ref ed), .val (.int (1 : Int32)), .val (.ref mr), .val (.ref na)] [(.int (1 : Int32)), (.int (0 : Int32)), (.ref na), (.int (0 : Int32)), (.ref ed)])) rfl (by rw [hml]; rfl) rfl (hb hby d36_35) (by decide) (W := 0) (by show 2 * 0 + _ ≤ _; exact Nat.le_of_eq rfl) (by decide)
  have sz4 := K4.1
  refine Gl.by st ?_
  show Gl p e below s _ _ _ (T.setTop (mkF m 38 #[.val (.ref ed), .val (.int (1 : Int32)), .val (.ref mr), .val (.ref na)] []))
  refine Gl.by (fun t_ k_ => XS.aloadN X.here hx rfl (hb hby d36_38) rfl rfl k_) ?_
  show Gl p e below s _ _ _ (T.setTop (mkF m 39 #[.val (.ref ed), .val (.int (1 : Int32)), .val (.ref mr), .val (.ref na)] [(.ref na)]))
  refine Gl.retA X hx hlk hret rfl rfl (hb hby d36_39) (by decide) (by decide) ?_
  rw [eT]
  exact ⟨N, (((Keep.refl h0 []).ext E1).trans K4 (allS (Or.inr (by omega)) all0)), na, k1, rfl, by omega, V4⟩
set_option maxRecDepth 65536 in
set_option maxHeartbeats 40000000 in
theorem own_copy2 (l : Launch) (Z : State) (a0 : Array Value) (hw : ∀ d ∈ tables_1, d.before a0 Z = true) (ed x : Nat) (k : ClassId) (dc el mr : Nat) (em : Value) (h0 : Heap) (n0 : Nat) (Z0 : n0 ≤ h0.size) (V : Arv Z h0 ed k (.object "java/lang/Object") 10 [(.ref x), .null, .null, .null, .null, .null, .null, .null, .null, .null] .null) (Ed : Exa Z h0 ed "[Ljava/lang/Object;") (Ex : Exa Z h0 x "com/example/intentio/intentio/hddl/Term$Variable") (O : Old Z n0 h0) (K : ALok Z dc el mr em) :
    Ctr l Z (⟨"java/util/Arrays", "copyOf", "([Ljava/lang/Object;I)[Ljava/lang/Object;"⟩ : MethodName) jdk_65_method_119_code 2 (some (.array (.object "java/lang/Object"))) [] own_rC2 #[(.ref ed), (.int (1 : Int32))] h0 (fun v h L => Fr n0 L ∧ Keep h0 h [] ∧ ∃ (na : Nat) (kn : ClassId), v = some (.ref na) ∧ h0.size ≤ na ∧ Arv Z h na kn (.object "java/lang/Object") 1 [.ref x] .null) := by
  refine Ctr.intro (plainFor_of_name pn_3) #[.val (.ref ed), .val (.int (1 : Int32))] (fun m => by first | (simp [entryFrame, mkF, argsToLocals, Value.category]; done) | rfl) ?_
  intro p e s m below meth c T hx hby hml hown hnm hret hlk hZ hnamed X eT
  have hown : s.vm.findClass "java/util/Arrays" = some m.cls := hown
  have N := Fr.nil n0
  show Gl p e below s _ _ _ (T.setTop (mkF m 0 #[.val (.ref ed), .val (.int (1 : Int32))] []))
  refine Gl.by (fun t_ k_ => XS.aloadN X.here hx rfl (hb hby d35_0) rfl rfl k_) ?_
  show Gl p e below s _ _ _ (T.setTop (mkF m 1 #[.val (.ref ed), .val (.int (1 : Int32))] [(.ref ed)]))
  refine Gl.by (fun t_ k_ => XS.iloadN X.here hx rfl (hb hby d35_1) rfl k_) ?_
  show Gl p e below s _ _ _ (T.setTop (mkF m 2 #[.val (.ref ed), .val (.int (1 : Int32))] [(.int (1 : Int32)), (.ref ed)]))
  refine Gl.by (fun t_ k_ => XS.aloadN X.here hx rfl (hb hby d35_2) rfl rfl k_) ?_
  show Gl p e below s _ _ _ (T.setTop (mkF m 3 #[.val (.ref ed), .val (.int (1 : Int32))] [(.ref ed), (.int (1 : Int32)), (.ref ed)]))
  obtain ⟨T, X, eT, st⟩ := gcls X hx hZ hown (hw _ (List.mem_of_getElem? (i := 220) rfl)) (hw _ (List.mem_of_getElem? (i := 221) rfl)) (hw _ (List.mem_of_getElem? (i := 103) rfl)) (hw _ (List.mem_of_getElem? (i := 223) rfl)) (hw _ (List.mem_of_getElem? (i := 222) rfl)) (hw _ (List.mem_of_getElem? (i := 224) rfl)) eT Ed K.2.2.2.2.2.2.2 (g := (mkF m 3 #[.val (.ref ed), .val (.int (1 : Int32))] [(.ref ed), (.int (1 : Int32)), (.ref ed)])) rfl (by rw [hml]; rfl) rfl (hb hby d35_3) (by decide) (W := 2) (by show 2 * 0 + _ ≤ _; exact Nat.le_of_eq rfl) (by decide)
  refine Gl.by st ?_
  show Gl p e below s _ _ _ (T.setTop (mkF m 6 #[.val (.ref ed), .val (.int (1 : Int32))] [(.ref mr), (.int (1 : Int32)), (.ref ed)]))
  refine Gl.stat X hx hZ hown (hw _ (List.mem_of_getElem? (i := 226) rfl)) (hw _ (List.mem_of_getElem? (i := 227) rfl)) (hw _ (List.mem_of_getElem? (i := 218) rfl)) (hw _ (List.mem_of_getElem? (i := 228) rfl)) (by decide) (W := 0) (backC (own_copy3 l Z a0 hw ed x k dc el mr em h0 n0 Z0 V Ed Ex O K) hZ (hw _ (List.mem_of_getElem? (i := 228) rfl)) (hw _ (List.mem_of_getElem? (i := 218) rfl)) (by decide) (by decide)) eT (hb hby d35_6) (by rw [hml]; rfl) [(.ref ed), (.int (1 : Int32)), (.ref mr)] [] (lenOf pd_5 rfl) rfl rfl (Nat.le_of_eq rfl) (by decide) (by decide) ?_
  intro v T L X hq
  obtain ⟨NQ, K1, na, kn, rfl, Q1⟩ := hq
  have N := Fr.app N NQ
  obtain ⟨h1, eT⟩ : ∃ z, T.heap = z := ⟨_, rfl⟩
  rw [eT] at K1 Q1
  have sz1 := K1.1
  show Gl p e below s _ _ _ (T.setTop (mkF m 9 #[.val (.ref ed), .val (.int (1 : Int32))] [(.ref na)]))
  refine Gl.retA X hx hlk hret rfl rfl (hb hby d35_9) (by decide) (by decide) ?_
  rw [eT]
  exact ⟨N, K1, na, kn, rfl, Q1⟩
set_option maxRecDepth 65536 in
set_option maxHeartbeats 40000000 in
theorem own_toarr (l : Launch) (Z : State) (a0 : Array Value) (hw : ∀ d ∈ tables_1, d.before a0 Z = true) (a : Nat) (mc : Int32) (ed x : Nat) (k : ClassId) (dc el mr : Nat) (em : Value) (h0 : Heap) (n0 : Nat) (ha : Alo Z h0 a (.ref ed) 1 mc) (Z0 : n0 ≤ h0.size) (V : Arv Z h0 ed k (.object "java/lang/Object") 10 [(.ref x), .null, .null, .null, .null, .null, .null, .null, .null, .null] .null) (Ed : Exa Z h0 ed "[Ljava/lang/Object;") (Ex : Exa Z h0 x "com/example/intentio/intentio/hddl/Term$Variable") (O : Old Z n0 h0) (K : ALok Z dc el mr em) :
    Ctr l Z (⟨"java/util/ArrayList", "toArray", "()[Ljava/lang/Object;"⟩ : MethodName) jdk_38_method_16_code 1 (some (.array (.object "java/lang/Object"))) [] own_rTA #[(.ref a)] h0 (fun v h L => Fr n0 L ∧ Keep h0 h [] ∧ ∃ (na : Nat) (kn : ClassId), v = some (.ref na) ∧ h0.size ≤ na ∧ Arv Z h na kn (.object "java/lang/Object") 1 [.ref x] .null) := by
  refine Ctr.intro (plainFor_of_name pn_2) #[.val (.ref a)] (fun m => by first | (simp [entryFrame, mkF, argsToLocals, Value.category]; done) | rfl) ?_
  intro p e s m below meth c T hx hby hml hown hnm hret hlk hZ hnamed X eT
  have hown : s.vm.findClass "java/util/ArrayList" = some m.cls := hown
  have N := Fr.nil n0
  show Gl p e below s _ _ _ (T.setTop (mkF m 0 #[.val (.ref a)] []))
  refine Gl.by (fun t_ k_ => XS.aloadN X.here hx rfl (hb hby d34_0) rfl rfl k_) ?_
  show Gl p e below s _ _ _ (T.setTop (mkF m 1 #[.val (.ref a)] [(.ref a)]))
  obtain ⟨T, X, eT, st⟩ := getF X hx hZ hown (host := "") (Or.inl (hw _ (List.mem_of_getElem? (i := 82) rfl))) Via.refl eT ha.2.1 (g := (mkF m 1 #[.val (.ref a)] [(.ref a)])) rfl rfl (hb hby d34_1)
  refine Gl.by st ?_
  show Gl p e below s _ _ _ (T.setTop (mkF m 4 #[.val (.ref a)] [(.ref ed)]))
  refine Gl.by (fun t_ k_ => XS.aloadN X.here hx rfl (hb hby d34_4) rfl rfl k_) ?_
  show Gl p e below s _ _ _ (T.setTop (mkF m 5 #[.val (.ref a)] [(.ref a), (.ref ed)]))
  obtain ⟨T, X, eT, st⟩ := getF X hx hZ hown (host := "") (Or.inl (hw _ (List.mem_of_getElem? (i := 114) rfl))) Via.refl eT ha.2.2.1 (g := (mkF m 5 #[.val (.ref a)] [(.ref a), (.ref ed)])) rfl rfl (hb hby d34_5)
  refine Gl.by st ?_
  show Gl p e below s _ _ _ (T.setTop (mkF m 8 #[.val (.ref a)] [(.int (1 : Int32)), (.ref ed)]))
  refine Gl.stat X hx hZ hown (hw _ (List.mem_of_getElem? (i := 216) rfl)) (hw _ (List.mem_of_getElem? (i := 217) rfl)) (hw _ (List.mem_of_getElem? (i := 218) rfl)) (hw _ (List.mem_of_getElem? (i := 219) rfl)) (by decide) (W := 0) (backC (own_copy2 l Z a0 hw ed x k dc el mr em h0 n0 Z0 V Ed Ex O K) hZ (hw _ (List.mem_of_getElem? (i := 219) rfl)) (hw _ (List.mem_of_getElem? (i := 218) rfl)) (by decide) (by decide)) eT (hb hby d34_8) (by rw [hml]; rfl) [(.ref ed), (.int (1 : Int32))] [] (lenOf pd_6 rfl) rfl rfl (Nat.le_of_eq rfl) (by decide) (by decide) ?_
  intro v T L X hq
  obtain ⟨NQ, K1, na, kn, rfl, Q1⟩ := hq
  have N := Fr.app N NQ
  obtain ⟨h1, eT⟩ : ∃ z, T.heap = z := ⟨_, rfl⟩
  rw [eT] at K1 Q1
  have sz1 := K1.1
  show Gl p e below s _ _ _ (T.setTop (mkF m 11 #[.val (.ref a)] [(.ref na)]))
  refine Gl.retA X hx hlk hret rfl rfl (hb hby d34_11) (by decide) (by decide) ?_
  rw [eT]
  exact ⟨N, K1, na, kn, rfl, Q1⟩
set_option maxRecDepth 65536 in
set_option maxHeartbeats 40000000 in
theorem own_aic (l : Launch) (Z : State) (a0 : Array Value) (hw : ∀ d ∈ tables_1, d.before a0 Z = true) (a : Nat) (h0 : Heap) (n0 : Nat)  :
    Ctr l Z (⟨"java/util/ImmutableCollections$AbstractImmutableCollection", "<init>", "()V"⟩ : MethodName) jdk_47_method_1_code 1 none [] own_rN2 #[(.ref a)] h0 (fun v h L => v = none ∧ L = [] ∧ h = h0) := by
  refine Ctr.intro (plainFor_of_name pn_4) #[.val (.ref a)] (fun m => by first | (simp [entryFrame, mkF, argsToLocals, Value.category]; done) | rfl) ?_
  intro p e s m below meth c T hx hby hml hown hnm hret hlk hZ hnamed X eT
  have hown : s.vm.findClass "java/util/ImmutableCollections$AbstractImmutableCollection" = some m.cls := hown
  have N := Fr.nil n0
  show Gl p e below s _ _ _ (T.setTop (mkF m 0 #[.val (.ref a)] []))
  refine Gl.by (fun t_ k_ => XS.aloadN X.here hx rfl (hb hby d41_0) rfl rfl k_) ?_
  show Gl p e below s _ _ _ (T.setTop (mkF m 1 #[.val (.ref a)] [(.ref a)]))
  refine Gl.spec X hx hZ rfl hown (hw _ (List.mem_of_getElem? (i := 260) rfl)) (hw _ (List.mem_of_getElem? (i := 73) rfl)) (hw _ (List.mem_of_getElem? (i := 77) rfl)) (by decide) (W := 0) (backC (own_abc l Z a0 hw a h0 n0) hZ (hw _ (List.mem_of_getElem? (i := 77) rfl)) (hw _ (List.mem_of_getElem? (i := 76) rfl)) (by decide) (by decide)) eT (hb hby d41_1) (by rw [hml]; rfl) a [] [] (lenOf pd_0 rfl) rfl rfl (Nat.le_of_eq rfl) (by decide) (by decide) ?_
  intro v T L X hq
  obtain ⟨rfl, rfl, eT⟩ := hq
  have N := Fr.app N (Fr.nil n0)
  show Gl p e below s _ _ _ (T.setTop (mkF m 4 #[.val (.ref a)] []))
  exact Gl.retV X hx hlk hret (hb hby d41_4) (by decide) (by decide) ⟨rfl, rfl, eT⟩
set_option maxRecDepth 65536 in
set_option maxHeartbeats 40000000 in
theorem own_ail (l : Launch) (Z : State) (a0 : Array Value) (hw : ∀ d ∈ tables_1, d.before a0 Z = true) (a : Nat) (h0 : Heap) (n0 : Nat)  :
    Ctr l Z (⟨"java/util/ImmutableCollections$AbstractImmutableList", "<init>", "()V"⟩ : MethodName) jdk_46_method_1_code 1 none [] own_rN3 #[(.ref a)] h0 (fun v h L => v = none ∧ L = [] ∧ h = h0) := by
  refine Ctr.intro (plainFor_of_name pn_5) #[.val (.ref a)] (fun m => by first | (simp [entryFrame, mkF, argsToLocals, Value.category]; done) | rfl) ?_
  intro p e s m below meth c T hx hby hml hown hnm hret hlk hZ hnamed X eT
  have hown : s.vm.findClass "java/util/ImmutableCollections$AbstractImmutableList" = some m.cls := hown
  have N := Fr.nil n0
  show Gl p e below s _ _ _ (T.setTop (mkF m 0 #[.val (.ref a)] []))
  refine Gl.by (fun t_ k_ => XS.aloadN X.here hx rfl (hb hby d40_0) rfl rfl k_) ?_
  show Gl p e below s _ _ _ (T.setTop (mkF m 1 #[.val (.ref a)] [(.ref a)]))
  refine Gl.spec X hx hZ rfl hown (hw _ (List.mem_of_getElem? (i := 254) rfl)) (hw _ (List.mem_of_getElem? (i := 255) rfl)) (hw _ (List.mem_of_getElem? (i := 259) rfl)) (by decide) (W := 0) (backC (own_aic l Z a0 hw a h0 n0) hZ (hw _ (List.mem_of_getElem? (i := 259) rfl)) (hw _ (List.mem_of_getElem? (i := 258) rfl)) (by decide) (by decide)) eT (hb hby d40_1) (by rw [hml]; rfl) a [] [] (lenOf pd_0 rfl) rfl rfl (Nat.le_of_eq rfl) (by decide) (by decide) ?_
  intro v T L X hq
  obtain ⟨rfl, rfl, eT⟩ := hq
  have N := Fr.app N (Fr.nil n0)
  show Gl p e below s _ _ _ (T.setTop (mkF m 4 #[.val (.ref a)] []))
  exact Gl.retV X hx hlk hret (hb hby d40_4) (by decide) (by decide) ⟨rfl, rfl, eT⟩
set_option maxRecDepth 65536 in
set_option maxHeartbeats 40000000 in
theorem own_rnn (l : Launch) (Z : State) (a0 : Array Value) (hw : ∀ d ∈ tables_1, d.before a0 Z = true) (k : Nat) (h0 : Heap) (n0 : Nat)  :
    Ctr l Z (⟨"java/util/Objects", "requireNonNull", "(Ljava/lang/Object;)Ljava/lang/Object;"⟩ : MethodName) jdk_31_method_10_code 1 (some (.object "java/lang/Object")) [] own_r0 #[(.ref k)] h0 (fun v h L => v = some (.ref k) ∧ L = [] ∧ h = h0) := by
  refine Ctr.intro (plainFor_of_name pn_6) #[.val (.ref k)] (fun m => by first | (simp [entryFrame, mkF, argsToLocals, Value.category]; done) | rfl) ?_
  intro p e s m below meth c T hx hby hml hown hnm hret hlk hZ hnamed X eT
  have hown : s.vm.findClass "java/util/Objects" = some m.cls := hown
  have N := Fr.nil n0
  show Gl p e below s _ _ _ (T.setTop (mkF m 0 #[.val (.ref k)] []))
  refine Gl.by (fun t_ k_ => XS.aloadN X.here hx rfl (hb hby d42_0) rfl rfl k_) ?_
  show Gl p e below s _ _ _ (T.setTop (mkF m 1 #[.val (.ref k)] [(.ref k)]))
  refine Gl.by (fun t_ k_ => XS.ifnonnullYes X.here hx rfl (pc0 := 1) (pc' := 12) rfl (hb hby d42_1) rfl (by decide) (by decide) k_) ?_
  show Gl p e below s _ _ _ (T.setTop (mkF m 12 #[.val (.ref k)] []))
  refine Gl.by (fun t_ k_ => XS.aloadN X.here hx rfl (hb hby d42_12) rfl rfl k_) ?_
  show Gl p e below s _ _ _ (T.setTop (mkF m 13 #[.val (.ref k)] [(.ref k)]))
  exact Gl.retA X hx hlk hret rfl rfl (hb hby d42_13) (by decide) (by decide) ⟨rfl, rfl, eT⟩
set_option maxRecDepth 65536 in
set_option maxHeartbeats 40000000 in
theorem own_l12i (l : Launch) (Z : State) (a0 : Array Value) (hw : ∀ d ∈ tables_1, d.before a0 Z = true) (li x : Nat) (dc el mr : Nat) (em : Value) (h0 : Heap) (n0 : Nat) (Z0 : n0 ≤ li) (E : Exa Z h0 li "java/util/ImmutableCollections$List12") (F_e0 : Fld Z h0 li "java/util/ImmutableCollections$List12" "e0" "Ljava/lang/Object;" .null) (F_e1 : Fld Z h0 li "java/util/ImmutableCollections$List12" "e1" "Ljava/lang/Object;" .null) (O : Old Z n0 h0) (K : ALok Z dc el mr em) :
    Ctr l Z (⟨"java/util/ImmutableCollections$List12", "<init>", "(Ljava/lang/Object;)V"⟩ : MethodName) jdk_44_method_1_code 2 none [] own_rN4 #[(.ref li), (.ref x)] h0 (fun v h L => v = none ∧ Fr n0 L ∧ Keep h0 h [li] ∧ Exa Z h li "java/util/ImmutableCollections$List12" ∧ Fld Z h li "java/util/ImmutableCollections$List12" "e0" "Ljava/lang/Object;" (.ref x) ∧ Fld Z h li "java/util/ImmutableCollections$List12" "e1" "Ljava/lang/Object;" em) := by
  refine Ctr.intro (plainFor_of_name pn_7) #[.val (.ref li), .val (.ref x)] (fun m => by first | (simp [entryFrame, mkF, argsToLocals, Value.category]; done) | rfl) ?_
  intro p e s m below meth c T hx hby hml hown hnm hret hlk hZ hnamed X eT
  have hown : s.vm.findClass "java/util/ImmutableCollections$List12" = some m.cls := hown
  have N := Fr.nil n0
  have hem := K.2.2.2.2.2.2.1
  show Gl p e below s _ _ _ (T.setTop (mkF m 0 #[.val (.ref li), .val (.ref x)] []))
  refine Gl.by (fun t_ k_ => XS.aloadN X.here hx rfl (hb hby d39_0) rfl rfl k_) ?_
  show Gl p e below s _ _ _ (T.setTop (mkF m 1 #[.val (.ref li), .val (.ref x)] [(.ref li)]))
  refine Gl.spec X hx hZ rfl hown (hw _ (List.mem_of_getElem? (i := 248) rfl)) (hw _ (List.mem_of_getElem? (i := 249) rfl)) (hw _ (List.mem_of_getElem? (i := 253) rfl)) (by decide) (W := 0) (backC (own_ail l Z a0 hw li h0 n0) hZ (hw _ (List.mem_of_getElem? (i := 253) rfl)) (hw _ (List.mem_of_getElem? (i := 252) rfl)) (by decide) (by decide)) eT (hb hby d39_1) (by rw [hml]; rfl) li [] [] (lenOf pd_0 rfl) rfl rfl (Nat.le_of_eq rfl) (by decide) (by decide) ?_
  intro v T L X hq
  obtain ⟨rfl, rfl, eT⟩ := hq
  have N := Fr.app N (Fr.nil n0)
  show Gl p e below s _ _ _ (T.setTop (mkF m 4 #[.val (.ref li), .val (.ref x)] []))
  refine Gl.by (fun t_ k_ => XS.aloadN X.here hx rfl (hb hby d39_4) rfl rfl k_) ?_
  show Gl p e below s _ _ _ (T.setTop (mkF m 5 #[.val (.ref li), .val (.ref x)] [(.ref li)]))
  refine Gl.by (fun t_ k_ => XS.aloadN X.here hx rfl (hb hby d39_5) rfl rfl k_) ?_
  show Gl p e below s _ _ _ (T.setTop (mkF m 6 #[.val (.ref li), .val (.ref x)] [(.ref x), (.ref li)]))
  refine Gl.stat X hx hZ hown (hw _ (List.mem_of_getElem? (i := 262) rfl)) (hw _ (List.mem_of_getElem? (i := 263) rfl)) (hw _ (List.mem_of_getElem? (i := 264) rfl)) (hw _ (List.mem_of_getElem? (i := 265) rfl)) (by decide) (W := 1) (backC (own_rnn l Z a0 hw x h0 n0) hZ (hw _ (List.mem_of_getElem? (i := 265) rfl)) (hw _ (List.mem_of_getElem? (i := 264) rfl)) (by decide) (by decide)) eT (hb hby d39_6) (by rw [hml]; rfl) [(.ref x)] [(.ref li)] (lenOf pd_7 rfl) rfl rfl (Nat.le_of_eq rfl) (by decide) (by decide) ?_
  intro v T L X hq
  obtain ⟨rfl, rfl, eT⟩ := hq
  have N := Fr.app N (Fr.nil n0)
  show Gl p e below s _ _ _ (T.setTop (mkF m 9 #[.val (.ref li), .val (.ref x)] [(.ref x), (.ref li)]))
  obtain ⟨T, h1, X, eT, W1, st⟩ := putF X hx hZ hown (host := "") (Or.inl (hw _ (List.mem_of_getElem? (i := 266) rfl))) Via.refl eT F_e0 E (Or.inr ⟨(hw _ (List.mem_of_getElem? (i := 267) rfl)), rfl, hnm⟩) (hw _ (List.mem_of_getElem? (i := 242) rfl)) (ty := (.object "java/lang/Object")) (by decide) rfl rfl (g := (mkF m 9 #[.val (.ref li), .val (.ref x)] [(.ref x), (.ref li)])) rfl rfl (hb hby d39_9)
  have F1_e0 : Fld Z h1 li "java/util/ImmutableCollections$List12" "e0" "Ljava/lang/Object;" (.ref x) := Fld.same W1 F_e0
  have sz1 := (Keep.of_wr W1).1
  have N := Fr.snoc X N (by omega)
  refine Gl.by st ?_
  show Gl p e below s _ _ _ (T.setTop (mkF m 12 #[.val (.ref li), .val (.ref x)] []))
  refine Gl.by (fun t_ k_ => XS.aloadN X.here hx rfl (hb hby d39_12) rfl rfl k_) ?_
  show Gl p e below s _ _ _ (T.setTop (mkF m 13 #[.val (.ref li), .val (.ref x)] [(.ref li)]))
  obtain ⟨T, X, eT, st⟩ := getS2 X hx hZ hown (Or.inr (hw _ (List.mem_of_getElem? (i := 268) rfl))) Via.refl eT ((K.2.2.2.2.2.1.ext O.2).wr W1) (g := (mkF m 13 #[.val (.ref li), .val (.ref x)] [(.ref li)])) rfl (hb hby d39_13)
  refine Gl.by st ?_
  show Gl p e below s _ _ _ (T.setTop (mkF m 16 #[.val (.ref li), .val (.ref x)] [em, (.ref li)]))
  obtain ⟨T, h2, X, eT, W2, st⟩ := putF X hx hZ hown (host := "") (Or.inl (hw _ (List.mem_of_getElem? (i := 269) rfl))) Via.refl eT (F_e1.other W1 (Or.inr (slot_ne (C := "java/util/ImmutableCollections$List12") (Or.inr (hw _ (List.mem_of_getElem? (i := 270) rfl))) (Or.inr (hw _ (List.mem_of_getElem? (i := 267) rfl))) (by decide) (t := (.object "java/lang/Object")) (t' := (.object "java/lang/Object")) (by decide) (by decide)))) (E.wr W1) (Or.inr ⟨(hw _ (List.mem_of_getElem? (i := 270) rfl)), rfl, hnm⟩) (hw _ (List.mem_of_getElem? (i := 242) rfl)) (ty := (.object "java/lang/Object")) (by decide) narR (fitsR hem) (g := (mkF m 16 #[.val (.ref li), .val (.ref x)] [em, (.ref li)])) rfl rfl (hb hby d39_16)
  have F2_e1 : Fld Z h2 li "java/util/ImmutableCollections$List12" "e1" "Ljava/lang/Object;" em := Fld.same W2 (F_e1.other W1 (Or.inr (slot_ne (C := "java/util/ImmutableCollections$List12") (Or.inr (hw _ (List.mem_of_getElem? (i := 270) rfl))) (Or.inr (hw _ (List.mem_of_getElem? (i := 267) rfl))) (by decide) (t := (.object "java/lang/Object")) (t' := (.object "java/lang/Object")) (by decide) (by decide))))
  have sz2 := (Keep.of_wr W2).1
  have N := Fr.snoc X N (by omega)
  refine Gl.by st ?_
  show Gl p e below s _ _ _ (T.setTop (mkF m 19 #[.val (.ref li), .val (.ref x)] []))
  refine Gl.retV X hx hlk hret (hb hby d39_19) (by decide) (by decide) ?_
  rw [eT]
  exact ⟨rfl, N, (((Keep.refl h0 [li]).wr W1 (Or.inl (by simp))).wr W2 (Or.inl (by simp))), ((E.wr W1).wr W2), (F1_e0.other W2 (Or.inr (slot_ne (C := "java/util/ImmutableCollections$List12") (Or.inr (hw _ (List.mem_of_getElem? (i := 267) rfl))) (Or.inr (hw _ (List.mem_of_getElem? (i := 270) rfl))) (by decide) (t := (.object "java/lang/Object")) (t' := (.object "java/lang/Object")) (by decide) (by decide)))), F2_e1⟩
abbrev own_rLO : Room := { frames := 5, cells := 1, slots := 2, locals := 66 }
abbrev own_rLC : Room := { frames := 6, cells := 2, slots := 3, locals := 120 }
abbrev own_rCO : Room := { frames := 7, cells := 2, slots := 3, locals := 140 }
set_option maxRecDepth 65536 in
set_option maxHeartbeats 40000000 in
theorem own_lof1 (l : Launch) (Z : State) (a0 : Array Value) (hw : ∀ d ∈ tables_1, d.before a0 Z = true) (na x : Nat) (kn : ClassId) (dc el mr : Nat) (em : Value) (h0 : Heap) (n0 : Nat) (Z0 : n0 ≤ h0.size) (V : Arv Z h0 na kn (.object "java/lang/Object") 1 [.ref x] .null) (O : Old Z n0 h0) (K : ALok Z dc el mr em) :
    Ctr l Z (⟨"java/util/List", "of", "([Ljava/lang/Object;)Ljava/util/List;"⟩ : MethodName) jdk_40_method_47_code 2 (some (.object "java/util/List")) [] own_rLO #[(.ref na)] h0 (fun v h L => Fr n0 L ∧ Keep h0 h [] ∧ ∃ li : Nat, v = some (.ref li) ∧ h0.size ≤ li ∧ Exa Z h li "java/util/ImmutableCollections$List12" ∧ Fld Z h li "java/util/ImmutableCollections$List12" "e0" "Ljava/lang/Object;" (.ref x) ∧ Fld Z h li "java/util/ImmutableCollections$List12" "e1" "Ljava/lang/Object;" em) := by
  refine Ctr.intro (plainFor_of_name pn_8) #[.val (.ref na), .unset] (fun m => by first | (simp [entryFrame, mkF, argsToLocals, Value.category]; done) | rfl) ?_
  intro p e s m below meth c T hx hby hml hown hnm hret hlk hZ hnamed X eT
  have hown : s.vm.findClass "java/util/List" = some m.cls := hown
  have N := Fr.nil n0
  show Gl p e below s _ _ _ (T.setTop (mkF m 0 #[.val (.ref na), .unset] []))
  refine Gl.by (fun t_ k_ => XS.aloadN X.here hx rfl (hb hby d38_0) rfl rfl k_) ?_
  show Gl p e below s _ _ _ (T.setTop (mkF m 1 #[.val (.ref na), .unset] [(.ref na)]))
  obtain ⟨cl1, Ar1, q1, S1, M1, H1, G1⟩ := (id (V) : Arv Z h0 na kn (.object "java/lang/Object") (1 : Int32) [(.ref x)] .null)
  refine Gl.by (X.arraylength hx (by rw [eT]; exact Ar1.1) (State.isArrayOf_alike hZ.alike Ar1.2.1) (g := (mkF m 1 #[.val (.ref na), .unset] [(.ref na)])) rfl rfl (hb hby d38_1)) ?_
  rw [len_of S1 M1]
  show Gl p e below s _ _ _ (T.setTop (mkF m 2 #[.val (.ref na), .unset] [(.int (1 : Int32))]))
  refine Gl.by (fun t_ k_ => XS.tswIn X.here hx rfl (pc0 := 2) (pc' := 34) rfl (hb hby d38_2) rfl (by decide) (o := 32) rfl (by decide) (by decide) k_) ?_
  show Gl p e below s _ _ _ (T.setTop (mkF m 34 #[.val (.ref na), .unset] []))
  obtain ⟨T, h2, X, eT, E2, A2, D2, -, st⟩ := newO X hx hZ hown (hw _ (List.mem_of_getElem? (i := 241) rfl)) (hw _ (List.mem_of_getElem? (i := 242) rfl)) (hw _ (List.mem_of_getElem? (i := 243) rfl)) eT (g := (mkF m 34 #[.val (.ref na), .unset] [])) rfl (hb hby d38_34) (by decide) (by decide)
  obtain ⟨li, g2⟩ : ∃ z, z = h0.size := ⟨_, rfl⟩
  rw [← g2] at A2 D2 st
  have sz2 := E2.1
  have lt2 : li < h2.size := A2.lt
  refine Gl.by st ?_
  have F2_e0 : Fld Z h2 li "java/util/ImmutableCollections$List12" "e0" "Ljava/lang/Object;" .null := D2 (Or.inr (hw _ (List.mem_of_getElem? (i := 267) rfl))) (ty := (.object "java/lang/Object")) (by decide)
  have F2_e1 : Fld Z h2 li "java/util/ImmutableCollections$List12" "e1" "Ljava/lang/Object;" .null := D2 (Or.inr (hw _ (List.mem_of_getElem? (i := 270) rfl))) (ty := (.object "java/lang/Object")) (by decide)
  show Gl p e below s _ _ _ (T.setTop (mkF m 37 #[.val (.ref na), .unset] [(.ref li)]))
  refine Gl.by (fun t_ k_ => XS.dup X.here hx rfl (hb hby d38_37) rfl rfl k_) ?_
  show Gl p e below s _ _ _ (T.setTop (mkF m 38 #[.val (.ref na), .unset] [(.ref li), (.ref li)]))
  refine Gl.by (fun t_ k_ => XS.aloadN X.here hx rfl (hb hby d38_38) rfl rfl k_) ?_
  show Gl p e below s _ _ _ (T.setTop (mkF m 39 #[.val (.ref na), .unset] [(.ref na), (.ref li), (.ref li)]))
  refine Gl.by (fun t_ k_ => XS.iconst X.here hx rfl (hb hby d38_39) k_) ?_
  show Gl p e below s _ _ _ (T.setTop (mkF m 40 #[.val (.ref na), .unset] [(.int (0 : Int32)), (.ref na), (.ref li), (.ref li)]))
  obtain ⟨cl3, Ar3, q3, S3, M3, H3, G3⟩ := (id ((V.ext E2)) : Arv Z h2 na kn (.object "java/lang/Object") (1 : Int32) [(.ref x)] .null)
  refine Gl.by (X.aaload hx (j := (0 : Int32)) (v := (.ref x)) (by rw [eT]; exact Ar3.1) (State.isArrayOf_alike hZ.alike Ar3.2.1) rfl Ar3.2.2 (inb_of S3 ⟨by decide, by decide⟩) (H3.at (inb_of S3 ⟨by decide, by decide⟩) rfl) (g := (mkF m 40 #[.val (.ref na), .unset] [(.int (0 : Int32)), (.ref na), (.ref li), (.ref li)])) rfl rfl (hb hby d38_40)) ?_
  show Gl p e below s _ _ _ (T.setTop (mkF m 41 #[.val (.ref na), .unset] [(.ref x), (.ref li), (.ref li)]))
  refine Gl.spec X hx hZ rfl hown (hw _ (List.mem_of_getElem? (i := 244) rfl)) (hw _ (List.mem_of_getElem? (i := 245) rfl)) (hw _ (List.mem_of_getElem? (i := 247) rfl)) (by decide) (W := 1) (backC (own_l12i l Z a0 hw li x dc el mr em h2 n0 (by omega) A2 F2_e0 F2_e1 (O.ext E2) K) hZ (hw _ (List.mem_of_getElem? (i := 247) rfl)) (hw _ (List.mem_of_getElem? (i := 243) rfl)) (by decide) (by decide)) eT (hb hby d38_41) (by rw [hml]; rfl) li [(.ref x)] [(.ref li)] (lenOf pd_8 rfl) rfl rfl (Nat.le_of_eq rfl) (by decide) (by decide) ?_
  intro v T L X hq
  obtain ⟨rfl, NQ, K4, Q4⟩ := hq
  have N := Fr.app N NQ
  obtain ⟨h4, eT⟩ : ∃ z, T.heap = z := ⟨_, rfl⟩
  rw [eT] at K4 Q4
  have sz4 := K4.1
  show Gl p e below s _ _ _ (T.setTop (mkF m 44 #[.val (.ref na), .unset] [(.ref li)]))
  refine Gl.retA X hx hlk hret rfl rfl (hb hby d38_44) (by decide) (by decide) ?_
  rw [eT]
  exact ⟨N, (((Keep.refl h0 []).ext E2).trans K4 (allS (Or.inr (by omega)) all0)), li, rfl, by omega, Q4⟩
set_option maxRecDepth 65536 in
set_option maxHeartbeats 40000000 in
theorem own_lof0 (l : Launch) (Z : State) (a0 : Array Value) (hw : ∀ d ∈ tables_1, d.before a0 Z = true) (dc el mr : Nat) (em : Value) (h0 : Heap) (n0 : Nat) (O : Old Z n0 h0) (K : ALok Z dc el mr em) :
    Ctr l Z (⟨"java/util/List", "of", "()Ljava/util/List;"⟩ : MethodName) jdk_40_method_36_code 0 (some (.object "java/util/List")) [] own_r0 #[] h0 (fun v h L => v = some (.ref el) ∧ L = [] ∧ h = h0) := by
  refine Ctr.intro (plainFor_of_name pn_8) #[] (fun m => by first | (simp [entryFrame, mkF, argsToLocals, Value.category]; done) | rfl) ?_
  intro p e s m below meth c T hx hby hml hown hnm hret hlk hZ hnamed X eT
  have hown : s.vm.findClass "java/util/List" = some m.cls := hown
  have N := Fr.nil n0
  show Gl p e below s _ _ _ (T.setTop (mkF m 0 #[] []))
  obtain ⟨T, X, eT, st⟩ := getS2 X hx hZ hown (host := "") (Or.inl (hw _ (List.mem_of_getElem? (i := 119) rfl))) Via.refl eT (K.2.2.1.ext O.2) (g := (mkF m 0 #[] [])) rfl (hb hby d20_0)
  refine Gl.by st ?_
  show Gl p e below s _ _ _ (T.setTop (mkF m 3 #[] [(.ref el)]))
  exact Gl.retA X hx hlk hret rfl rfl (hb hby d20_3) (by decide) (by decide) ⟨rfl, rfl, eT⟩
theorem own_no12 {Z : State} {a0 : Array Value} (hw : ∀ d ∈ tables_1, d.before a0 Z = true) : ∃ c t, Z.vm.findClass "java/util/ArrayList" = some c ∧ Z.vm.findClass "java/util/ImmutableCollections$List12" = some t ∧ Z.vm.assignable c t = false := by
  obtain ⟨t, kP, t1, t2, t3⟩ := noFace_inst (hw _ (List.mem_of_getElem? (i := 242) rfl))
  exact notAssign3 (hw _ (List.mem_of_getElem? (i := 103) rfl)) (hw _ (List.mem_of_getElem? (i := 102) rfl)) (hw _ (List.mem_of_getElem? (i := 101) rfl)) (hw _ (List.mem_of_getElem? (i := 100) rfl)) t1 t2 t3 (by decide) (by decide) (by decide) (by decide)
theorem own_noN {Z : State} {a0 : Array Value} (hw : ∀ d ∈ tables_1, d.before a0 Z = true) : ∃ c t, Z.vm.findClass "java/util/ArrayList" = some c ∧ Z.vm.findClass "java/util/ImmutableCollections$ListN" = some t ∧ Z.vm.assignable c t = false := by
  obtain ⟨t, kP, t1, t2, t3⟩ := noFace_sel (hw _ (List.mem_of_getElem? (i := 170) rfl))
  exact notAssign3 (hw _ (List.mem_of_getElem? (i := 103) rfl)) (hw _ (List.mem_of_getElem? (i := 102) rfl)) (hw _ (List.mem_of_getElem? (i := 101) rfl)) (hw _ (List.mem_of_getElem? (i := 100) rfl)) t1 t2 t3 (by decide) (by decide) (by decide) (by decide)
set_option maxRecDepth 65536 in
set_option maxHeartbeats 40000000 in
theorem own_lc0 (l : Launch) (Z : State) (a0 : Array Value) (hw : ∀ d ∈ tables_1, d.before a0 Z = true) (a ed : Nat) (mc : Int32) (dc el mr : Nat) (em : Value) (h0 : Heap) (n0 : Nat) (ha : Alo Z h0 a (.ref ed) 0 mc) (O : Old Z n0 h0) (K : ALok Z dc el mr em) :
    Ctr l Z (⟨"java/util/ImmutableCollections", "listCopy", "(Ljava/util/Collection;)Ljava/util/List;"⟩ : MethodName) jdk_56_method_3_code 2 (some (.object "java/util/List")) [] own_rLC #[(.ref a)] h0 (fun v h L => v = some (.ref el) ∧ Fr n0 L ∧ h = h0) := by
  refine Ctr.intro (plainFor_of_name pn_9) #[.val (.ref a), .unset] (fun m => by first | (simp [entryFrame, mkF, argsToLocals, Value.category]; done) | rfl) ?_
  intro p e s m below meth c T hx hby hml hown hnm hret hlk hZ hnamed X eT
  have hown : s.vm.findClass "java/util/ImmutableCollections" = some m.cls := hown
  have N := Fr.nil n0
  show Gl p e below s _ _ _ (T.setTop (mkF m 0 #[.val (.ref a), .unset] []))
  refine Gl.by (fun t_ k_ => XS.aloadN X.here hx rfl (hb hby d18_0) rfl rfl k_) ?_
  show Gl p e below s _ _ _ (T.setTop (mkF m 1 #[.val (.ref a), .unset] [(.ref a)]))
  obtain ⟨T, X, eT, st⟩ := instNo X hx hZ hown (hw _ (List.mem_of_getElem? (i := 99) rfl)) eT ha.1 (own_no12 hw) (g := (mkF m 1 #[.val (.ref a), .unset] [(.ref a)])) rfl rfl (hb hby d18_1)
  refine Gl.by st ?_
  show Gl p e below s _ _ _ (T.setTop (mkF m 4 #[.val (.ref a), .unset] [(.int (0 : Int32))]))
  refine Gl.by (fun t_ k_ => XS.ifNo X.here hx rfl (hb hby d18_4) rfl ((if0 _ _).trans (teq (rfl : (0 : Int32) = 0)).2) k_) ?_
  show Gl p e below s _ _ _ (T.setTop (mkF m 7 #[.val (.ref a), .unset] []))
  refine Gl.by (fun t_ k_ => XS.aloadN X.here hx rfl (hb hby d18_7) rfl rfl k_) ?_
  show Gl p e below s _ _ _ (T.setTop (mkF m 8 #[.val (.ref a), .unset] [(.ref a)]))
  obtain ⟨T, X, eT, st⟩ := instNo X hx hZ hown (hw _ (List.mem_of_getElem? (i := 104) rfl)) eT ha.1 (own_noN hw) (g := (mkF m 8 #[.val (.ref a), .unset] [(.ref a)])) rfl rfl (hb hby d18_8)
  refine Gl.by st ?_
  show Gl p e below s _ _ _ (T.setTop (mkF m 11 #[.val (.ref a), .unset] [(.int (0 : Int32))]))
  refine Gl.by (fun t_ k_ => XS.ifYes X.here hx rfl (pc0 := 11) (pc' := 31) rfl (hb hby d18_11) rfl ((if0 _ _).trans (teq (rfl : (0 : Int32) = 0)).1) (by decide) (by decide) k_) ?_
  show Gl p e below s _ _ _ (T.setTop (mkF m 31 #[.val (.ref a), .unset] []))
  refine Gl.by (fun t_ k_ => XS.aloadN X.here hx rfl (hb hby d18_31) rfl rfl k_) ?_
  show Gl p e below s _ _ _ (T.setTop (mkF m 32 #[.val (.ref a), .unset] [(.ref a)]))
  refine Gl.face X hx hZ hown (hw _ (List.mem_of_getElem? (i := 105) rfl)) (hw _ (List.mem_of_getElem? (i := 106) rfl)) (mvT hZ (hw _ (List.mem_of_getElem? (i := 107) rfl))) (hw _ (List.mem_of_getElem? (i := 108) rfl)) (hw _ (List.mem_of_getElem? (i := 109) rfl)) (hw _ (List.mem_of_getElem? (i := 110) rfl)) (hw _ (List.mem_of_getElem? (i := 111) rfl)) (hw _ (List.mem_of_getElem? (i := 112) rfl)) (by decide) ha.1 (W := 0) (backC (own_alie l Z a0 hw a 0 h0 n0 ha.2.2.1) hZ (hw _ (List.mem_of_getElem? (i := 113) rfl)) (hw _ (List.mem_of_getElem? (i := 62) rfl)) (by decide) (by decide)) eT (hb hby d18_32) (by rw [hml]; rfl) [] [] (lenOf pd_9 rfl) rfl rfl (Nat.le_of_eq rfl) (by decide) (by decide) ?_
  intro v T L X hq
  obtain ⟨rfl, rfl, eT⟩ := hq
  have N := Fr.app N (Fr.nil n0)
  show Gl p e below s _ _ _ (T.setTop (mkF m 37 #[.val (.ref a), .unset] [(.int (1 : Int32))]))
  refine Gl.by (fun t_ k_ => XS.ifNo X.here hx rfl (hb hby d18_37) rfl ((if0 _ _).trans (feq (by decide : ¬ (1 : Int32) = 0)).1) k_) ?_
  show Gl p e below s _ _ _ (T.setTop (mkF m 40 #[.val (.ref a), .unset] []))
  refine Gl.stat X hx hZ hown (hw _ (List.mem_of_getElem? (i := 116) rfl)) (hw _ (List.mem_of_getElem? (i := 117) rfl)) (hw _ (List.mem_of_getElem? (i := 93) rfl)) (hw _ (List.mem_of_getElem? (i := 118) rfl)) (by decide) (W := 0) (backC (own_lof0 l Z a0 hw dc el mr em h0 n0 O K) hZ (hw _ (List.mem_of_getElem? (i := 118) rfl)) (hw _ (List.mem_of_getElem? (i := 93) rfl)) (by decide) (by decide)) eT (hb hby d18_40) (by rw [hml]; rfl) [] [] (lenOf pd_10 rfl) rfl rfl (Nat.le_of_eq rfl) (by decide) (by decide) ?_
  intro v T L X hq
  obtain ⟨rfl, rfl, eT⟩ := hq
  have N := Fr.app N (Fr.nil n0)
  show Gl p e below s _ _ _ (T.setTop (mkF m 43 #[.val (.ref a), .unset] [(.ref el)]))
  exact Gl.retA X hx hlk hret rfl rfl (hb hby d18_43) (by decide) (by decide) ⟨rfl, N, eT⟩
set_option maxRecDepth 65536 in
set_option maxHeartbeats 40000000 in
theorem own_lc1 (l : Launch) (Z : State) (a0 : Array Value) (hw : ∀ d ∈ tables_1, d.before a0 Z = true) (a : Nat) (mc : Int32) (ed x : Nat) (k : ClassId) (dc el mr : Nat) (em : Value) (h0 : Heap) (n0 : Nat) (ha : Alo Z h0 a (.ref ed) 1 mc) (Z0 : n0 ≤ h0.size) (V : Arv Z h0 ed k (.object "java/lang/Object") 10 [(.ref x), .null, .null, .null, .null, .null, .null, .null, .null, .null] .null) (Ed : Exa Z h0 ed "[Ljava/lang/Object;") (Ex : Exa Z h0 x "com/example/intentio/intentio/hddl/Term$Variable") (O : Old Z n0 h0) (K : ALok Z dc el mr em) :
    Ctr l Z (⟨"java/util/ImmutableCollections", "listCopy", "(Ljava/util/Collection;)Ljava/util/List;"⟩ : MethodName) jdk_56_method_3_code 2 (some (.object "java/util/List")) [] own_rLC #[(.ref a)] h0 (fun v h L => Fr n0 L ∧ Keep h0 h [] ∧ ∃ li : Nat, v = some (.ref li) ∧ h0.size ≤ li ∧ Exa Z h li "java/util/ImmutableCollections$List12" ∧ Fld Z h li "java/util/ImmutableCollections$List12" "e0" "Ljava/lang/Object;" (.ref x) ∧ Fld Z h li "java/util/ImmutableCollections$List12" "e1" "Ljava/lang/Object;" em) := by
  refine Ctr.intro (plainFor_of_name pn_9) #[.val (.ref a), .unset] (fun m => by first | (simp [entryFrame, mkF, argsToLocals, Value.category]; done) | rfl) ?_
  intro p e s m below meth c T hx hby hml hown hnm hret hlk hZ hnamed X eT
  have hown : s.vm.findClass "java/util/ImmutableCollections" = some m.cls := hown
  have N := Fr.nil n0
  show Gl p e below s _ _ _ (T.setTop (mkF m 0 #[.val (.ref a), .unset] []))
  refine Gl.by (fun t_ k_ => XS.aloadN X.here hx rfl (hb hby d18_0) rfl rfl k_) ?_
  show Gl p e below s _ _ _ (T.setTop (mkF m 1 #[.val (.ref a), .unset] [(.ref a)]))
  obtain ⟨T, X, eT, st⟩ := instNo X hx hZ hown (hw _ (List.mem_of_getElem? (i := 99) rfl)) eT ha.1 (own_no12 hw) (g := (mkF m 1 #[.val (.ref a), .unset] [(.ref a)])) rfl rfl (hb hby d18_1)
  refine Gl.by st ?_
  show Gl p e below s _ _ _ (T.setTop (mkF m 4 #[.val (.ref a), .unset] [(.int (0 : Int32))]))
  refine Gl.by (fun t_ k_ => XS.ifNo X.here hx rfl (hb hby d18_4) rfl ((if0 _ _).trans (teq (rfl : (0 : Int32) = 0)).2) k_) ?_
  show Gl p e below s _ _ _ (T.setTop (mkF m 7 #[.val (.ref a), .unset] []))
  refine Gl.by (fun t_ k_ => XS.aloadN X.here hx rfl (hb hby d18_7) rfl rfl k_) ?_
  show Gl p e below s _ _ _ (T.setTop (mkF m 8 #[.val (.ref a), .unset] [(.ref a)]))
  obtain ⟨T, X, eT, st⟩ := instNo X hx hZ hown (hw _ (List.mem_of_getElem? (i := 104) rfl)) eT ha.1 (own_noN hw) (g := (mkF m 8 #[.val (.ref a), .unset] [(.ref a)])) rfl rfl (hb hby d18_8)
  refine Gl.by st ?_
  show Gl p e below s _ _ _ (T.setTop (mkF m 11 #[.val (.ref a), .unset] [(.int (0 : Int32))]))
  refine Gl.by (fun t_ k_ => XS.ifYes X.here hx rfl (pc0 := 11) (pc' := 31) rfl (hb hby d18_11) rfl ((if0 _ _).trans (teq (rfl : (0 : Int32) = 0)).1) (by decide) (by decide) k_) ?_
  show Gl p e below s _ _ _ (T.setTop (mkF m 31 #[.val (.ref a), .unset] []))
  refine Gl.by (fun t_ k_ => XS.aloadN X.here hx rfl (hb hby d18_31) rfl rfl k_) ?_
  show Gl p e below s _ _ _ (T.setTop (mkF m 32 #[.val (.ref a), .unset] [(.ref a)]))
  refine Gl.face X hx hZ hown (hw _ (List.mem_of_getElem? (i := 105) rfl)) (hw _ (List.mem_of_getElem? (i := 106) rfl)) (mvT hZ (hw _ (List.mem_of_getElem? (i := 107) rfl))) (hw _ (List.mem_of_getElem? (i := 108) rfl)) (hw _ (List.mem_of_getElem? (i := 109) rfl)) (hw _ (List.mem_of_getElem? (i := 110) rfl)) (hw _ (List.mem_of_getElem? (i := 111) rfl)) (hw _ (List.mem_of_getElem? (i := 112) rfl)) (by decide) ha.1 (W := 0) (backC (own_alie l Z a0 hw a 1 h0 n0 ha.2.2.1) hZ (hw _ (List.mem_of_getElem? (i := 113) rfl)) (hw _ (List.mem_of_getElem? (i := 62) rfl)) (by decide) (by decide)) eT (hb hby d18_32) (by rw [hml]; rfl) [] [] (lenOf pd_9 rfl) rfl rfl (Nat.le_of_eq rfl) (by decide) (by decide) ?_
  intro v T L X hq
  obtain ⟨rfl, rfl, eT⟩ := hq
  have N := Fr.app N (Fr.nil n0)
  show Gl p e below s _ _ _ (T.setTop (mkF m 37 #[.val (.ref a), .unset] [(.int (0 : Int32))]))
  refine Gl.by (fun t_ k_ => XS.ifYes X.here hx rfl (pc0 := 37) (pc' := 44) rfl (hb hby d18_37) rfl ((if0 _ _).trans (teq (rfl : (0 : Int32) = 0)).1) (by decide) (by decide) k_) ?_
  show Gl p e below s _ _ _ (T.setTop (mkF m 44 #[.val (.ref a), .unset] []))
  refine Gl.by (fun t_ k_ => XS.aloadN X.here hx rfl (hb hby d18_44) rfl rfl k_) ?_
  show Gl p e below s _ _ _ (T.setTop (mkF m 45 #[.val (.ref a), .unset] [(.ref a)]))
  refine Gl.face X hx hZ hown (hw _ (List.mem_of_getElem? (i := 208) rfl)) (hw _ (List.mem_of_getElem? (i := 209) rfl)) (mvT hZ (hw _ (List.mem_of_getElem? (i := 210) rfl))) (hw _ (List.mem_of_getElem? (i := 211) rfl)) (hw _ (List.mem_of_getElem? (i := 212) rfl)) (hw _ (List.mem_of_getElem? (i := 213) rfl)) (hw _ (List.mem_of_getElem? (i := 214) rfl)) (hw _ (List.mem_of_getElem? (i := 112) rfl)) (by decide) ha.1 (W := 0) (backC (own_toarr l Z a0 hw a mc ed x k dc el mr em h0 n0 ha Z0 V Ed Ex O K) hZ (hw _ (List.mem_of_getElem? (i := 215) rfl)) (hw _ (List.mem_of_getElem? (i := 62) rfl)) (by decide) (by decide)) eT (hb hby d18_45) (by rw [hml]; rfl) [] [] (lenOf pd_3 rfl) rfl rfl (Nat.le_of_eq rfl) (by decide) (by decide) ?_
  intro v T L X hq
  obtain ⟨NQ, K1, na, kn, rfl, ge, V1⟩ := hq
  have N := Fr.app N NQ
  obtain ⟨h1, eT⟩ : ∃ z, T.heap = z := ⟨_, rfl⟩
  rw [eT] at K1 V1
  have sz1 := K1.1
  show Gl p e below s _ _ _ (T.setTop (mkF m 50 #[.val (.ref a), .unset] [(.ref na)]))
  refine Gl.stat X hx hZ hown (hw _ (List.mem_of_getElem? (i := 238) rfl)) (hw _ (List.mem_of_getElem? (i := 239) rfl)) (hw _ (List.mem_of_getElem? (i := 93) rfl)) (hw _ (List.mem_of_getElem? (i := 240) rfl)) (by decide) (W := 0) (backC (own_lof1 l Z a0 hw na x kn dc el mr em h1 n0 (by omega) V1 (O.keep K1 all0) K) hZ (hw _ (List.mem_of_getElem? (i := 240) rfl)) (hw _ (List.mem_of_getElem? (i := 93) rfl)) (by decide) (by decide)) eT (hb hby d18_50) (by rw [hml]; rfl) [(.ref na)] [] (lenOf pd_11 rfl) rfl rfl (Nat.le_of_eq rfl) (by decide) (by decide) ?_
  intro v T L X hq
  obtain ⟨NQ, K2, li, rfl, gl, Q2⟩ := hq
  have N := Fr.app N NQ
  obtain ⟨h2, eT⟩ : ∃ z, T.heap = z := ⟨_, rfl⟩
  rw [eT] at K2 Q2
  have sz2 := K2.1
  show Gl p e below s _ _ _ (T.setTop (mkF m 53 #[.val (.ref a), .unset] [(.ref li)]))
  refine Gl.retA X hx hlk hret rfl rfl (hb hby d18_53) (by decide) (by decide) ?_
  rw [eT]
  exact ⟨N, (((Keep.refl h0 []).trans K1 all0).trans K2 all0), li, rfl, by omega, Q2⟩
set_option maxRecDepth 65536 in
set_option maxHeartbeats 40000000 in
theorem own_co0 (l : Launch) (Z : State) (a0 : Array Value) (hw : ∀ d ∈ tables_1, d.before a0 Z = true) (a ed : Nat) (mc : Int32) (dc el mr : Nat) (em : Value) (h0 : Heap) (n0 : Nat) (ha : Alo Z h0 a (.ref ed) 0 mc) (O : Old Z n0 h0) (K : ALok Z dc el mr em) :
    Ctr l Z (⟨"java/util/List", "copyOf", "(Ljava/util/Collection;)Ljava/util/List;"⟩ : MethodName) jdk_40_method_48_code 1 (some (.object "java/util/List")) [] own_rCO #[(.ref a)] h0 (fun v h L => v = some (.ref el) ∧ Fr n0 L ∧ h = h0) := by
  refine Ctr.intro (plainFor_of_name pn_8) #[.val (.ref a)] (fun m => by first | (simp [entryFrame, mkF, argsToLocals, Value.category]; done) | rfl) ?_
  intro p e s m below meth c T hx hby hml hown hnm hret hlk hZ hnamed X eT
  have hown : s.vm.findClass "java/util/List" = some m.cls := hown
  have N := Fr.nil n0
  show Gl p e below s _ _ _ (T.setTop (mkF m 0 #[.val (.ref a)] []))
  refine Gl.by (fun t_ k_ => XS.aloadN X.here hx rfl (hb hby d17_0) rfl rfl k_) ?_
  show Gl p e below s _ _ _ (T.setTop (mkF m 1 #[.val (.ref a)] [(.ref a)]))
  refine Gl.stat X hx hZ hown (hw _ (List.mem_of_getElem? (i := 95) rfl)) (hw _ (List.mem_of_getElem? (i := 96) rfl)) (hw _ (List.mem_of_getElem? (i := 97) rfl)) (hw _ (List.mem_of_getElem? (i := 98) rfl)) (by decide) (W := 0) (backC (own_lc0 l Z a0 hw a ed mc dc el mr em h0 n0 ha O K) hZ (hw _ (List.mem_of_getElem? (i := 98) rfl)) (hw _ (List.mem_of_getElem? (i := 97) rfl)) (by decide) (by decide)) eT (hb hby d17_1) (by rw [hml]; rfl) [(.ref a)] [] (lenOf pd_12 rfl) rfl rfl (Nat.le_of_eq rfl) (by decide) (by decide) ?_
  intro v T L X hq
  obtain ⟨rfl, NQ, eT⟩ := hq
  have N := Fr.app N NQ
  show Gl p e below s _ _ _ (T.setTop (mkF m 4 #[.val (.ref a)] [(.ref el)]))
  exact Gl.retA X hx hlk hret rfl rfl (hb hby d17_4) (by decide) (by decide) ⟨rfl, N, eT⟩
set_option maxRecDepth 65536 in
set_option maxHeartbeats 40000000 in
theorem own_co1 (l : Launch) (Z : State) (a0 : Array Value) (hw : ∀ d ∈ tables_1, d.before a0 Z = true) (a : Nat) (mc : Int32) (ed x : Nat) (k : ClassId) (dc el mr : Nat) (em : Value) (h0 : Heap) (n0 : Nat) (ha : Alo Z h0 a (.ref ed) 1 mc) (Z0 : n0 ≤ h0.size) (V : Arv Z h0 ed k (.object "java/lang/Object") 10 [(.ref x), .null, .null, .null, .null, .null, .null, .null, .null, .null] .null) (Ed : Exa Z h0 ed "[Ljava/lang/Object;") (Ex : Exa Z h0 x "com/example/intentio/intentio/hddl/Term$Variable") (O : Old Z n0 h0) (K : ALok Z dc el mr em) :
    Ctr l Z (⟨"java/util/List", "copyOf", "(Ljava/util/Collection;)Ljava/util/List;"⟩ : MethodName) jdk_40_method_48_code 1 (some (.object "java/util/List")) [] own_rCO #[(.ref a)] h0 (fun v h L => Fr n0 L ∧ Keep h0 h [] ∧ ∃ li : Nat, v = some (.ref li) ∧ h0.size ≤ li ∧ Exa Z h li "java/util/ImmutableCollections$List12" ∧ Fld Z h li "java/util/ImmutableCollections$List12" "e0" "Ljava/lang/Object;" (.ref x) ∧ Fld Z h li "java/util/ImmutableCollections$List12" "e1" "Ljava/lang/Object;" em) := by
  refine Ctr.intro (plainFor_of_name pn_8) #[.val (.ref a)] (fun m => by first | (simp [entryFrame, mkF, argsToLocals, Value.category]; done) | rfl) ?_
  intro p e s m below meth c T hx hby hml hown hnm hret hlk hZ hnamed X eT
  have hown : s.vm.findClass "java/util/List" = some m.cls := hown
  have N := Fr.nil n0
  show Gl p e below s _ _ _ (T.setTop (mkF m 0 #[.val (.ref a)] []))
  refine Gl.by (fun t_ k_ => XS.aloadN X.here hx rfl (hb hby d17_0) rfl rfl k_) ?_
  show Gl p e below s _ _ _ (T.setTop (mkF m 1 #[.val (.ref a)] [(.ref a)]))
  refine Gl.stat X hx hZ hown (hw _ (List.mem_of_getElem? (i := 95) rfl)) (hw _ (List.mem_of_getElem? (i := 96) rfl)) (hw _ (List.mem_of_getElem? (i := 97) rfl)) (hw _ (List.mem_of_getElem? (i := 98) rfl)) (by decide) (W := 0) (backC (own_lc1 l Z a0 hw a mc ed x k dc el mr em h0 n0 ha Z0 V Ed Ex O K) hZ (hw _ (List.mem_of_getElem? (i := 98) rfl)) (hw _ (List.mem_of_getElem? (i := 97) rfl)) (by decide) (by decide)) eT (hb hby d17_1) (by rw [hml]; rfl) [(.ref a)] [] (lenOf pd_12 rfl) rfl rfl (Nat.le_of_eq rfl) (by decide) (by decide) ?_
  intro v T L X hq
  obtain ⟨NQ, K1, li, rfl, Q1⟩ := hq
  have N := Fr.app N NQ
  obtain ⟨h1, eT⟩ : ∃ z, T.heap = z := ⟨_, rfl⟩
  rw [eT] at K1 Q1
  have sz1 := K1.1
  show Gl p e below s _ _ _ (T.setTop (mkF m 4 #[.val (.ref a)] [(.ref li)]))
  refine Gl.retA X hx hlk hret rfl rfl (hb hby d17_4) (by decide) (by decide) ?_
  rw [eT]
  exact ⟨N, K1, li, rfl, Q1⟩
set_option maxRecDepth 65536 in
set_option maxHeartbeats 40000000 in
theorem own_lns (l : Launch) (Z : State) (a0 : Array Value) (hw : ∀ d ∈ tables_1, d.before a0 Z = true) (dc el mr : Nat) (em : Value) (h0 : Heap) (n0 : Nat) (O : Old Z n0 h0) (K : ALok Z dc el mr em) :
    Ctr l Z (⟨"java/util/ImmutableCollections$ListN", "size", "()I"⟩ : MethodName) jdk_45_method_3_code 1 (some .int) [] own_r0 #[(.ref el)] h0 (fun v h L => v = some (.int 0) ∧ L = [] ∧ h = h0) := by
  refine Ctr.intro (plainFor_of_name pn_10) #[.val (.ref el)] (fun m => by first | (simp [entryFrame, mkF, argsToLocals, Value.category]; done) | rfl) ?_
  intro p e s m below meth c T hx hby hml hown hnm hret hlk hZ hnamed X eT
  have hown : s.vm.findClass "java/util/ImmutableCollections$ListN" = some m.cls := hown
  have N := Fr.nil n0
  obtain ⟨ea, ke, Fe, Ve⟩ := K.2.2.2.2.1
  show Gl p e below s _ _ _ (T.setTop (mkF m 0 #[.val (.ref el)] []))
  refine Gl.by (fun t_ k_ => XS.aloadN X.here hx rfl (hb hby d28_0) rfl rfl k_) ?_
  show Gl p e below s _ _ _ (T.setTop (mkF m 1 #[.val (.ref el)] [(.ref el)]))
  obtain ⟨T, X, eT, st⟩ := getF X hx hZ hown (host := "") (Or.inl (hw _ (List.mem_of_getElem? (i := 177) rfl))) Via.refl eT (Fe.ext O.2) (g := (mkF m 1 #[.val (.ref el)] [(.ref el)])) rfl rfl (hb hby d28_1)
  refine Gl.by st ?_
  show Gl p e below s _ _ _ (T.setTop (mkF m 4 #[.val (.ref el)] [(.ref ea)]))
  obtain ⟨cl1, Ar1, q1, S1, M1, H1, G1⟩ := (id ((Ve.ext O.2)) : Arv Z h0 ea ke (.object "java/lang/Object") (0 : Int32) [] .null)
  refine Gl.by (X.arraylength hx (by rw [eT]; exact Ar1.1) (State.isArrayOf_alike hZ.alike Ar1.2.1) (g := (mkF m 4 #[.val (.ref el)] [(.ref ea)])) rfl rfl (hb hby d28_4)) ?_
  rw [len_of S1 M1]
  show Gl p e below s _ _ _ (T.setTop (mkF m 5 #[.val (.ref el)] [(.int (0 : Int32))]))
  exact Gl.retI X hx hlk hret (hb hby d28_5) (by decide) (by decide) ⟨rfl, rfl, eT⟩
set_option maxRecDepth 65536 in
set_option maxHeartbeats 40000000 in
theorem own_l12s (l : Launch) (Z : State) (a0 : Array Value) (hw : ∀ d ∈ tables_1, d.before a0 Z = true) (li : Nat) (dc el mr : Nat) (em : Value) (h0 : Heap) (n0 : Nat) (F : Fld Z h0 li "java/util/ImmutableCollections$List12" "e1" "Ljava/lang/Object;" em) (O : Old Z n0 h0) (K : ALok Z dc el mr em) :
    Ctr l Z (⟨"java/util/ImmutableCollections$List12", "size", "()I"⟩ : MethodName) jdk_44_method_3_code 1 (some .int) [] own_r0 #[(.ref li)] h0 (fun v h L => v = some (.int 1) ∧ L = [] ∧ h = h0) := by
  refine Ctr.intro (plainFor_of_name pn_7) #[.val (.ref li)] (fun m => by first | (simp [entryFrame, mkF, argsToLocals, Value.category]; done) | rfl) ?_
  intro p e s m below meth c T hx hby hml hown hnm hret hlk hZ hnamed X eT
  have hown : s.vm.findClass "java/util/ImmutableCollections$List12" = some m.cls := hown
  have N := Fr.nil n0
  have hem := K.2.2.2.2.2.2.1
  show Gl p e below s _ _ _ (T.setTop (mkF m 0 #[.val (.ref li)] []))
  refine Gl.by (fun t_ k_ => XS.aloadN X.here hx rfl (hb hby d43_0) rfl rfl k_) ?_
  show Gl p e below s _ _ _ (T.setTop (mkF m 1 #[.val (.ref li)] [(.ref li)]))
  obtain ⟨T, X, eT, st⟩ := getF X hx hZ hown (host := "") (Or.inl (hw _ (List.mem_of_getElem? (i := 269) rfl))) Via.refl eT F (g := (mkF m 1 #[.val (.ref li)] [(.ref li)])) rfl rfl (hb hby d43_1)
  refine Gl.by st ?_
  show Gl p e below s _ _ _ (T.setTop (mkF m 4 #[.val (.ref li)] [em]))
  obtain ⟨T, X, eT, st⟩ := getS2 X hx hZ hown (Or.inr (hw _ (List.mem_of_getElem? (i := 268) rfl))) Via.refl eT (K.2.2.2.2.2.1.ext O.2) (g := (mkF m 4 #[.val (.ref li)] [em])) rfl (hb hby d43_4)
  refine Gl.by st ?_
  show Gl p e below s _ _ _ (T.setTop (mkF m 7 #[.val (.ref li)] [em, em]))
  refine Gl.by (fun t_ k_ => Jvm.RoadKit.acmp (g := (mkF m 7 #[.val (.ref li)] [em, em])) X hx rfl hem hem (pc0 := 7) (pc' := 14) (same := true) rfl (hb hby d43_7) rfl (decide_eq_true rfl) (by decide) (by decide) k_) ?_
  show Gl p e below s _ _ _ (T.setTop (mkF m 14 #[.val (.ref li)] []))
  refine Gl.by (fun t_ k_ => XS.iconst X.here hx rfl (hb hby d43_14) k_) ?_
  show Gl p e below s _ _ _ (T.setTop (mkF m 15 #[.val (.ref li)] [(.int (1 : Int32))]))
  exact Gl.retI X hx hlk hret (hb hby d43_15) (by decide) (by decide) ⟨rfl, rfl, eT⟩
set_option maxRecDepth 65536 in
set_option maxHeartbeats 40000000 in
theorem own_l12g (l : Launch) (Z : State) (a0 : Array Value) (hw : ∀ d ∈ tables_1, d.before a0 Z = true) (li x : Nat) (h0 : Heap) (n0 : Nat) (F : Fld Z h0 li "java/util/ImmutableCollections$List12" "e0" "Ljava/lang/Object;" (.ref x)) :
    Ctr l Z (⟨"java/util/ImmutableCollections$List12", "get", "(I)Ljava/lang/Object;"⟩ : MethodName) jdk_44_method_5_code 2 (some (.object "java/lang/Object")) [] own_r0 #[(.ref li), (.int (0 : Int32))] h0 (fun v h L => v = some (.ref x) ∧ L = [] ∧ h = h0) := by
  refine Ctr.intro (plainFor_of_name pn_7) #[.val (.ref li), .val (.int (0 : Int32))] (fun m => by first | (simp [entryFrame, mkF, argsToLocals, Value.category]; done) | rfl) ?_
  intro p e s m below meth c T hx hby hml hown hnm hret hlk hZ hnamed X eT
  have hown : s.vm.findClass "java/util/ImmutableCollections$List12" = some m.cls := hown
  have N := Fr.nil n0
  show Gl p e below s _ _ _ (T.setTop (mkF m 0 #[.val (.ref li), .val (.int (0 : Int32))] []))
  refine Gl.by (fun t_ k_ => XS.iloadN X.here hx rfl (hb hby d44_0) rfl k_) ?_
  show Gl p e below s _ _ _ (T.setTop (mkF m 1 #[.val (.ref li), .val (.int (0 : Int32))] [(.int (0 : Int32))]))
  refine Gl.by (fun t_ k_ => XS.ifNo X.here hx rfl (hb hby d44_1) rfl ((if0 _ _).trans (teq (rfl : (0 : Int32) = 0)).2) k_) ?_
  show Gl p e below s _ _ _ (T.setTop (mkF m 4 #[.val (.ref li), .val (.int (0 : Int32))] []))
  refine Gl.by (fun t_ k_ => XS.aloadN X.here hx rfl (hb hby d44_4) rfl rfl k_) ?_
  show Gl p e below s _ _ _ (T.setTop (mkF m 5 #[.val (.ref li), .val (.int (0 : Int32))] [(.ref li)]))
  obtain ⟨T, X, eT, st⟩ := getF X hx hZ hown (host := "") (Or.inl (hw _ (List.mem_of_getElem? (i := 266) rfl))) Via.refl eT F (g := (mkF m 5 #[.val (.ref li), .val (.int (0 : Int32))] [(.ref li)])) rfl rfl (hb hby d44_5)
  refine Gl.by st ?_
  show Gl p e below s _ _ _ (T.setTop (mkF m 8 #[.val (.ref li), .val (.int (0 : Int32))] [(.ref x)]))
  exact Gl.retA X hx hlk hret rfl rfl (hb hby d44_8) (by decide) (by decide) ⟨rfl, rfl, eT⟩
set_option maxRecDepth 65536 in
set_option maxHeartbeats 40000000 in
theorem own_cenc (l : Launch) (Z : State) (a0 : Array Value) (hw : ∀ d ∈ tables_1, d.before a0 Z = true) (ch : Int32) (h0 : Heap) (n0 : Nat) (hc2 : ¬ (255 : Int32) < ch) :
    Ctr l Z (⟨"java/lang/StringLatin1", "canEncode", "(C)Z"⟩ : MethodName) jdk_43_method_3_code 1 (some .boolean) [] own_r0 #[(.int ch)] h0 (fun v h L => v = some (.int 1) ∧ L = [] ∧ h = h0) := by
  refine Ctr.intro (plainFor_of_name pn_11) #[.val (.int ch)] (fun m => by first | (simp [entryFrame, mkF, argsToLocals, Value.category]; done) | rfl) ?_
  intro p e s m below meth c T hx hby hml hown hnm hret hlk hZ hnamed X eT
  have hown : s.vm.findClass "java/lang/StringLatin1" = some m.cls := hown
  have N := Fr.nil n0
  show Gl p e below s _ _ _ (T.setTop (mkF m 0 #[.val (.int ch)] []))
  refine Gl.by (fun t_ k_ => XS.iloadN X.here hx rfl (hb hby d8_0) rfl k_) ?_
  show Gl p e below s _ _ _ (T.setTop (mkF m 1 #[.val (.int ch)] [(.int ch)]))
  refine Gl.by (fun t_ k_ => XS.sipush X.here hx rfl (hb hby d8_1) k_) ?_
  show Gl p e below s _ _ _ (T.setTop (mkF m 4 #[.val (.int ch)] [(.int (255 : Int32)), (.int ch)]))
  refine Gl.by (fun t_ k_ => XS.icmpNo X.here hx rfl (hb hby d8_4) rfl (flt hc2).2.2.1 k_) ?_
  show Gl p e below s _ _ _ (T.setTop (mkF m 7 #[.val (.int ch)] []))
  refine Gl.by (fun t_ k_ => XS.iconst X.here hx rfl (hb hby d8_7) k_) ?_
  show Gl p e below s _ _ _ (T.setTop (mkF m 8 #[.val (.int ch)] [(.int (1 : Int32))]))
  refine Gl.by (fun t_ k_ => XS.goto X.here hx rfl (pc0 := 8) (pc' := 12) rfl (hb hby d8_8) (by decide) (by decide) k_) ?_
  show Gl p e below s _ _ _ (T.setTop (mkF m 12 #[.val (.int ch)] [(.int (1 : Int32))]))
  exact Gl.retZ X hx hlk hret (by simp) (hb hby d8_12) (by decide) (by decide) ⟨rfl, rfl, eT⟩
abbrev own_rTB : Room := { frames := 0, cells := 1, slots := 1, locals := 0 }
abbrev own_rVO : Room := { frames := 2, cells := 2, slots := 5, locals := 44 }
abbrev own_rAT : Room := { frames := 8, cells := 2, slots := 3, locals := 160 }
abbrev own_rCP : Room := { frames := 3, cells := 1, slots := 2, locals := 54 }
set_option maxRecDepth 65536 in
set_option maxHeartbeats 40000000 in
theorem own_tob (l : Launch) (Z : State) (a0 : Array Value) (hw : ∀ d ∈ tables_1, d.before a0 Z = true) (ch : Int32) (h0 : Heap) (n0 : Nat) (Z0 : n0 ≤ h0.size) :
    Ctr l Z (⟨"java/lang/StringLatin1", "toBytes", "(C)[B"⟩ : MethodName) jdk_43_method_46_code 1 (some (.array .byte)) [] own_rTB #[(.int ch)] h0 (fun v h L => Fr n0 L ∧ Keep h0 h [] ∧ ∃ bb : Nat, v = some (.ref bb) ∧ h0.size ≤ bb) := by
  refine Ctr.intro (plainFor_of_name pn_11) #[.val (.int ch)] (fun m => by first | (simp [entryFrame, mkF, argsToLocals, Value.category]; done) | rfl) ?_
  intro p e s m below meth c T hx hby hml hown hnm hret hlk hZ hnamed X eT
  have hown : s.vm.findClass "java/lang/StringLatin1" = some m.cls := hown
  have N := Fr.nil n0
  show Gl p e below s _ _ _ (T.setTop (mkF m 0 #[.val (.int ch)] []))
  refine Gl.by (fun t_ k_ => XS.iconst X.here hx rfl (hb hby d9_0) k_) ?_
  show Gl p e below s _ _ _ (T.setTop (mkF m 1 #[.val (.int ch)] [(.int (1 : Int32))]))
  obtain ⟨T, h1, k1, X, eT, E1, A1, st⟩ := newP X hx hZ (hw _ (List.mem_of_getElem? (i := 19) rfl)) eT (g := (mkF m 1 #[.val (.int ch)] [(.int (1 : Int32))])) rfl (hb hby d9_1) rfl (by decide) (cap := 1) (by decide) (by decide) (by decide) (by decide)
  obtain ⟨bb, g1⟩ : ∃ z, z = h0.size := ⟨_, rfl⟩
  rw [← g1] at A1 st
  have sz1 := E1.1
  have lt1 : bb < h1.size := A1.lt
  have V1 : Arv Z h1 bb k1 .byte (1 : Int32) [(.int (0 : Int32))] (.int (0 : Int32)) := (Arv.new A1 (by decide)).pad (pad_rep [] (.int (0 : Int32)) 1)
  refine Gl.by st ?_
  show Gl p e below s _ _ _ (T.setTop (mkF m 3 #[.val (.int ch)] [(.ref bb)]))
  refine Gl.by (fun t_ k_ => XS.dup X.here hx rfl (hb hby d9_3) rfl rfl k_) ?_
  show Gl p e below s _ _ _ (T.setTop (mkF m 4 #[.val (.int ch)] [(.ref bb), (.ref bb)]))
  refine Gl.by (fun t_ k_ => XS.iconst X.here hx rfl (hb hby d9_4) k_) ?_
  show Gl p e below s _ _ _ (T.setTop (mkF m 5 #[.val (.int ch)] [(.int (0 : Int32)), (.ref bb), (.ref bb)]))
  refine Gl.by (fun t_ k_ => XS.iloadN X.here hx rfl (hb hby d9_5) rfl k_) ?_
  show Gl p e below s _ _ _ (T.setTop (mkF m 6 #[.val (.int ch)] [(.int ch), (.int (0 : Int32)), (.ref bb), (.ref bb)]))
  refine Gl.by (fun t_ k_ => XS.i2b X.here hx rfl (hb hby d9_6) rfl k_) ?_
  show Gl p e below s _ _ _ (T.setTop (mkF m 7 #[.val (.int ch)] [(.int (ch.toInt8.toInt32)), (.int (0 : Int32)), (.ref bb), (.ref bb)]))
  obtain ⟨cl2, Ar2, q2, S2, M2, H2, G2⟩ := (id (V1) : Arv Z h1 bb k1 .byte (1 : Int32) [(.int (0 : Int32))] (.int (0 : Int32)))
  obtain ⟨T, h2, X, eT, W2, st⟩ := stB X hx hZ eT Ar2 (j := (0 : Int32)) (inb_of S2 ⟨by decide, by decide⟩) (g := (mkF m 7 #[.val (.int ch)] [(.int (ch.toInt8.toInt32)), (.int (0 : Int32)), (.ref bb), (.ref bb)])) rfl rfl (hb hby d9_7)
  have V2 : Arv Z h2 bb k1 .byte (1 : Int32) [(.int (nar .byte (ch.toInt8.toInt32)))] (.int (0 : Int32)) := Arv.set Ar2 q2 S2 M2 H2 G2 (fits_nar_byte _) W2 0 rfl (Nat.le_of_ble_eq_true rfl)
  have sz2 := (Keep.of_wr W2).1
  have N := Fr.snoc X N (by omega)
  refine Gl.by st ?_
  show Gl p e below s _ _ _ (T.setTop (mkF m 8 #[.val (.int ch)] [(.ref bb)]))
  refine Gl.retA X hx hlk hret rfl rfl (hb hby d9_8) (by decide) (by decide) ?_
  rw [eT]
  exact ⟨N, (((Keep.refl h0 []).ext E1).wr W2 (Or.inr (by omega))), bb, rfl, by omega⟩
set_option maxRecDepth 65536 in
set_option maxHeartbeats 40000000 in
theorem own_sbb (l : Launch) (Z : State) (a0 : Array Value) (hw : ∀ d ∈ tables_1, d.before a0 Z = true) (sx bb : Nat) (h0 : Heap) (n0 : Nat) (Z0 : n0 ≤ sx) (E : Exa Z h0 sx "java/lang/String") (F_value : Fld Z h0 sx "java/lang/String" "value" "[B" .null) (F_coder : Fld Z h0 sx "java/lang/String" "coder" "B" (.int (0 : Int32)))  :
    Ctr l Z (⟨"java/lang/String", "<init>", "([BB)V"⟩ : MethodName) jdk_42_method_151_code 3 none [] own_rN #[(.ref sx), (.ref bb), (.int (0 : Int32))] h0 (fun v h L => v = none ∧ Fr n0 L ∧ Keep h0 h [sx] ∧ Exa Z h sx "java/lang/String" ∧ Fld Z h sx "java/lang/String" "value" "[B" (.ref bb) ∧ Fld Z h sx "java/lang/String" "coder" "B" (.int 0)) := by
  refine Ctr.intro (plainFor_of_name pn_12) #[.val (.ref sx), .val (.ref bb), .val (.int (0 : Int32))] (fun m => by first | (simp [entryFrame, mkF, argsToLocals, Value.category]; done) | rfl) ?_
  intro p e s m below meth c T hx hby hml hown hnm hret hlk hZ hnamed X eT
  have hown : s.vm.findClass "java/lang/String" = some m.cls := hown
  have N := Fr.nil n0
  show Gl p e below s _ _ _ (T.setTop (mkF m 0 #[.val (.ref sx), .val (.ref bb), .val (.int (0 : Int32))] []))
  refine Gl.by (fun t_ k_ => XS.aloadN X.here hx rfl (hb hby d10_0) rfl rfl k_) ?_
  show Gl p e below s _ _ _ (T.setTop (mkF m 1 #[.val (.ref sx), .val (.ref bb), .val (.int (0 : Int32))] [(.ref sx)]))
  obtain ⟨T, X, eT, st⟩ := initO X hx hZ hown (hw _ (List.mem_of_getElem? (i := 11) rfl)) (hw _ (List.mem_of_getElem? (i := 12) rfl)) (hw _ (List.mem_of_getElem? (i := 13) rfl)) eT (g := (mkF m 1 #[.val (.ref sx), .val (.ref bb), .val (.int (0 : Int32))] [(.ref sx)])) rfl (by rw [hml]; rfl) rfl (hb hby d10_1) (by decide) (W := 0) (by show 2 * 0 + _ ≤ _; exact Nat.le_of_eq rfl) (by decide)
  refine Gl.by st ?_
  show Gl p e below s _ _ _ (T.setTop (mkF m 4 #[.val (.ref sx), .val (.ref bb), .val (.int (0 : Int32))] []))
  refine Gl.by (fun t_ k_ => XS.aloadN X.here hx rfl (hb hby d10_4) rfl rfl k_) ?_
  show Gl p e below s _ _ _ (T.setTop (mkF m 5 #[.val (.ref sx), .val (.ref bb), .val (.int (0 : Int32))] [(.ref sx)]))
  refine Gl.by (fun t_ k_ => XS.aloadN X.here hx rfl (hb hby d10_5) rfl rfl k_) ?_
  show Gl p e below s _ _ _ (T.setTop (mkF m 6 #[.val (.ref sx), .val (.ref bb), .val (.int (0 : Int32))] [(.ref bb), (.ref sx)]))
  obtain ⟨T, h1, X, eT, W1, st⟩ := putF X hx hZ hown (host := "") (Or.inl (hw _ (List.mem_of_getElem? (i := 28) rfl))) Via.refl eT F_value E (Or.inr ⟨(hw _ (List.mem_of_getElem? (i := 29) rfl)), rfl, hnm⟩) (hw _ (List.mem_of_getElem? (i := 1) rfl)) (ty := (.array .byte)) (by decide) rfl rfl (g := (mkF m 6 #[.val (.ref sx), .val (.ref bb), .val (.int (0 : Int32))] [(.ref bb), (.ref sx)])) rfl rfl (hb hby d10_6)
  have F1_value : Fld Z h1 sx "java/lang/String" "value" "[B" (.ref bb) := Fld.same W1 F_value
  have sz1 := (Keep.of_wr W1).1
  have N := Fr.snoc X N (by omega)
  refine Gl.by st ?_
  show Gl p e below s _ _ _ (T.setTop (mkF m 9 #[.val (.ref sx), .val (.ref bb), .val (.int (0 : Int32))] []))
  refine Gl.by (fun t_ k_ => XS.aloadN X.here hx rfl (hb hby d10_9) rfl rfl k_) ?_
  show Gl p e below s _ _ _ (T.setTop (mkF m 10 #[.val (.ref sx), .val (.ref bb), .val (.int (0 : Int32))] [(.ref sx)]))
  refine Gl.by (fun t_ k_ => XS.iloadN X.here hx rfl (hb hby d10_10) rfl k_) ?_
  show Gl p e below s _ _ _ (T.setTop (mkF m 11 #[.val (.ref sx), .val (.ref bb), .val (.int (0 : Int32))] [(.int (0 : Int32)), (.ref sx)]))
  obtain ⟨T, h2, X, eT, W2, st⟩ := putF X hx hZ hown (host := "") (Or.inl (hw _ (List.mem_of_getElem? (i := 26) rfl))) Via.refl eT (F_coder.other W1 (Or.inr (slot_ne (C := "java/lang/String") (Or.inr (hw _ (List.mem_of_getElem? (i := 27) rfl))) (Or.inr (hw _ (List.mem_of_getElem? (i := 29) rfl))) (by decide) (t := .byte) (t' := (.array .byte)) (by decide) (by decide)))) (E.wr W1) (Or.inr ⟨(hw _ (List.mem_of_getElem? (i := 27) rfl)), rfl, hnm⟩) (hw _ (List.mem_of_getElem? (i := 1) rfl)) (ty := .byte) (by decide) rfl rfl (g := (mkF m 11 #[.val (.ref sx), .val (.ref bb), .val (.int (0 : Int32))] [(.int (0 : Int32)), (.ref sx)])) rfl rfl (hb hby d10_11)
  have F2_coder : Fld Z h2 sx "java/lang/String" "coder" "B" (.int (0 : Int32)) := Fld.same W2 (F_coder.other W1 (Or.inr (slot_ne (C := "java/lang/String") (Or.inr (hw _ (List.mem_of_getElem? (i := 27) rfl))) (Or.inr (hw _ (List.mem_of_getElem? (i := 29) rfl))) (by decide) (t := .byte) (t' := (.array .byte)) (by decide) (by decide))))
  have sz2 := (Keep.of_wr W2).1
  have N := Fr.snoc X N (by omega)
  refine Gl.by st ?_
  show Gl p e below s _ _ _ (T.setTop (mkF m 14 #[.val (.ref sx), .val (.ref bb), .val (.int (0 : Int32))] []))
  refine Gl.retV X hx hlk hret (hb hby d10_14) (by decide) (by decide) ?_
  rw [eT]
  exact ⟨rfl, N, (((Keep.refl h0 [sx]).wr W1 (Or.inl (by simp))).wr W2 (Or.inl (by simp))), ((E.wr W1).wr W2), (F1_value.other W2 (Or.inr (slot_ne (C := "java/lang/String") (Or.inr (hw _ (List.mem_of_getElem? (i := 29) rfl))) (Or.inr (hw _ (List.mem_of_getElem? (i := 27) rfl))) (by decide) (t := (.array .byte)) (t' := .byte) (by decide) (by decide)))), F2_coder⟩
set_option maxRecDepth 65536 in
set_option maxHeartbeats 40000000 in
theorem own_vof (l : Launch) (Z : State) (a0 : Array Value) (hw : ∀ d ∈ tables_1, d.before a0 Z = true) (ch z : Int32) (h0 : Heap) (n0 : Nat) (Z0 : n0 ≤ h0.size) (hc2 : ¬ (255 : Int32) < ch) (S : Sta Z Z.heap "java/lang/String" "COMPACT_STRINGS" "Z" (.int z)) (hz : ¬ z = 0) (O : Old Z n0 h0) :
    Ctr l Z (⟨"java/lang/String", "valueOf", "(C)Ljava/lang/String;"⟩ : MethodName) jdk_42_method_139_code 1 (some (.object "java/lang/String")) [] own_rVO #[(.int ch)] h0 (fun v h L => Fr n0 L ∧ Keep h0 h [] ∧ ∃ sx : Nat, v = some (.ref sx) ∧ h0.size ≤ sx) := by
  refine Ctr.intro (plainFor_of_name pn_12) #[.val (.int ch)] (fun m => by first | (simp [entryFrame, mkF, argsToLocals, Value.category]; done) | rfl) ?_
  intro p e s m below meth c T hx hby hml hown hnm hret hlk hZ hnamed X eT
  have hown : s.vm.findClass "java/lang/String" = some m.cls := hown
  have N := Fr.nil n0
  show Gl p e below s _ _ _ (T.setTop (mkF m 0 #[.val (.int ch)] []))
  obtain ⟨T, X, eT, st⟩ := getS2 X hx hZ hown (host := "") (Or.inl (hw _ (List.mem_of_getElem? (i := 14) rfl))) Via.refl eT (S.ext O.2) (g := (mkF m 0 #[.val (.int ch)] [])) rfl (hb hby d7_0)
  refine Gl.by st ?_
  show Gl p e below s _ _ _ (T.setTop (mkF m 3 #[.val (.int ch)] [(.int z)]))
  refine Gl.by (fun t_ k_ => XS.ifNo X.here hx rfl (hb hby d7_3) rfl ((if0 _ _).trans (feq hz).1) k_) ?_
  show Gl p e below s _ _ _ (T.setTop (mkF m 6 #[.val (.int ch)] []))
  refine Gl.by (fun t_ k_ => XS.iloadN X.here hx rfl (hb hby d7_6) rfl k_) ?_
  show Gl p e below s _ _ _ (T.setTop (mkF m 7 #[.val (.int ch)] [(.int ch)]))
  refine Gl.stat X hx hZ hown (hw _ (List.mem_of_getElem? (i := 36) rfl)) (hw _ (List.mem_of_getElem? (i := 37) rfl)) (hw _ (List.mem_of_getElem? (i := 38) rfl)) (hw _ (List.mem_of_getElem? (i := 39) rfl)) (by decide) (W := 0) (backC (own_cenc l Z a0 hw ch h0 n0 hc2) hZ (hw _ (List.mem_of_getElem? (i := 39) rfl)) (hw _ (List.mem_of_getElem? (i := 38) rfl)) (by decide) (by decide)) eT (hb hby d7_7) (by rw [hml]; rfl) [(.int ch)] [] (lenOf pd_13 rfl) rfl rfl (Nat.le_of_eq rfl) (by decide) (by decide) ?_
  intro v T L X hq
  obtain ⟨rfl, rfl, eT⟩ := hq
  have N := Fr.app N (Fr.nil n0)
  show Gl p e below s _ _ _ (T.setTop (mkF m 10 #[.val (.int ch)] [(.int (1 : Int32))]))
  refine Gl.by (fun t_ k_ => XS.ifNo X.here hx rfl (hb hby d7_10) rfl ((if0 _ _).trans (feq (by decide : ¬ (1 : Int32) = 0)).1) k_) ?_
  show Gl p e below s _ _ _ (T.setTop (mkF m 13 #[.val (.int ch)] []))
  obtain ⟨T, h1, X, eT, E1, A1, D1, -, st⟩ := newO X hx hZ hown (hw _ (List.mem_of_getElem? (i := 40) rfl)) (hw _ (List.mem_of_getElem? (i := 1) rfl)) (hw _ (List.mem_of_getElem? (i := 2) rfl)) eT (g := (mkF m 13 #[.val (.int ch)] [])) rfl (hb hby d7_13) (by decide) (by decide)
  obtain ⟨sx, g1⟩ : ∃ z, z = h0.size := ⟨_, rfl⟩
  rw [← g1] at A1 D1 st
  have sz1 := E1.1
  have lt1 : sx < h1.size := A1.lt
  refine Gl.by st ?_
  have F1_coder : Fld Z h1 sx "java/lang/String" "coder" "B" (.int (0 : Int32)) := D1 (Or.inr (hw _ (List.mem_of_getElem? (i := 27) rfl))) (ty := .byte) (by decide)
  have F1_value : Fld Z h1 sx "java/lang/String" "value" "[B" .null := D1 (Or.inr (hw _ (List.mem_of_getElem? (i := 29) rfl))) (ty := (.array .byte)) (by decide)
  show Gl p e below s _ _ _ (T.setTop (mkF m 16 #[.val (.int ch)] [(.ref sx)]))
  refine Gl.by (fun t_ k_ => XS.dup X.here hx rfl (hb hby d7_16) rfl rfl k_) ?_
  show Gl p e below s _ _ _ (T.setTop (mkF m 17 #[.val (.int ch)] [(.ref sx), (.ref sx)]))
  refine Gl.by (fun t_ k_ => XS.iloadN X.here hx rfl (hb hby d7_17) rfl k_) ?_
  show Gl p e below s _ _ _ (T.setTop (mkF m 18 #[.val (.int ch)] [(.int ch), (.ref sx), (.ref sx)]))
  refine Gl.stat X hx hZ hown (hw _ (List.mem_of_getElem? (i := 41) rfl)) (hw _ (List.mem_of_getElem? (i := 42) rfl)) (hw _ (List.mem_of_getElem? (i := 38) rfl)) (hw _ (List.mem_of_getElem? (i := 43) rfl)) (by decide) (W := 2) (backC (own_tob l Z a0 hw ch h1 n0 (by omega)) hZ (hw _ (List.mem_of_getElem? (i := 43) rfl)) (hw _ (List.mem_of_getElem? (i := 38) rfl)) (by decide) (by decide)) eT (hb hby d7_18) (by rw [hml]; rfl) [(.int ch)] [(.ref sx), (.ref sx)] (lenOf pd_14 rfl) rfl rfl (Nat.le_of_eq rfl) (by decide) (by decide) ?_
  intro v T L X hq
  obtain ⟨NQ, K2, bb, rfl, ge⟩ := hq
  have N := Fr.app N NQ
  obtain ⟨h2, eT⟩ : ∃ z, T.heap = z := ⟨_, rfl⟩
  rw [eT] at K2
  have sz2 := K2.1
  show Gl p e below s _ _ _ (T.setTop (mkF m 21 #[.val (.int ch)] [(.ref bb), (.ref sx), (.ref sx)]))
  refine Gl.by (fun t_ k_ => XS.iconst X.here hx rfl (hb hby d7_21) k_) ?_
  show Gl p e below s _ _ _ (T.setTop (mkF m 22 #[.val (.int ch)] [(.int (0 : Int32)), (.ref bb), (.ref sx), (.ref sx)]))
  refine Gl.spec X hx hZ rfl hown (hw _ (List.mem_of_getElem? (i := 44) rfl)) (hw _ (List.mem_of_getElem? (i := 45) rfl)) (hw _ (List.mem_of_getElem? (i := 46) rfl)) (by decide) (W := 1) (backC (own_sbb l Z a0 hw sx bb h2 n0 (by omega) (A1.keep K2) (F1_value.keep K2 nin0) (F1_coder.keep K2 nin0)) hZ (hw _ (List.mem_of_getElem? (i := 46) rfl)) (hw _ (List.mem_of_getElem? (i := 2) rfl)) (by decide) (by decide)) eT (hb hby d7_22) (by rw [hml]; rfl) sx [(.ref bb), (.int (0 : Int32))] [(.ref sx)] (lenOf pd_15 rfl) rfl rfl (Nat.le_of_eq rfl) (by decide) (by decide) ?_
  intro v T L X hq
  obtain ⟨rfl, NQ, K3, Q3⟩ := hq
  have N := Fr.app N NQ
  obtain ⟨h3, eT⟩ : ∃ z, T.heap = z := ⟨_, rfl⟩
  rw [eT] at K3 Q3
  have sz3 := K3.1
  show Gl p e below s _ _ _ (T.setTop (mkF m 25 #[.val (.int ch)] [(.ref sx)]))
  refine Gl.retA X hx hlk hret rfl rfl (hb hby d7_25) (by decide) (by decide) ?_
  rw [eT]
  exact ⟨N, ((((Keep.refl h0 []).ext E1).trans K2 all0).trans K3 (allS (Or.inr (by omega)) all0)), sx, rfl, by omega⟩
set_option maxRecDepth 65536 in
set_option maxHeartbeats 40000000 in
theorem own_rec (l : Launch) (Z : State) (a0 : Array Value) (hw : ∀ d ∈ tables_1, d.before a0 Z = true) (a : Nat) (h0 : Heap) (n0 : Nat)  :
    Ctr l Z (⟨"java/lang/Record", "<init>", "()V"⟩ : MethodName) jdk_30_method_1_code 1 none [] own_rN #[(.ref a)] h0 (fun v h L => v = none ∧ L = [] ∧ h = h0) := by
  refine Ctr.intro (plainFor_of_name pn_13) #[.val (.ref a)] (fun m => by first | (simp [entryFrame, mkF, argsToLocals, Value.category]; done) | rfl) ?_
  intro p e s m below meth c T hx hby hml hown hnm hret hlk hZ hnamed X eT
  have hown : s.vm.findClass "java/lang/Record" = some m.cls := hown
  have N := Fr.nil n0
  show Gl p e below s _ _ _ (T.setTop (mkF m 0 #[.val (.ref a)] []))
  refine Gl.by (fun t_ k_ => XS.aloadN X.here hx rfl (hb hby d12_0) rfl rfl k_) ?_
  show Gl p e below s _ _ _ (T.setTop (mkF m 1 #[.val (.ref a)] [(.ref a)]))
  obtain ⟨T, X, eT, st⟩ := initO X hx hZ hown (hw _ (List.mem_of_getElem? (i := 55) rfl)) (hw _ (List.mem_of_getElem? (i := 12) rfl)) (hw _ (List.mem_of_getElem? (i := 13) rfl)) eT (g := (mkF m 1 #[.val (.ref a)] [(.ref a)])) rfl (by rw [hml]; rfl) rfl (hb hby d12_1) (by decide) (W := 0) (by show 2 * 0 + _ ≤ _; exact Nat.le_of_eq rfl) (by decide)
  refine Gl.by st ?_
  show Gl p e below s _ _ _ (T.setTop (mkF m 4 #[.val (.ref a)] []))
  exact Gl.retV X hx hlk hret (hb hby d12_4) (by decide) (by decide) ⟨rfl, rfl, eT⟩
set_option maxRecDepth 65536 in
set_option maxHeartbeats 40000000 in
theorem own_tvi (l : Launch) (Z : State) (a0 : Array Value) (hw : ∀ d ∈ tables_1, d.before a0 Z = true) (tv sx : Nat) (h0 : Heap) (n0 : Nat) (Z0 : n0 ≤ tv) (E : Exa Z h0 tv "com/example/intentio/intentio/hddl/Term$Variable") (F_name : Fld Z h0 tv "com/example/intentio/intentio/hddl/Term$Variable" "name" "Ljava/lang/String;" .null) (F_type : Fld Z h0 tv "com/example/intentio/intentio/hddl/Term$Variable" "type" "Lcom/example/intentio/intentio/hddl/Type;" .null)  :
    Ctr l Z (⟨"com/example/intentio/intentio/hddl/Term$Variable", "<init>", "(Ljava/lang/String;Lcom/example/intentio/intentio/hddl/Type;)V"⟩ : MethodName) prog_78_method_1_code 3 none [] own_rN2 #[(.ref tv), (.ref sx), .null] h0 (fun v h L => v = none ∧ Fr n0 L ∧ Keep h0 h [tv] ∧ Exa Z h tv "com/example/intentio/intentio/hddl/Term$Variable" ∧ Fld Z h tv "com/example/intentio/intentio/hddl/Term$Variable" "name" "Ljava/lang/String;" (.ref sx) ∧ Fld Z h tv "com/example/intentio/intentio/hddl/Term$Variable" "type" "Lcom/example/intentio/intentio/hddl/Type;" .null) := by
  refine Ctr.intro (plainFor_of_name pn_14) #[.val (.ref tv), .val (.ref sx), .val .null] (fun m => by first | (simp [entryFrame, mkF, argsToLocals, Value.category]; done) | rfl) ?_
  intro p e s m below meth c T hx hby hml hown hnm hret hlk hZ hnamed X eT
  have hown : s.vm.findClass "com/example/intentio/intentio/hddl/Term$Variable" = some m.cls := hown
  have N := Fr.nil n0
  show Gl p e below s _ _ _ (T.setTop (mkF m 0 #[.val (.ref tv), .val (.ref sx), .val .null] []))
  refine Gl.by (fun t_ k_ => XS.aloadN X.here hx rfl (hb hby d11_0) rfl rfl k_) ?_
  show Gl p e below s _ _ _ (T.setTop (mkF m 1 #[.val (.ref tv), .val (.ref sx), .val .null] [(.ref tv)]))
  refine Gl.spec X hx hZ rfl hown (hw _ (List.mem_of_getElem? (i := 50) rfl)) (hw _ (List.mem_of_getElem? (i := 51) rfl)) (hw _ (List.mem_of_getElem? (i := 54) rfl)) (by decide) (W := 0) (backC (own_rec l Z a0 hw tv h0 n0) hZ (hw _ (List.mem_of_getElem? (i := 54) rfl)) (hw _ (List.mem_of_getElem? (i := 53) rfl)) (by decide) (by decide)) eT (hb hby d11_1) (by rw [hml]; rfl) tv [] [] (lenOf pd_0 rfl) rfl rfl (Nat.le_of_eq rfl) (by decide) (by decide) ?_
  intro v T L X hq
  obtain ⟨rfl, rfl, eT⟩ := hq
  have N := Fr.app N (Fr.nil n0)
  show Gl p e below s _ _ _ (T.setTop (mkF m 4 #[.val (.ref tv), .val (.ref sx), .val .null] []))
  refine Gl.by (fun t_ k_ => XS.aloadN X.here hx rfl (hb hby d11_4) rfl rfl k_) ?_
  show Gl p e below s _ _ _ (T.setTop (mkF m 5 #[.val (.ref tv), .val (.ref sx), .val .null] [(.ref tv)]))
  refine Gl.by (fun t_ k_ => XS.aloadN X.here hx rfl (hb hby d11_5) rfl rfl k_) ?_
  show Gl p e below s _ _ _ (T.setTop (mkF m 6 #[.val (.ref tv), .val (.ref sx), .val .null] [(.ref sx), (.ref tv)]))
  obtain ⟨T, h1, X, eT, W1, st⟩ := putF X hx hZ hown (host := "") (Or.inl (hw _ (List.mem_of_getElem? (i := 56) rfl))) Via.refl eT F_name E (Or.inr ⟨(hw _ (List.mem_of_getElem? (i := 57) rfl)), rfl, hnm⟩) (hw _ (List.mem_of_getElem? (i := 31) rfl)) (ty := (.object "java/lang/String")) (by decide) rfl rfl (g := (mkF m 6 #[.val (.ref tv), .val (.ref sx), .val .null] [(.ref sx), (.ref tv)])) rfl rfl (hb hby d11_6)
  have F1_name : Fld Z h1 tv "com/example/intentio/intentio/hddl/Term$Variable" "name" "Ljava/lang/String;" (.ref sx) := Fld.same W1 F_name
  have sz1 := (Keep.of_wr W1).1
  have N := Fr.snoc X N (by omega)
  refine Gl.by st ?_
  show Gl p e below s _ _ _ (T.setTop (mkF m 9 #[.val (.ref tv), .val (.ref sx), .val .null] []))
  refine Gl.by (fun t_ k_ => XS.aloadN X.here hx rfl (hb hby d11_9) rfl rfl k_) ?_
  show Gl p e below s _ _ _ (T.setTop (mkF m 10 #[.val (.ref tv), .val (.ref sx), .val .null] [(.ref tv)]))
  refine Gl.by (fun t_ k_ => XS.aloadN X.here hx rfl (hb hby d11_10) rfl rfl k_) ?_
  show Gl p e below s _ _ _ (T.setTop (mkF m 11 #[.val (.ref tv), .val (.ref sx), .val .null] [.null, (.ref tv)]))
  obtain ⟨T, h2, X, eT, W2, st⟩ := putF X hx hZ hown (host := "") (Or.inl (hw _ (List.mem_of_getElem? (i := 58) rfl))) Via.refl eT (F_type.other W1 (Or.inr (slot_ne (C := "com/example/intentio/intentio/hddl/Term$Variable") (Or.inr (hw _ (List.mem_of_getElem? (i := 59) rfl))) (Or.inr (hw _ (List.mem_of_getElem? (i := 57) rfl))) (by decide) (t := (.object "com/example/intentio/intentio/hddl/Type")) (t' := (.object "java/lang/String")) (by decide) (by decide)))) (E.wr W1) (Or.inr ⟨(hw _ (List.mem_of_getElem? (i := 59) rfl)), rfl, hnm⟩) (hw _ (List.mem_of_getElem? (i := 31) rfl)) (ty := (.object "com/example/intentio/intentio/hddl/Type")) (by decide) rfl rfl (g := (mkF m 11 #[.val (.ref tv), .val (.ref sx), .val .null] [.null, (.ref tv)])) rfl rfl (hb hby d11_11)
  have F2_type : Fld Z h2 tv "com/example/intentio/intentio/hddl/Term$Variable" "type" "Lcom/example/intentio/intentio/hddl/Type;" .null := Fld.same W2 (F_type.other W1 (Or.inr (slot_ne (C := "com/example/intentio/intentio/hddl/Term$Variable") (Or.inr (hw _ (List.mem_of_getElem? (i := 59) rfl))) (Or.inr (hw _ (List.mem_of_getElem? (i := 57) rfl))) (by decide) (t := (.object "com/example/intentio/intentio/hddl/Type")) (t' := (.object "java/lang/String")) (by decide) (by decide))))
  have sz2 := (Keep.of_wr W2).1
  have N := Fr.snoc X N (by omega)
  refine Gl.by st ?_
  show Gl p e below s _ _ _ (T.setTop (mkF m 14 #[.val (.ref tv), .val (.ref sx), .val .null] []))
  refine Gl.retV X hx hlk hret (hb hby d11_14) (by decide) (by decide) ?_
  rw [eT]
  exact ⟨rfl, N, (((Keep.refl h0 [tv]).wr W1 (Or.inl (by simp))).wr W2 (Or.inl (by simp))), ((E.wr W1).wr W2), (F1_name.other W2 (Or.inr (slot_ne (C := "com/example/intentio/intentio/hddl/Term$Variable") (Or.inr (hw _ (List.mem_of_getElem? (i := 57) rfl))) (Or.inr (hw _ (List.mem_of_getElem? (i := 59) rfl))) (by decide) (t := (.object "java/lang/String")) (t' := (.object "com/example/intentio/intentio/hddl/Type")) (by decide) (by decide)))), F2_type⟩
set_option maxRecDepth 65536 in
set_option maxHeartbeats 40000000 in
theorem own_liti0 (l : Launch) (Z : State) (a0 : Array Value) (hw : ∀ d ∈ tables_1, d.before a0 Z = true) (la ao : Nat) (h0 : Heap) (n0 : Nat) (Z0 : n0 ≤ la) (E : Exa Z h0 la "com/example/intentio/intentio/hddl/Literal") (F_atom : Fld Z h0 la "com/example/intentio/intentio/hddl/Literal" "atom" "Lcom/example/intentio/intentio/hddl/Atom;" .null) (F_positive : Fld Z h0 la "com/example/intentio/intentio/hddl/Literal" "positive" "Z" (.int (0 : Int32)))  :
    Ctr l Z (⟨"com/example/intentio/intentio/hddl/Literal", "<init>", "(Lcom/example/intentio/intentio/hddl/Atom;Z)V"⟩ : MethodName) prog_63_method_1_code 3 none [] own_rN2 #[(.ref la), (.ref ao), (.int (0 : Int32))] h0 (fun v h L => v = none ∧ Fr n0 L ∧ Keep h0 h [la] ∧ Exa Z h la "com/example/intentio/intentio/hddl/Literal" ∧ Fld Z h la "com/example/intentio/intentio/hddl/Literal" "atom" "Lcom/example/intentio/intentio/hddl/Atom;" (.ref ao) ∧ Fld Z h la "com/example/intentio/intentio/hddl/Literal" "positive" "Z" (.int 0)) := by
  refine Ctr.intro (plainFor_of_name pn_15) #[.val (.ref la), .val (.ref ao), .val (.int (0 : Int32))] (fun m => by first | (simp [entryFrame, mkF, argsToLocals, Value.category]; done) | rfl) ?_
  intro p e s m below meth c T hx hby hml hown hnm hret hlk hZ hnamed X eT
  have hown : s.vm.findClass "com/example/intentio/intentio/hddl/Literal" = some m.cls := hown
  have N := Fr.nil n0
  show Gl p e below s _ _ _ (T.setTop (mkF m 0 #[.val (.ref la), .val (.ref ao), .val (.int (0 : Int32))] []))
  refine Gl.by (fun t_ k_ => XS.aloadN X.here hx rfl (hb hby d21_0) rfl rfl k_) ?_
  show Gl p e below s _ _ _ (T.setTop (mkF m 1 #[.val (.ref la), .val (.ref ao), .val (.int (0 : Int32))] [(.ref la)]))
  refine Gl.spec X hx hZ rfl hown (hw _ (List.mem_of_getElem? (i := 130) rfl)) (hw _ (List.mem_of_getElem? (i := 51) rfl)) (hw _ (List.mem_of_getElem? (i := 54) rfl)) (by decide) (W := 0) (backC (own_rec l Z a0 hw la h0 n0) hZ (hw _ (List.mem_of_getElem? (i := 54) rfl)) (hw _ (List.mem_of_getElem? (i := 53) rfl)) (by decide) (by decide)) eT (hb hby d21_1) (by rw [hml]; rfl) la [] [] (lenOf pd_0 rfl) rfl rfl (Nat.le_of_eq rfl) (by decide) (by decide) ?_
  intro v T L X hq
  obtain ⟨rfl, rfl, eT⟩ := hq
  have N := Fr.app N (Fr.nil n0)
  show Gl p e below s _ _ _ (T.setTop (mkF m 4 #[.val (.ref la), .val (.ref ao), .val (.int (0 : Int32))] []))
  refine Gl.by (fun t_ k_ => XS.aloadN X.here hx rfl (hb hby d21_4) rfl rfl k_) ?_
  show Gl p e below s _ _ _ (T.setTop (mkF m 5 #[.val (.ref la), .val (.ref ao), .val (.int (0 : Int32))] [(.ref la)]))
  refine Gl.by (fun t_ k_ => XS.aloadN X.here hx rfl (hb hby d21_5) rfl rfl k_) ?_
  show Gl p e below s _ _ _ (T.setTop (mkF m 6 #[.val (.ref la), .val (.ref ao), .val (.int (0 : Int32))] [(.ref ao), (.ref la)]))
  obtain ⟨T, h1, X, eT, W1, st⟩ := putF X hx hZ hown (host := "") (Or.inl (hw _ (List.mem_of_getElem? (i := 131) rfl))) Via.refl eT F_atom E (Or.inr ⟨(hw _ (List.mem_of_getElem? (i := 132) rfl)), rfl, hnm⟩) (hw _ (List.mem_of_getElem? (i := 125) rfl)) (ty := (.object "com/example/intentio/intentio/hddl/Atom")) (by decide) rfl rfl (g := (mkF m 6 #[.val (.ref la), .val (.ref ao), .val (.int (0 : Int32))] [(.ref ao), (.ref la)])) rfl rfl (hb hby d21_6)
  have F1_atom : Fld Z h1 la "com/example/intentio/intentio/hddl/Literal" "atom" "Lcom/example/intentio/intentio/hddl/Atom;" (.ref ao) := Fld.same W1 F_atom
  have sz1 := (Keep.of_wr W1).1
  have N := Fr.snoc X N (by omega)
  refine Gl.by st ?_
  show Gl p e below s _ _ _ (T.setTop (mkF m 9 #[.val (.ref la), .val (.ref ao), .val (.int (0 : Int32))] []))
  refine Gl.by (fun t_ k_ => XS.aloadN X.here hx rfl (hb hby d21_9) rfl rfl k_) ?_
  show Gl p e below s _ _ _ (T.setTop (mkF m 10 #[.val (.ref la), .val (.ref ao), .val (.int (0 : Int32))] [(.ref la)]))
  refine Gl.by (fun t_ k_ => XS.iloadN X.here hx rfl (hb hby d21_10) rfl k_) ?_
  show Gl p e below s _ _ _ (T.setTop (mkF m 11 #[.val (.ref la), .val (.ref ao), .val (.int (0 : Int32))] [(.int (0 : Int32)), (.ref la)]))
  obtain ⟨T, h2, X, eT, W2, st⟩ := putF X hx hZ hown (host := "") (Or.inl (hw _ (List.mem_of_getElem? (i := 133) rfl))) Via.refl eT (F_positive.other W1 (Or.inr (slot_ne (C := "com/example/intentio/intentio/hddl/Literal") (Or.inr (hw _ (List.mem_of_getElem? (i := 134) rfl))) (Or.inr (hw _ (List.mem_of_getElem? (i := 132) rfl))) (by decide) (t := .boolean) (t' := (.object "com/example/intentio/intentio/hddl/Atom")) (by decide) (by decide)))) (E.wr W1) (Or.inr ⟨(hw _ (List.mem_of_getElem? (i := 134) rfl)), rfl, hnm⟩) (hw _ (List.mem_of_getElem? (i := 125) rfl)) (ty := .boolean) (by decide) rfl rfl (g := (mkF m 11 #[.val (.ref la), .val (.ref ao), .val (.int (0 : Int32))] [(.int (0 : Int32)), (.ref la)])) rfl rfl (hb hby d21_11)
  have F2_positive : Fld Z h2 la "com/example/intentio/intentio/hddl/Literal" "positive" "Z" (.int (0 : Int32)) := Fld.same W2 (F_positive.other W1 (Or.inr (slot_ne (C := "com/example/intentio/intentio/hddl/Literal") (Or.inr (hw _ (List.mem_of_getElem? (i := 134) rfl))) (Or.inr (hw _ (List.mem_of_getElem? (i := 132) rfl))) (by decide) (t := .boolean) (t' := (.object "com/example/intentio/intentio/hddl/Atom")) (by decide) (by decide))))
  have sz2 := (Keep.of_wr W2).1
  have N := Fr.snoc X N (by omega)
  refine Gl.by st ?_
  show Gl p e below s _ _ _ (T.setTop (mkF m 14 #[.val (.ref la), .val (.ref ao), .val (.int (0 : Int32))] []))
  refine Gl.retV X hx hlk hret (hb hby d21_14) (by decide) (by decide) ?_
  rw [eT]
  exact ⟨rfl, N, (((Keep.refl h0 [la]).wr W1 (Or.inl (by simp))).wr W2 (Or.inl (by simp))), ((E.wr W1).wr W2), (F1_atom.other W2 (Or.inr (slot_ne (C := "com/example/intentio/intentio/hddl/Literal") (Or.inr (hw _ (List.mem_of_getElem? (i := 132) rfl))) (Or.inr (hw _ (List.mem_of_getElem? (i := 134) rfl))) (by decide) (t := (.object "com/example/intentio/intentio/hddl/Atom")) (t' := .boolean) (by decide) (by decide)))), F2_positive⟩
set_option maxRecDepth 65536 in
set_option maxHeartbeats 40000000 in
theorem own_liti1 (l : Launch) (Z : State) (a0 : Array Value) (hw : ∀ d ∈ tables_1, d.before a0 Z = true) (la ao : Nat) (h0 : Heap) (n0 : Nat) (Z0 : n0 ≤ la) (E : Exa Z h0 la "com/example/intentio/intentio/hddl/Literal") (F_atom : Fld Z h0 la "com/example/intentio/intentio/hddl/Literal" "atom" "Lcom/example/intentio/intentio/hddl/Atom;" .null) (F_positive : Fld Z h0 la "com/example/intentio/intentio/hddl/Literal" "positive" "Z" (.int (0 : Int32)))  :
    Ctr l Z (⟨"com/example/intentio/intentio/hddl/Literal", "<init>", "(Lcom/example/intentio/intentio/hddl/Atom;Z)V"⟩ : MethodName) prog_63_method_1_code 3 none [] own_rN2 #[(.ref la), (.ref ao), (.int (1 : Int32))] h0 (fun v h L => v = none ∧ Fr n0 L ∧ Keep h0 h [la] ∧ Exa Z h la "com/example/intentio/intentio/hddl/Literal" ∧ Fld Z h la "com/example/intentio/intentio/hddl/Literal" "atom" "Lcom/example/intentio/intentio/hddl/Atom;" (.ref ao) ∧ Fld Z h la "com/example/intentio/intentio/hddl/Literal" "positive" "Z" (.int 1)) := by
  refine Ctr.intro (plainFor_of_name pn_15) #[.val (.ref la), .val (.ref ao), .val (.int (1 : Int32))] (fun m => by first | (simp [entryFrame, mkF, argsToLocals, Value.category]; done) | rfl) ?_
  intro p e s m below meth c T hx hby hml hown hnm hret hlk hZ hnamed X eT
  have hown : s.vm.findClass "com/example/intentio/intentio/hddl/Literal" = some m.cls := hown
  have N := Fr.nil n0
  show Gl p e below s _ _ _ (T.setTop (mkF m 0 #[.val (.ref la), .val (.ref ao), .val (.int (1 : Int32))] []))
  refine Gl.by (fun t_ k_ => XS.aloadN X.here hx rfl (hb hby d21_0) rfl rfl k_) ?_
  show Gl p e below s _ _ _ (T.setTop (mkF m 1 #[.val (.ref la), .val (.ref ao), .val (.int (1 : Int32))] [(.ref la)]))
  refine Gl.spec X hx hZ rfl hown (hw _ (List.mem_of_getElem? (i := 130) rfl)) (hw _ (List.mem_of_getElem? (i := 51) rfl)) (hw _ (List.mem_of_getElem? (i := 54) rfl)) (by decide) (W := 0) (backC (own_rec l Z a0 hw la h0 n0) hZ (hw _ (List.mem_of_getElem? (i := 54) rfl)) (hw _ (List.mem_of_getElem? (i := 53) rfl)) (by decide) (by decide)) eT (hb hby d21_1) (by rw [hml]; rfl) la [] [] (lenOf pd_0 rfl) rfl rfl (Nat.le_of_eq rfl) (by decide) (by decide) ?_
  intro v T L X hq
  obtain ⟨rfl, rfl, eT⟩ := hq
  have N := Fr.app N (Fr.nil n0)
  show Gl p e below s _ _ _ (T.setTop (mkF m 4 #[.val (.ref la), .val (.ref ao), .val (.int (1 : Int32))] []))
  refine Gl.by (fun t_ k_ => XS.aloadN X.here hx rfl (hb hby d21_4) rfl rfl k_) ?_
  show Gl p e below s _ _ _ (T.setTop (mkF m 5 #[.val (.ref la), .val (.ref ao), .val (.int (1 : Int32))] [(.ref la)]))
  refine Gl.by (fun t_ k_ => XS.aloadN X.here hx rfl (hb hby d21_5) rfl rfl k_) ?_
  show Gl p e below s _ _ _ (T.setTop (mkF m 6 #[.val (.ref la), .val (.ref ao), .val (.int (1 : Int32))] [(.ref ao), (.ref la)]))
  obtain ⟨T, h1, X, eT, W1, st⟩ := putF X hx hZ hown (host := "") (Or.inl (hw _ (List.mem_of_getElem? (i := 131) rfl))) Via.refl eT F_atom E (Or.inr ⟨(hw _ (List.mem_of_getElem? (i := 132) rfl)), rfl, hnm⟩) (hw _ (List.mem_of_getElem? (i := 125) rfl)) (ty := (.object "com/example/intentio/intentio/hddl/Atom")) (by decide) rfl rfl (g := (mkF m 6 #[.val (.ref la), .val (.ref ao), .val (.int (1 : Int32))] [(.ref ao), (.ref la)])) rfl rfl (hb hby d21_6)
  have F1_atom : Fld Z h1 la "com/example/intentio/intentio/hddl/Literal" "atom" "Lcom/example/intentio/intentio/hddl/Atom;" (.ref ao) := Fld.same W1 F_atom
  have sz1 := (Keep.of_wr W1).1
  have N := Fr.snoc X N (by omega)
  refine Gl.by st ?_
  show Gl p e below s _ _ _ (T.setTop (mkF m 9 #[.val (.ref la), .val (.ref ao), .val (.int (1 : Int32))] []))
  refine Gl.by (fun t_ k_ => XS.aloadN X.here hx rfl (hb hby d21_9) rfl rfl k_) ?_
  show Gl p e below s _ _ _ (T.setTop (mkF m 10 #[.val (.ref la), .val (.ref ao), .val (.int (1 : Int32))] [(.ref la)]))
  refine Gl.by (fun t_ k_ => XS.iloadN X.here hx rfl (hb hby d21_10) rfl k_) ?_
  show Gl p e below s _ _ _ (T.setTop (mkF m 11 #[.val (.ref la), .val (.ref ao), .val (.int (1 : Int32))] [(.int (1 : Int32)), (.ref la)]))
  obtain ⟨T, h2, X, eT, W2, st⟩ := putF X hx hZ hown (host := "") (Or.inl (hw _ (List.mem_of_getElem? (i := 133) rfl))) Via.refl eT (F_positive.other W1 (Or.inr (slot_ne (C := "com/example/intentio/intentio/hddl/Literal") (Or.inr (hw _ (List.mem_of_getElem? (i := 134) rfl))) (Or.inr (hw _ (List.mem_of_getElem? (i := 132) rfl))) (by decide) (t := .boolean) (t' := (.object "com/example/intentio/intentio/hddl/Atom")) (by decide) (by decide)))) (E.wr W1) (Or.inr ⟨(hw _ (List.mem_of_getElem? (i := 134) rfl)), rfl, hnm⟩) (hw _ (List.mem_of_getElem? (i := 125) rfl)) (ty := .boolean) (by decide) rfl rfl (g := (mkF m 11 #[.val (.ref la), .val (.ref ao), .val (.int (1 : Int32))] [(.int (1 : Int32)), (.ref la)])) rfl rfl (hb hby d21_11)
  have F2_positive : Fld Z h2 la "com/example/intentio/intentio/hddl/Literal" "positive" "Z" (.int (1 : Int32)) := Fld.same W2 (F_positive.other W1 (Or.inr (slot_ne (C := "com/example/intentio/intentio/hddl/Literal") (Or.inr (hw _ (List.mem_of_getElem? (i := 134) rfl))) (Or.inr (hw _ (List.mem_of_getElem? (i := 132) rfl))) (by decide) (t := .boolean) (t' := (.object "com/example/intentio/intentio/hddl/Atom")) (by decide) (by decide))))
  have sz2 := (Keep.of_wr W2).1
  have N := Fr.snoc X N (by omega)
  refine Gl.by st ?_
  show Gl p e below s _ _ _ (T.setTop (mkF m 14 #[.val (.ref la), .val (.ref ao), .val (.int (1 : Int32))] []))
  refine Gl.retV X hx hlk hret (hb hby d21_14) (by decide) (by decide) ?_
  rw [eT]
  exact ⟨rfl, N, (((Keep.refl h0 [la]).wr W1 (Or.inl (by simp))).wr W2 (Or.inl (by simp))), ((E.wr W1).wr W2), (F1_atom.other W2 (Or.inr (slot_ne (C := "com/example/intentio/intentio/hddl/Literal") (Or.inr (hw _ (List.mem_of_getElem? (i := 132) rfl))) (Or.inr (hw _ (List.mem_of_getElem? (i := 134) rfl))) (by decide) (t := (.object "com/example/intentio/intentio/hddl/Atom")) (t' := .boolean) (by decide) (by decide)))), F2_positive⟩
set_option maxRecDepth 65536 in
set_option maxHeartbeats 40000000 in
theorem own_cpl0 (l : Launch) (Z : State) (a0 : Array Value) (hw : ∀ d ∈ tables_1, d.before a0 Z = true) (la ao : Nat) (h0 : Heap) (n0 : Nat) (Z0 : n0 ≤ h0.size) (Q : Exa Z h0 la "com/example/intentio/intentio/hddl/Literal" ∧ Fld Z h0 la "com/example/intentio/intentio/hddl/Literal" "atom" "Lcom/example/intentio/intentio/hddl/Atom;" (.ref ao) ∧ Fld Z h0 la "com/example/intentio/intentio/hddl/Literal" "positive" "Z" (.int 0)) :
    Ctr l Z (⟨"com/example/intentio/intentio/hddl/Literal", "complement", "()Lcom/example/intentio/intentio/hddl/Literal;"⟩ : MethodName) prog_63_method_2_code 1 (some (.object "com/example/intentio/intentio/hddl/Literal")) [] own_rCP #[(.ref la)] h0 (fun v h L => Fr n0 L ∧ Keep h0 h [] ∧ ∃ ln : Nat, v = some (.ref ln) ∧ h0.size ≤ ln ∧ Exa Z h ln "com/example/intentio/intentio/hddl/Literal" ∧ Fld Z h ln "com/example/intentio/intentio/hddl/Literal" "atom" "Lcom/example/intentio/intentio/hddl/Atom;" (.ref ao) ∧ Fld Z h ln "com/example/intentio/intentio/hddl/Literal" "positive" "Z" (.int 1)) := by
  refine Ctr.intro (plainFor_of_name pn_15) #[.val (.ref la)] (fun m => by first | (simp [entryFrame, mkF, argsToLocals, Value.category]; done) | rfl) ?_
  intro p e s m below meth c T hx hby hml hown hnm hret hlk hZ hnamed X eT
  have hown : s.vm.findClass "com/example/intentio/intentio/hddl/Literal" = some m.cls := hown
  have N := Fr.nil n0
  have lla : la < h0.size := Q.1.lt
  show Gl p e below s _ _ _ (T.setTop (mkF m 0 #[.val (.ref la)] []))
  obtain ⟨T, h1, X, eT, E1, A1, D1, -, st⟩ := newO X hx hZ hown (hw _ (List.mem_of_getElem? (i := 140) rfl)) (hw _ (List.mem_of_getElem? (i := 125) rfl)) (hw _ (List.mem_of_getElem? (i := 126) rfl)) eT (g := (mkF m 0 #[.val (.ref la)] [])) rfl (hb hby d22_0) (by decide) (by decide)
  obtain ⟨ln, g1⟩ : ∃ z, z = h0.size := ⟨_, rfl⟩
  rw [← g1] at A1 D1 st
  have sz1 := E1.1
  have lt1 : ln < h1.size := A1.lt
  refine Gl.by st ?_
  have F1_atom : Fld Z h1 ln "com/example/intentio/intentio/hddl/Literal" "atom" "Lcom/example/intentio/intentio/hddl/Atom;" .null := D1 (Or.inr (hw _ (List.mem_of_getElem? (i := 132) rfl))) (ty := (.object "com/example/intentio/intentio/hddl/Atom")) (by decide)
  have F1_positive : Fld Z h1 ln "com/example/intentio/intentio/hddl/Literal" "positive" "Z" (.int (0 : Int32)) := D1 (Or.inr (hw _ (List.mem_of_getElem? (i := 134) rfl))) (ty := .boolean) (by decide)
  show Gl p e below s _ _ _ (T.setTop (mkF m 3 #[.val (.ref la)] [(.ref ln)]))
  refine Gl.by (fun t_ k_ => XS.dup X.here hx rfl (hb hby d22_3) rfl rfl k_) ?_
  show Gl p e below s _ _ _ (T.setTop (mkF m 4 #[.val (.ref la)] [(.ref ln), (.ref ln)]))
  refine Gl.by (fun t_ k_ => XS.aloadN X.here hx rfl (hb hby d22_4) rfl rfl k_) ?_
  show Gl p e below s _ _ _ (T.setTop (mkF m 5 #[.val (.ref la)] [(.ref la), (.ref ln), (.ref ln)]))
  obtain ⟨T, X, eT, st⟩ := getF X hx hZ hown (host := "") (Or.inl (hw _ (List.mem_of_getElem? (i := 131) rfl))) Via.refl eT (Q.2.1.ext E1) (g := (mkF m 5 #[.val (.ref la)] [(.ref la), (.ref ln), (.ref ln)])) rfl rfl (hb hby d22_5)
  refine Gl.by st ?_
  show Gl p e below s _ _ _ (T.setTop (mkF m 8 #[.val (.ref la)] [(.ref ao), (.ref ln), (.ref ln)]))
  refine Gl.by (fun t_ k_ => XS.aloadN X.here hx rfl (hb hby d22_8) rfl rfl k_) ?_
  show Gl p e below s _ _ _ (T.setTop (mkF m 9 #[.val (.ref la)] [(.ref la), (.ref ao), (.ref ln), (.ref ln)]))
  obtain ⟨T, X, eT, st⟩ := getF X hx hZ hown (host := "") (Or.inl (hw _ (List.mem_of_getElem? (i := 133) rfl))) Via.refl eT (Q.2.2.ext E1) (g := (mkF m 9 #[.val (.ref la)] [(.ref la), (.ref ao), (.ref ln), (.ref ln)])) rfl rfl (hb hby d22_9)
  refine Gl.by st ?_
  show Gl p e below s _ _ _ (T.setTop (mkF m 12 #[.val (.ref la)] [(.int (0 : Int32)), (.ref ao), (.ref ln), (.ref ln)]))
  refine Gl.by (fun t_ k_ => XS.ifNo X.here hx rfl (hb hby d22_12) rfl ((if0 _ _).trans (teq (rfl : (0 : Int32) = 0)).2) k_) ?_
  show Gl p e below s _ _ _ (T.setTop (mkF m 15 #[.val (.ref la)] [(.ref ao), (.ref ln), (.ref ln)]))
  refine Gl.by (fun t_ k_ => XS.iconst X.here hx rfl (hb hby d22_15) k_) ?_
  show Gl p e below s _ _ _ (T.setTop (mkF m 16 #[.val (.ref la)] [(.int (1 : Int32)), (.ref ao), (.ref ln), (.ref ln)]))
  refine Gl.by (fun t_ k_ => XS.goto X.here hx rfl (pc0 := 16) (pc' := 20) rfl (hb hby d22_16) (by decide) (by decide) k_) ?_
  show Gl p e below s _ _ _ (T.setTop (mkF m 20 #[.val (.ref la)] [(.int (1 : Int32)), (.ref ao), (.ref ln), (.ref ln)]))
  refine Gl.spec X hx hZ rfl hown (hw _ (List.mem_of_getElem? (i := 141) rfl)) (hw _ (List.mem_of_getElem? (i := 128) rfl)) (hw _ (List.mem_of_getElem? (i := 129) rfl)) (by decide) (W := 1) (backC (own_liti1 l Z a0 hw ln ao h1 n0 (by omega) A1 F1_atom F1_positive) hZ (hw _ (List.mem_of_getElem? (i := 129) rfl)) (hw _ (List.mem_of_getElem? (i := 126) rfl)) (by decide) (by decide)) eT (hb hby d22_20) (by rw [hml]; rfl) ln [(.ref ao), (.int (1 : Int32))] [(.ref ln)] (lenOf pd_16 rfl) rfl rfl (Nat.le_of_eq rfl) (by decide) (by decide) ?_
  intro v T L X hq
  obtain ⟨rfl, NQ, K2, Q2⟩ := hq
  have N := Fr.app N NQ
  obtain ⟨h2, eT⟩ : ∃ z, T.heap = z := ⟨_, rfl⟩
  rw [eT] at K2 Q2
  have sz2 := K2.1
  show Gl p e below s _ _ _ (T.setTop (mkF m 23 #[.val (.ref la)] [(.ref ln)]))
  refine Gl.retA X hx hlk hret rfl rfl (hb hby d22_23) (by decide) (by decide) ?_
  rw [eT]
  exact ⟨N, (((Keep.refl h0 []).ext E1).trans K2 (allS (Or.inr (by omega)) all0)), ln, rfl, by omega, Q2⟩
set_option maxRecDepth 65536 in
set_option maxHeartbeats 40000000 in
theorem own_cpl1 (l : Launch) (Z : State) (a0 : Array Value) (hw : ∀ d ∈ tables_1, d.before a0 Z = true) (la ao : Nat) (h0 : Heap) (n0 : Nat) (Z0 : n0 ≤ h0.size) (Q : Exa Z h0 la "com/example/intentio/intentio/hddl/Literal" ∧ Fld Z h0 la "com/example/intentio/intentio/hddl/Literal" "atom" "Lcom/example/intentio/intentio/hddl/Atom;" (.ref ao) ∧ Fld Z h0 la "com/example/intentio/intentio/hddl/Literal" "positive" "Z" (.int 1)) :
    Ctr l Z (⟨"com/example/intentio/intentio/hddl/Literal", "complement", "()Lcom/example/intentio/intentio/hddl/Literal;"⟩ : MethodName) prog_63_method_2_code 1 (some (.object "com/example/intentio/intentio/hddl/Literal")) [] own_rCP #[(.ref la)] h0 (fun v h L => Fr n0 L ∧ Keep h0 h [] ∧ ∃ ln : Nat, v = some (.ref ln) ∧ h0.size ≤ ln ∧ Exa Z h ln "com/example/intentio/intentio/hddl/Literal" ∧ Fld Z h ln "com/example/intentio/intentio/hddl/Literal" "atom" "Lcom/example/intentio/intentio/hddl/Atom;" (.ref ao) ∧ Fld Z h ln "com/example/intentio/intentio/hddl/Literal" "positive" "Z" (.int 0)) := by
  refine Ctr.intro (plainFor_of_name pn_15) #[.val (.ref la)] (fun m => by first | (simp [entryFrame, mkF, argsToLocals, Value.category]; done) | rfl) ?_
  intro p e s m below meth c T hx hby hml hown hnm hret hlk hZ hnamed X eT
  have hown : s.vm.findClass "com/example/intentio/intentio/hddl/Literal" = some m.cls := hown
  have N := Fr.nil n0
  have lla : la < h0.size := Q.1.lt
  show Gl p e below s _ _ _ (T.setTop (mkF m 0 #[.val (.ref la)] []))
  obtain ⟨T, h1, X, eT, E1, A1, D1, -, st⟩ := newO X hx hZ hown (hw _ (List.mem_of_getElem? (i := 140) rfl)) (hw _ (List.mem_of_getElem? (i := 125) rfl)) (hw _ (List.mem_of_getElem? (i := 126) rfl)) eT (g := (mkF m 0 #[.val (.ref la)] [])) rfl (hb hby d22_0) (by decide) (by decide)
  obtain ⟨ln, g1⟩ : ∃ z, z = h0.size := ⟨_, rfl⟩
  rw [← g1] at A1 D1 st
  have sz1 := E1.1
  have lt1 : ln < h1.size := A1.lt
  refine Gl.by st ?_
  have F1_atom : Fld Z h1 ln "com/example/intentio/intentio/hddl/Literal" "atom" "Lcom/example/intentio/intentio/hddl/Atom;" .null := D1 (Or.inr (hw _ (List.mem_of_getElem? (i := 132) rfl))) (ty := (.object "com/example/intentio/intentio/hddl/Atom")) (by decide)
  have F1_positive : Fld Z h1 ln "com/example/intentio/intentio/hddl/Literal" "positive" "Z" (.int (0 : Int32)) := D1 (Or.inr (hw _ (List.mem_of_getElem? (i := 134) rfl))) (ty := .boolean) (by decide)
  show Gl p e below s _ _ _ (T.setTop (mkF m 3 #[.val (.ref la)] [(.ref ln)]))
  refine Gl.by (fun t_ k_ => XS.dup X.here hx rfl (hb hby d22_3) rfl rfl k_) ?_
  show Gl p e below s _ _ _ (T.setTop (mkF m 4 #[.val (.ref la)] [(.ref ln), (.ref ln)]))
  refine Gl.by (fun t_ k_ => XS.aloadN X.here hx rfl (hb hby d22_4) rfl rfl k_) ?_
  show Gl p e below s _ _ _ (T.setTop (mkF m 5 #[.val (.ref la)] [(.ref la), (.ref ln), (.ref ln)]))
  obtain ⟨T, X, eT, st⟩ := getF X hx hZ hown (host := "") (Or.inl (hw _ (List.mem_of_getElem? (i := 131) rfl))) Via.refl eT (Q.2.1.ext E1) (g := (mkF m 5 #[.val (.ref la)] [(.ref la), (.ref ln), (.ref ln)])) rfl rfl (hb hby d22_5)
  refine Gl.by st ?_
  show Gl p e below s _ _ _ (T.setTop (mkF m 8 #[.val (.ref la)] [(.ref ao), (.ref ln), (.ref ln)]))
  refine Gl.by (fun t_ k_ => XS.aloadN X.here hx rfl (hb hby d22_8) rfl rfl k_) ?_
  show Gl p e below s _ _ _ (T.setTop (mkF m 9 #[.val (.ref la)] [(.ref la), (.ref ao), (.ref ln), (.ref ln)]))
  obtain ⟨T, X, eT, st⟩ := getF X hx hZ hown (host := "") (Or.inl (hw _ (List.mem_of_getElem? (i := 133) rfl))) Via.refl eT (Q.2.2.ext E1) (g := (mkF m 9 #[.val (.ref la)] [(.ref la), (.ref ao), (.ref ln), (.ref ln)])) rfl rfl (hb hby d22_9)
  refine Gl.by st ?_
  show Gl p e below s _ _ _ (T.setTop (mkF m 12 #[.val (.ref la)] [(.int (1 : Int32)), (.ref ao), (.ref ln), (.ref ln)]))
  refine Gl.by (fun t_ k_ => XS.ifYes X.here hx rfl (pc0 := 12) (pc' := 19) rfl (hb hby d22_12) rfl ((if0 _ _).trans (feq (by decide : ¬ (1 : Int32) = 0)).2) (by decide) (by decide) k_) ?_
  show Gl p e below s _ _ _ (T.setTop (mkF m 19 #[.val (.ref la)] [(.ref ao), (.ref ln), (.ref ln)]))
  refine Gl.by (fun t_ k_ => XS.iconst X.here hx rfl (hb hby d22_19) k_) ?_
  show Gl p e below s _ _ _ (T.setTop (mkF m 20 #[.val (.ref la)] [(.int (0 : Int32)), (.ref ao), (.ref ln), (.ref ln)]))
  refine Gl.spec X hx hZ rfl hown (hw _ (List.mem_of_getElem? (i := 141) rfl)) (hw _ (List.mem_of_getElem? (i := 128) rfl)) (hw _ (List.mem_of_getElem? (i := 129) rfl)) (by decide) (W := 1) (backC (own_liti0 l Z a0 hw ln ao h1 n0 (by omega) A1 F1_atom F1_positive) hZ (hw _ (List.mem_of_getElem? (i := 129) rfl)) (hw _ (List.mem_of_getElem? (i := 126) rfl)) (by decide) (by decide)) eT (hb hby d22_20) (by rw [hml]; rfl) ln [(.ref ao), (.int (0 : Int32))] [(.ref ln)] (lenOf pd_16 rfl) rfl rfl (Nat.le_of_eq rfl) (by decide) (by decide) ?_
  intro v T L X hq
  obtain ⟨rfl, NQ, K2, Q2⟩ := hq
  have N := Fr.app N NQ
  obtain ⟨h2, eT⟩ : ∃ z, T.heap = z := ⟨_, rfl⟩
  rw [eT] at K2 Q2
  have sz2 := K2.1
  show Gl p e below s _ _ _ (T.setTop (mkF m 23 #[.val (.ref la)] [(.ref ln)]))
  refine Gl.retA X hx hlk hret rfl rfl (hb hby d22_23) (by decide) (by decide) ?_
  rw [eT]
  exact ⟨N, (((Keep.refl h0 []).ext E1).trans K2 (allS (Or.inr (by omega)) all0)), ln, rfl, by omega, Q2⟩
set_option maxRecDepth 65536 in
set_option maxHeartbeats 40000000 in
theorem own_lpos0 (l : Launch) (Z : State) (a0 : Array Value) (hw : ∀ d ∈ tables_1, d.before a0 Z = true) (r : Nat)  (h0 : Heap) (n0 : Nat)  (F : Fld Z h0 r "com/example/intentio/intentio/hddl/Literal" "positive" "Z" (.int (0 : Int32))) :
    Ctr l Z (⟨"com/example/intentio/intentio/hddl/Literal", "positive", "()Z"⟩ : MethodName) prog_63_method_9_code 1 (some .boolean) [] own_r0 #[(.ref r)] h0 (fun v h L => v = some (.int (0 : Int32)) ∧ L = [] ∧ h = h0) := by
  refine Ctr.intro (plainFor_of_name pn_15) #[.val (.ref r)] (fun m => by first | (simp [entryFrame, mkF, argsToLocals, Value.category]; done) | rfl) ?_
  intro p e s m below meth c T hx hby hml hown hnm hret hlk hZ hnamed X eT
  have hown : s.vm.findClass "com/example/intentio/intentio/hddl/Literal" = some m.cls := hown
  have N := Fr.nil n0
  show Gl p e below s _ _ _ (T.setTop (mkF m 0 #[.val (.ref r)] []))
  refine Gl.by (fun t_ k_ => XS.aloadN X.here hx rfl (hb hby d23_0) rfl rfl k_) ?_
  show Gl p e below s _ _ _ (T.setTop (mkF m 1 #[.val (.ref r)] [(.ref r)]))
  obtain ⟨T, X, eT, st⟩ := getF X hx hZ hown (host := "") (Or.inl (hw _ (List.mem_of_getElem? (i := 133) rfl))) Via.refl eT F (g := (mkF m 1 #[.val (.ref r)] [(.ref r)])) rfl rfl (hb hby d23_1)
  refine Gl.by st ?_
  show Gl p e below s _ _ _ (T.setTop (mkF m 4 #[.val (.ref r)] [(.int (0 : Int32))]))
  exact Gl.retZ X hx hlk hret (by simp) (hb hby d23_4) (by decide) (by decide) ⟨rfl, rfl, eT⟩
set_option maxRecDepth 65536 in
set_option maxHeartbeats 40000000 in
theorem own_lpos1 (l : Launch) (Z : State) (a0 : Array Value) (hw : ∀ d ∈ tables_1, d.before a0 Z = true) (r : Nat)  (h0 : Heap) (n0 : Nat)  (F : Fld Z h0 r "com/example/intentio/intentio/hddl/Literal" "positive" "Z" (.int (1 : Int32))) :
    Ctr l Z (⟨"com/example/intentio/intentio/hddl/Literal", "positive", "()Z"⟩ : MethodName) prog_63_method_9_code 1 (some .boolean) [] own_r0 #[(.ref r)] h0 (fun v h L => v = some (.int (1 : Int32)) ∧ L = [] ∧ h = h0) := by
  refine Ctr.intro (plainFor_of_name pn_15) #[.val (.ref r)] (fun m => by first | (simp [entryFrame, mkF, argsToLocals, Value.category]; done) | rfl) ?_
  intro p e s m below meth c T hx hby hml hown hnm hret hlk hZ hnamed X eT
  have hown : s.vm.findClass "com/example/intentio/intentio/hddl/Literal" = some m.cls := hown
  have N := Fr.nil n0
  show Gl p e below s _ _ _ (T.setTop (mkF m 0 #[.val (.ref r)] []))
  refine Gl.by (fun t_ k_ => XS.aloadN X.here hx rfl (hb hby d23_0) rfl rfl k_) ?_
  show Gl p e below s _ _ _ (T.setTop (mkF m 1 #[.val (.ref r)] [(.ref r)]))
  obtain ⟨T, X, eT, st⟩ := getF X hx hZ hown (host := "") (Or.inl (hw _ (List.mem_of_getElem? (i := 133) rfl))) Via.refl eT F (g := (mkF m 1 #[.val (.ref r)] [(.ref r)])) rfl rfl (hb hby d23_1)
  refine Gl.by st ?_
  show Gl p e below s _ _ _ (T.setTop (mkF m 4 #[.val (.ref r)] [(.int (1 : Int32))]))
  exact Gl.retZ X hx hlk hret (by simp) (hb hby d23_4) (by decide) (by decide) ⟨rfl, rfl, eT⟩
set_option maxRecDepth 65536 in
set_option maxHeartbeats 40000000 in
theorem own_latom (l : Launch) (Z : State) (a0 : Array Value) (hw : ∀ d ∈ tables_1, d.before a0 Z = true) (r : Nat) (ao : Nat) (h0 : Heap) (n0 : Nat)  (F : Fld Z h0 r "com/example/intentio/intentio/hddl/Literal" "atom" "Lcom/example/intentio/intentio/hddl/Atom;" (.ref ao)) :
    Ctr l Z (⟨"com/example/intentio/intentio/hddl/Literal", "atom", "()Lcom/example/intentio/intentio/hddl/Atom;"⟩ : MethodName) prog_63_method_8_code 1 (some (.object "com/example/intentio/intentio/hddl/Atom")) [] own_r0 #[(.ref r)] h0 (fun v h L => v = some (.ref ao) ∧ L = [] ∧ h = h0) := by
  refine Ctr.intro (plainFor_of_name pn_15) #[.val (.ref r)] (fun m => by first | (simp [entryFrame, mkF, argsToLocals, Value.category]; done) | rfl) ?_
  intro p e s m below meth c T hx hby hml hown hnm hret hlk hZ hnamed X eT
  have hown : s.vm.findClass "com/example/intentio/intentio/hddl/Literal" = some m.cls := hown
  have N := Fr.nil n0
  show Gl p e below s _ _ _ (T.setTop (mkF m 0 #[.val (.ref r)] []))
  refine Gl.by (fun t_ k_ => XS.aloadN X.here hx rfl (hb hby d24_0) rfl rfl k_) ?_
  show Gl p e below s _ _ _ (T.setTop (mkF m 1 #[.val (.ref r)] [(.ref r)]))
  obtain ⟨T, X, eT, st⟩ := getF X hx hZ hown (host := "") (Or.inl (hw _ (List.mem_of_getElem? (i := 131) rfl))) Via.refl eT F (g := (mkF m 1 #[.val (.ref r)] [(.ref r)])) rfl rfl (hb hby d24_1)
  refine Gl.by st ?_
  show Gl p e below s _ _ _ (T.setTop (mkF m 4 #[.val (.ref r)] [(.ref ao)]))
  exact Gl.retA X hx hlk hret rfl rfl (hb hby d24_4) (by decide) (by decide) ⟨rfl, rfl, eT⟩
set_option maxRecDepth 65536 in
set_option maxHeartbeats 40000000 in
theorem own_apred (l : Launch) (Z : State) (a0 : Array Value) (hw : ∀ d ∈ tables_1, d.before a0 Z = true) (r : Nat) (ps : Nat) (h0 : Heap) (n0 : Nat)  (F : Fld Z h0 r "com/example/intentio/intentio/hddl/Atom" "predicate" "Ljava/lang/String;" (.ref ps)) :
    Ctr l Z (⟨"com/example/intentio/intentio/hddl/Atom", "predicate", "()Ljava/lang/String;"⟩ : MethodName) prog_44_method_7_code 1 (some (.object "java/lang/String")) [] own_r0 #[(.ref r)] h0 (fun v h L => v = some (.ref ps) ∧ L = [] ∧ h = h0) := by
  refine Ctr.intro (plainFor_of_name pn_16) #[.val (.ref r)] (fun m => by first | (simp [entryFrame, mkF, argsToLocals, Value.category]; done) | rfl) ?_
  intro p e s m below meth c T hx hby hml hown hnm hret hlk hZ hnamed X eT
  have hown : s.vm.findClass "com/example/intentio/intentio/hddl/Atom" = some m.cls := hown
  have N := Fr.nil n0
  show Gl p e below s _ _ _ (T.setTop (mkF m 0 #[.val (.ref r)] []))
  refine Gl.by (fun t_ k_ => XS.aloadN X.here hx rfl (hb hby d25_0) rfl rfl k_) ?_
  show Gl p e below s _ _ _ (T.setTop (mkF m 1 #[.val (.ref r)] [(.ref r)]))
  obtain ⟨T, X, eT, st⟩ := getF X hx hZ hown (host := "") (Or.inl (hw _ (List.mem_of_getElem? (i := 120) rfl))) Via.refl eT F (g := (mkF m 1 #[.val (.ref r)] [(.ref r)])) rfl rfl (hb hby d25_1)
  refine Gl.by st ?_
  show Gl p e below s _ _ _ (T.setTop (mkF m 4 #[.val (.ref r)] [(.ref ps)]))
  exact Gl.retA X hx hlk hret rfl rfl (hb hby d25_4) (by decide) (by decide) ⟨rfl, rfl, eT⟩
set_option maxRecDepth 65536 in
set_option maxHeartbeats 40000000 in
theorem own_aargs (l : Launch) (Z : State) (a0 : Array Value) (hw : ∀ d ∈ tables_1, d.before a0 Z = true) (r : Nat) (li : Nat) (h0 : Heap) (n0 : Nat)  (F : Fld Z h0 r "com/example/intentio/intentio/hddl/Atom" "arguments" "Ljava/util/List;" (.ref li)) :
    Ctr l Z (⟨"com/example/intentio/intentio/hddl/Atom", "arguments", "()Ljava/util/List;"⟩ : MethodName) prog_44_method_8_code 1 (some (.object "java/util/List")) [] own_r0 #[(.ref r)] h0 (fun v h L => v = some (.ref li) ∧ L = [] ∧ h = h0) := by
  refine Ctr.intro (plainFor_of_name pn_16) #[.val (.ref r)] (fun m => by first | (simp [entryFrame, mkF, argsToLocals, Value.category]; done) | rfl) ?_
  intro p e s m below meth c T hx hby hml hown hnm hret hlk hZ hnamed X eT
  have hown : s.vm.findClass "com/example/intentio/intentio/hddl/Atom" = some m.cls := hown
  have N := Fr.nil n0
  show Gl p e below s _ _ _ (T.setTop (mkF m 0 #[.val (.ref r)] []))
  refine Gl.by (fun t_ k_ => XS.aloadN X.here hx rfl (hb hby d27_0) rfl rfl k_) ?_
  show Gl p e below s _ _ _ (T.setTop (mkF m 1 #[.val (.ref r)] [(.ref r)]))
  obtain ⟨T, X, eT, st⟩ := getF X hx hZ hown (host := "") (Or.inl (hw _ (List.mem_of_getElem? (i := 122) rfl))) Via.refl eT F (g := (mkF m 1 #[.val (.ref r)] [(.ref r)])) rfl rfl (hb hby d27_1)
  refine Gl.by st ?_
  show Gl p e below s _ _ _ (T.setTop (mkF m 4 #[.val (.ref r)] [(.ref li)]))
  exact Gl.retA X hx hlk hret rfl rfl (hb hby d27_4) (by decide) (by decide) ⟨rfl, rfl, eT⟩
set_option maxRecDepth 65536 in
set_option maxHeartbeats 40000000 in
theorem own_seq (l : Launch) (Z : State) (a0 : Array Value) (hw : ∀ d ∈ tables_1, d.before a0 Z = true) (ps : Nat) (h0 : Heap) (n0 : Nat)  :
    Ctr l Z (⟨"java/lang/String", "equals", "(Ljava/lang/Object;)Z"⟩ : MethodName) jdk_42_method_66_code 3 (some .boolean) [] own_r0 #[(.ref ps), (.ref ps)] h0 (fun v h L => v = some (.int 1) ∧ L = [] ∧ h = h0) := by
  refine Ctr.intro (plainFor_of_name pn_12) #[.val (.ref ps), .val (.ref ps), .unset] (fun m => by first | (simp [entryFrame, mkF, argsToLocals, Value.category]; done) | rfl) ?_
  intro p e s m below meth c T hx hby hml hown hnm hret hlk hZ hnamed X eT
  have hown : s.vm.findClass "java/lang/String" = some m.cls := hown
  have N := Fr.nil n0
  show Gl p e below s _ _ _ (T.setTop (mkF m 0 #[.val (.ref ps), .val (.ref ps), .unset] []))
  refine Gl.by (fun t_ k_ => XS.aloadN X.here hx rfl (hb hby d26_0) rfl rfl k_) ?_
  show Gl p e below s _ _ _ (T.setTop (mkF m 1 #[.val (.ref ps), .val (.ref ps), .unset] [(.ref ps)]))
  refine Gl.by (fun t_ k_ => XS.aloadN X.here hx rfl (hb hby d26_1) rfl rfl k_) ?_
  show Gl p e below s _ _ _ (T.setTop (mkF m 2 #[.val (.ref ps), .val (.ref ps), .unset] [(.ref ps), (.ref ps)]))
  refine Gl.by (fun t_ k_ => Jvm.RoadKit.acmp (g := (mkF m 2 #[.val (.ref ps), .val (.ref ps), .unset] [(.ref ps), (.ref ps)])) X hx rfl rfl rfl (pc0 := 2) (pc' := 5) (same := true) rfl (hb hby d26_2) rfl (decide_eq_true rfl) (by decide) (by decide) k_) ?_
  show Gl p e below s _ _ _ (T.setTop (mkF m 5 #[.val (.ref ps), .val (.ref ps), .unset] []))
  refine Gl.by (fun t_ k_ => XS.iconst X.here hx rfl (hb hby d26_5) k_) ?_
  show Gl p e below s _ _ _ (T.setTop (mkF m 6 #[.val (.ref ps), .val (.ref ps), .unset] [(.int (1 : Int32))]))
  exact Gl.retZ X hx hlk hret (by simp) (hb hby d26_6) (by decide) (by decide) ⟨rfl, rfl, eT⟩
set_option maxRecDepth 65536 in
set_option maxHeartbeats 40000000 in
theorem own_at0 (l : Launch) (Z : State) (a0 : Array Value) (hw : ∀ d ∈ tables_1, d.before a0 Z = true) (ao ps al ed : Nat) (mc : Int32) (dc el mr : Nat) (em : Value) (h0 : Heap) (n0 : Nat) (Za : n0 ≤ ao) (E : Exa Z h0 ao "com/example/intentio/intentio/hddl/Atom") (F_predicate : Fld Z h0 ao "com/example/intentio/intentio/hddl/Atom" "predicate" "Ljava/lang/String;" .null) (F_arguments : Fld Z h0 ao "com/example/intentio/intentio/hddl/Atom" "arguments" "Ljava/util/List;" .null) (ha : Alo Z h0 al (.ref ed) 0 mc) (O : Old Z n0 h0) (K : ALok Z dc el mr em) :
    Ctr l Z (⟨"com/example/intentio/intentio/hddl/Atom", "<init>", "(Ljava/lang/String;Ljava/util/List;)V"⟩ : MethodName) prog_44_method_1_code 3 none [] own_rAT #[(.ref ao), (.ref ps), (.ref al)] h0 (fun v h L => v = none ∧ Fr n0 L ∧ Keep h0 h [ao] ∧ Exa Z h ao "com/example/intentio/intentio/hddl/Atom" ∧ Fld Z h ao "com/example/intentio/intentio/hddl/Atom" "predicate" "Ljava/lang/String;" (.ref ps) ∧ Fld Z h ao "com/example/intentio/intentio/hddl/Atom" "arguments" "Ljava/util/List;" (.ref el)) := by
  refine Ctr.intro (plainFor_of_name pn_16) #[.val (.ref ao), .val (.ref ps), .val (.ref al)] (fun m => by first | (simp [entryFrame, mkF, argsToLocals, Value.category]; done) | rfl) ?_
  intro p e s m below meth c T hx hby hml hown hnm hret hlk hZ hnamed X eT
  have hown : s.vm.findClass "com/example/intentio/intentio/hddl/Atom" = some m.cls := hown
  have N := Fr.nil n0
  have lao : ao < h0.size := E.lt
  show Gl p e below s _ _ _ (T.setTop (mkF m 0 #[.val (.ref ao), .val (.ref ps), .val (.ref al)] []))
  refine Gl.by (fun t_ k_ => XS.aloadN X.here hx rfl (hb hby d16_0) rfl rfl k_) ?_
  show Gl p e below s _ _ _ (T.setTop (mkF m 1 #[.val (.ref ao), .val (.ref ps), .val (.ref al)] [(.ref ao)]))
  refine Gl.spec X hx hZ rfl hown (hw _ (List.mem_of_getElem? (i := 90) rfl)) (hw _ (List.mem_of_getElem? (i := 51) rfl)) (hw _ (List.mem_of_getElem? (i := 54) rfl)) (by decide) (W := 0) (backC (own_rec l Z a0 hw ao h0 n0) hZ (hw _ (List.mem_of_getElem? (i := 54) rfl)) (hw _ (List.mem_of_getElem? (i := 53) rfl)) (by decide) (by decide)) eT (hb hby d16_1) (by rw [hml]; rfl) ao [] [] (lenOf pd_0 rfl) rfl rfl (Nat.le_of_eq rfl) (by decide) (by decide) ?_
  intro v T L X hq
  obtain ⟨rfl, rfl, eT⟩ := hq
  have N := Fr.app N (Fr.nil n0)
  show Gl p e below s _ _ _ (T.setTop (mkF m 4 #[.val (.ref ao), .val (.ref ps), .val (.ref al)] []))
  refine Gl.by (fun t_ k_ => XS.aloadN X.here hx rfl (hb hby d16_4) rfl rfl k_) ?_
  show Gl p e below s _ _ _ (T.setTop (mkF m 5 #[.val (.ref ao), .val (.ref ps), .val (.ref al)] [(.ref al)]))
  refine Gl.stat X hx hZ hown (hw _ (List.mem_of_getElem? (i := 91) rfl)) (hw _ (List.mem_of_getElem? (i := 92) rfl)) (hw _ (List.mem_of_getElem? (i := 93) rfl)) (hw _ (List.mem_of_getElem? (i := 94) rfl)) (by decide) (W := 0) (backC (own_co0 l Z a0 hw al ed mc dc el mr em h0 n0 ha O K) hZ (hw _ (List.mem_of_getElem? (i := 94) rfl)) (hw _ (List.mem_of_getElem? (i := 93) rfl)) (by decide) (by decide)) eT (hb hby d16_5) (by rw [hml]; rfl) [(.ref al)] [] (lenOf pd_12 rfl) rfl rfl (Nat.le_of_eq rfl) (by decide) (by decide) ?_
  intro v T L X hq
  obtain ⟨rfl, NQ, eT⟩ := hq
  have N := Fr.app N NQ
  show Gl p e below s _ _ _ (T.setTop (mkF m 8 #[.val (.ref ao), .val (.ref ps), .val (.ref al)] [(.ref el)]))
  refine Gl.by (fun t_ k_ => XS.astoreN X.here hx rfl (hb hby d16_8) rfl rfl (l' := #[.val (.ref ao), .val (.ref ps), .val (.ref el)]) rfl k_) ?_
  show Gl p e below s _ _ _ (T.setTop (mkF m 9 #[.val (.ref ao), .val (.ref ps), .val (.ref el)] []))
  refine Gl.by (fun t_ k_ => XS.aloadN X.here hx rfl (hb hby d16_9) rfl rfl k_) ?_
  show Gl p e below s _ _ _ (T.setTop (mkF m 10 #[.val (.ref ao), .val (.ref ps), .val (.ref el)] [(.ref ao)]))
  refine Gl.by (fun t_ k_ => XS.aloadN X.here hx rfl (hb hby d16_10) rfl rfl k_) ?_
  show Gl p e below s _ _ _ (T.setTop (mkF m 11 #[.val (.ref ao), .val (.ref ps), .val (.ref el)] [(.ref ps), (.ref ao)]))
  obtain ⟨T, h1, X, eT, W1, st⟩ := putF X hx hZ hown (host := "") (Or.inl (hw _ (List.mem_of_getElem? (i := 120) rfl))) Via.refl eT F_predicate E (Or.inr ⟨(hw _ (List.mem_of_getElem? (i := 121) rfl)), rfl, hnm⟩) (hw _ (List.mem_of_getElem? (i := 85) rfl)) (ty := (.object "java/lang/String")) (by decide) rfl rfl (g := (mkF m 11 #[.val (.ref ao), .val (.ref ps), .val (.ref el)] [(.ref ps), (.ref ao)])) rfl rfl (hb hby d16_11)
  have F1_predicate : Fld Z h1 ao "com/example/intentio/intentio/hddl/Atom" "predicate" "Ljava/lang/String;" (.ref ps) := Fld.same W1 F_predicate
  have sz1 := (Keep.of_wr W1).1
  have N := Fr.snoc X N (by omega)
  refine Gl.by st ?_
  show Gl p e below s _ _ _ (T.setTop (mkF m 14 #[.val (.ref ao), .val (.ref ps), .val (.ref el)] []))
  refine Gl.by (fun t_ k_ => XS.aloadN X.here hx rfl (hb hby d16_14) rfl rfl k_) ?_
  show Gl p e below s _ _ _ (T.setTop (mkF m 15 #[.val (.ref ao), .val (.ref ps), .val (.ref el)] [(.ref ao)]))
  refine Gl.by (fun t_ k_ => XS.aloadN X.here hx rfl (hb hby d16_15) rfl rfl k_) ?_
  show Gl p e below s _ _ _ (T.setTop (mkF m 16 #[.val (.ref ao), .val (.ref ps), .val (.ref el)] [(.ref el), (.ref ao)]))
  obtain ⟨T, h2, X, eT, W2, st⟩ := putF X hx hZ hown (host := "") (Or.inl (hw _ (List.mem_of_getElem? (i := 122) rfl))) Via.refl eT (F_arguments.other W1 (Or.inr (slot_ne (C := "com/example/intentio/intentio/hddl/Atom") (Or.inr (hw _ (List.mem_of_getElem? (i := 123) rfl))) (Or.inr (hw _ (List.mem_of_getElem? (i := 121) rfl))) (by decide) (t := (.object "java/util/List")) (t' := (.object "java/lang/String")) (by decide) (by decide)))) (E.wr W1) (Or.inr ⟨(hw _ (List.mem_of_getElem? (i := 123) rfl)), rfl, hnm⟩) (hw _ (List.mem_of_getElem? (i := 85) rfl)) (ty := (.object "java/util/List")) (by decide) rfl rfl (g := (mkF m 16 #[.val (.ref ao), .val (.ref ps), .val (.ref el)] [(.ref el), (.ref ao)])) rfl rfl (hb hby d16_16)
  have F2_arguments : Fld Z h2 ao "com/example/intentio/intentio/hddl/Atom" "arguments" "Ljava/util/List;" (.ref el) := Fld.same W2 (F_arguments.other W1 (Or.inr (slot_ne (C := "com/example/intentio/intentio/hddl/Atom") (Or.inr (hw _ (List.mem_of_getElem? (i := 123) rfl))) (Or.inr (hw _ (List.mem_of_getElem? (i := 121) rfl))) (by decide) (t := (.object "java/util/List")) (t' := (.object "java/lang/String")) (by decide) (by decide))))
  have sz2 := (Keep.of_wr W2).1
  have N := Fr.snoc X N (by omega)
  refine Gl.by st ?_
  show Gl p e below s _ _ _ (T.setTop (mkF m 19 #[.val (.ref ao), .val (.ref ps), .val (.ref el)] []))
  refine Gl.retV X hx hlk hret (hb hby d16_19) (by decide) (by decide) ?_
  rw [eT]
  exact ⟨rfl, N, (((Keep.refl h0 [ao]).wr W1 (Or.inl (by simp))).wr W2 (Or.inl (by simp))), ((E.wr W1).wr W2), (F1_predicate.other W2 (Or.inr (slot_ne (C := "com/example/intentio/intentio/hddl/Atom") (Or.inr (hw _ (List.mem_of_getElem? (i := 121) rfl))) (Or.inr (hw _ (List.mem_of_getElem? (i := 123) rfl))) (by decide) (t := (.object "java/lang/String")) (t' := (.object "java/util/List")) (by decide) (by decide)))), F2_arguments⟩
set_option maxRecDepth 65536 in
set_option maxHeartbeats 40000000 in
theorem own_at1 (l : Launch) (Z : State) (a0 : Array Value) (hw : ∀ d ∈ tables_1, d.before a0 Z = true) (ao ps al : Nat) (mc : Int32) (ed x : Nat) (k : ClassId) (dc el mr : Nat) (em : Value) (h0 : Heap) (n0 : Nat) (Za : n0 ≤ ao) (E : Exa Z h0 ao "com/example/intentio/intentio/hddl/Atom") (F_predicate : Fld Z h0 ao "com/example/intentio/intentio/hddl/Atom" "predicate" "Ljava/lang/String;" .null) (F_arguments : Fld Z h0 ao "com/example/intentio/intentio/hddl/Atom" "arguments" "Ljava/util/List;" .null) (ha : Alo Z h0 al (.ref ed) 1 mc) (Z0 : n0 ≤ h0.size) (V : Arv Z h0 ed k (.object "java/lang/Object") 10 [(.ref x), .null, .null, .null, .null, .null, .null, .null, .null, .null] .null) (Ed : Exa Z h0 ed "[Ljava/lang/Object;") (Ex : Exa Z h0 x "com/example/intentio/intentio/hddl/Term$Variable") (O : Old Z n0 h0) (K : ALok Z dc el mr em) :
    Ctr l Z (⟨"com/example/intentio/intentio/hddl/Atom", "<init>", "(Ljava/lang/String;Ljava/util/List;)V"⟩ : MethodName) prog_44_method_1_code 3 none [] own_rAT #[(.ref ao), (.ref ps), (.ref al)] h0 (fun v h L => v = none ∧ Fr n0 L ∧ Keep h0 h [ao] ∧ Exa Z h ao "com/example/intentio/intentio/hddl/Atom" ∧ Fld Z h ao "com/example/intentio/intentio/hddl/Atom" "predicate" "Ljava/lang/String;" (.ref ps) ∧ ∃ li : Nat, h0.size ≤ li ∧ Fld Z h ao "com/example/intentio/intentio/hddl/Atom" "arguments" "Ljava/util/List;" (.ref li) ∧ Exa Z h li "java/util/ImmutableCollections$List12" ∧ Fld Z h li "java/util/ImmutableCollections$List12" "e0" "Ljava/lang/Object;" (.ref x) ∧ Fld Z h li "java/util/ImmutableCollections$List12" "e1" "Ljava/lang/Object;" em) := by
  refine Ctr.intro (plainFor_of_name pn_16) #[.val (.ref ao), .val (.ref ps), .val (.ref al)] (fun m => by first | (simp [entryFrame, mkF, argsToLocals, Value.category]; done) | rfl) ?_
  intro p e s m below meth c T hx hby hml hown hnm hret hlk hZ hnamed X eT
  have hown : s.vm.findClass "com/example/intentio/intentio/hddl/Atom" = some m.cls := hown
  have N := Fr.nil n0
  have lao : ao < h0.size := E.lt
  show Gl p e below s _ _ _ (T.setTop (mkF m 0 #[.val (.ref ao), .val (.ref ps), .val (.ref al)] []))
  refine Gl.by (fun t_ k_ => XS.aloadN X.here hx rfl (hb hby d16_0) rfl rfl k_) ?_
  show Gl p e below s _ _ _ (T.setTop (mkF m 1 #[.val (.ref ao), .val (.ref ps), .val (.ref al)] [(.ref ao)]))
  refine Gl.spec X hx hZ rfl hown (hw _ (List.mem_of_getElem? (i := 90) rfl)) (hw _ (List.mem_of_getElem? (i := 51) rfl)) (hw _ (List.mem_of_getElem? (i := 54) rfl)) (by decide) (W := 0) (backC (own_rec l Z a0 hw ao h0 n0) hZ (hw _ (List.mem_of_getElem? (i := 54) rfl)) (hw _ (List.mem_of_getElem? (i := 53) rfl)) (by decide) (by decide)) eT (hb hby d16_1) (by rw [hml]; rfl) ao [] [] (lenOf pd_0 rfl) rfl rfl (Nat.le_of_eq rfl) (by decide) (by decide) ?_
  intro v T L X hq
  obtain ⟨rfl, rfl, eT⟩ := hq
  have N := Fr.app N (Fr.nil n0)
  show Gl p e below s _ _ _ (T.setTop (mkF m 4 #[.val (.ref ao), .val (.ref ps), .val (.ref al)] []))
  refine Gl.by (fun t_ k_ => XS.aloadN X.here hx rfl (hb hby d16_4) rfl rfl k_) ?_
  show Gl p e below s _ _ _ (T.setTop (mkF m 5 #[.val (.ref ao), .val (.ref ps), .val (.ref al)] [(.ref al)]))
  refine Gl.stat X hx hZ hown (hw _ (List.mem_of_getElem? (i := 91) rfl)) (hw _ (List.mem_of_getElem? (i := 92) rfl)) (hw _ (List.mem_of_getElem? (i := 93) rfl)) (hw _ (List.mem_of_getElem? (i := 94) rfl)) (by decide) (W := 0) (backC (own_co1 l Z a0 hw al mc ed x k dc el mr em h0 n0 ha Z0 V Ed Ex O K) hZ (hw _ (List.mem_of_getElem? (i := 94) rfl)) (hw _ (List.mem_of_getElem? (i := 93) rfl)) (by decide) (by decide)) eT (hb hby d16_5) (by rw [hml]; rfl) [(.ref al)] [] (lenOf pd_12 rfl) rfl rfl (Nat.le_of_eq rfl) (by decide) (by decide) ?_
  intro v T L X hq
  obtain ⟨NQ, K1, li, rfl, ge, Q1, Q2, Q3⟩ := hq
  have N := Fr.app N NQ
  obtain ⟨h1, eT⟩ : ∃ z, T.heap = z := ⟨_, rfl⟩
  rw [eT] at K1 Q1 Q2 Q3
  have sz1 := K1.1
  show Gl p e below s _ _ _ (T.setTop (mkF m 8 #[.val (.ref ao), .val (.ref ps), .val (.ref al)] [(.ref li)]))
  have lli : li < h1.size := Q1.lt
  refine Gl.by (fun t_ k_ => XS.astoreN X.here hx rfl (hb hby d16_8) rfl rfl (l' := #[.val (.ref ao), .val (.ref ps), .val (.ref li)]) rfl k_) ?_
  show Gl p e below s _ _ _ (T.setTop (mkF m 9 #[.val (.ref ao), .val (.ref ps), .val (.ref li)] []))
  refine Gl.by (fun t_ k_ => XS.aloadN X.here hx rfl (hb hby d16_9) rfl rfl k_) ?_
  show Gl p e below s _ _ _ (T.setTop (mkF m 10 #[.val (.ref ao), .val (.ref ps), .val (.ref li)] [(.ref ao)]))
  refine Gl.by (fun t_ k_ => XS.aloadN X.here hx rfl (hb hby d16_10) rfl rfl k_) ?_
  show Gl p e below s _ _ _ (T.setTop (mkF m 11 #[.val (.ref ao), .val (.ref ps), .val (.ref li)] [(.ref ps), (.ref ao)]))
  obtain ⟨T, h2, X, eT, W2, st⟩ := putF X hx hZ hown (host := "") (Or.inl (hw _ (List.mem_of_getElem? (i := 120) rfl))) Via.refl eT (F_predicate.keep K1 nin0) (E.keep K1) (Or.inr ⟨(hw _ (List.mem_of_getElem? (i := 121) rfl)), rfl, hnm⟩) (hw _ (List.mem_of_getElem? (i := 85) rfl)) (ty := (.object "java/lang/String")) (by decide) rfl rfl (g := (mkF m 11 #[.val (.ref ao), .val (.ref ps), .val (.ref li)] [(.ref ps), (.ref ao)])) rfl rfl (hb hby d16_11)
  have F2_predicate : Fld Z h2 ao "com/example/intentio/intentio/hddl/Atom" "predicate" "Ljava/lang/String;" (.ref ps) := Fld.same W2 (F_predicate.keep K1 nin0)
  have sz2 := (Keep.of_wr W2).1
  have N := Fr.snoc X N (by omega)
  refine Gl.by st ?_
  show Gl p e below s _ _ _ (T.setTop (mkF m 14 #[.val (.ref ao), .val (.ref ps), .val (.ref li)] []))
  refine Gl.by (fun t_ k_ => XS.aloadN X.here hx rfl (hb hby d16_14) rfl rfl k_) ?_
  show Gl p e below s _ _ _ (T.setTop (mkF m 15 #[.val (.ref ao), .val (.ref ps), .val (.ref li)] [(.ref ao)]))
  refine Gl.by (fun t_ k_ => XS.aloadN X.here hx rfl (hb hby d16_15) rfl rfl k_) ?_
  show Gl p e below s _ _ _ (T.setTop (mkF m 16 #[.val (.ref ao), .val (.ref ps), .val (.ref li)] [(.ref li), (.ref ao)]))
  obtain ⟨T, h3, X, eT, W3, st⟩ := putF X hx hZ hown (host := "") (Or.inl (hw _ (List.mem_of_getElem? (i := 122) rfl))) Via.refl eT ((F_arguments.keep K1 nin0).other W2 (Or.inr (slot_ne (C := "com/example/intentio/intentio/hddl/Atom") (Or.inr (hw _ (List.mem_of_getElem? (i := 123) rfl))) (Or.inr (hw _ (List.mem_of_getElem? (i := 121) rfl))) (by decide) (t := (.object "java/util/List")) (t' := (.object "java/lang/String")) (by decide) (by decide)))) ((E.keep K1).wr W2) (Or.inr ⟨(hw _ (List.mem_of_getElem? (i := 123) rfl)), rfl, hnm⟩) (hw _ (List.mem_of_getElem? (i := 85) rfl)) (ty := (.object "java/util/List")) (by decide) rfl rfl (g := (mkF m 16 #[.val (.ref ao), .val (.ref ps), .val (.ref li)] [(.ref li), (.ref ao)])) rfl rfl (hb hby d16_16)
  have F3_arguments : Fld Z h3 ao "com/example/intentio/intentio/hddl/Atom" "arguments" "Ljava/util/List;" (.ref li) := Fld.same W3 ((F_arguments.keep K1 nin0).other W2 (Or.inr (slot_ne (C := "com/example/intentio/intentio/hddl/Atom") (Or.inr (hw _ (List.mem_of_getElem? (i := 123) rfl))) (Or.inr (hw _ (List.mem_of_getElem? (i := 121) rfl))) (by decide) (t := (.object "java/util/List")) (t' := (.object "java/lang/String")) (by decide) (by decide))))
  have sz3 := (Keep.of_wr W3).1
  have N := Fr.snoc X N (by omega)
  refine Gl.by st ?_
  show Gl p e below s _ _ _ (T.setTop (mkF m 19 #[.val (.ref ao), .val (.ref ps), .val (.ref li)] []))
  refine Gl.retV X hx hlk hret (hb hby d16_19) (by decide) (by decide) ?_
  rw [eT]
  exact ⟨rfl, N, ((((Keep.refl h0 [ao]).trans K1 all0).wr W2 (Or.inl (by simp))).wr W3 (Or.inl (by simp))), (((E.keep K1).wr W2).wr W3), (F2_predicate.other W3 (Or.inr (slot_ne (C := "com/example/intentio/intentio/hddl/Atom") (Or.inr (hw _ (List.mem_of_getElem? (i := 121) rfl))) (Or.inr (hw _ (List.mem_of_getElem? (i := 123) rfl))) (by decide) (t := (.object "java/lang/String")) (t' := (.object "java/util/List")) (by decide) (by decide)))), li, by omega, F3_arguments, ((Q1.wr W2).wr W3), ((Q2.other W2 (Or.inl (ne_exa Q1 (E.keep K1) (by decide)))).other W3 (Or.inl (ne_exa (Q1.wr W2) ((E.keep K1).wr W2) (by decide)))), ((Q3.other W2 (Or.inl (ne_exa Q1 (E.keep K1) (by decide)))).other W3 (Or.inl (ne_exa (Q1.wr W2) ((E.keep K1).wr W2) (by decide))))⟩
theorem own_words {Z : State} {a0 : Array Value} (hw : ∀ d ∈ tables_1, d.before a0 Z = true) : ∀ d ∈ StrChars.Road.words, d.before a0 Z = true := fun d hd => hw d ((by decide +kernel : ∀ d ∈ StrChars.Road.words, d ∈ tables_1) d hd)
set_option maxRecDepth 65536 in
set_option maxHeartbeats 40000000 in
theorem own_law (l : Launch) (Z : State) (a0 : Array Value) (hw : ∀ d ∈ tables_1, d.before a0 Z = true) (ws : List Jvm.Cond) (p0 p1 p2 p3 z : Int32) (dc el mr : Nat) (em : Value) (h0 : Heap) (n0 : Nat) (Z0 : n0 ≤ h0.size) (S : Sta Z Z.heap "java/lang/String" "COMPACT_STRINGS" "Z" (.int z)) (hz : ¬ z = 0) (O : Old Z n0 h0) (K : ALok Z dc el mr em) :
    Ctr l Z x code maxLocals ret ws room_1 #[(.int p0), (.int p1), (.int p2), (.int p3)] h0 (fun v h L => v = some (.int 1) ∧ Fr n0 L) := by
  refine Ctr.intro (plainFor_of_name pn_17) #[.val (.int p0), .val (.int p1), .val (.int p2), .val (.int p3), .unset, .unset, .unset, .unset, .unset, .unset, .unset, .unset, .unset, .unset, .unset] (fun m => by first | (simp [entryFrame, mkF, argsToLocals, Value.category, maxLocals]; done) | rfl) ?_
  intro p e s m below meth c T hx hby hml hown hnm hret hlk hZ hnamed X eT
  have hown : s.vm.findClass "com/example/intentio/intentio/hddl/LiteralComplementPinLaw" = some m.cls := hown
  have N := Fr.nil n0
  obtain ⟨-, ra1, sa1⟩ := and255_char p1
  obtain ⟨-, ra2, sa2⟩ := and255_char p2
  obtain ⟨-, ra3, sa3⟩ := and255_char p3
  obtain ⟨-, ra8, sa8⟩ := and255_char ((p0.toUInt32 >>> ((8 : Int32) &&& 31).toUInt32).toInt32)
  have hp : ∀ c ∈ ([(p1 &&& (255 : Int32)), (p2 &&& (255 : Int32)), (p3 &&& (255 : Int32))] : List Int32), ¬ c < 0 ∧ ¬ (255 : Int32) < c := by
    intro c hc
    simp only [List.mem_cons, List.not_mem_nil, or_false] at hc
    rcases hc with rfl | rfl | rfl
    · exact sa1
    · exact sa2
    · exact sa3
  have j00 : Gl p e below s room_1.cells room_1.slots (fun v h L => v = some (.int 1) ∧ Fr n0 L) (T.setTop (mkF m 26 #[.val (.int p0), .val (.int p1), .val (.int p2), .val (.int p3), .val (.int (0 : Int32)), .val (.int (0 : Int32)), .unset, .unset, .unset, .unset, .unset, .unset, .unset, .unset, .unset] [])) := by
    obtain ⟨T, h1, X, eT, E1, A1, D1, -, st⟩ := newO X hx hZ hown (hw _ (List.mem_of_getElem? (i := 0) rfl)) (hw _ (List.mem_of_getElem? (i := 1) rfl)) (hw _ (List.mem_of_getElem? (i := 2) rfl)) eT (g := (mkF m 26 #[.val (.int p0), .val (.int p1), .val (.int p2), .val (.int p3), .val (.int (0 : Int32)), .val (.int (0 : Int32)), .unset, .unset, .unset, .unset, .unset, .unset, .unset, .unset, .unset] [])) rfl (hb hby at_26) (by decide) (by decide)
    obtain ⟨ps, g1⟩ : ∃ z, z = h0.size := ⟨_, rfl⟩
    rw [← g1] at A1 D1 st
    have sz1 := E1.1
    have lt1 : ps < h1.size := A1.lt
    refine Gl.by st ?_
    have F1_coder : Fld Z h1 ps "java/lang/String" "coder" "B" (.int (0 : Int32)) := D1 (Or.inr (hw _ (List.mem_of_getElem? (i := 27) rfl))) (ty := .byte) (by decide)
    have F1_value : Fld Z h1 ps "java/lang/String" "value" "[B" .null := D1 (Or.inr (hw _ (List.mem_of_getElem? (i := 29) rfl))) (ty := (.array .byte)) (by decide)
    show Gl p e below s room_1.cells room_1.slots (fun v h L => v = some (.int 1) ∧ Fr n0 L) (T.setTop (mkF m 29 #[.val (.int p0), .val (.int p1), .val (.int p2), .val (.int p3), .val (.int (0 : Int32)), .val (.int (0 : Int32)), .unset, .unset, .unset, .unset, .unset, .unset, .unset, .unset, .unset] [(.ref ps)]))
    refine Gl.by (fun t_ k_ => XS.dup X.here hx rfl (hb hby at_29) rfl rfl k_) ?_
    show Gl p e below s room_1.cells room_1.slots (fun v h L => v = some (.int 1) ∧ Fr n0 L) (T.setTop (mkF m 30 #[.val (.int p0), .val (.int p1), .val (.int p2), .val (.int p3), .val (.int (0 : Int32)), .val (.int (0 : Int32)), .unset, .unset, .unset, .unset, .unset, .unset, .unset, .unset, .unset] [(.ref ps), (.ref ps)]))
    refine Gl.by (fun t_ k_ => XS.iconst X.here hx rfl (hb hby at_30) k_) ?_
    show Gl p e below s room_1.cells room_1.slots (fun v h L => v = some (.int 1) ∧ Fr n0 L) (T.setTop (mkF m 31 #[.val (.int p0), .val (.int p1), .val (.int p2), .val (.int p3), .val (.int (0 : Int32)), .val (.int (0 : Int32)), .unset, .unset, .unset, .unset, .unset, .unset, .unset, .unset, .unset] [(.int (3 : Int32)), (.ref ps), (.ref ps)]))
    obtain ⟨T, h2, k2, X, eT, E2, A2, st⟩ := newP X hx hZ (hw _ (List.mem_of_getElem? (i := 3) rfl)) eT (g := (mkF m 31 #[.val (.int p0), .val (.int p1), .val (.int p2), .val (.int p3), .val (.int (0 : Int32)), .val (.int (0 : Int32)), .unset, .unset, .unset, .unset, .unset, .unset, .unset, .unset, .unset] [(.int (3 : Int32)), (.ref ps), (.ref ps)])) rfl (hb hby at_31) rfl (by decide) (cap := 3) (by decide) (by decide) (by decide) (by decide)
    obtain ⟨ch, g2⟩ : ∃ z, z = h1.size := ⟨_, rfl⟩
    rw [← g2] at A2 st
    have sz2 := E2.1
    have lt2 : ch < h2.size := A2.lt
    have V2 : Arv Z h2 ch k2 .char (3 : Int32) [(.int (0 : Int32)), (.int (0 : Int32)), (.int (0 : Int32))] (.int (0 : Int32)) := (Arv.new A2 (by decide)).pad (pad_rep [] (.int (0 : Int32)) 3)
    refine Gl.by st ?_
    show Gl p e below s room_1.cells room_1.slots (fun v h L => v = some (.int 1) ∧ Fr n0 L) (T.setTop (mkF m 33 #[.val (.int p0), .val (.int p1), .val (.int p2), .val (.int p3), .val (.int (0 : Int32)), .val (.int (0 : Int32)), .unset, .unset, .unset, .unset, .unset, .unset, .unset, .unset, .unset] [(.ref ch), (.ref ps), (.ref ps)]))
    refine Gl.by (fun t_ k_ => XS.dup X.here hx rfl (hb hby at_33) rfl rfl k_) ?_
    show Gl p e below s room_1.cells room_1.slots (fun v h L => v = some (.int 1) ∧ Fr n0 L) (T.setTop (mkF m 34 #[.val (.int p0), .val (.int p1), .val (.int p2), .val (.int p3), .val (.int (0 : Int32)), .val (.int (0 : Int32)), .unset, .unset, .unset, .unset, .unset, .unset, .unset, .unset, .unset] [(.ref ch), (.ref ch), (.ref ps), (.ref ps)]))
    refine Gl.by (fun t_ k_ => XS.iconst X.here hx rfl (hb hby at_34) k_) ?_
    show Gl p e below s room_1.cells room_1.slots (fun v h L => v = some (.int 1) ∧ Fr n0 L) (T.setTop (mkF m 35 #[.val (.int p0), .val (.int p1), .val (.int p2), .val (.int p3), .val (.int (0 : Int32)), .val (.int (0 : Int32)), .unset, .unset, .unset, .unset, .unset, .unset, .unset, .unset, .unset] [(.int (0 : Int32)), (.ref ch), (.ref ch), (.ref ps), (.ref ps)]))
    refine Gl.by (fun t_ k_ => XS.iloadN X.here hx rfl (hb hby at_35) rfl k_) ?_
    show Gl p e below s room_1.cells room_1.slots (fun v h L => v = some (.int 1) ∧ Fr n0 L) (T.setTop (mkF m 36 #[.val (.int p0), .val (.int p1), .val (.int p2), .val (.int p3), .val (.int (0 : Int32)), .val (.int (0 : Int32)), .unset, .unset, .unset, .unset, .unset, .unset, .unset, .unset, .unset] [(.int p1), (.int (0 : Int32)), (.ref ch), (.ref ch), (.ref ps), (.ref ps)]))
    refine Gl.by (fun t_ k_ => XS.sipush X.here hx rfl (hb hby at_36) k_) ?_
    show Gl p e below s room_1.cells room_1.slots (fun v h L => v = some (.int 1) ∧ Fr n0 L) (T.setTop (mkF m 39 #[.val (.int p0), .val (.int p1), .val (.int p2), .val (.int p3), .val (.int (0 : Int32)), .val (.int (0 : Int32)), .unset, .unset, .unset, .unset, .unset, .unset, .unset, .unset, .unset] [(.int (255 : Int32)), (.int p1), (.int (0 : Int32)), (.ref ch), (.ref ch), (.ref ps), (.ref ps)]))
    refine Gl.by (fun t_ k_ => XS.iand X.here hx rfl (hb hby at_39) rfl k_) ?_
    show Gl p e below s room_1.cells room_1.slots (fun v h L => v = some (.int 1) ∧ Fr n0 L) (T.setTop (mkF m 40 #[.val (.int p0), .val (.int p1), .val (.int p2), .val (.int p3), .val (.int (0 : Int32)), .val (.int (0 : Int32)), .unset, .unset, .unset, .unset, .unset, .unset, .unset, .unset, .unset] [(.int (p1 &&& (255 : Int32))), (.int (0 : Int32)), (.ref ch), (.ref ch), (.ref ps), (.ref ps)]))
    refine Gl.by (fun t_ k_ => XS.i2c X.here hx rfl (hb hby at_40) rfl k_) ?_
    show Gl p e below s room_1.cells room_1.slots (fun v h L => v = some (.int 1) ∧ Fr n0 L) (T.setTop (mkF m 41 #[.val (.int p0), .val (.int p1), .val (.int p2), .val (.int p3), .val (.int (0 : Int32)), .val (.int (0 : Int32)), .unset, .unset, .unset, .unset, .unset, .unset, .unset, .unset, .unset] [(.int ((p1 &&& (255 : Int32)).toUInt32.toUInt16.toUInt32.toInt32)), (.int (0 : Int32)), (.ref ch), (.ref ch), (.ref ps), (.ref ps)]))
    rw [(and255_char p1).1]
    show Gl p e below s room_1.cells room_1.slots (fun v h L => v = some (.int 1) ∧ Fr n0 L) (T.setTop (mkF m 41 #[.val (.int p0), .val (.int p1), .val (.int p2), .val (.int p3), .val (.int (0 : Int32)), .val (.int (0 : Int32)), .unset, .unset, .unset, .unset, .unset, .unset, .unset, .unset, .unset] [(.int ((p1 &&& (255 : Int32)))), (.int (0 : Int32)), (.ref ch), (.ref ch), (.ref ps), (.ref ps)]))
    obtain ⟨cl3, Ar3, q3, S3, M3, H3, G3⟩ := (id (V2) : Arv Z h2 ch k2 .char (3 : Int32) [(.int (0 : Int32)), (.int (0 : Int32)), (.int (0 : Int32))] (.int (0 : Int32)))
    obtain ⟨T, h3, X, eT, W3, st⟩ := stC X hx hZ eT Ar3 (j := (0 : Int32)) (inb_of S3 ⟨by decide, by decide⟩) (g := (mkF m 41 #[.val (.int p0), .val (.int p1), .val (.int p2), .val (.int p3), .val (.int (0 : Int32)), .val (.int (0 : Int32)), .unset, .unset, .unset, .unset, .unset, .unset, .unset, .unset, .unset] [(.int ((p1 &&& (255 : Int32)))), (.int (0 : Int32)), (.ref ch), (.ref ch), (.ref ps), (.ref ps)])) rfl rfl (hb hby at_41)
    have V3 : Arv Z h3 ch k2 .char (3 : Int32) [(.int (nar .char ((p1 &&& (255 : Int32))))), (.int (0 : Int32)), (.int (0 : Int32))] (.int (0 : Int32)) := Arv.set Ar3 q3 S3 M3 H3 G3 (fits_nar_char _) W3 0 rfl (Nat.le_of_ble_eq_true rfl)
    have sz3 := (Keep.of_wr W3).1
    have N := Fr.snoc X N (by omega)
    refine Gl.by st ?_
    show Gl p e below s room_1.cells room_1.slots (fun v h L => v = some (.int 1) ∧ Fr n0 L) (T.setTop (mkF m 42 #[.val (.int p0), .val (.int p1), .val (.int p2), .val (.int p3), .val (.int (0 : Int32)), .val (.int (0 : Int32)), .unset, .unset, .unset, .unset, .unset, .unset, .unset, .unset, .unset] [(.ref ch), (.ref ps), (.ref ps)]))
    refine Gl.by (fun t_ k_ => XS.dup X.here hx rfl (hb hby at_42) rfl rfl k_) ?_
    show Gl p e below s room_1.cells room_1.slots (fun v h L => v = some (.int 1) ∧ Fr n0 L) (T.setTop (mkF m 43 #[.val (.int p0), .val (.int p1), .val (.int p2), .val (.int p3), .val (.int (0 : Int32)), .val (.int (0 : Int32)), .unset, .unset, .unset, .unset, .unset, .unset, .unset, .unset, .unset] [(.ref ch), (.ref ch), (.ref ps), (.ref ps)]))
    refine Gl.by (fun t_ k_ => XS.iconst X.here hx rfl (hb hby at_43) k_) ?_
    show Gl p e below s room_1.cells room_1.slots (fun v h L => v = some (.int 1) ∧ Fr n0 L) (T.setTop (mkF m 44 #[.val (.int p0), .val (.int p1), .val (.int p2), .val (.int p3), .val (.int (0 : Int32)), .val (.int (0 : Int32)), .unset, .unset, .unset, .unset, .unset, .unset, .unset, .unset, .unset] [(.int (1 : Int32)), (.ref ch), (.ref ch), (.ref ps), (.ref ps)]))
    refine Gl.by (fun t_ k_ => XS.iloadN X.here hx rfl (hb hby at_44) rfl k_) ?_
    show Gl p e below s room_1.cells room_1.slots (fun v h L => v = some (.int 1) ∧ Fr n0 L) (T.setTop (mkF m 45 #[.val (.int p0), .val (.int p1), .val (.int p2), .val (.int p3), .val (.int (0 : Int32)), .val (.int (0 : Int32)), .unset, .unset, .unset, .unset, .unset, .unset, .unset, .unset, .unset] [(.int p2), (.int (1 : Int32)), (.ref ch), (.ref ch), (.ref ps), (.ref ps)]))
    refine Gl.by (fun t_ k_ => XS.sipush X.here hx rfl (hb hby at_45) k_) ?_
    show Gl p e below s room_1.cells room_1.slots (fun v h L => v = some (.int 1) ∧ Fr n0 L) (T.setTop (mkF m 48 #[.val (.int p0), .val (.int p1), .val (.int p2), .val (.int p3), .val (.int (0 : Int32)), .val (.int (0 : Int32)), .unset, .unset, .unset, .unset, .unset, .unset, .unset, .unset, .unset] [(.int (255 : Int32)), (.int p2), (.int (1 : Int32)), (.ref ch), (.ref ch), (.ref ps), (.ref ps)]))
    refine Gl.by (fun t_ k_ => XS.iand X.here hx rfl (hb hby at_48) rfl k_) ?_
    show Gl p e below s room_1.cells room_1.slots (fun v h L => v = some (.int 1) ∧ Fr n0 L) (T.setTop (mkF m 49 #[.val (.int p0), .val (.int p1), .val (.int p2), .val (.int p3), .val (.int (0 : Int32)), .val (.int (0 : Int32)), .unset, .unset, .unset, .unset, .unset, .unset, .unset, .unset, .unset] [(.int (p2 &&& (255 : Int32))), (.int (1 : Int32)), (.ref ch), (.ref ch), (.ref ps), (.ref ps)]))
    refine Gl.by (fun t_ k_ => XS.i2c X.here hx rfl (hb hby at_49) rfl k_) ?_
    show Gl p e below s room_1.cells room_1.slots (fun v h L => v = some (.int 1) ∧ Fr n0 L) (T.setTop (mkF m 50 #[.val (.int p0), .val (.int p1), .val (.int p2), .val (.int p3), .val (.int (0 : Int32)), .val (.int (0 : Int32)), .unset, .unset, .unset, .unset, .unset, .unset, .unset, .unset, .unset] [(.int ((p2 &&& (255 : Int32)).toUInt32.toUInt16.toUInt32.toInt32)), (.int (1 : Int32)), (.ref ch), (.ref ch), (.ref ps), (.ref ps)]))
    rw [(and255_char p2).1]
    show Gl p e below s room_1.cells room_1.slots (fun v h L => v = some (.int 1) ∧ Fr n0 L) (T.setTop (mkF m 50 #[.val (.int p0), .val (.int p1), .val (.int p2), .val (.int p3), .val (.int (0 : Int32)), .val (.int (0 : Int32)), .unset, .unset, .unset, .unset, .unset, .unset, .unset, .unset, .unset] [(.int ((p2 &&& (255 : Int32)))), (.int (1 : Int32)), (.ref ch), (.ref ch), (.ref ps), (.ref ps)]))
    obtain ⟨cl4, Ar4, q4, S4, M4, H4, G4⟩ := (id (V3) : Arv Z h3 ch k2 .char (3 : Int32) [(.int (nar .char ((p1 &&& (255 : Int32))))), (.int (0 : Int32)), (.int (0 : Int32))] (.int (0 : Int32)))
    obtain ⟨T, h4, X, eT, W4, st⟩ := stC X hx hZ eT Ar4 (j := (1 : Int32)) (inb_of S4 ⟨by decide, by decide⟩) (g := (mkF m 50 #[.val (.int p0), .val (.int p1), .val (.int p2), .val (.int p3), .val (.int (0 : Int32)), .val (.int (0 : Int32)), .unset, .unset, .unset, .unset, .unset, .unset, .unset, .unset, .unset] [(.int ((p2 &&& (255 : Int32)))), (.int (1 : Int32)), (.ref ch), (.ref ch), (.ref ps), (.ref ps)])) rfl rfl (hb hby at_50)
    have V4 : Arv Z h4 ch k2 .char (3 : Int32) [(.int (nar .char ((p1 &&& (255 : Int32))))), (.int (nar .char ((p2 &&& (255 : Int32))))), (.int (0 : Int32))] (.int (0 : Int32)) := Arv.set Ar4 q4 S4 M4 H4 G4 (fits_nar_char _) W4 1 rfl (Nat.le_of_ble_eq_true rfl)
    have sz4 := (Keep.of_wr W4).1
    have N := Fr.snoc X N (by omega)
    refine Gl.by st ?_
    show Gl p e below s room_1.cells room_1.slots (fun v h L => v = some (.int 1) ∧ Fr n0 L) (T.setTop (mkF m 51 #[.val (.int p0), .val (.int p1), .val (.int p2), .val (.int p3), .val (.int (0 : Int32)), .val (.int (0 : Int32)), .unset, .unset, .unset, .unset, .unset, .unset, .unset, .unset, .unset] [(.ref ch), (.ref ps), (.ref ps)]))
    refine Gl.by (fun t_ k_ => XS.dup X.here hx rfl (hb hby at_51) rfl rfl k_) ?_
    show Gl p e below s room_1.cells room_1.slots (fun v h L => v = some (.int 1) ∧ Fr n0 L) (T.setTop (mkF m 52 #[.val (.int p0), .val (.int p1), .val (.int p2), .val (.int p3), .val (.int (0 : Int32)), .val (.int (0 : Int32)), .unset, .unset, .unset, .unset, .unset, .unset, .unset, .unset, .unset] [(.ref ch), (.ref ch), (.ref ps), (.ref ps)]))
    refine Gl.by (fun t_ k_ => XS.iconst X.here hx rfl (hb hby at_52) k_) ?_
    show Gl p e below s room_1.cells room_1.slots (fun v h L => v = some (.int 1) ∧ Fr n0 L) (T.setTop (mkF m 53 #[.val (.int p0), .val (.int p1), .val (.int p2), .val (.int p3), .val (.int (0 : Int32)), .val (.int (0 : Int32)), .unset, .unset, .unset, .unset, .unset, .unset, .unset, .unset, .unset] [(.int (2 : Int32)), (.ref ch), (.ref ch), (.ref ps), (.ref ps)]))
    refine Gl.by (fun t_ k_ => XS.iloadN X.here hx rfl (hb hby at_53) rfl k_) ?_
    show Gl p e below s room_1.cells room_1.slots (fun v h L => v = some (.int 1) ∧ Fr n0 L) (T.setTop (mkF m 54 #[.val (.int p0), .val (.int p1), .val (.int p2), .val (.int p3), .val (.int (0 : Int32)), .val (.int (0 : Int32)), .unset, .unset, .unset, .unset, .unset, .unset, .unset, .unset, .unset] [(.int p3), (.int (2 : Int32)), (.ref ch), (.ref ch), (.ref ps), (.ref ps)]))
    refine Gl.by (fun t_ k_ => XS.sipush X.here hx rfl (hb hby at_54) k_) ?_
    show Gl p e below s room_1.cells room_1.slots (fun v h L => v = some (.int 1) ∧ Fr n0 L) (T.setTop (mkF m 57 #[.val (.int p0), .val (.int p1), .val (.int p2), .val (.int p3), .val (.int (0 : Int32)), .val (.int (0 : Int32)), .unset, .unset, .unset, .unset, .unset, .unset, .unset, .unset, .unset] [(.int (255 : Int32)), (.int p3), (.int (2 : Int32)), (.ref ch), (.ref ch), (.ref ps), (.ref ps)]))
    refine Gl.by (fun t_ k_ => XS.iand X.here hx rfl (hb hby at_57) rfl k_) ?_
    show Gl p e below s room_1.cells room_1.slots (fun v h L => v = some (.int 1) ∧ Fr n0 L) (T.setTop (mkF m 58 #[.val (.int p0), .val (.int p1), .val (.int p2), .val (.int p3), .val (.int (0 : Int32)), .val (.int (0 : Int32)), .unset, .unset, .unset, .unset, .unset, .unset, .unset, .unset, .unset] [(.int (p3 &&& (255 : Int32))), (.int (2 : Int32)), (.ref ch), (.ref ch), (.ref ps), (.ref ps)]))
    refine Gl.by (fun t_ k_ => XS.i2c X.here hx rfl (hb hby at_58) rfl k_) ?_
    show Gl p e below s room_1.cells room_1.slots (fun v h L => v = some (.int 1) ∧ Fr n0 L) (T.setTop (mkF m 59 #[.val (.int p0), .val (.int p1), .val (.int p2), .val (.int p3), .val (.int (0 : Int32)), .val (.int (0 : Int32)), .unset, .unset, .unset, .unset, .unset, .unset, .unset, .unset, .unset] [(.int ((p3 &&& (255 : Int32)).toUInt32.toUInt16.toUInt32.toInt32)), (.int (2 : Int32)), (.ref ch), (.ref ch), (.ref ps), (.ref ps)]))
    rw [(and255_char p3).1]
    show Gl p e below s room_1.cells room_1.slots (fun v h L => v = some (.int 1) ∧ Fr n0 L) (T.setTop (mkF m 59 #[.val (.int p0), .val (.int p1), .val (.int p2), .val (.int p3), .val (.int (0 : Int32)), .val (.int (0 : Int32)), .unset, .unset, .unset, .unset, .unset, .unset, .unset, .unset, .unset] [(.int ((p3 &&& (255 : Int32)))), (.int (2 : Int32)), (.ref ch), (.ref ch), (.ref ps), (.ref ps)]))
    obtain ⟨cl5, Ar5, q5, S5, M5, H5, G5⟩ := (id (V4) : Arv Z h4 ch k2 .char (3 : Int32) [(.int (nar .char ((p1 &&& (255 : Int32))))), (.int (nar .char ((p2 &&& (255 : Int32))))), (.int (0 : Int32))] (.int (0 : Int32)))
    obtain ⟨T, h5, X, eT, W5, st⟩ := stC X hx hZ eT Ar5 (j := (2 : Int32)) (inb_of S5 ⟨by decide, by decide⟩) (g := (mkF m 59 #[.val (.int p0), .val (.int p1), .val (.int p2), .val (.int p3), .val (.int (0 : Int32)), .val (.int (0 : Int32)), .unset, .unset, .unset, .unset, .unset, .unset, .unset, .unset, .unset] [(.int ((p3 &&& (255 : Int32)))), (.int (2 : Int32)), (.ref ch), (.ref ch), (.ref ps), (.ref ps)])) rfl rfl (hb hby at_59)
    have V5 : Arv Z h5 ch k2 .char (3 : Int32) [(.int (nar .char ((p1 &&& (255 : Int32))))), (.int (nar .char ((p2 &&& (255 : Int32))))), (.int (nar .char ((p3 &&& (255 : Int32)))))] (.int (0 : Int32)) := Arv.set Ar5 q5 S5 M5 H5 G5 (fits_nar_char _) W5 2 rfl (Nat.le_of_ble_eq_true rfl)
    have sz5 := (Keep.of_wr W5).1
    have N := Fr.snoc X N (by omega)
    refine Gl.by st ?_
    show Gl p e below s room_1.cells room_1.slots (fun v h L => v = some (.int 1) ∧ Fr n0 L) (T.setTop (mkF m 60 #[.val (.int p0), .val (.int p1), .val (.int p2), .val (.int p3), .val (.int (0 : Int32)), .val (.int (0 : Int32)), .unset, .unset, .unset, .unset, .unset, .unset, .unset, .unset, .unset] [(.ref ch), (.ref ps), (.ref ps)]))
    have V6 : Arv Z h5 ch k2 .char (3 : Int32) (([(p1 &&& (255 : Int32)), (p2 &&& (255 : Int32)), (p3 &&& (255 : Int32))] : List Int32).map Value.int) (.int 0) := by
      have q := V5
      rw [ra1, ra2, ra3] at q
      exact q
    have O6 := (((((O.ext E1).ext E2).wr W3 (by omega)).wr W4 (by omega)).wr W5 (by omega))
    refine Gl.spec X hx hZ rfl hown (hw _ (List.mem_of_getElem? (i := 4) rfl)) (hw _ (List.mem_of_getElem? (i := 5) rfl)) (hw _ (List.mem_of_getElem? (i := 6) rfl)) (by decide) (W := 1) (payNew (n := 3) (n0 := n0) hZ (own_words hw) (hw _ (List.mem_of_getElem? (i := 1) rfl)) ([(p1 &&& (255 : Int32)), (p2 &&& (255 : Int32)), (p3 &&& (255 : Int32))] : List Int32) (by omega) (by omega) ((((A1.ext E2).wr W3).wr W4).wr W5) ((((F1_value.ext E2).other W3 (Or.inl (nea (by omega)))).other W4 (Or.inl (nea (by omega)))).other W5 (Or.inl (nea (by omega)))) ((((F1_coder.ext E2).other W3 (Or.inl (nea (by omega)))).other W4 (Or.inl (nea (by omega)))).other W5 (Or.inl (nea (by omega)))) V6 S hz O6 rfl rfl (by decide) (by decide) hp (by decide) (by decide)) eT (hb hby at_60) (by rw [hml]; rfl) ps [(.ref ch)] [(.ref ps)] (lenOf pd_17 rfl) rfl rfl (Nat.le_of_eq rfl) (by decide) (by decide) ?_
    intro v T L X hq
    obtain ⟨rfl, NQ, K7, SQ7⟩ := hq
    have N := Fr.app N NQ
    obtain ⟨h7, eT⟩ : ∃ z, T.heap = z := ⟨_, rfl⟩
    rw [eT] at K7 SQ7
    have sz7 := K7.1
    show Gl p e below s room_1.cells room_1.slots (fun v h L => v = some (.int 1) ∧ Fr n0 L) (T.setTop (mkF m 63 #[.val (.int p0), .val (.int p1), .val (.int p2), .val (.int p3), .val (.int (0 : Int32)), .val (.int (0 : Int32)), .unset, .unset, .unset, .unset, .unset, .unset, .unset, .unset, .unset] [(.ref ps)]))
    refine Gl.by (fun t_ k_ => XS.astore X.here hx rfl (hb hby at_63) rfl rfl (l' := #[.val (.int p0), .val (.int p1), .val (.int p2), .val (.int p3), .val (.int (0 : Int32)), .val (.int (0 : Int32)), .val (.ref ps), .unset, .unset, .unset, .unset, .unset, .unset, .unset, .unset]) rfl k_) ?_
    show Gl p e below s room_1.cells room_1.slots (fun v h L => v = some (.int 1) ∧ Fr n0 L) (T.setTop (mkF m 65 #[.val (.int p0), .val (.int p1), .val (.int p2), .val (.int p3), .val (.int (0 : Int32)), .val (.int (0 : Int32)), .val (.ref ps), .unset, .unset, .unset, .unset, .unset, .unset, .unset, .unset] []))
    obtain ⟨T, h8, X, eT, E8, A8, D8, -, st⟩ := newO X hx hZ hown (hw _ (List.mem_of_getElem? (i := 30) rfl)) (hw _ (List.mem_of_getElem? (i := 31) rfl)) (hw _ (List.mem_of_getElem? (i := 32) rfl)) eT (g := (mkF m 65 #[.val (.int p0), .val (.int p1), .val (.int p2), .val (.int p3), .val (.int (0 : Int32)), .val (.int (0 : Int32)), .val (.ref ps), .unset, .unset, .unset, .unset, .unset, .unset, .unset, .unset] [])) rfl (hb hby at_65) (by decide) (by decide)
    obtain ⟨tv, g8⟩ : ∃ z, z = h7.size := ⟨_, rfl⟩
    rw [← g8] at A8 D8 st
    have sz8 := E8.1
    have lt8 : tv < h8.size := A8.lt
    refine Gl.by st ?_
    have F8_name : Fld Z h8 tv "com/example/intentio/intentio/hddl/Term$Variable" "name" "Ljava/lang/String;" .null := D8 (Or.inr (hw _ (List.mem_of_getElem? (i := 57) rfl))) (ty := (.object "java/lang/String")) (by decide)
    have F8_type : Fld Z h8 tv "com/example/intentio/intentio/hddl/Term$Variable" "type" "Lcom/example/intentio/intentio/hddl/Type;" .null := D8 (Or.inr (hw _ (List.mem_of_getElem? (i := 59) rfl))) (ty := (.object "com/example/intentio/intentio/hddl/Type")) (by decide)
    show Gl p e below s room_1.cells room_1.slots (fun v h L => v = some (.int 1) ∧ Fr n0 L) (T.setTop (mkF m 68 #[.val (.int p0), .val (.int p1), .val (.int p2), .val (.int p3), .val (.int (0 : Int32)), .val (.int (0 : Int32)), .val (.ref ps), .unset, .unset, .unset, .unset, .unset, .unset, .unset, .unset] [(.ref tv)]))
    refine Gl.by (fun t_ k_ => XS.dup X.here hx rfl (hb hby at_68) rfl rfl k_) ?_
    show Gl p e below s room_1.cells room_1.slots (fun v h L => v = some (.int 1) ∧ Fr n0 L) (T.setTop (mkF m 69 #[.val (.int p0), .val (.int p1), .val (.int p2), .val (.int p3), .val (.int (0 : Int32)), .val (.int (0 : Int32)), .val (.ref ps), .unset, .unset, .unset, .unset, .unset, .unset, .unset, .unset] [(.ref tv), (.ref tv)]))
    refine Gl.by (fun t_ k_ => XS.iloadN X.here hx rfl (hb hby at_69) rfl k_) ?_
    show Gl p e below s room_1.cells room_1.slots (fun v h L => v = some (.int 1) ∧ Fr n0 L) (T.setTop (mkF m 70 #[.val (.int p0), .val (.int p1), .val (.int p2), .val (.int p3), .val (.int (0 : Int32)), .val (.int (0 : Int32)), .val (.ref ps), .unset, .unset, .unset, .unset, .unset, .unset, .unset, .unset] [(.int p0), (.ref tv), (.ref tv)]))
    refine Gl.by (fun t_ k_ => XS.bipush X.here hx rfl (hb hby at_70) k_) ?_
    show Gl p e below s room_1.cells room_1.slots (fun v h L => v = some (.int 1) ∧ Fr n0 L) (T.setTop (mkF m 72 #[.val (.int p0), .val (.int p1), .val (.int p2), .val (.int p3), .val (.int (0 : Int32)), .val (.int (0 : Int32)), .val (.ref ps), .unset, .unset, .unset, .unset, .unset, .unset, .unset, .unset] [(.int (8 : Int32)), (.int p0), (.ref tv), (.ref tv)]))
    refine Gl.by (fun t_ k_ => XS.iushr X.here hx rfl (hb hby at_72) rfl k_) ?_
    show Gl p e below s room_1.cells room_1.slots (fun v h L => v = some (.int 1) ∧ Fr n0 L) (T.setTop (mkF m 73 #[.val (.int p0), .val (.int p1), .val (.int p2), .val (.int p3), .val (.int (0 : Int32)), .val (.int (0 : Int32)), .val (.ref ps), .unset, .unset, .unset, .unset, .unset, .unset, .unset, .unset] [(.int ((p0.toUInt32 >>> ((8 : Int32) &&& 31).toUInt32).toInt32)), (.ref tv), (.ref tv)]))
    refine Gl.by (fun t_ k_ => XS.sipush X.here hx rfl (hb hby at_73) k_) ?_
    show Gl p e below s room_1.cells room_1.slots (fun v h L => v = some (.int 1) ∧ Fr n0 L) (T.setTop (mkF m 76 #[.val (.int p0), .val (.int p1), .val (.int p2), .val (.int p3), .val (.int (0 : Int32)), .val (.int (0 : Int32)), .val (.ref ps), .unset, .unset, .unset, .unset, .unset, .unset, .unset, .unset] [(.int (255 : Int32)), (.int ((p0.toUInt32 >>> ((8 : Int32) &&& 31).toUInt32).toInt32)), (.ref tv), (.ref tv)]))
    refine Gl.by (fun t_ k_ => XS.iand X.here hx rfl (hb hby at_76) rfl k_) ?_
    show Gl p e below s room_1.cells room_1.slots (fun v h L => v = some (.int 1) ∧ Fr n0 L) (T.setTop (mkF m 77 #[.val (.int p0), .val (.int p1), .val (.int p2), .val (.int p3), .val (.int (0 : Int32)), .val (.int (0 : Int32)), .val (.ref ps), .unset, .unset, .unset, .unset, .unset, .unset, .unset, .unset] [(.int (((p0.toUInt32 >>> ((8 : Int32) &&& 31).toUInt32).toInt32) &&& (255 : Int32))), (.ref tv), (.ref tv)]))
    refine Gl.by (fun t_ k_ => XS.i2c X.here hx rfl (hb hby at_77) rfl k_) ?_
    show Gl p e below s room_1.cells room_1.slots (fun v h L => v = some (.int 1) ∧ Fr n0 L) (T.setTop (mkF m 78 #[.val (.int p0), .val (.int p1), .val (.int p2), .val (.int p3), .val (.int (0 : Int32)), .val (.int (0 : Int32)), .val (.ref ps), .unset, .unset, .unset, .unset, .unset, .unset, .unset, .unset] [(.int ((((p0.toUInt32 >>> ((8 : Int32) &&& 31).toUInt32).toInt32) &&& (255 : Int32)).toUInt32.toUInt16.toUInt32.toInt32)), (.ref tv), (.ref tv)]))
    rw [(and255_char ((p0.toUInt32 >>> ((8 : Int32) &&& 31).toUInt32).toInt32)).1]
    show Gl p e below s room_1.cells room_1.slots (fun v h L => v = some (.int 1) ∧ Fr n0 L) (T.setTop (mkF m 78 #[.val (.int p0), .val (.int p1), .val (.int p2), .val (.int p3), .val (.int (0 : Int32)), .val (.int (0 : Int32)), .val (.ref ps), .unset, .unset, .unset, .unset, .unset, .unset, .unset, .unset] [(.int ((((p0.toUInt32 >>> ((8 : Int32) &&& 31).toUInt32).toInt32) &&& (255 : Int32)))), (.ref tv), (.ref tv)]))
    refine Gl.stat X hx hZ hown (hw _ (List.mem_of_getElem? (i := 33) rfl)) (hw _ (List.mem_of_getElem? (i := 34) rfl)) (hw _ (List.mem_of_getElem? (i := 2) rfl)) (hw _ (List.mem_of_getElem? (i := 35) rfl)) (by decide) (W := 2) (backC (own_vof l Z a0 hw (((p0.toUInt32 >>> ((8 : Int32) &&& 31).toUInt32).toInt32) &&& (255 : Int32)) z h8 n0 (by omega) sa8.2 S hz ((O6.keep K7 (allS (by omega) all0)).ext E8)) hZ (hw _ (List.mem_of_getElem? (i := 35) rfl)) (hw _ (List.mem_of_getElem? (i := 2) rfl)) (by decide) (by decide)) eT (hb hby at_78) (by rw [hml]; rfl) [(.int ((((p0.toUInt32 >>> ((8 : Int32) &&& 31).toUInt32).toInt32) &&& (255 : Int32))))] [(.ref tv), (.ref tv)] (lenOf pd_18 rfl) rfl rfl (Nat.le_of_eq rfl) (by decide) (by decide) ?_
    intro v T L X hq
    obtain ⟨NQ, K9, sx, rfl, ge9⟩ := hq
    have N := Fr.app N NQ
    obtain ⟨h9, eT⟩ : ∃ z, T.heap = z := ⟨_, rfl⟩
    rw [eT] at K9
    have sz9 := K9.1
    show Gl p e below s room_1.cells room_1.slots (fun v h L => v = some (.int 1) ∧ Fr n0 L) (T.setTop (mkF m 81 #[.val (.int p0), .val (.int p1), .val (.int p2), .val (.int p3), .val (.int (0 : Int32)), .val (.int (0 : Int32)), .val (.ref ps), .unset, .unset, .unset, .unset, .unset, .unset, .unset, .unset] [(.ref sx), (.ref tv), (.ref tv)]))
    refine Gl.by (fun t_ k_ => XS.aconstNull X.here hx rfl (hb hby at_81) k_) ?_
    show Gl p e below s room_1.cells room_1.slots (fun v h L => v = some (.int 1) ∧ Fr n0 L) (T.setTop (mkF m 82 #[.val (.int p0), .val (.int p1), .val (.int p2), .val (.int p3), .val (.int (0 : Int32)), .val (.int (0 : Int32)), .val (.ref ps), .unset, .unset, .unset, .unset, .unset, .unset, .unset, .unset] [.null, (.ref sx), (.ref tv), (.ref tv)]))
    refine Gl.spec X hx hZ rfl hown (hw _ (List.mem_of_getElem? (i := 47) rfl)) (hw _ (List.mem_of_getElem? (i := 48) rfl)) (hw _ (List.mem_of_getElem? (i := 49) rfl)) (by decide) (W := 1) (backC (own_tvi l Z a0 hw tv sx h9 n0 (by omega) (A8.keep K9) (F8_name.keep K9 nin0) (F8_type.keep K9 nin0)) hZ (hw _ (List.mem_of_getElem? (i := 49) rfl)) (hw _ (List.mem_of_getElem? (i := 32) rfl)) (by decide) (by decide)) eT (hb hby at_82) (by rw [hml]; rfl) tv [(.ref sx), .null] [(.ref tv)] (lenOf pd_19 rfl) rfl rfl (Nat.le_of_eq rfl) (by decide) (by decide) ?_
    intro v T L X hq
    obtain ⟨rfl, NQ, K10, Q10⟩ := hq
    have N := Fr.app N NQ
    obtain ⟨h10, eT⟩ : ∃ z, T.heap = z := ⟨_, rfl⟩
    rw [eT] at K10 Q10
    have sz10 := K10.1
    show Gl p e below s room_1.cells room_1.slots (fun v h L => v = some (.int 1) ∧ Fr n0 L) (T.setTop (mkF m 85 #[.val (.int p0), .val (.int p1), .val (.int p2), .val (.int p3), .val (.int (0 : Int32)), .val (.int (0 : Int32)), .val (.ref ps), .unset, .unset, .unset, .unset, .unset, .unset, .unset, .unset] [(.ref tv)]))
    refine Gl.by (fun t_ k_ => XS.astore X.here hx rfl (hb hby at_85) rfl rfl (l' := #[.val (.int p0), .val (.int p1), .val (.int p2), .val (.int p3), .val (.int (0 : Int32)), .val (.int (0 : Int32)), .val (.ref ps), .val (.ref tv), .unset, .unset, .unset, .unset, .unset, .unset, .unset]) rfl k_) ?_
    show Gl p e below s room_1.cells room_1.slots (fun v h L => v = some (.int 1) ∧ Fr n0 L) (T.setTop (mkF m 87 #[.val (.int p0), .val (.int p1), .val (.int p2), .val (.int p3), .val (.int (0 : Int32)), .val (.int (0 : Int32)), .val (.ref ps), .val (.ref tv), .unset, .unset, .unset, .unset, .unset, .unset, .unset] []))
    obtain ⟨T, h11, X, eT, E11, A11, D11, -, st⟩ := newO X hx hZ hown (hw _ (List.mem_of_getElem? (i := 60) rfl)) (hw _ (List.mem_of_getElem? (i := 61) rfl)) (hw _ (List.mem_of_getElem? (i := 62) rfl)) eT (g := (mkF m 87 #[.val (.int p0), .val (.int p1), .val (.int p2), .val (.int p3), .val (.int (0 : Int32)), .val (.int (0 : Int32)), .val (.ref ps), .val (.ref tv), .unset, .unset, .unset, .unset, .unset, .unset, .unset] [])) rfl (hb hby at_87) (by decide) (by decide)
    obtain ⟨al, g11⟩ : ∃ z, z = h10.size := ⟨_, rfl⟩
    rw [← g11] at A11 D11 st
    have sz11 := E11.1
    have lt11 : al < h11.size := A11.lt
    refine Gl.by st ?_
    have F11_elementData : Fld Z h11 al "java/util/ArrayList" "elementData" "[Ljava/lang/Object;" .null := D11 (Or.inl (hw _ (List.mem_of_getElem? (i := 83) rfl))) (ty := (.array (.object "java/lang/Object"))) (by decide)
    have F11_size : Fld Z h11 al "java/util/ArrayList" "size" "I" (.int (0 : Int32)) := D11 (Or.inl (hw _ (List.mem_of_getElem? (i := 115) rfl))) (ty := .int) (by decide)
    have F11_modCount : Fld Z h11 al "java/util/AbstractList" "modCount" "I" (.int (0 : Int32)) := D11 (Or.inl (hw _ (List.mem_of_getElem? (i := 80) rfl))) (ty := .int) (by decide)
    show Gl p e below s room_1.cells room_1.slots (fun v h L => v = some (.int 1) ∧ Fr n0 L) (T.setTop (mkF m 90 #[.val (.int p0), .val (.int p1), .val (.int p2), .val (.int p3), .val (.int (0 : Int32)), .val (.int (0 : Int32)), .val (.ref ps), .val (.ref tv), .unset, .unset, .unset, .unset, .unset, .unset, .unset] [(.ref al)]))
    refine Gl.by (fun t_ k_ => XS.dup X.here hx rfl (hb hby at_90) rfl rfl k_) ?_
    show Gl p e below s room_1.cells room_1.slots (fun v h L => v = some (.int 1) ∧ Fr n0 L) (T.setTop (mkF m 91 #[.val (.int p0), .val (.int p1), .val (.int p2), .val (.int p3), .val (.int (0 : Int32)), .val (.int (0 : Int32)), .val (.ref ps), .val (.ref tv), .unset, .unset, .unset, .unset, .unset, .unset, .unset] [(.ref al), (.ref al)]))
    refine Gl.spec X hx hZ rfl hown (hw _ (List.mem_of_getElem? (i := 63) rfl)) (hw _ (List.mem_of_getElem? (i := 64) rfl)) (hw _ (List.mem_of_getElem? (i := 65) rfl)) (by decide) (W := 1) (backC (own_ali l Z a0 hw al dc el mr em h11 n0 (by omega) A11 F11_elementData F11_size F11_modCount (((((O6.keep K7 (allS (by omega) all0)).ext E8).keep K9 all0).keep K10 (allS (by omega) all0)).ext E11) K) hZ (hw _ (List.mem_of_getElem? (i := 65) rfl)) (hw _ (List.mem_of_getElem? (i := 62) rfl)) (by decide) (by decide)) eT (hb hby at_91) (by rw [hml]; rfl) al [] [(.ref al)] (lenOf pd_0 rfl) rfl rfl (Nat.le_of_eq rfl) (by decide) (by decide) ?_
    intro v T L X hq
    obtain ⟨rfl, NQ, K12, A12⟩ := hq
    have N := Fr.app N NQ
    obtain ⟨h12, eT⟩ : ∃ z, T.heap = z := ⟨_, rfl⟩
    rw [eT] at K12 A12
    have sz12 := K12.1
    show Gl p e below s room_1.cells room_1.slots (fun v h L => v = some (.int 1) ∧ Fr n0 L) (T.setTop (mkF m 94 #[.val (.int p0), .val (.int p1), .val (.int p2), .val (.int p3), .val (.int (0 : Int32)), .val (.int (0 : Int32)), .val (.ref ps), .val (.ref tv), .unset, .unset, .unset, .unset, .unset, .unset, .unset] [(.ref al)]))
    refine Gl.by (fun t_ k_ => XS.astore X.here hx rfl (hb hby at_94) rfl rfl (l' := #[.val (.int p0), .val (.int p1), .val (.int p2), .val (.int p3), .val (.int (0 : Int32)), .val (.int (0 : Int32)), .val (.ref ps), .val (.ref tv), .val (.ref al), .unset, .unset, .unset, .unset, .unset, .unset]) rfl k_) ?_
    show Gl p e below s room_1.cells room_1.slots (fun v h L => v = some (.int 1) ∧ Fr n0 L) (T.setTop (mkF m 96 #[.val (.int p0), .val (.int p1), .val (.int p2), .val (.int p3), .val (.int (0 : Int32)), .val (.int (0 : Int32)), .val (.ref ps), .val (.ref tv), .val (.ref al), .unset, .unset, .unset, .unset, .unset, .unset] []))
    refine Gl.by (fun t_ k_ => XS.iload X.here hx rfl (hb hby at_96) rfl k_) ?_
    show Gl p e below s room_1.cells room_1.slots (fun v h L => v = some (.int 1) ∧ Fr n0 L) (T.setTop (mkF m 98 #[.val (.int p0), .val (.int p1), .val (.int p2), .val (.int p3), .val (.int (0 : Int32)), .val (.int (0 : Int32)), .val (.ref ps), .val (.ref tv), .val (.ref al), .unset, .unset, .unset, .unset, .unset, .unset] [(.int (0 : Int32))]))
    refine Gl.by (fun t_ k_ => XS.ifYes X.here hx rfl (pc0 := 98) (pc' := 109) rfl (hb hby at_98) rfl ((if0 _ _).trans (teq (rfl : (0 : Int32) = 0)).1) (by decide) (by decide) k_) ?_
    show Gl p e below s room_1.cells room_1.slots (fun v h L => v = some (.int 1) ∧ Fr n0 L) (T.setTop (mkF m 109 #[.val (.int p0), .val (.int p1), .val (.int p2), .val (.int p3), .val (.int (0 : Int32)), .val (.int (0 : Int32)), .val (.ref ps), .val (.ref tv), .val (.ref al), .unset, .unset, .unset, .unset, .unset, .unset] []))
    obtain ⟨T, h13, X, eT, E13, A13, D13, -, st⟩ := newO X hx hZ hown (hw _ (List.mem_of_getElem? (i := 84) rfl)) (hw _ (List.mem_of_getElem? (i := 85) rfl)) (hw _ (List.mem_of_getElem? (i := 86) rfl)) eT (g := (mkF m 109 #[.val (.int p0), .val (.int p1), .val (.int p2), .val (.int p3), .val (.int (0 : Int32)), .val (.int (0 : Int32)), .val (.ref ps), .val (.ref tv), .val (.ref al), .unset, .unset, .unset, .unset, .unset, .unset] [])) rfl (hb hby at_109) (by decide) (by decide)
    obtain ⟨ao, g13⟩ : ∃ z, z = h12.size := ⟨_, rfl⟩
    rw [← g13] at A13 D13 st
    have sz13 := E13.1
    have lt13 : ao < h13.size := A13.lt
    refine Gl.by st ?_
    have F13_predicate : Fld Z h13 ao "com/example/intentio/intentio/hddl/Atom" "predicate" "Ljava/lang/String;" .null := D13 (Or.inr (hw _ (List.mem_of_getElem? (i := 121) rfl))) (ty := (.object "java/lang/String")) (by decide)
    have F13_arguments : Fld Z h13 ao "com/example/intentio/intentio/hddl/Atom" "arguments" "Ljava/util/List;" .null := D13 (Or.inr (hw _ (List.mem_of_getElem? (i := 123) rfl))) (ty := (.object "java/util/List")) (by decide)
    show Gl p e below s room_1.cells room_1.slots (fun v h L => v = some (.int 1) ∧ Fr n0 L) (T.setTop (mkF m 112 #[.val (.int p0), .val (.int p1), .val (.int p2), .val (.int p3), .val (.int (0 : Int32)), .val (.int (0 : Int32)), .val (.ref ps), .val (.ref tv), .val (.ref al), .unset, .unset, .unset, .unset, .unset, .unset] [(.ref ao)]))
    refine Gl.by (fun t_ k_ => XS.dup X.here hx rfl (hb hby at_112) rfl rfl k_) ?_
    show Gl p e below s room_1.cells room_1.slots (fun v h L => v = some (.int 1) ∧ Fr n0 L) (T.setTop (mkF m 113 #[.val (.int p0), .val (.int p1), .val (.int p2), .val (.int p3), .val (.int (0 : Int32)), .val (.int (0 : Int32)), .val (.ref ps), .val (.ref tv), .val (.ref al), .unset, .unset, .unset, .unset, .unset, .unset] [(.ref ao), (.ref ao)]))
    refine Gl.by (fun t_ k_ => XS.aload X.here hx rfl (hb hby at_113) rfl rfl k_) ?_
    show Gl p e below s room_1.cells room_1.slots (fun v h L => v = some (.int 1) ∧ Fr n0 L) (T.setTop (mkF m 115 #[.val (.int p0), .val (.int p1), .val (.int p2), .val (.int p3), .val (.int (0 : Int32)), .val (.int (0 : Int32)), .val (.ref ps), .val (.ref tv), .val (.ref al), .unset, .unset, .unset, .unset, .unset, .unset] [(.ref ps), (.ref ao), (.ref ao)]))
    refine Gl.by (fun t_ k_ => XS.aload X.here hx rfl (hb hby at_115) rfl rfl k_) ?_
    show Gl p e below s room_1.cells room_1.slots (fun v h L => v = some (.int 1) ∧ Fr n0 L) (T.setTop (mkF m 117 #[.val (.int p0), .val (.int p1), .val (.int p2), .val (.int p3), .val (.int (0 : Int32)), .val (.int (0 : Int32)), .val (.ref ps), .val (.ref tv), .val (.ref al), .unset, .unset, .unset, .unset, .unset, .unset] [(.ref al), (.ref ps), (.ref ao), (.ref ao)]))
    refine Gl.spec X hx hZ rfl hown (hw _ (List.mem_of_getElem? (i := 87) rfl)) (hw _ (List.mem_of_getElem? (i := 88) rfl)) (hw _ (List.mem_of_getElem? (i := 89) rfl)) (by decide) (W := 1) (backC (own_at0 l Z a0 hw ao ps al dc 0 dc el mr em h13 n0 (by omega) A13 F13_predicate F13_arguments ⟨((A11.keep K12).ext E13), (A12.2.1.ext E13), (A12.2.2.1.ext E13), (A12.2.2.2.ext E13)⟩ (((((((O6.keep K7 (allS (by omega) all0)).ext E8).keep K9 all0).keep K10 (allS (by omega) all0)).ext E11).keep K12 (allS (by omega) all0)).ext E13) K) hZ (hw _ (List.mem_of_getElem? (i := 89) rfl)) (hw _ (List.mem_of_getElem? (i := 86) rfl)) (by decide) (by decide)) eT (hb hby at_117) (by rw [hml]; rfl) ao [(.ref ps), (.ref al)] [(.ref ao)] (lenOf pd_20 rfl) rfl rfl (Nat.le_of_eq rfl) (by decide) (by decide) ?_
    intro v T L X hq
    obtain ⟨rfl, NQ, K14, EA14, FP14, FA14⟩ := hq
    have N := Fr.app N NQ
    obtain ⟨h14, eT⟩ : ∃ z, T.heap = z := ⟨_, rfl⟩
    rw [eT] at K14 EA14 FP14 FA14
    have sz14 := K14.1
    show Gl p e below s room_1.cells room_1.slots (fun v h L => v = some (.int 1) ∧ Fr n0 L) (T.setTop (mkF m 120 #[.val (.int p0), .val (.int p1), .val (.int p2), .val (.int p3), .val (.int (0 : Int32)), .val (.int (0 : Int32)), .val (.ref ps), .val (.ref tv), .val (.ref al), .unset, .unset, .unset, .unset, .unset, .unset] [(.ref ao)]))
    refine Gl.by (fun t_ k_ => XS.astore X.here hx rfl (hb hby at_120) rfl rfl (l' := #[.val (.int p0), .val (.int p1), .val (.int p2), .val (.int p3), .val (.int (0 : Int32)), .val (.int (0 : Int32)), .val (.ref ps), .val (.ref tv), .val (.ref al), .val (.ref ao), .unset, .unset, .unset, .unset, .unset]) rfl k_) ?_
    show Gl p e below s room_1.cells room_1.slots (fun v h L => v = some (.int 1) ∧ Fr n0 L) (T.setTop (mkF m 122 #[.val (.int p0), .val (.int p1), .val (.int p2), .val (.int p3), .val (.int (0 : Int32)), .val (.int (0 : Int32)), .val (.ref ps), .val (.ref tv), .val (.ref al), .val (.ref ao), .unset, .unset, .unset, .unset, .unset] []))
    obtain ⟨T, h15, X, eT, E15, A15, D15, -, st⟩ := newO X hx hZ hown (hw _ (List.mem_of_getElem? (i := 124) rfl)) (hw _ (List.mem_of_getElem? (i := 125) rfl)) (hw _ (List.mem_of_getElem? (i := 126) rfl)) eT (g := (mkF m 122 #[.val (.int p0), .val (.int p1), .val (.int p2), .val (.int p3), .val (.int (0 : Int32)), .val (.int (0 : Int32)), .val (.ref ps), .val (.ref tv), .val (.ref al), .val (.ref ao), .unset, .unset, .unset, .unset, .unset] [])) rfl (hb hby at_122) (by decide) (by decide)
    obtain ⟨la, g15⟩ : ∃ z, z = h14.size := ⟨_, rfl⟩
    rw [← g15] at A15 D15 st
    have sz15 := E15.1
    have lt15 : la < h15.size := A15.lt
    refine Gl.by st ?_
    have F15_atom : Fld Z h15 la "com/example/intentio/intentio/hddl/Literal" "atom" "Lcom/example/intentio/intentio/hddl/Atom;" .null := D15 (Or.inr (hw _ (List.mem_of_getElem? (i := 132) rfl))) (ty := (.object "com/example/intentio/intentio/hddl/Atom")) (by decide)
    have F15_positive : Fld Z h15 la "com/example/intentio/intentio/hddl/Literal" "positive" "Z" (.int (0 : Int32)) := D15 (Or.inr (hw _ (List.mem_of_getElem? (i := 134) rfl))) (ty := .boolean) (by decide)
    show Gl p e below s room_1.cells room_1.slots (fun v h L => v = some (.int 1) ∧ Fr n0 L) (T.setTop (mkF m 125 #[.val (.int p0), .val (.int p1), .val (.int p2), .val (.int p3), .val (.int (0 : Int32)), .val (.int (0 : Int32)), .val (.ref ps), .val (.ref tv), .val (.ref al), .val (.ref ao), .unset, .unset, .unset, .unset, .unset] [(.ref la)]))
    refine Gl.by (fun t_ k_ => XS.dup X.here hx rfl (hb hby at_125) rfl rfl k_) ?_
    show Gl p e below s room_1.cells room_1.slots (fun v h L => v = some (.int 1) ∧ Fr n0 L) (T.setTop (mkF m 126 #[.val (.int p0), .val (.int p1), .val (.int p2), .val (.int p3), .val (.int (0 : Int32)), .val (.int (0 : Int32)), .val (.ref ps), .val (.ref tv), .val (.ref al), .val (.ref ao), .unset, .unset, .unset, .unset, .unset] [(.ref la), (.ref la)]))
    refine Gl.by (fun t_ k_ => XS.aload X.here hx rfl (hb hby at_126) rfl rfl k_) ?_
    show Gl p e below s room_1.cells room_1.slots (fun v h L => v = some (.int 1) ∧ Fr n0 L) (T.setTop (mkF m 128 #[.val (.int p0), .val (.int p1), .val (.int p2), .val (.int p3), .val (.int (0 : Int32)), .val (.int (0 : Int32)), .val (.ref ps), .val (.ref tv), .val (.ref al), .val (.ref ao), .unset, .unset, .unset, .unset, .unset] [(.ref ao), (.ref la), (.ref la)]))
    refine Gl.by (fun t_ k_ => XS.iload X.here hx rfl (hb hby at_128) rfl k_) ?_
    show Gl p e below s room_1.cells room_1.slots (fun v h L => v = some (.int 1) ∧ Fr n0 L) (T.setTop (mkF m 130 #[.val (.int p0), .val (.int p1), .val (.int p2), .val (.int p3), .val (.int (0 : Int32)), .val (.int (0 : Int32)), .val (.ref ps), .val (.ref tv), .val (.ref al), .val (.ref ao), .unset, .unset, .unset, .unset, .unset] [(.int (0 : Int32)), (.ref ao), (.ref la), (.ref la)]))
    refine Gl.spec X hx hZ rfl hown (hw _ (List.mem_of_getElem? (i := 127) rfl)) (hw _ (List.mem_of_getElem? (i := 128) rfl)) (hw _ (List.mem_of_getElem? (i := 129) rfl)) (by decide) (W := 1) (backC (own_liti0 l Z a0 hw la ao h15 n0 (by omega) A15 F15_atom F15_positive) hZ (hw _ (List.mem_of_getElem? (i := 129) rfl)) (hw _ (List.mem_of_getElem? (i := 126) rfl)) (by decide) (by decide)) eT (hb hby at_130) (by rw [hml]; rfl) la [(.ref ao), (.int (0 : Int32))] [(.ref la)] (lenOf pd_16 rfl) rfl rfl (Nat.le_of_eq rfl) (by decide) (by decide) ?_
    intro v T L X hq
    obtain ⟨rfl, NQ, K16, H16, G16, P16⟩ := hq
    have N := Fr.app N NQ
    obtain ⟨h16, eT⟩ : ∃ z, T.heap = z := ⟨_, rfl⟩
    rw [eT] at K16 H16 G16 P16
    have sz16 := K16.1
    show Gl p e below s room_1.cells room_1.slots (fun v h L => v = some (.int 1) ∧ Fr n0 L) (T.setTop (mkF m 133 #[.val (.int p0), .val (.int p1), .val (.int p2), .val (.int p3), .val (.int (0 : Int32)), .val (.int (0 : Int32)), .val (.ref ps), .val (.ref tv), .val (.ref al), .val (.ref ao), .unset, .unset, .unset, .unset, .unset] [(.ref la)]))
    refine Gl.by (fun t_ k_ => XS.astore X.here hx rfl (hb hby at_133) rfl rfl (l' := #[.val (.int p0), .val (.int p1), .val (.int p2), .val (.int p3), .val (.int (0 : Int32)), .val (.int (0 : Int32)), .val (.ref ps), .val (.ref tv), .val (.ref al), .val (.ref ao), .val (.ref la), .unset, .unset, .unset, .unset]) rfl k_) ?_
    show Gl p e below s room_1.cells room_1.slots (fun v h L => v = some (.int 1) ∧ Fr n0 L) (T.setTop (mkF m 135 #[.val (.int p0), .val (.int p1), .val (.int p2), .val (.int p3), .val (.int (0 : Int32)), .val (.int (0 : Int32)), .val (.ref ps), .val (.ref tv), .val (.ref al), .val (.ref ao), .val (.ref la), .unset, .unset, .unset, .unset] []))
    refine Gl.by (fun t_ k_ => XS.aload X.here hx rfl (hb hby at_135) rfl rfl k_) ?_
    show Gl p e below s room_1.cells room_1.slots (fun v h L => v = some (.int 1) ∧ Fr n0 L) (T.setTop (mkF m 137 #[.val (.int p0), .val (.int p1), .val (.int p2), .val (.int p3), .val (.int (0 : Int32)), .val (.int (0 : Int32)), .val (.ref ps), .val (.ref tv), .val (.ref al), .val (.ref ao), .val (.ref la), .unset, .unset, .unset, .unset] [(.ref la)]))
    refine Gl.virt X hx hZ hown (hw _ (List.mem_of_getElem? (i := 135) rfl)) (hw _ (List.mem_of_getElem? (i := 136) rfl)) (hw _ (List.mem_of_getElem? (i := 138) rfl)) (hw _ (List.mem_of_getElem? (i := 137) rfl)) (notFace_of_selects (args := #[]) (mvT hZ (hw _ (List.mem_of_getElem? (i := 138) rfl)))) (by decide) (A15.keep K16) (W := 0) (backC (own_cpl0 l Z a0 hw la ao h16 n0 (by omega) ⟨(A15.keep K16), G16, P16⟩) hZ (hw _ (List.mem_of_getElem? (i := 139) rfl)) (hw _ (List.mem_of_getElem? (i := 126) rfl)) (by decide) (by decide)) eT (hb hby at_137) (by rw [hml]; rfl) [] [] (lenOf pd_21 rfl) rfl rfl (Nat.le_of_eq rfl) (by decide) (by decide) ?_
    intro v T L X hq
    obtain ⟨NQ, K17, lc, rfl, glc, H17, G17, P17⟩ := hq
    have N := Fr.app N NQ
    obtain ⟨h17, eT⟩ : ∃ z, T.heap = z := ⟨_, rfl⟩
    rw [eT] at K17 H17 G17 P17
    have sz17 := K17.1
    show Gl p e below s room_1.cells room_1.slots (fun v h L => v = some (.int 1) ∧ Fr n0 L) (T.setTop (mkF m 140 #[.val (.int p0), .val (.int p1), .val (.int p2), .val (.int p3), .val (.int (0 : Int32)), .val (.int (0 : Int32)), .val (.ref ps), .val (.ref tv), .val (.ref al), .val (.ref ao), .val (.ref la), .unset, .unset, .unset, .unset] [(.ref lc)]))
    have llc : lc < h17.size := H17.lt
    refine Gl.by (fun t_ k_ => XS.astore X.here hx rfl (hb hby at_140) rfl rfl (l' := #[.val (.int p0), .val (.int p1), .val (.int p2), .val (.int p3), .val (.int (0 : Int32)), .val (.int (0 : Int32)), .val (.ref ps), .val (.ref tv), .val (.ref al), .val (.ref ao), .val (.ref la), .val (.ref lc), .unset, .unset, .unset]) rfl k_) ?_
    show Gl p e below s room_1.cells room_1.slots (fun v h L => v = some (.int 1) ∧ Fr n0 L) (T.setTop (mkF m 142 #[.val (.int p0), .val (.int p1), .val (.int p2), .val (.int p3), .val (.int (0 : Int32)), .val (.int (0 : Int32)), .val (.ref ps), .val (.ref tv), .val (.ref al), .val (.ref ao), .val (.ref la), .val (.ref lc), .unset, .unset, .unset] []))
    refine Gl.by (fun t_ k_ => XS.aload X.here hx rfl (hb hby at_142) rfl rfl k_) ?_
    show Gl p e below s room_1.cells room_1.slots (fun v h L => v = some (.int 1) ∧ Fr n0 L) (T.setTop (mkF m 144 #[.val (.int p0), .val (.int p1), .val (.int p2), .val (.int p3), .val (.int (0 : Int32)), .val (.int (0 : Int32)), .val (.ref ps), .val (.ref tv), .val (.ref al), .val (.ref ao), .val (.ref la), .val (.ref lc), .unset, .unset, .unset] [(.ref lc)]))
    refine Gl.by (fun t_ k_ => XS.ifnonnullYes X.here hx rfl (pc0 := 144) (pc' := 149) rfl (hb hby at_144) rfl (by decide) (by decide) k_) ?_
    show Gl p e below s room_1.cells room_1.slots (fun v h L => v = some (.int 1) ∧ Fr n0 L) (T.setTop (mkF m 149 #[.val (.int p0), .val (.int p1), .val (.int p2), .val (.int p3), .val (.int (0 : Int32)), .val (.int (0 : Int32)), .val (.ref ps), .val (.ref tv), .val (.ref al), .val (.ref ao), .val (.ref la), .val (.ref lc), .unset, .unset, .unset] []))
    refine Gl.by (fun t_ k_ => XS.aload X.here hx rfl (hb hby at_149) rfl rfl k_) ?_
    show Gl p e below s room_1.cells room_1.slots (fun v h L => v = some (.int 1) ∧ Fr n0 L) (T.setTop (mkF m 151 #[.val (.int p0), .val (.int p1), .val (.int p2), .val (.int p3), .val (.int (0 : Int32)), .val (.int (0 : Int32)), .val (.ref ps), .val (.ref tv), .val (.ref al), .val (.ref ao), .val (.ref la), .val (.ref lc), .unset, .unset, .unset] [(.ref lc)]))
    refine Gl.virt X hx hZ hown (hw _ (List.mem_of_getElem? (i := 142) rfl)) (hw _ (List.mem_of_getElem? (i := 143) rfl)) (hw _ (List.mem_of_getElem? (i := 145) rfl)) (hw _ (List.mem_of_getElem? (i := 144) rfl)) (notFace_of_selects (args := #[]) (mvT hZ (hw _ (List.mem_of_getElem? (i := 145) rfl)))) (by decide) H17 (W := 0) (backC (own_lpos1 l Z a0 hw lc h17 n0 P17) hZ (hw _ (List.mem_of_getElem? (i := 146) rfl)) (hw _ (List.mem_of_getElem? (i := 126) rfl)) (by decide) (by decide)) eT (hb hby at_151) (by rw [hml]; rfl) [] [] (lenOf pd_9 rfl) rfl rfl (Nat.le_of_eq rfl) (by decide) (by decide) ?_
    intro v T L X hq
    obtain ⟨rfl, rfl, eT⟩ := hq
    have N := Fr.app N (Fr.nil n0)
    show Gl p e below s room_1.cells room_1.slots (fun v h L => v = some (.int 1) ∧ Fr n0 L) (T.setTop (mkF m 154 #[.val (.int p0), .val (.int p1), .val (.int p2), .val (.int p3), .val (.int (0 : Int32)), .val (.int (0 : Int32)), .val (.ref ps), .val (.ref tv), .val (.ref al), .val (.ref ao), .val (.ref la), .val (.ref lc), .unset, .unset, .unset] [(.int (1 : Int32))]))
    refine Gl.by (fun t_ k_ => XS.iload X.here hx rfl (hb hby at_154) rfl k_) ?_
    show Gl p e below s room_1.cells room_1.slots (fun v h L => v = some (.int 1) ∧ Fr n0 L) (T.setTop (mkF m 156 #[.val (.int p0), .val (.int p1), .val (.int p2), .val (.int p3), .val (.int (0 : Int32)), .val (.int (0 : Int32)), .val (.ref ps), .val (.ref tv), .val (.ref al), .val (.ref ao), .val (.ref la), .val (.ref lc), .unset, .unset, .unset] [(.int (0 : Int32)), (.int (1 : Int32))]))
    refine Gl.by (fun t_ k_ => XS.ifNo X.here hx rfl (hb hby at_156) rfl ((if0 _ _).trans (teq (rfl : (0 : Int32) = 0)).2) k_) ?_
    show Gl p e below s room_1.cells room_1.slots (fun v h L => v = some (.int 1) ∧ Fr n0 L) (T.setTop (mkF m 159 #[.val (.int p0), .val (.int p1), .val (.int p2), .val (.int p3), .val (.int (0 : Int32)), .val (.int (0 : Int32)), .val (.ref ps), .val (.ref tv), .val (.ref al), .val (.ref ao), .val (.ref la), .val (.ref lc), .unset, .unset, .unset] [(.int (1 : Int32))]))
    refine Gl.by (fun t_ k_ => XS.iconst X.here hx rfl (hb hby at_159) k_) ?_
    show Gl p e below s room_1.cells room_1.slots (fun v h L => v = some (.int 1) ∧ Fr n0 L) (T.setTop (mkF m 160 #[.val (.int p0), .val (.int p1), .val (.int p2), .val (.int p3), .val (.int (0 : Int32)), .val (.int (0 : Int32)), .val (.ref ps), .val (.ref tv), .val (.ref al), .val (.ref ao), .val (.ref la), .val (.ref lc), .unset, .unset, .unset] [(.int (1 : Int32)), (.int (1 : Int32))]))
    refine Gl.by (fun t_ k_ => XS.goto X.here hx rfl (pc0 := 160) (pc' := 164) rfl (hb hby at_160) (by decide) (by decide) k_) ?_
    show Gl p e below s room_1.cells room_1.slots (fun v h L => v = some (.int 1) ∧ Fr n0 L) (T.setTop (mkF m 164 #[.val (.int p0), .val (.int p1), .val (.int p2), .val (.int p3), .val (.int (0 : Int32)), .val (.int (0 : Int32)), .val (.ref ps), .val (.ref tv), .val (.ref al), .val (.ref ao), .val (.ref la), .val (.ref lc), .unset, .unset, .unset] [(.int (1 : Int32)), (.int (1 : Int32))]))
    refine Gl.by (fun t_ k_ => XS.icmpYes X.here hx rfl (pc0 := 164) (pc' := 169) rfl (hb hby at_164) rfl (teq (rfl : (1 : Int32) = 1)).1 (by decide) (by decide) k_) ?_
    show Gl p e below s room_1.cells room_1.slots (fun v h L => v = some (.int 1) ∧ Fr n0 L) (T.setTop (mkF m 169 #[.val (.int p0), .val (.int p1), .val (.int p2), .val (.int p3), .val (.int (0 : Int32)), .val (.int (0 : Int32)), .val (.ref ps), .val (.ref tv), .val (.ref al), .val (.ref ao), .val (.ref la), .val (.ref lc), .unset, .unset, .unset] []))
    refine Gl.by (fun t_ k_ => XS.aload X.here hx rfl (hb hby at_169) rfl rfl k_) ?_
    show Gl p e below s room_1.cells room_1.slots (fun v h L => v = some (.int 1) ∧ Fr n0 L) (T.setTop (mkF m 171 #[.val (.int p0), .val (.int p1), .val (.int p2), .val (.int p3), .val (.int (0 : Int32)), .val (.int (0 : Int32)), .val (.ref ps), .val (.ref tv), .val (.ref al), .val (.ref ao), .val (.ref la), .val (.ref lc), .unset, .unset, .unset] [(.ref lc)]))
    refine Gl.virt X hx hZ hown (hw _ (List.mem_of_getElem? (i := 147) rfl)) (hw _ (List.mem_of_getElem? (i := 148) rfl)) (hw _ (List.mem_of_getElem? (i := 150) rfl)) (hw _ (List.mem_of_getElem? (i := 149) rfl)) (notFace_of_selects (args := #[]) (mvT hZ (hw _ (List.mem_of_getElem? (i := 150) rfl)))) (by decide) H17 (W := 0) (backC (own_latom l Z a0 hw lc ao h17 n0 G17) hZ (hw _ (List.mem_of_getElem? (i := 151) rfl)) (hw _ (List.mem_of_getElem? (i := 126) rfl)) (by decide) (by decide)) eT (hb hby at_171) (by rw [hml]; rfl) [] [] (lenOf pd_22 rfl) rfl rfl (Nat.le_of_eq rfl) (by decide) (by decide) ?_
    intro v T L X hq
    obtain ⟨rfl, rfl, eT⟩ := hq
    have N := Fr.app N (Fr.nil n0)
    show Gl p e below s room_1.cells room_1.slots (fun v h L => v = some (.int 1) ∧ Fr n0 L) (T.setTop (mkF m 174 #[.val (.int p0), .val (.int p1), .val (.int p2), .val (.int p3), .val (.int (0 : Int32)), .val (.int (0 : Int32)), .val (.ref ps), .val (.ref tv), .val (.ref al), .val (.ref ao), .val (.ref la), .val (.ref lc), .unset, .unset, .unset] [(.ref ao)]))
    refine Gl.by (fun t_ k_ => XS.astore X.here hx rfl (hb hby at_174) rfl rfl (l' := #[.val (.int p0), .val (.int p1), .val (.int p2), .val (.int p3), .val (.int (0 : Int32)), .val (.int (0 : Int32)), .val (.ref ps), .val (.ref tv), .val (.ref al), .val (.ref ao), .val (.ref la), .val (.ref lc), .val (.ref ao), .unset, .unset]) rfl k_) ?_
    show Gl p e below s room_1.cells room_1.slots (fun v h L => v = some (.int 1) ∧ Fr n0 L) (T.setTop (mkF m 176 #[.val (.int p0), .val (.int p1), .val (.int p2), .val (.int p3), .val (.int (0 : Int32)), .val (.int (0 : Int32)), .val (.ref ps), .val (.ref tv), .val (.ref al), .val (.ref ao), .val (.ref la), .val (.ref lc), .val (.ref ao), .unset, .unset] []))
    refine Gl.by (fun t_ k_ => XS.aload X.here hx rfl (hb hby at_176) rfl rfl k_) ?_
    show Gl p e below s room_1.cells room_1.slots (fun v h L => v = some (.int 1) ∧ Fr n0 L) (T.setTop (mkF m 178 #[.val (.int p0), .val (.int p1), .val (.int p2), .val (.int p3), .val (.int (0 : Int32)), .val (.int (0 : Int32)), .val (.ref ps), .val (.ref tv), .val (.ref al), .val (.ref ao), .val (.ref la), .val (.ref lc), .val (.ref ao), .unset, .unset] [(.ref ao)]))
    refine Gl.by (fun t_ k_ => XS.ifnonnullYes X.here hx rfl (pc0 := 178) (pc' := 183) rfl (hb hby at_178) rfl (by decide) (by decide) k_) ?_
    show Gl p e below s room_1.cells room_1.slots (fun v h L => v = some (.int 1) ∧ Fr n0 L) (T.setTop (mkF m 183 #[.val (.int p0), .val (.int p1), .val (.int p2), .val (.int p3), .val (.int (0 : Int32)), .val (.int (0 : Int32)), .val (.ref ps), .val (.ref tv), .val (.ref al), .val (.ref ao), .val (.ref la), .val (.ref lc), .val (.ref ao), .unset, .unset] []))
    refine Gl.by (fun t_ k_ => XS.aload X.here hx rfl (hb hby at_183) rfl rfl k_) ?_
    show Gl p e below s room_1.cells room_1.slots (fun v h L => v = some (.int 1) ∧ Fr n0 L) (T.setTop (mkF m 185 #[.val (.int p0), .val (.int p1), .val (.int p2), .val (.int p3), .val (.int (0 : Int32)), .val (.int (0 : Int32)), .val (.ref ps), .val (.ref tv), .val (.ref al), .val (.ref ao), .val (.ref la), .val (.ref lc), .val (.ref ao), .unset, .unset] [(.ref ao)]))
    refine Gl.virt X hx hZ hown (hw _ (List.mem_of_getElem? (i := 152) rfl)) (hw _ (List.mem_of_getElem? (i := 153) rfl)) (hw _ (List.mem_of_getElem? (i := 155) rfl)) (hw _ (List.mem_of_getElem? (i := 154) rfl)) (notFace_of_selects (args := #[]) (mvT hZ (hw _ (List.mem_of_getElem? (i := 155) rfl)))) (by decide) ((((A13.keep K14).ext E15).keep K16).keep K17) (W := 0) (backC (own_apred l Z a0 hw ao ps h17 n0 (((FP14.ext E15).keep K16 (ninS (ne_exa ((A13.keep K14).ext E15) A15 (by decide)) nin0)).keep K17 nin0)) hZ (hw _ (List.mem_of_getElem? (i := 156) rfl)) (hw _ (List.mem_of_getElem? (i := 86) rfl)) (by decide) (by decide)) eT (hb hby at_185) (by rw [hml]; rfl) [] [] (lenOf pd_23 rfl) rfl rfl (Nat.le_of_eq rfl) (by decide) (by decide) ?_
    intro v T L X hq
    obtain ⟨rfl, rfl, eT⟩ := hq
    have N := Fr.app N (Fr.nil n0)
    show Gl p e below s room_1.cells room_1.slots (fun v h L => v = some (.int 1) ∧ Fr n0 L) (T.setTop (mkF m 188 #[.val (.int p0), .val (.int p1), .val (.int p2), .val (.int p3), .val (.int (0 : Int32)), .val (.int (0 : Int32)), .val (.ref ps), .val (.ref tv), .val (.ref al), .val (.ref ao), .val (.ref la), .val (.ref lc), .val (.ref ao), .unset, .unset] [(.ref ps)]))
    refine Gl.by (fun t_ k_ => XS.aload X.here hx rfl (hb hby at_188) rfl rfl k_) ?_
    show Gl p e below s room_1.cells room_1.slots (fun v h L => v = some (.int 1) ∧ Fr n0 L) (T.setTop (mkF m 190 #[.val (.int p0), .val (.int p1), .val (.int p2), .val (.int p3), .val (.int (0 : Int32)), .val (.int (0 : Int32)), .val (.ref ps), .val (.ref tv), .val (.ref al), .val (.ref ao), .val (.ref la), .val (.ref lc), .val (.ref ao), .unset, .unset] [(.ref ps), (.ref ps)]))
    refine Gl.virt X hx hZ hown (hw _ (List.mem_of_getElem? (i := 157) rfl)) (hw _ (List.mem_of_getElem? (i := 158) rfl)) (hw _ (List.mem_of_getElem? (i := 160) rfl)) (hw _ (List.mem_of_getElem? (i := 159) rfl)) (notFace_of_selects (args := #[]) (mvT hZ (hw _ (List.mem_of_getElem? (i := 160) rfl)))) (by decide) ((((((((((SQ7.exa.ext E8).keep K9).keep K10).ext E11).keep K12).ext E13).keep K14).ext E15).keep K16).keep K17) (W := 0) (backC (own_seq l Z a0 hw ps h17 n0) hZ (hw _ (List.mem_of_getElem? (i := 161) rfl)) (hw _ (List.mem_of_getElem? (i := 2) rfl)) (by decide) (by decide)) eT (hb hby at_190) (by rw [hml]; rfl) [(.ref ps)] [] (lenOf pd_24 rfl) rfl rfl (Nat.le_of_eq rfl) (by decide) (by decide) ?_
    intro v T L X hq
    obtain ⟨rfl, rfl, eT⟩ := hq
    have N := Fr.app N (Fr.nil n0)
    show Gl p e below s room_1.cells room_1.slots (fun v h L => v = some (.int 1) ∧ Fr n0 L) (T.setTop (mkF m 193 #[.val (.int p0), .val (.int p1), .val (.int p2), .val (.int p3), .val (.int (0 : Int32)), .val (.int (0 : Int32)), .val (.ref ps), .val (.ref tv), .val (.ref al), .val (.ref ao), .val (.ref la), .val (.ref lc), .val (.ref ao), .unset, .unset] [(.int (1 : Int32))]))
    refine Gl.by (fun t_ k_ => XS.ifYes X.here hx rfl (pc0 := 193) (pc' := 198) rfl (hb hby at_193) rfl ((if0 _ _).trans (feq (by decide : ¬ (1 : Int32) = 0)).2) (by decide) (by decide) k_) ?_
    show Gl p e below s room_1.cells room_1.slots (fun v h L => v = some (.int 1) ∧ Fr n0 L) (T.setTop (mkF m 198 #[.val (.int p0), .val (.int p1), .val (.int p2), .val (.int p3), .val (.int (0 : Int32)), .val (.int (0 : Int32)), .val (.ref ps), .val (.ref tv), .val (.ref al), .val (.ref ao), .val (.ref la), .val (.ref lc), .val (.ref ao), .unset, .unset] []))
    refine Gl.by (fun t_ k_ => XS.iload X.here hx rfl (hb hby at_198) rfl k_) ?_
    show Gl p e below s room_1.cells room_1.slots (fun v h L => v = some (.int 1) ∧ Fr n0 L) (T.setTop (mkF m 200 #[.val (.int p0), .val (.int p1), .val (.int p2), .val (.int p3), .val (.int (0 : Int32)), .val (.int (0 : Int32)), .val (.ref ps), .val (.ref tv), .val (.ref al), .val (.ref ao), .val (.ref la), .val (.ref lc), .val (.ref ao), .unset, .unset] [(.int (0 : Int32))]))
    refine Gl.by (fun t_ k_ => XS.ifYes X.here hx rfl (pc0 := 200) (pc' := 207) rfl (hb hby at_200) rfl ((if0 _ _).trans (teq (rfl : (0 : Int32) = 0)).1) (by decide) (by decide) k_) ?_
    show Gl p e below s room_1.cells room_1.slots (fun v h L => v = some (.int 1) ∧ Fr n0 L) (T.setTop (mkF m 207 #[.val (.int p0), .val (.int p1), .val (.int p2), .val (.int p3), .val (.int (0 : Int32)), .val (.int (0 : Int32)), .val (.ref ps), .val (.ref tv), .val (.ref al), .val (.ref ao), .val (.ref la), .val (.ref lc), .val (.ref ao), .unset, .unset] []))
    refine Gl.by (fun t_ k_ => XS.iconst X.here hx rfl (hb hby at_207) k_) ?_
    show Gl p e below s room_1.cells room_1.slots (fun v h L => v = some (.int 1) ∧ Fr n0 L) (T.setTop (mkF m 208 #[.val (.int p0), .val (.int p1), .val (.int p2), .val (.int p3), .val (.int (0 : Int32)), .val (.int (0 : Int32)), .val (.ref ps), .val (.ref tv), .val (.ref al), .val (.ref ao), .val (.ref la), .val (.ref lc), .val (.ref ao), .unset, .unset] [(.int (0 : Int32))]))
    refine Gl.by (fun t_ k_ => XS.istore X.here hx rfl (hb hby at_208) rfl (l' := #[.val (.int p0), .val (.int p1), .val (.int p2), .val (.int p3), .val (.int (0 : Int32)), .val (.int (0 : Int32)), .val (.ref ps), .val (.ref tv), .val (.ref al), .val (.ref ao), .val (.ref la), .val (.ref lc), .val (.ref ao), .val (.int (0 : Int32)), .unset]) rfl k_) ?_
    show Gl p e below s room_1.cells room_1.slots (fun v h L => v = some (.int 1) ∧ Fr n0 L) (T.setTop (mkF m 210 #[.val (.int p0), .val (.int p1), .val (.int p2), .val (.int p3), .val (.int (0 : Int32)), .val (.int (0 : Int32)), .val (.ref ps), .val (.ref tv), .val (.ref al), .val (.ref ao), .val (.ref la), .val (.ref lc), .val (.ref ao), .val (.int (0 : Int32)), .unset] []))
    refine Gl.by (fun t_ k_ => XS.aload X.here hx rfl (hb hby at_210) rfl rfl k_) ?_
    show Gl p e below s room_1.cells room_1.slots (fun v h L => v = some (.int 1) ∧ Fr n0 L) (T.setTop (mkF m 212 #[.val (.int p0), .val (.int p1), .val (.int p2), .val (.int p3), .val (.int (0 : Int32)), .val (.int (0 : Int32)), .val (.ref ps), .val (.ref tv), .val (.ref al), .val (.ref ao), .val (.ref la), .val (.ref lc), .val (.ref ao), .val (.int (0 : Int32)), .unset] [(.ref ao)]))
    refine Gl.virt X hx hZ hown (hw _ (List.mem_of_getElem? (i := 162) rfl)) (hw _ (List.mem_of_getElem? (i := 163) rfl)) (hw _ (List.mem_of_getElem? (i := 165) rfl)) (hw _ (List.mem_of_getElem? (i := 164) rfl)) (notFace_of_selects (args := #[]) (mvT hZ (hw _ (List.mem_of_getElem? (i := 165) rfl)))) (by decide) ((((A13.keep K14).ext E15).keep K16).keep K17) (W := 0) (backC (own_aargs l Z a0 hw ao el h17 n0 (((FA14.ext E15).keep K16 (ninS (ne_exa ((A13.keep K14).ext E15) A15 (by decide)) nin0)).keep K17 nin0)) hZ (hw _ (List.mem_of_getElem? (i := 166) rfl)) (hw _ (List.mem_of_getElem? (i := 86) rfl)) (by decide) (by decide)) eT (hb hby at_212) (by rw [hml]; rfl) [] [] (lenOf pd_10 rfl) rfl rfl (Nat.le_of_eq rfl) (by decide) (by decide) ?_
    intro v T L X hq
    obtain ⟨rfl, rfl, eT⟩ := hq
    have N := Fr.app N (Fr.nil n0)
    show Gl p e below s room_1.cells room_1.slots (fun v h L => v = some (.int 1) ∧ Fr n0 L) (T.setTop (mkF m 215 #[.val (.int p0), .val (.int p1), .val (.int p2), .val (.int p3), .val (.int (0 : Int32)), .val (.int (0 : Int32)), .val (.ref ps), .val (.ref tv), .val (.ref al), .val (.ref ao), .val (.ref la), .val (.ref lc), .val (.ref ao), .val (.int (0 : Int32)), .unset] [(.ref el)]))
    refine Gl.face X hx hZ hown (hw _ (List.mem_of_getElem? (i := 167) rfl)) (hw _ (List.mem_of_getElem? (i := 168) rfl)) (mvT hZ (hw _ (List.mem_of_getElem? (i := 169) rfl))) (hw _ (List.mem_of_getElem? (i := 170) rfl)) (hw _ (List.mem_of_getElem? (i := 171) rfl)) (hw _ (List.mem_of_getElem? (i := 172) rfl)) (hw _ (List.mem_of_getElem? (i := 173) rfl)) (hw _ (List.mem_of_getElem? (i := 174) rfl)) (by decide) (K.2.2.2.1.ext (((((((((((O6.keep K7 (allS (by omega) all0)).ext E8).keep K9 all0).keep K10 (allS (by omega) all0)).ext E11).keep K12 (allS (by omega) all0)).ext E13).keep K14 (allS (by omega) all0)).ext E15).keep K16 (allS (by omega) all0)).keep K17 all0).2) (W := 0) (backC (own_lns l Z a0 hw dc el mr em h17 n0 (((((((((((O6.keep K7 (allS (by omega) all0)).ext E8).keep K9 all0).keep K10 (allS (by omega) all0)).ext E11).keep K12 (allS (by omega) all0)).ext E13).keep K14 (allS (by omega) all0)).ext E15).keep K16 (allS (by omega) all0)).keep K17 all0) K) hZ (hw _ (List.mem_of_getElem? (i := 176) rfl)) (hw _ (List.mem_of_getElem? (i := 175) rfl)) (by decide) (by decide)) eT (hb hby at_215) (by rw [hml]; rfl) [] [] (lenOf pd_25 rfl) rfl rfl (Nat.le_of_eq rfl) (by decide) (by decide) ?_
    intro v T L X hq
    obtain ⟨rfl, rfl, eT⟩ := hq
    have N := Fr.app N (Fr.nil n0)
    show Gl p e below s room_1.cells room_1.slots (fun v h L => v = some (.int 1) ∧ Fr n0 L) (T.setTop (mkF m 220 #[.val (.int p0), .val (.int p1), .val (.int p2), .val (.int p3), .val (.int (0 : Int32)), .val (.int (0 : Int32)), .val (.ref ps), .val (.ref tv), .val (.ref al), .val (.ref ao), .val (.ref la), .val (.ref lc), .val (.ref ao), .val (.int (0 : Int32)), .unset] [(.int (0 : Int32))]))
    refine Gl.by (fun t_ k_ => XS.iload X.here hx rfl (hb hby at_220) rfl k_) ?_
    show Gl p e below s room_1.cells room_1.slots (fun v h L => v = some (.int 1) ∧ Fr n0 L) (T.setTop (mkF m 222 #[.val (.int p0), .val (.int p1), .val (.int p2), .val (.int p3), .val (.int (0 : Int32)), .val (.int (0 : Int32)), .val (.ref ps), .val (.ref tv), .val (.ref al), .val (.ref ao), .val (.ref la), .val (.ref lc), .val (.ref ao), .val (.int (0 : Int32)), .unset] [(.int (0 : Int32)), (.int (0 : Int32))]))
    refine Gl.by (fun t_ k_ => XS.icmpYes X.here hx rfl (pc0 := 222) (pc' := 227) rfl (hb hby at_222) rfl (teq (rfl : (0 : Int32) = 0)).1 (by decide) (by decide) k_) ?_
    show Gl p e below s room_1.cells room_1.slots (fun v h L => v = some (.int 1) ∧ Fr n0 L) (T.setTop (mkF m 227 #[.val (.int p0), .val (.int p1), .val (.int p2), .val (.int p3), .val (.int (0 : Int32)), .val (.int (0 : Int32)), .val (.ref ps), .val (.ref tv), .val (.ref al), .val (.ref ao), .val (.ref la), .val (.ref lc), .val (.ref ao), .val (.int (0 : Int32)), .unset] []))
    refine Gl.by (fun t_ k_ => XS.iload X.here hx rfl (hb hby at_227) rfl k_) ?_
    show Gl p e below s room_1.cells room_1.slots (fun v h L => v = some (.int 1) ∧ Fr n0 L) (T.setTop (mkF m 229 #[.val (.int p0), .val (.int p1), .val (.int p2), .val (.int p3), .val (.int (0 : Int32)), .val (.int (0 : Int32)), .val (.ref ps), .val (.ref tv), .val (.ref al), .val (.ref ao), .val (.ref la), .val (.ref lc), .val (.ref ao), .val (.int (0 : Int32)), .unset] [(.int (0 : Int32))]))
    refine Gl.by (fun t_ k_ => XS.ifYes X.here hx rfl (pc0 := 229) (pc' := 250) rfl (hb hby at_229) rfl ((if0 _ _).trans (teq (rfl : (0 : Int32) = 0)).1) (by decide) (by decide) k_) ?_
    show Gl p e below s room_1.cells room_1.slots (fun v h L => v = some (.int 1) ∧ Fr n0 L) (T.setTop (mkF m 250 #[.val (.int p0), .val (.int p1), .val (.int p2), .val (.int p3), .val (.int (0 : Int32)), .val (.int (0 : Int32)), .val (.ref ps), .val (.ref tv), .val (.ref al), .val (.ref ao), .val (.ref la), .val (.ref lc), .val (.ref ao), .val (.int (0 : Int32)), .unset] []))
    refine Gl.by (fun t_ k_ => XS.aload X.here hx rfl (hb hby at_250) rfl rfl k_) ?_
    show Gl p e below s room_1.cells room_1.slots (fun v h L => v = some (.int 1) ∧ Fr n0 L) (T.setTop (mkF m 252 #[.val (.int p0), .val (.int p1), .val (.int p2), .val (.int p3), .val (.int (0 : Int32)), .val (.int (0 : Int32)), .val (.ref ps), .val (.ref tv), .val (.ref al), .val (.ref ao), .val (.ref la), .val (.ref lc), .val (.ref ao), .val (.int (0 : Int32)), .unset] [(.ref la)]))
    refine Gl.virt X hx hZ hown (hw _ (List.mem_of_getElem? (i := 142) rfl)) (hw _ (List.mem_of_getElem? (i := 143) rfl)) (hw _ (List.mem_of_getElem? (i := 145) rfl)) (hw _ (List.mem_of_getElem? (i := 144) rfl)) (notFace_of_selects (args := #[]) (mvT hZ (hw _ (List.mem_of_getElem? (i := 145) rfl)))) (by decide) ((A15.keep K16).keep K17) (W := 0) (backC (own_lpos0 l Z a0 hw la h17 n0 (P16.keep K17 nin0)) hZ (hw _ (List.mem_of_getElem? (i := 146) rfl)) (hw _ (List.mem_of_getElem? (i := 126) rfl)) (by decide) (by decide)) eT (hb hby at_252) (by rw [hml]; rfl) [] [] (lenOf pd_9 rfl) rfl rfl (Nat.le_of_eq rfl) (by decide) (by decide) ?_
    intro v T L X hq
    obtain ⟨rfl, rfl, eT⟩ := hq
    have N := Fr.app N (Fr.nil n0)
    show Gl p e below s room_1.cells room_1.slots (fun v h L => v = some (.int 1) ∧ Fr n0 L) (T.setTop (mkF m 255 #[.val (.int p0), .val (.int p1), .val (.int p2), .val (.int p3), .val (.int (0 : Int32)), .val (.int (0 : Int32)), .val (.ref ps), .val (.ref tv), .val (.ref al), .val (.ref ao), .val (.ref la), .val (.ref lc), .val (.ref ao), .val (.int (0 : Int32)), .unset] [(.int (0 : Int32))]))
    refine Gl.by (fun t_ k_ => XS.iload X.here hx rfl (hb hby at_255) rfl k_) ?_
    show Gl p e below s room_1.cells room_1.slots (fun v h L => v = some (.int 1) ∧ Fr n0 L) (T.setTop (mkF m 257 #[.val (.int p0), .val (.int p1), .val (.int p2), .val (.int p3), .val (.int (0 : Int32)), .val (.int (0 : Int32)), .val (.ref ps), .val (.ref tv), .val (.ref al), .val (.ref ao), .val (.ref la), .val (.ref lc), .val (.ref ao), .val (.int (0 : Int32)), .unset] [(.int (0 : Int32)), (.int (0 : Int32))]))
    refine Gl.by (fun t_ k_ => XS.icmpYes X.here hx rfl (pc0 := 257) (pc' := 262) rfl (hb hby at_257) rfl (teq (rfl : (0 : Int32) = 0)).1 (by decide) (by decide) k_) ?_
    show Gl p e below s room_1.cells room_1.slots (fun v h L => v = some (.int 1) ∧ Fr n0 L) (T.setTop (mkF m 262 #[.val (.int p0), .val (.int p1), .val (.int p2), .val (.int p3), .val (.int (0 : Int32)), .val (.int (0 : Int32)), .val (.ref ps), .val (.ref tv), .val (.ref al), .val (.ref ao), .val (.ref la), .val (.ref lc), .val (.ref ao), .val (.int (0 : Int32)), .unset] []))
    refine Gl.by (fun t_ k_ => XS.aload X.here hx rfl (hb hby at_262) rfl rfl k_) ?_
    show Gl p e below s room_1.cells room_1.slots (fun v h L => v = some (.int 1) ∧ Fr n0 L) (T.setTop (mkF m 264 #[.val (.int p0), .val (.int p1), .val (.int p2), .val (.int p3), .val (.int (0 : Int32)), .val (.int (0 : Int32)), .val (.ref ps), .val (.ref tv), .val (.ref al), .val (.ref ao), .val (.ref la), .val (.ref lc), .val (.ref ao), .val (.int (0 : Int32)), .unset] [(.ref lc)]))
    refine Gl.virt X hx hZ hown (hw _ (List.mem_of_getElem? (i := 135) rfl)) (hw _ (List.mem_of_getElem? (i := 136) rfl)) (hw _ (List.mem_of_getElem? (i := 138) rfl)) (hw _ (List.mem_of_getElem? (i := 137) rfl)) (notFace_of_selects (args := #[]) (mvT hZ (hw _ (List.mem_of_getElem? (i := 138) rfl)))) (by decide) H17 (W := 0) (backC (own_cpl1 l Z a0 hw lc ao h17 n0 (by omega) ⟨H17, G17, P17⟩) hZ (hw _ (List.mem_of_getElem? (i := 139) rfl)) (hw _ (List.mem_of_getElem? (i := 126) rfl)) (by decide) (by decide)) eT (hb hby at_264) (by rw [hml]; rfl) [] [] (lenOf pd_21 rfl) rfl rfl (Nat.le_of_eq rfl) (by decide) (by decide) ?_
    intro v T L X hq
    obtain ⟨NQ, K18, ld, rfl, gld, H18, G18, P18⟩ := hq
    have N := Fr.app N NQ
    obtain ⟨h18, eT⟩ : ∃ z, T.heap = z := ⟨_, rfl⟩
    rw [eT] at K18 H18 G18 P18
    have sz18 := K18.1
    show Gl p e below s room_1.cells room_1.slots (fun v h L => v = some (.int 1) ∧ Fr n0 L) (T.setTop (mkF m 267 #[.val (.int p0), .val (.int p1), .val (.int p2), .val (.int p3), .val (.int (0 : Int32)), .val (.int (0 : Int32)), .val (.ref ps), .val (.ref tv), .val (.ref al), .val (.ref ao), .val (.ref la), .val (.ref lc), .val (.ref ao), .val (.int (0 : Int32)), .unset] [(.ref ld)]))
    refine Gl.by (fun t_ k_ => XS.astore X.here hx rfl (hb hby at_267) rfl rfl (l' := #[.val (.int p0), .val (.int p1), .val (.int p2), .val (.int p3), .val (.int (0 : Int32)), .val (.int (0 : Int32)), .val (.ref ps), .val (.ref tv), .val (.ref al), .val (.ref ao), .val (.ref la), .val (.ref lc), .val (.ref ao), .val (.int (0 : Int32)), .val (.ref ld)]) rfl k_) ?_
    show Gl p e below s room_1.cells room_1.slots (fun v h L => v = some (.int 1) ∧ Fr n0 L) (T.setTop (mkF m 269 #[.val (.int p0), .val (.int p1), .val (.int p2), .val (.int p3), .val (.int (0 : Int32)), .val (.int (0 : Int32)), .val (.ref ps), .val (.ref tv), .val (.ref al), .val (.ref ao), .val (.ref la), .val (.ref lc), .val (.ref ao), .val (.int (0 : Int32)), .val (.ref ld)] []))
    refine Gl.by (fun t_ k_ => XS.aload X.here hx rfl (hb hby at_269) rfl rfl k_) ?_
    show Gl p e below s room_1.cells room_1.slots (fun v h L => v = some (.int 1) ∧ Fr n0 L) (T.setTop (mkF m 271 #[.val (.int p0), .val (.int p1), .val (.int p2), .val (.int p3), .val (.int (0 : Int32)), .val (.int (0 : Int32)), .val (.ref ps), .val (.ref tv), .val (.ref al), .val (.ref ao), .val (.ref la), .val (.ref lc), .val (.ref ao), .val (.int (0 : Int32)), .val (.ref ld)] [(.ref ld)]))
    refine Gl.by (fun t_ k_ => XS.ifnullNo X.here hx rfl (hb hby at_271) rfl k_) ?_
    show Gl p e below s room_1.cells room_1.slots (fun v h L => v = some (.int 1) ∧ Fr n0 L) (T.setTop (mkF m 274 #[.val (.int p0), .val (.int p1), .val (.int p2), .val (.int p3), .val (.int (0 : Int32)), .val (.int (0 : Int32)), .val (.ref ps), .val (.ref tv), .val (.ref al), .val (.ref ao), .val (.ref la), .val (.ref lc), .val (.ref ao), .val (.int (0 : Int32)), .val (.ref ld)] []))
    refine Gl.by (fun t_ k_ => XS.aload X.here hx rfl (hb hby at_274) rfl rfl k_) ?_
    show Gl p e below s room_1.cells room_1.slots (fun v h L => v = some (.int 1) ∧ Fr n0 L) (T.setTop (mkF m 276 #[.val (.int p0), .val (.int p1), .val (.int p2), .val (.int p3), .val (.int (0 : Int32)), .val (.int (0 : Int32)), .val (.ref ps), .val (.ref tv), .val (.ref al), .val (.ref ao), .val (.ref la), .val (.ref lc), .val (.ref ao), .val (.int (0 : Int32)), .val (.ref ld)] [(.ref ld)]))
    refine Gl.virt X hx hZ hown (hw _ (List.mem_of_getElem? (i := 142) rfl)) (hw _ (List.mem_of_getElem? (i := 143) rfl)) (hw _ (List.mem_of_getElem? (i := 145) rfl)) (hw _ (List.mem_of_getElem? (i := 144) rfl)) (notFace_of_selects (args := #[]) (mvT hZ (hw _ (List.mem_of_getElem? (i := 145) rfl)))) (by decide) H18 (W := 0) (backC (own_lpos0 l Z a0 hw ld h18 n0 P18) hZ (hw _ (List.mem_of_getElem? (i := 146) rfl)) (hw _ (List.mem_of_getElem? (i := 126) rfl)) (by decide) (by decide)) eT (hb hby at_276) (by rw [hml]; rfl) [] [] (lenOf pd_9 rfl) rfl rfl (Nat.le_of_eq rfl) (by decide) (by decide) ?_
    intro v T L X hq
    obtain ⟨rfl, rfl, eT⟩ := hq
    have N := Fr.app N (Fr.nil n0)
    show Gl p e below s room_1.cells room_1.slots (fun v h L => v = some (.int 1) ∧ Fr n0 L) (T.setTop (mkF m 279 #[.val (.int p0), .val (.int p1), .val (.int p2), .val (.int p3), .val (.int (0 : Int32)), .val (.int (0 : Int32)), .val (.ref ps), .val (.ref tv), .val (.ref al), .val (.ref ao), .val (.ref la), .val (.ref lc), .val (.ref ao), .val (.int (0 : Int32)), .val (.ref ld)] [(.int (0 : Int32))]))
    refine Gl.by (fun t_ k_ => XS.iload X.here hx rfl (hb hby at_279) rfl k_) ?_
    show Gl p e below s room_1.cells room_1.slots (fun v h L => v = some (.int 1) ∧ Fr n0 L) (T.setTop (mkF m 281 #[.val (.int p0), .val (.int p1), .val (.int p2), .val (.int p3), .val (.int (0 : Int32)), .val (.int (0 : Int32)), .val (.ref ps), .val (.ref tv), .val (.ref al), .val (.ref ao), .val (.ref la), .val (.ref lc), .val (.ref ao), .val (.int (0 : Int32)), .val (.ref ld)] [(.int (0 : Int32)), (.int (0 : Int32))]))
    refine Gl.by (fun t_ k_ => XS.icmpNo X.here hx rfl (hb hby at_281) rfl (teq (rfl : (0 : Int32) = 0)).2 k_) ?_
    show Gl p e below s room_1.cells room_1.slots (fun v h L => v = some (.int 1) ∧ Fr n0 L) (T.setTop (mkF m 284 #[.val (.int p0), .val (.int p1), .val (.int p2), .val (.int p3), .val (.int (0 : Int32)), .val (.int (0 : Int32)), .val (.ref ps), .val (.ref tv), .val (.ref al), .val (.ref ao), .val (.ref la), .val (.ref lc), .val (.ref ao), .val (.int (0 : Int32)), .val (.ref ld)] []))
    refine Gl.by (fun t_ k_ => XS.iconst X.here hx rfl (hb hby at_284) k_) ?_
    show Gl p e below s room_1.cells room_1.slots (fun v h L => v = some (.int 1) ∧ Fr n0 L) (T.setTop (mkF m 285 #[.val (.int p0), .val (.int p1), .val (.int p2), .val (.int p3), .val (.int (0 : Int32)), .val (.int (0 : Int32)), .val (.ref ps), .val (.ref tv), .val (.ref al), .val (.ref ao), .val (.ref la), .val (.ref lc), .val (.ref ao), .val (.int (0 : Int32)), .val (.ref ld)] [(.int (1 : Int32))]))
    refine Gl.by (fun t_ k_ => XS.goto X.here hx rfl (pc0 := 285) (pc' := 289) rfl (hb hby at_285) (by decide) (by decide) k_) ?_
    show Gl p e below s room_1.cells room_1.slots (fun v h L => v = some (.int 1) ∧ Fr n0 L) (T.setTop (mkF m 289 #[.val (.int p0), .val (.int p1), .val (.int p2), .val (.int p3), .val (.int (0 : Int32)), .val (.int (0 : Int32)), .val (.ref ps), .val (.ref tv), .val (.ref al), .val (.ref ao), .val (.ref la), .val (.ref lc), .val (.ref ao), .val (.int (0 : Int32)), .val (.ref ld)] [(.int (1 : Int32))]))
    exact Gl.retZ X hx hlk hret (by simp) (hb hby at_289) (by decide) (by decide) ⟨rfl, N⟩
  have j01 : Gl p e below s room_1.cells room_1.slots (fun v h L => v = some (.int 1) ∧ Fr n0 L) (T.setTop (mkF m 26 #[.val (.int p0), .val (.int p1), .val (.int p2), .val (.int p3), .val (.int (0 : Int32)), .val (.int (1 : Int32)), .unset, .unset, .unset, .unset, .unset, .unset, .unset, .unset, .unset] [])) := by
    obtain ⟨T, h19, X, eT, E19, A19, D19, -, st⟩ := newO X hx hZ hown (hw _ (List.mem_of_getElem? (i := 0) rfl)) (hw _ (List.mem_of_getElem? (i := 1) rfl)) (hw _ (List.mem_of_getElem? (i := 2) rfl)) eT (g := (mkF m 26 #[.val (.int p0), .val (.int p1), .val (.int p2), .val (.int p3), .val (.int (0 : Int32)), .val (.int (1 : Int32)), .unset, .unset, .unset, .unset, .unset, .unset, .unset, .unset, .unset] [])) rfl (hb hby at_26) (by decide) (by decide)
    obtain ⟨ps, g19⟩ : ∃ z, z = h0.size := ⟨_, rfl⟩
    rw [← g19] at A19 D19 st
    have sz19 := E19.1
    have lt19 : ps < h19.size := A19.lt
    refine Gl.by st ?_
    have F19_coder : Fld Z h19 ps "java/lang/String" "coder" "B" (.int (0 : Int32)) := D19 (Or.inr (hw _ (List.mem_of_getElem? (i := 27) rfl))) (ty := .byte) (by decide)
    have F19_value : Fld Z h19 ps "java/lang/String" "value" "[B" .null := D19 (Or.inr (hw _ (List.mem_of_getElem? (i := 29) rfl))) (ty := (.array .byte)) (by decide)
    show Gl p e below s room_1.cells room_1.slots (fun v h L => v = some (.int 1) ∧ Fr n0 L) (T.setTop (mkF m 29 #[.val (.int p0), .val (.int p1), .val (.int p2), .val (.int p3), .val (.int (0 : Int32)), .val (.int (1 : Int32)), .unset, .unset, .unset, .unset, .unset, .unset, .unset, .unset, .unset] [(.ref ps)]))
    refine Gl.by (fun t_ k_ => XS.dup X.here hx rfl (hb hby at_29) rfl rfl k_) ?_
    show Gl p e below s room_1.cells room_1.slots (fun v h L => v = some (.int 1) ∧ Fr n0 L) (T.setTop (mkF m 30 #[.val (.int p0), .val (.int p1), .val (.int p2), .val (.int p3), .val (.int (0 : Int32)), .val (.int (1 : Int32)), .unset, .unset, .unset, .unset, .unset, .unset, .unset, .unset, .unset] [(.ref ps), (.ref ps)]))
    refine Gl.by (fun t_ k_ => XS.iconst X.here hx rfl (hb hby at_30) k_) ?_
    show Gl p e below s room_1.cells room_1.slots (fun v h L => v = some (.int 1) ∧ Fr n0 L) (T.setTop (mkF m 31 #[.val (.int p0), .val (.int p1), .val (.int p2), .val (.int p3), .val (.int (0 : Int32)), .val (.int (1 : Int32)), .unset, .unset, .unset, .unset, .unset, .unset, .unset, .unset, .unset] [(.int (3 : Int32)), (.ref ps), (.ref ps)]))
    obtain ⟨T, h20, k20, X, eT, E20, A20, st⟩ := newP X hx hZ (hw _ (List.mem_of_getElem? (i := 3) rfl)) eT (g := (mkF m 31 #[.val (.int p0), .val (.int p1), .val (.int p2), .val (.int p3), .val (.int (0 : Int32)), .val (.int (1 : Int32)), .unset, .unset, .unset, .unset, .unset, .unset, .unset, .unset, .unset] [(.int (3 : Int32)), (.ref ps), (.ref ps)])) rfl (hb hby at_31) rfl (by decide) (cap := 3) (by decide) (by decide) (by decide) (by decide)
    obtain ⟨ch, g20⟩ : ∃ z, z = h19.size := ⟨_, rfl⟩
    rw [← g20] at A20 st
    have sz20 := E20.1
    have lt20 : ch < h20.size := A20.lt
    have V20 : Arv Z h20 ch k20 .char (3 : Int32) [(.int (0 : Int32)), (.int (0 : Int32)), (.int (0 : Int32))] (.int (0 : Int32)) := (Arv.new A20 (by decide)).pad (pad_rep [] (.int (0 : Int32)) 3)
    refine Gl.by st ?_
    show Gl p e below s room_1.cells room_1.slots (fun v h L => v = some (.int 1) ∧ Fr n0 L) (T.setTop (mkF m 33 #[.val (.int p0), .val (.int p1), .val (.int p2), .val (.int p3), .val (.int (0 : Int32)), .val (.int (1 : Int32)), .unset, .unset, .unset, .unset, .unset, .unset, .unset, .unset, .unset] [(.ref ch), (.ref ps), (.ref ps)]))
    refine Gl.by (fun t_ k_ => XS.dup X.here hx rfl (hb hby at_33) rfl rfl k_) ?_
    show Gl p e below s room_1.cells room_1.slots (fun v h L => v = some (.int 1) ∧ Fr n0 L) (T.setTop (mkF m 34 #[.val (.int p0), .val (.int p1), .val (.int p2), .val (.int p3), .val (.int (0 : Int32)), .val (.int (1 : Int32)), .unset, .unset, .unset, .unset, .unset, .unset, .unset, .unset, .unset] [(.ref ch), (.ref ch), (.ref ps), (.ref ps)]))
    refine Gl.by (fun t_ k_ => XS.iconst X.here hx rfl (hb hby at_34) k_) ?_
    show Gl p e below s room_1.cells room_1.slots (fun v h L => v = some (.int 1) ∧ Fr n0 L) (T.setTop (mkF m 35 #[.val (.int p0), .val (.int p1), .val (.int p2), .val (.int p3), .val (.int (0 : Int32)), .val (.int (1 : Int32)), .unset, .unset, .unset, .unset, .unset, .unset, .unset, .unset, .unset] [(.int (0 : Int32)), (.ref ch), (.ref ch), (.ref ps), (.ref ps)]))
    refine Gl.by (fun t_ k_ => XS.iloadN X.here hx rfl (hb hby at_35) rfl k_) ?_
    show Gl p e below s room_1.cells room_1.slots (fun v h L => v = some (.int 1) ∧ Fr n0 L) (T.setTop (mkF m 36 #[.val (.int p0), .val (.int p1), .val (.int p2), .val (.int p3), .val (.int (0 : Int32)), .val (.int (1 : Int32)), .unset, .unset, .unset, .unset, .unset, .unset, .unset, .unset, .unset] [(.int p1), (.int (0 : Int32)), (.ref ch), (.ref ch), (.ref ps), (.ref ps)]))
    refine Gl.by (fun t_ k_ => XS.sipush X.here hx rfl (hb hby at_36) k_) ?_
    show Gl p e below s room_1.cells room_1.slots (fun v h L => v = some (.int 1) ∧ Fr n0 L) (T.setTop (mkF m 39 #[.val (.int p0), .val (.int p1), .val (.int p2), .val (.int p3), .val (.int (0 : Int32)), .val (.int (1 : Int32)), .unset, .unset, .unset, .unset, .unset, .unset, .unset, .unset, .unset] [(.int (255 : Int32)), (.int p1), (.int (0 : Int32)), (.ref ch), (.ref ch), (.ref ps), (.ref ps)]))
    refine Gl.by (fun t_ k_ => XS.iand X.here hx rfl (hb hby at_39) rfl k_) ?_
    show Gl p e below s room_1.cells room_1.slots (fun v h L => v = some (.int 1) ∧ Fr n0 L) (T.setTop (mkF m 40 #[.val (.int p0), .val (.int p1), .val (.int p2), .val (.int p3), .val (.int (0 : Int32)), .val (.int (1 : Int32)), .unset, .unset, .unset, .unset, .unset, .unset, .unset, .unset, .unset] [(.int (p1 &&& (255 : Int32))), (.int (0 : Int32)), (.ref ch), (.ref ch), (.ref ps), (.ref ps)]))
    refine Gl.by (fun t_ k_ => XS.i2c X.here hx rfl (hb hby at_40) rfl k_) ?_
    show Gl p e below s room_1.cells room_1.slots (fun v h L => v = some (.int 1) ∧ Fr n0 L) (T.setTop (mkF m 41 #[.val (.int p0), .val (.int p1), .val (.int p2), .val (.int p3), .val (.int (0 : Int32)), .val (.int (1 : Int32)), .unset, .unset, .unset, .unset, .unset, .unset, .unset, .unset, .unset] [(.int ((p1 &&& (255 : Int32)).toUInt32.toUInt16.toUInt32.toInt32)), (.int (0 : Int32)), (.ref ch), (.ref ch), (.ref ps), (.ref ps)]))
    rw [(and255_char p1).1]
    show Gl p e below s room_1.cells room_1.slots (fun v h L => v = some (.int 1) ∧ Fr n0 L) (T.setTop (mkF m 41 #[.val (.int p0), .val (.int p1), .val (.int p2), .val (.int p3), .val (.int (0 : Int32)), .val (.int (1 : Int32)), .unset, .unset, .unset, .unset, .unset, .unset, .unset, .unset, .unset] [(.int ((p1 &&& (255 : Int32)))), (.int (0 : Int32)), (.ref ch), (.ref ch), (.ref ps), (.ref ps)]))
    obtain ⟨cl21, Ar21, q21, S21, M21, H21, G21⟩ := (id (V20) : Arv Z h20 ch k20 .char (3 : Int32) [(.int (0 : Int32)), (.int (0 : Int32)), (.int (0 : Int32))] (.int (0 : Int32)))
    obtain ⟨T, h21, X, eT, W21, st⟩ := stC X hx hZ eT Ar21 (j := (0 : Int32)) (inb_of S21 ⟨by decide, by decide⟩) (g := (mkF m 41 #[.val (.int p0), .val (.int p1), .val (.int p2), .val (.int p3), .val (.int (0 : Int32)), .val (.int (1 : Int32)), .unset, .unset, .unset, .unset, .unset, .unset, .unset, .unset, .unset] [(.int ((p1 &&& (255 : Int32)))), (.int (0 : Int32)), (.ref ch), (.ref ch), (.ref ps), (.ref ps)])) rfl rfl (hb hby at_41)
    have V21 : Arv Z h21 ch k20 .char (3 : Int32) [(.int (nar .char ((p1 &&& (255 : Int32))))), (.int (0 : Int32)), (.int (0 : Int32))] (.int (0 : Int32)) := Arv.set Ar21 q21 S21 M21 H21 G21 (fits_nar_char _) W21 0 rfl (Nat.le_of_ble_eq_true rfl)
    have sz21 := (Keep.of_wr W21).1
    have N := Fr.snoc X N (by omega)
    refine Gl.by st ?_
    show Gl p e below s room_1.cells room_1.slots (fun v h L => v = some (.int 1) ∧ Fr n0 L) (T.setTop (mkF m 42 #[.val (.int p0), .val (.int p1), .val (.int p2), .val (.int p3), .val (.int (0 : Int32)), .val (.int (1 : Int32)), .unset, .unset, .unset, .unset, .unset, .unset, .unset, .unset, .unset] [(.ref ch), (.ref ps), (.ref ps)]))
    refine Gl.by (fun t_ k_ => XS.dup X.here hx rfl (hb hby at_42) rfl rfl k_) ?_
    show Gl p e below s room_1.cells room_1.slots (fun v h L => v = some (.int 1) ∧ Fr n0 L) (T.setTop (mkF m 43 #[.val (.int p0), .val (.int p1), .val (.int p2), .val (.int p3), .val (.int (0 : Int32)), .val (.int (1 : Int32)), .unset, .unset, .unset, .unset, .unset, .unset, .unset, .unset, .unset] [(.ref ch), (.ref ch), (.ref ps), (.ref ps)]))
    refine Gl.by (fun t_ k_ => XS.iconst X.here hx rfl (hb hby at_43) k_) ?_
    show Gl p e below s room_1.cells room_1.slots (fun v h L => v = some (.int 1) ∧ Fr n0 L) (T.setTop (mkF m 44 #[.val (.int p0), .val (.int p1), .val (.int p2), .val (.int p3), .val (.int (0 : Int32)), .val (.int (1 : Int32)), .unset, .unset, .unset, .unset, .unset, .unset, .unset, .unset, .unset] [(.int (1 : Int32)), (.ref ch), (.ref ch), (.ref ps), (.ref ps)]))
    refine Gl.by (fun t_ k_ => XS.iloadN X.here hx rfl (hb hby at_44) rfl k_) ?_
    show Gl p e below s room_1.cells room_1.slots (fun v h L => v = some (.int 1) ∧ Fr n0 L) (T.setTop (mkF m 45 #[.val (.int p0), .val (.int p1), .val (.int p2), .val (.int p3), .val (.int (0 : Int32)), .val (.int (1 : Int32)), .unset, .unset, .unset, .unset, .unset, .unset, .unset, .unset, .unset] [(.int p2), (.int (1 : Int32)), (.ref ch), (.ref ch), (.ref ps), (.ref ps)]))
    refine Gl.by (fun t_ k_ => XS.sipush X.here hx rfl (hb hby at_45) k_) ?_
    show Gl p e below s room_1.cells room_1.slots (fun v h L => v = some (.int 1) ∧ Fr n0 L) (T.setTop (mkF m 48 #[.val (.int p0), .val (.int p1), .val (.int p2), .val (.int p3), .val (.int (0 : Int32)), .val (.int (1 : Int32)), .unset, .unset, .unset, .unset, .unset, .unset, .unset, .unset, .unset] [(.int (255 : Int32)), (.int p2), (.int (1 : Int32)), (.ref ch), (.ref ch), (.ref ps), (.ref ps)]))
    refine Gl.by (fun t_ k_ => XS.iand X.here hx rfl (hb hby at_48) rfl k_) ?_
    show Gl p e below s room_1.cells room_1.slots (fun v h L => v = some (.int 1) ∧ Fr n0 L) (T.setTop (mkF m 49 #[.val (.int p0), .val (.int p1), .val (.int p2), .val (.int p3), .val (.int (0 : Int32)), .val (.int (1 : Int32)), .unset, .unset, .unset, .unset, .unset, .unset, .unset, .unset, .unset] [(.int (p2 &&& (255 : Int32))), (.int (1 : Int32)), (.ref ch), (.ref ch), (.ref ps), (.ref ps)]))
    refine Gl.by (fun t_ k_ => XS.i2c X.here hx rfl (hb hby at_49) rfl k_) ?_
    show Gl p e below s room_1.cells room_1.slots (fun v h L => v = some (.int 1) ∧ Fr n0 L) (T.setTop (mkF m 50 #[.val (.int p0), .val (.int p1), .val (.int p2), .val (.int p3), .val (.int (0 : Int32)), .val (.int (1 : Int32)), .unset, .unset, .unset, .unset, .unset, .unset, .unset, .unset, .unset] [(.int ((p2 &&& (255 : Int32)).toUInt32.toUInt16.toUInt32.toInt32)), (.int (1 : Int32)), (.ref ch), (.ref ch), (.ref ps), (.ref ps)]))
    rw [(and255_char p2).1]
    show Gl p e below s room_1.cells room_1.slots (fun v h L => v = some (.int 1) ∧ Fr n0 L) (T.setTop (mkF m 50 #[.val (.int p0), .val (.int p1), .val (.int p2), .val (.int p3), .val (.int (0 : Int32)), .val (.int (1 : Int32)), .unset, .unset, .unset, .unset, .unset, .unset, .unset, .unset, .unset] [(.int ((p2 &&& (255 : Int32)))), (.int (1 : Int32)), (.ref ch), (.ref ch), (.ref ps), (.ref ps)]))
    obtain ⟨cl22, Ar22, q22, S22, M22, H22, G22⟩ := (id (V21) : Arv Z h21 ch k20 .char (3 : Int32) [(.int (nar .char ((p1 &&& (255 : Int32))))), (.int (0 : Int32)), (.int (0 : Int32))] (.int (0 : Int32)))
    obtain ⟨T, h22, X, eT, W22, st⟩ := stC X hx hZ eT Ar22 (j := (1 : Int32)) (inb_of S22 ⟨by decide, by decide⟩) (g := (mkF m 50 #[.val (.int p0), .val (.int p1), .val (.int p2), .val (.int p3), .val (.int (0 : Int32)), .val (.int (1 : Int32)), .unset, .unset, .unset, .unset, .unset, .unset, .unset, .unset, .unset] [(.int ((p2 &&& (255 : Int32)))), (.int (1 : Int32)), (.ref ch), (.ref ch), (.ref ps), (.ref ps)])) rfl rfl (hb hby at_50)
    have V22 : Arv Z h22 ch k20 .char (3 : Int32) [(.int (nar .char ((p1 &&& (255 : Int32))))), (.int (nar .char ((p2 &&& (255 : Int32))))), (.int (0 : Int32))] (.int (0 : Int32)) := Arv.set Ar22 q22 S22 M22 H22 G22 (fits_nar_char _) W22 1 rfl (Nat.le_of_ble_eq_true rfl)
    have sz22 := (Keep.of_wr W22).1
    have N := Fr.snoc X N (by omega)
    refine Gl.by st ?_
    show Gl p e below s room_1.cells room_1.slots (fun v h L => v = some (.int 1) ∧ Fr n0 L) (T.setTop (mkF m 51 #[.val (.int p0), .val (.int p1), .val (.int p2), .val (.int p3), .val (.int (0 : Int32)), .val (.int (1 : Int32)), .unset, .unset, .unset, .unset, .unset, .unset, .unset, .unset, .unset] [(.ref ch), (.ref ps), (.ref ps)]))
    refine Gl.by (fun t_ k_ => XS.dup X.here hx rfl (hb hby at_51) rfl rfl k_) ?_
    show Gl p e below s room_1.cells room_1.slots (fun v h L => v = some (.int 1) ∧ Fr n0 L) (T.setTop (mkF m 52 #[.val (.int p0), .val (.int p1), .val (.int p2), .val (.int p3), .val (.int (0 : Int32)), .val (.int (1 : Int32)), .unset, .unset, .unset, .unset, .unset, .unset, .unset, .unset, .unset] [(.ref ch), (.ref ch), (.ref ps), (.ref ps)]))
    refine Gl.by (fun t_ k_ => XS.iconst X.here hx rfl (hb hby at_52) k_) ?_
    show Gl p e below s room_1.cells room_1.slots (fun v h L => v = some (.int 1) ∧ Fr n0 L) (T.setTop (mkF m 53 #[.val (.int p0), .val (.int p1), .val (.int p2), .val (.int p3), .val (.int (0 : Int32)), .val (.int (1 : Int32)), .unset, .unset, .unset, .unset, .unset, .unset, .unset, .unset, .unset] [(.int (2 : Int32)), (.ref ch), (.ref ch), (.ref ps), (.ref ps)]))
    refine Gl.by (fun t_ k_ => XS.iloadN X.here hx rfl (hb hby at_53) rfl k_) ?_
    show Gl p e below s room_1.cells room_1.slots (fun v h L => v = some (.int 1) ∧ Fr n0 L) (T.setTop (mkF m 54 #[.val (.int p0), .val (.int p1), .val (.int p2), .val (.int p3), .val (.int (0 : Int32)), .val (.int (1 : Int32)), .unset, .unset, .unset, .unset, .unset, .unset, .unset, .unset, .unset] [(.int p3), (.int (2 : Int32)), (.ref ch), (.ref ch), (.ref ps), (.ref ps)]))
    refine Gl.by (fun t_ k_ => XS.sipush X.here hx rfl (hb hby at_54) k_) ?_
    show Gl p e below s room_1.cells room_1.slots (fun v h L => v = some (.int 1) ∧ Fr n0 L) (T.setTop (mkF m 57 #[.val (.int p0), .val (.int p1), .val (.int p2), .val (.int p3), .val (.int (0 : Int32)), .val (.int (1 : Int32)), .unset, .unset, .unset, .unset, .unset, .unset, .unset, .unset, .unset] [(.int (255 : Int32)), (.int p3), (.int (2 : Int32)), (.ref ch), (.ref ch), (.ref ps), (.ref ps)]))
    refine Gl.by (fun t_ k_ => XS.iand X.here hx rfl (hb hby at_57) rfl k_) ?_
    show Gl p e below s room_1.cells room_1.slots (fun v h L => v = some (.int 1) ∧ Fr n0 L) (T.setTop (mkF m 58 #[.val (.int p0), .val (.int p1), .val (.int p2), .val (.int p3), .val (.int (0 : Int32)), .val (.int (1 : Int32)), .unset, .unset, .unset, .unset, .unset, .unset, .unset, .unset, .unset] [(.int (p3 &&& (255 : Int32))), (.int (2 : Int32)), (.ref ch), (.ref ch), (.ref ps), (.ref ps)]))
    refine Gl.by (fun t_ k_ => XS.i2c X.here hx rfl (hb hby at_58) rfl k_) ?_
    show Gl p e below s room_1.cells room_1.slots (fun v h L => v = some (.int 1) ∧ Fr n0 L) (T.setTop (mkF m 59 #[.val (.int p0), .val (.int p1), .val (.int p2), .val (.int p3), .val (.int (0 : Int32)), .val (.int (1 : Int32)), .unset, .unset, .unset, .unset, .unset, .unset, .unset, .unset, .unset] [(.int ((p3 &&& (255 : Int32)).toUInt32.toUInt16.toUInt32.toInt32)), (.int (2 : Int32)), (.ref ch), (.ref ch), (.ref ps), (.ref ps)]))
    rw [(and255_char p3).1]
    show Gl p e below s room_1.cells room_1.slots (fun v h L => v = some (.int 1) ∧ Fr n0 L) (T.setTop (mkF m 59 #[.val (.int p0), .val (.int p1), .val (.int p2), .val (.int p3), .val (.int (0 : Int32)), .val (.int (1 : Int32)), .unset, .unset, .unset, .unset, .unset, .unset, .unset, .unset, .unset] [(.int ((p3 &&& (255 : Int32)))), (.int (2 : Int32)), (.ref ch), (.ref ch), (.ref ps), (.ref ps)]))
    obtain ⟨cl23, Ar23, q23, S23, M23, H23, G23⟩ := (id (V22) : Arv Z h22 ch k20 .char (3 : Int32) [(.int (nar .char ((p1 &&& (255 : Int32))))), (.int (nar .char ((p2 &&& (255 : Int32))))), (.int (0 : Int32))] (.int (0 : Int32)))
    obtain ⟨T, h23, X, eT, W23, st⟩ := stC X hx hZ eT Ar23 (j := (2 : Int32)) (inb_of S23 ⟨by decide, by decide⟩) (g := (mkF m 59 #[.val (.int p0), .val (.int p1), .val (.int p2), .val (.int p3), .val (.int (0 : Int32)), .val (.int (1 : Int32)), .unset, .unset, .unset, .unset, .unset, .unset, .unset, .unset, .unset] [(.int ((p3 &&& (255 : Int32)))), (.int (2 : Int32)), (.ref ch), (.ref ch), (.ref ps), (.ref ps)])) rfl rfl (hb hby at_59)
    have V23 : Arv Z h23 ch k20 .char (3 : Int32) [(.int (nar .char ((p1 &&& (255 : Int32))))), (.int (nar .char ((p2 &&& (255 : Int32))))), (.int (nar .char ((p3 &&& (255 : Int32)))))] (.int (0 : Int32)) := Arv.set Ar23 q23 S23 M23 H23 G23 (fits_nar_char _) W23 2 rfl (Nat.le_of_ble_eq_true rfl)
    have sz23 := (Keep.of_wr W23).1
    have N := Fr.snoc X N (by omega)
    refine Gl.by st ?_
    show Gl p e below s room_1.cells room_1.slots (fun v h L => v = some (.int 1) ∧ Fr n0 L) (T.setTop (mkF m 60 #[.val (.int p0), .val (.int p1), .val (.int p2), .val (.int p3), .val (.int (0 : Int32)), .val (.int (1 : Int32)), .unset, .unset, .unset, .unset, .unset, .unset, .unset, .unset, .unset] [(.ref ch), (.ref ps), (.ref ps)]))
    have V24 : Arv Z h23 ch k20 .char (3 : Int32) (([(p1 &&& (255 : Int32)), (p2 &&& (255 : Int32)), (p3 &&& (255 : Int32))] : List Int32).map Value.int) (.int 0) := by
      have q := V23
      rw [ra1, ra2, ra3] at q
      exact q
    have O24 := (((((O.ext E19).ext E20).wr W21 (by omega)).wr W22 (by omega)).wr W23 (by omega))
    refine Gl.spec X hx hZ rfl hown (hw _ (List.mem_of_getElem? (i := 4) rfl)) (hw _ (List.mem_of_getElem? (i := 5) rfl)) (hw _ (List.mem_of_getElem? (i := 6) rfl)) (by decide) (W := 1) (payNew (n := 3) (n0 := n0) hZ (own_words hw) (hw _ (List.mem_of_getElem? (i := 1) rfl)) ([(p1 &&& (255 : Int32)), (p2 &&& (255 : Int32)), (p3 &&& (255 : Int32))] : List Int32) (by omega) (by omega) ((((A19.ext E20).wr W21).wr W22).wr W23) ((((F19_value.ext E20).other W21 (Or.inl (nea (by omega)))).other W22 (Or.inl (nea (by omega)))).other W23 (Or.inl (nea (by omega)))) ((((F19_coder.ext E20).other W21 (Or.inl (nea (by omega)))).other W22 (Or.inl (nea (by omega)))).other W23 (Or.inl (nea (by omega)))) V24 S hz O24 rfl rfl (by decide) (by decide) hp (by decide) (by decide)) eT (hb hby at_60) (by rw [hml]; rfl) ps [(.ref ch)] [(.ref ps)] (lenOf pd_17 rfl) rfl rfl (Nat.le_of_eq rfl) (by decide) (by decide) ?_
    intro v T L X hq
    obtain ⟨rfl, NQ, K25, SQ25⟩ := hq
    have N := Fr.app N NQ
    obtain ⟨h25, eT⟩ : ∃ z, T.heap = z := ⟨_, rfl⟩
    rw [eT] at K25 SQ25
    have sz25 := K25.1
    show Gl p e below s room_1.cells room_1.slots (fun v h L => v = some (.int 1) ∧ Fr n0 L) (T.setTop (mkF m 63 #[.val (.int p0), .val (.int p1), .val (.int p2), .val (.int p3), .val (.int (0 : Int32)), .val (.int (1 : Int32)), .unset, .unset, .unset, .unset, .unset, .unset, .unset, .unset, .unset] [(.ref ps)]))
    refine Gl.by (fun t_ k_ => XS.astore X.here hx rfl (hb hby at_63) rfl rfl (l' := #[.val (.int p0), .val (.int p1), .val (.int p2), .val (.int p3), .val (.int (0 : Int32)), .val (.int (1 : Int32)), .val (.ref ps), .unset, .unset, .unset, .unset, .unset, .unset, .unset, .unset]) rfl k_) ?_
    show Gl p e below s room_1.cells room_1.slots (fun v h L => v = some (.int 1) ∧ Fr n0 L) (T.setTop (mkF m 65 #[.val (.int p0), .val (.int p1), .val (.int p2), .val (.int p3), .val (.int (0 : Int32)), .val (.int (1 : Int32)), .val (.ref ps), .unset, .unset, .unset, .unset, .unset, .unset, .unset, .unset] []))
    obtain ⟨T, h26, X, eT, E26, A26, D26, -, st⟩ := newO X hx hZ hown (hw _ (List.mem_of_getElem? (i := 30) rfl)) (hw _ (List.mem_of_getElem? (i := 31) rfl)) (hw _ (List.mem_of_getElem? (i := 32) rfl)) eT (g := (mkF m 65 #[.val (.int p0), .val (.int p1), .val (.int p2), .val (.int p3), .val (.int (0 : Int32)), .val (.int (1 : Int32)), .val (.ref ps), .unset, .unset, .unset, .unset, .unset, .unset, .unset, .unset] [])) rfl (hb hby at_65) (by decide) (by decide)
    obtain ⟨tv, g26⟩ : ∃ z, z = h25.size := ⟨_, rfl⟩
    rw [← g26] at A26 D26 st
    have sz26 := E26.1
    have lt26 : tv < h26.size := A26.lt
    refine Gl.by st ?_
    have F26_name : Fld Z h26 tv "com/example/intentio/intentio/hddl/Term$Variable" "name" "Ljava/lang/String;" .null := D26 (Or.inr (hw _ (List.mem_of_getElem? (i := 57) rfl))) (ty := (.object "java/lang/String")) (by decide)
    have F26_type : Fld Z h26 tv "com/example/intentio/intentio/hddl/Term$Variable" "type" "Lcom/example/intentio/intentio/hddl/Type;" .null := D26 (Or.inr (hw _ (List.mem_of_getElem? (i := 59) rfl))) (ty := (.object "com/example/intentio/intentio/hddl/Type")) (by decide)
    show Gl p e below s room_1.cells room_1.slots (fun v h L => v = some (.int 1) ∧ Fr n0 L) (T.setTop (mkF m 68 #[.val (.int p0), .val (.int p1), .val (.int p2), .val (.int p3), .val (.int (0 : Int32)), .val (.int (1 : Int32)), .val (.ref ps), .unset, .unset, .unset, .unset, .unset, .unset, .unset, .unset] [(.ref tv)]))
    refine Gl.by (fun t_ k_ => XS.dup X.here hx rfl (hb hby at_68) rfl rfl k_) ?_
    show Gl p e below s room_1.cells room_1.slots (fun v h L => v = some (.int 1) ∧ Fr n0 L) (T.setTop (mkF m 69 #[.val (.int p0), .val (.int p1), .val (.int p2), .val (.int p3), .val (.int (0 : Int32)), .val (.int (1 : Int32)), .val (.ref ps), .unset, .unset, .unset, .unset, .unset, .unset, .unset, .unset] [(.ref tv), (.ref tv)]))
    refine Gl.by (fun t_ k_ => XS.iloadN X.here hx rfl (hb hby at_69) rfl k_) ?_
    show Gl p e below s room_1.cells room_1.slots (fun v h L => v = some (.int 1) ∧ Fr n0 L) (T.setTop (mkF m 70 #[.val (.int p0), .val (.int p1), .val (.int p2), .val (.int p3), .val (.int (0 : Int32)), .val (.int (1 : Int32)), .val (.ref ps), .unset, .unset, .unset, .unset, .unset, .unset, .unset, .unset] [(.int p0), (.ref tv), (.ref tv)]))
    refine Gl.by (fun t_ k_ => XS.bipush X.here hx rfl (hb hby at_70) k_) ?_
    show Gl p e below s room_1.cells room_1.slots (fun v h L => v = some (.int 1) ∧ Fr n0 L) (T.setTop (mkF m 72 #[.val (.int p0), .val (.int p1), .val (.int p2), .val (.int p3), .val (.int (0 : Int32)), .val (.int (1 : Int32)), .val (.ref ps), .unset, .unset, .unset, .unset, .unset, .unset, .unset, .unset] [(.int (8 : Int32)), (.int p0), (.ref tv), (.ref tv)]))
    refine Gl.by (fun t_ k_ => XS.iushr X.here hx rfl (hb hby at_72) rfl k_) ?_
    show Gl p e below s room_1.cells room_1.slots (fun v h L => v = some (.int 1) ∧ Fr n0 L) (T.setTop (mkF m 73 #[.val (.int p0), .val (.int p1), .val (.int p2), .val (.int p3), .val (.int (0 : Int32)), .val (.int (1 : Int32)), .val (.ref ps), .unset, .unset, .unset, .unset, .unset, .unset, .unset, .unset] [(.int ((p0.toUInt32 >>> ((8 : Int32) &&& 31).toUInt32).toInt32)), (.ref tv), (.ref tv)]))
    refine Gl.by (fun t_ k_ => XS.sipush X.here hx rfl (hb hby at_73) k_) ?_
    show Gl p e below s room_1.cells room_1.slots (fun v h L => v = some (.int 1) ∧ Fr n0 L) (T.setTop (mkF m 76 #[.val (.int p0), .val (.int p1), .val (.int p2), .val (.int p3), .val (.int (0 : Int32)), .val (.int (1 : Int32)), .val (.ref ps), .unset, .unset, .unset, .unset, .unset, .unset, .unset, .unset] [(.int (255 : Int32)), (.int ((p0.toUInt32 >>> ((8 : Int32) &&& 31).toUInt32).toInt32)), (.ref tv), (.ref tv)]))
    refine Gl.by (fun t_ k_ => XS.iand X.here hx rfl (hb hby at_76) rfl k_) ?_
    show Gl p e below s room_1.cells room_1.slots (fun v h L => v = some (.int 1) ∧ Fr n0 L) (T.setTop (mkF m 77 #[.val (.int p0), .val (.int p1), .val (.int p2), .val (.int p3), .val (.int (0 : Int32)), .val (.int (1 : Int32)), .val (.ref ps), .unset, .unset, .unset, .unset, .unset, .unset, .unset, .unset] [(.int (((p0.toUInt32 >>> ((8 : Int32) &&& 31).toUInt32).toInt32) &&& (255 : Int32))), (.ref tv), (.ref tv)]))
    refine Gl.by (fun t_ k_ => XS.i2c X.here hx rfl (hb hby at_77) rfl k_) ?_
    show Gl p e below s room_1.cells room_1.slots (fun v h L => v = some (.int 1) ∧ Fr n0 L) (T.setTop (mkF m 78 #[.val (.int p0), .val (.int p1), .val (.int p2), .val (.int p3), .val (.int (0 : Int32)), .val (.int (1 : Int32)), .val (.ref ps), .unset, .unset, .unset, .unset, .unset, .unset, .unset, .unset] [(.int ((((p0.toUInt32 >>> ((8 : Int32) &&& 31).toUInt32).toInt32) &&& (255 : Int32)).toUInt32.toUInt16.toUInt32.toInt32)), (.ref tv), (.ref tv)]))
    rw [(and255_char ((p0.toUInt32 >>> ((8 : Int32) &&& 31).toUInt32).toInt32)).1]
    show Gl p e below s room_1.cells room_1.slots (fun v h L => v = some (.int 1) ∧ Fr n0 L) (T.setTop (mkF m 78 #[.val (.int p0), .val (.int p1), .val (.int p2), .val (.int p3), .val (.int (0 : Int32)), .val (.int (1 : Int32)), .val (.ref ps), .unset, .unset, .unset, .unset, .unset, .unset, .unset, .unset] [(.int ((((p0.toUInt32 >>> ((8 : Int32) &&& 31).toUInt32).toInt32) &&& (255 : Int32)))), (.ref tv), (.ref tv)]))
    refine Gl.stat X hx hZ hown (hw _ (List.mem_of_getElem? (i := 33) rfl)) (hw _ (List.mem_of_getElem? (i := 34) rfl)) (hw _ (List.mem_of_getElem? (i := 2) rfl)) (hw _ (List.mem_of_getElem? (i := 35) rfl)) (by decide) (W := 2) (backC (own_vof l Z a0 hw (((p0.toUInt32 >>> ((8 : Int32) &&& 31).toUInt32).toInt32) &&& (255 : Int32)) z h26 n0 (by omega) sa8.2 S hz ((O24.keep K25 (allS (by omega) all0)).ext E26)) hZ (hw _ (List.mem_of_getElem? (i := 35) rfl)) (hw _ (List.mem_of_getElem? (i := 2) rfl)) (by decide) (by decide)) eT (hb hby at_78) (by rw [hml]; rfl) [(.int ((((p0.toUInt32 >>> ((8 : Int32) &&& 31).toUInt32).toInt32) &&& (255 : Int32))))] [(.ref tv), (.ref tv)] (lenOf pd_18 rfl) rfl rfl (Nat.le_of_eq rfl) (by decide) (by decide) ?_
    intro v T L X hq
    obtain ⟨NQ, K27, sx, rfl, ge27⟩ := hq
    have N := Fr.app N NQ
    obtain ⟨h27, eT⟩ : ∃ z, T.heap = z := ⟨_, rfl⟩
    rw [eT] at K27
    have sz27 := K27.1
    show Gl p e below s room_1.cells room_1.slots (fun v h L => v = some (.int 1) ∧ Fr n0 L) (T.setTop (mkF m 81 #[.val (.int p0), .val (.int p1), .val (.int p2), .val (.int p3), .val (.int (0 : Int32)), .val (.int (1 : Int32)), .val (.ref ps), .unset, .unset, .unset, .unset, .unset, .unset, .unset, .unset] [(.ref sx), (.ref tv), (.ref tv)]))
    refine Gl.by (fun t_ k_ => XS.aconstNull X.here hx rfl (hb hby at_81) k_) ?_
    show Gl p e below s room_1.cells room_1.slots (fun v h L => v = some (.int 1) ∧ Fr n0 L) (T.setTop (mkF m 82 #[.val (.int p0), .val (.int p1), .val (.int p2), .val (.int p3), .val (.int (0 : Int32)), .val (.int (1 : Int32)), .val (.ref ps), .unset, .unset, .unset, .unset, .unset, .unset, .unset, .unset] [.null, (.ref sx), (.ref tv), (.ref tv)]))
    refine Gl.spec X hx hZ rfl hown (hw _ (List.mem_of_getElem? (i := 47) rfl)) (hw _ (List.mem_of_getElem? (i := 48) rfl)) (hw _ (List.mem_of_getElem? (i := 49) rfl)) (by decide) (W := 1) (backC (own_tvi l Z a0 hw tv sx h27 n0 (by omega) (A26.keep K27) (F26_name.keep K27 nin0) (F26_type.keep K27 nin0)) hZ (hw _ (List.mem_of_getElem? (i := 49) rfl)) (hw _ (List.mem_of_getElem? (i := 32) rfl)) (by decide) (by decide)) eT (hb hby at_82) (by rw [hml]; rfl) tv [(.ref sx), .null] [(.ref tv)] (lenOf pd_19 rfl) rfl rfl (Nat.le_of_eq rfl) (by decide) (by decide) ?_
    intro v T L X hq
    obtain ⟨rfl, NQ, K28, Q28⟩ := hq
    have N := Fr.app N NQ
    obtain ⟨h28, eT⟩ : ∃ z, T.heap = z := ⟨_, rfl⟩
    rw [eT] at K28 Q28
    have sz28 := K28.1
    show Gl p e below s room_1.cells room_1.slots (fun v h L => v = some (.int 1) ∧ Fr n0 L) (T.setTop (mkF m 85 #[.val (.int p0), .val (.int p1), .val (.int p2), .val (.int p3), .val (.int (0 : Int32)), .val (.int (1 : Int32)), .val (.ref ps), .unset, .unset, .unset, .unset, .unset, .unset, .unset, .unset] [(.ref tv)]))
    refine Gl.by (fun t_ k_ => XS.astore X.here hx rfl (hb hby at_85) rfl rfl (l' := #[.val (.int p0), .val (.int p1), .val (.int p2), .val (.int p3), .val (.int (0 : Int32)), .val (.int (1 : Int32)), .val (.ref ps), .val (.ref tv), .unset, .unset, .unset, .unset, .unset, .unset, .unset]) rfl k_) ?_
    show Gl p e below s room_1.cells room_1.slots (fun v h L => v = some (.int 1) ∧ Fr n0 L) (T.setTop (mkF m 87 #[.val (.int p0), .val (.int p1), .val (.int p2), .val (.int p3), .val (.int (0 : Int32)), .val (.int (1 : Int32)), .val (.ref ps), .val (.ref tv), .unset, .unset, .unset, .unset, .unset, .unset, .unset] []))
    obtain ⟨T, h29, X, eT, E29, A29, D29, -, st⟩ := newO X hx hZ hown (hw _ (List.mem_of_getElem? (i := 60) rfl)) (hw _ (List.mem_of_getElem? (i := 61) rfl)) (hw _ (List.mem_of_getElem? (i := 62) rfl)) eT (g := (mkF m 87 #[.val (.int p0), .val (.int p1), .val (.int p2), .val (.int p3), .val (.int (0 : Int32)), .val (.int (1 : Int32)), .val (.ref ps), .val (.ref tv), .unset, .unset, .unset, .unset, .unset, .unset, .unset] [])) rfl (hb hby at_87) (by decide) (by decide)
    obtain ⟨al, g29⟩ : ∃ z, z = h28.size := ⟨_, rfl⟩
    rw [← g29] at A29 D29 st
    have sz29 := E29.1
    have lt29 : al < h29.size := A29.lt
    refine Gl.by st ?_
    have F29_elementData : Fld Z h29 al "java/util/ArrayList" "elementData" "[Ljava/lang/Object;" .null := D29 (Or.inl (hw _ (List.mem_of_getElem? (i := 83) rfl))) (ty := (.array (.object "java/lang/Object"))) (by decide)
    have F29_size : Fld Z h29 al "java/util/ArrayList" "size" "I" (.int (0 : Int32)) := D29 (Or.inl (hw _ (List.mem_of_getElem? (i := 115) rfl))) (ty := .int) (by decide)
    have F29_modCount : Fld Z h29 al "java/util/AbstractList" "modCount" "I" (.int (0 : Int32)) := D29 (Or.inl (hw _ (List.mem_of_getElem? (i := 80) rfl))) (ty := .int) (by decide)
    show Gl p e below s room_1.cells room_1.slots (fun v h L => v = some (.int 1) ∧ Fr n0 L) (T.setTop (mkF m 90 #[.val (.int p0), .val (.int p1), .val (.int p2), .val (.int p3), .val (.int (0 : Int32)), .val (.int (1 : Int32)), .val (.ref ps), .val (.ref tv), .unset, .unset, .unset, .unset, .unset, .unset, .unset] [(.ref al)]))
    refine Gl.by (fun t_ k_ => XS.dup X.here hx rfl (hb hby at_90) rfl rfl k_) ?_
    show Gl p e below s room_1.cells room_1.slots (fun v h L => v = some (.int 1) ∧ Fr n0 L) (T.setTop (mkF m 91 #[.val (.int p0), .val (.int p1), .val (.int p2), .val (.int p3), .val (.int (0 : Int32)), .val (.int (1 : Int32)), .val (.ref ps), .val (.ref tv), .unset, .unset, .unset, .unset, .unset, .unset, .unset] [(.ref al), (.ref al)]))
    refine Gl.spec X hx hZ rfl hown (hw _ (List.mem_of_getElem? (i := 63) rfl)) (hw _ (List.mem_of_getElem? (i := 64) rfl)) (hw _ (List.mem_of_getElem? (i := 65) rfl)) (by decide) (W := 1) (backC (own_ali l Z a0 hw al dc el mr em h29 n0 (by omega) A29 F29_elementData F29_size F29_modCount (((((O24.keep K25 (allS (by omega) all0)).ext E26).keep K27 all0).keep K28 (allS (by omega) all0)).ext E29) K) hZ (hw _ (List.mem_of_getElem? (i := 65) rfl)) (hw _ (List.mem_of_getElem? (i := 62) rfl)) (by decide) (by decide)) eT (hb hby at_91) (by rw [hml]; rfl) al [] [(.ref al)] (lenOf pd_0 rfl) rfl rfl (Nat.le_of_eq rfl) (by decide) (by decide) ?_
    intro v T L X hq
    obtain ⟨rfl, NQ, K30, A30⟩ := hq
    have N := Fr.app N NQ
    obtain ⟨h30, eT⟩ : ∃ z, T.heap = z := ⟨_, rfl⟩
    rw [eT] at K30 A30
    have sz30 := K30.1
    show Gl p e below s room_1.cells room_1.slots (fun v h L => v = some (.int 1) ∧ Fr n0 L) (T.setTop (mkF m 94 #[.val (.int p0), .val (.int p1), .val (.int p2), .val (.int p3), .val (.int (0 : Int32)), .val (.int (1 : Int32)), .val (.ref ps), .val (.ref tv), .unset, .unset, .unset, .unset, .unset, .unset, .unset] [(.ref al)]))
    refine Gl.by (fun t_ k_ => XS.astore X.here hx rfl (hb hby at_94) rfl rfl (l' := #[.val (.int p0), .val (.int p1), .val (.int p2), .val (.int p3), .val (.int (0 : Int32)), .val (.int (1 : Int32)), .val (.ref ps), .val (.ref tv), .val (.ref al), .unset, .unset, .unset, .unset, .unset, .unset]) rfl k_) ?_
    show Gl p e below s room_1.cells room_1.slots (fun v h L => v = some (.int 1) ∧ Fr n0 L) (T.setTop (mkF m 96 #[.val (.int p0), .val (.int p1), .val (.int p2), .val (.int p3), .val (.int (0 : Int32)), .val (.int (1 : Int32)), .val (.ref ps), .val (.ref tv), .val (.ref al), .unset, .unset, .unset, .unset, .unset, .unset] []))
    refine Gl.by (fun t_ k_ => XS.iload X.here hx rfl (hb hby at_96) rfl k_) ?_
    show Gl p e below s room_1.cells room_1.slots (fun v h L => v = some (.int 1) ∧ Fr n0 L) (T.setTop (mkF m 98 #[.val (.int p0), .val (.int p1), .val (.int p2), .val (.int p3), .val (.int (0 : Int32)), .val (.int (1 : Int32)), .val (.ref ps), .val (.ref tv), .val (.ref al), .unset, .unset, .unset, .unset, .unset, .unset] [(.int (1 : Int32))]))
    refine Gl.by (fun t_ k_ => XS.ifNo X.here hx rfl (hb hby at_98) rfl ((if0 _ _).trans (feq (by decide : ¬ (1 : Int32) = 0)).1) k_) ?_
    show Gl p e below s room_1.cells room_1.slots (fun v h L => v = some (.int 1) ∧ Fr n0 L) (T.setTop (mkF m 101 #[.val (.int p0), .val (.int p1), .val (.int p2), .val (.int p3), .val (.int (0 : Int32)), .val (.int (1 : Int32)), .val (.ref ps), .val (.ref tv), .val (.ref al), .unset, .unset, .unset, .unset, .unset, .unset] []))
    refine Gl.by (fun t_ k_ => XS.aload X.here hx rfl (hb hby at_101) rfl rfl k_) ?_
    show Gl p e below s room_1.cells room_1.slots (fun v h L => v = some (.int 1) ∧ Fr n0 L) (T.setTop (mkF m 103 #[.val (.int p0), .val (.int p1), .val (.int p2), .val (.int p3), .val (.int (0 : Int32)), .val (.int (1 : Int32)), .val (.ref ps), .val (.ref tv), .val (.ref al), .unset, .unset, .unset, .unset, .unset, .unset] [(.ref al)]))
    refine Gl.by (fun t_ k_ => XS.aload X.here hx rfl (hb hby at_103) rfl rfl k_) ?_
    show Gl p e below s room_1.cells room_1.slots (fun v h L => v = some (.int 1) ∧ Fr n0 L) (T.setTop (mkF m 105 #[.val (.int p0), .val (.int p1), .val (.int p2), .val (.int p3), .val (.int (0 : Int32)), .val (.int (1 : Int32)), .val (.ref ps), .val (.ref tv), .val (.ref al), .unset, .unset, .unset, .unset, .unset, .unset] [(.ref tv), (.ref al)]))
    refine Gl.virt X hx hZ hown (hw _ (List.mem_of_getElem? (i := 179) rfl)) (hw _ (List.mem_of_getElem? (i := 180) rfl)) (hw _ (List.mem_of_getElem? (i := 182) rfl)) (hw _ (List.mem_of_getElem? (i := 181) rfl)) (notFace_of_selects (args := #[]) (mvT hZ (hw _ (List.mem_of_getElem? (i := 182) rfl)))) (by decide) (A29.keep K30) (W := 0) (backC (own_add l Z a0 hw al tv 0 dc el mr em h30 n0 (by omega) (by omega) ⟨(A29.keep K30), A30.2.1, A30.2.2.1, A30.2.2.2⟩ ((((A26.keep K27).keep K28).ext E29).keep K30) ((((((O24.keep K25 (allS (by omega) all0)).ext E26).keep K27 all0).keep K28 (allS (by omega) all0)).ext E29).keep K30 (allS (by omega) all0)) K) hZ (hw _ (List.mem_of_getElem? (i := 183) rfl)) (hw _ (List.mem_of_getElem? (i := 62) rfl)) (by decide) (by decide)) eT (hb hby at_105) (by rw [hml]; rfl) [(.ref tv)] [] (lenOf pd_24 rfl) rfl rfl (Nat.le_of_eq rfl) (by decide) (by decide) ?_
    intro v T L X hq
    obtain ⟨rfl, NQ, K31, ed, kd, ged, A31, V31, E31⟩ := hq
    have N := Fr.app N NQ
    obtain ⟨h31, eT⟩ : ∃ z, T.heap = z := ⟨_, rfl⟩
    rw [eT] at K31 A31 V31 E31
    have sz31 := K31.1
    show Gl p e below s room_1.cells room_1.slots (fun v h L => v = some (.int 1) ∧ Fr n0 L) (T.setTop (mkF m 108 #[.val (.int p0), .val (.int p1), .val (.int p2), .val (.int p3), .val (.int (0 : Int32)), .val (.int (1 : Int32)), .val (.ref ps), .val (.ref tv), .val (.ref al), .unset, .unset, .unset, .unset, .unset, .unset] [(.int (1 : Int32))]))
    have led : ed < h31.size := E31.lt
    refine Gl.by (fun t_ k_ => XS.pop X.here hx rfl (hb hby at_108) rfl rfl k_) ?_
    show Gl p e below s room_1.cells room_1.slots (fun v h L => v = some (.int 1) ∧ Fr n0 L) (T.setTop (mkF m 109 #[.val (.int p0), .val (.int p1), .val (.int p2), .val (.int p3), .val (.int (0 : Int32)), .val (.int (1 : Int32)), .val (.ref ps), .val (.ref tv), .val (.ref al), .unset, .unset, .unset, .unset, .unset, .unset] []))
    obtain ⟨T, h32, X, eT, E32, A32, D32, -, st⟩ := newO X hx hZ hown (hw _ (List.mem_of_getElem? (i := 84) rfl)) (hw _ (List.mem_of_getElem? (i := 85) rfl)) (hw _ (List.mem_of_getElem? (i := 86) rfl)) eT (g := (mkF m 109 #[.val (.int p0), .val (.int p1), .val (.int p2), .val (.int p3), .val (.int (0 : Int32)), .val (.int (1 : Int32)), .val (.ref ps), .val (.ref tv), .val (.ref al), .unset, .unset, .unset, .unset, .unset, .unset] [])) rfl (hb hby at_109) (by decide) (by decide)
    obtain ⟨ao, g32⟩ : ∃ z, z = h31.size := ⟨_, rfl⟩
    rw [← g32] at A32 D32 st
    have sz32 := E32.1
    have lt32 : ao < h32.size := A32.lt
    refine Gl.by st ?_
    have F32_predicate : Fld Z h32 ao "com/example/intentio/intentio/hddl/Atom" "predicate" "Ljava/lang/String;" .null := D32 (Or.inr (hw _ (List.mem_of_getElem? (i := 121) rfl))) (ty := (.object "java/lang/String")) (by decide)
    have F32_arguments : Fld Z h32 ao "com/example/intentio/intentio/hddl/Atom" "arguments" "Ljava/util/List;" .null := D32 (Or.inr (hw _ (List.mem_of_getElem? (i := 123) rfl))) (ty := (.object "java/util/List")) (by decide)
    show Gl p e below s room_1.cells room_1.slots (fun v h L => v = some (.int 1) ∧ Fr n0 L) (T.setTop (mkF m 112 #[.val (.int p0), .val (.int p1), .val (.int p2), .val (.int p3), .val (.int (0 : Int32)), .val (.int (1 : Int32)), .val (.ref ps), .val (.ref tv), .val (.ref al), .unset, .unset, .unset, .unset, .unset, .unset] [(.ref ao)]))
    refine Gl.by (fun t_ k_ => XS.dup X.here hx rfl (hb hby at_112) rfl rfl k_) ?_
    show Gl p e below s room_1.cells room_1.slots (fun v h L => v = some (.int 1) ∧ Fr n0 L) (T.setTop (mkF m 113 #[.val (.int p0), .val (.int p1), .val (.int p2), .val (.int p3), .val (.int (0 : Int32)), .val (.int (1 : Int32)), .val (.ref ps), .val (.ref tv), .val (.ref al), .unset, .unset, .unset, .unset, .unset, .unset] [(.ref ao), (.ref ao)]))
    refine Gl.by (fun t_ k_ => XS.aload X.here hx rfl (hb hby at_113) rfl rfl k_) ?_
    show Gl p e below s room_1.cells room_1.slots (fun v h L => v = some (.int 1) ∧ Fr n0 L) (T.setTop (mkF m 115 #[.val (.int p0), .val (.int p1), .val (.int p2), .val (.int p3), .val (.int (0 : Int32)), .val (.int (1 : Int32)), .val (.ref ps), .val (.ref tv), .val (.ref al), .unset, .unset, .unset, .unset, .unset, .unset] [(.ref ps), (.ref ao), (.ref ao)]))
    refine Gl.by (fun t_ k_ => XS.aload X.here hx rfl (hb hby at_115) rfl rfl k_) ?_
    show Gl p e below s room_1.cells room_1.slots (fun v h L => v = some (.int 1) ∧ Fr n0 L) (T.setTop (mkF m 117 #[.val (.int p0), .val (.int p1), .val (.int p2), .val (.int p3), .val (.int (0 : Int32)), .val (.int (1 : Int32)), .val (.ref ps), .val (.ref tv), .val (.ref al), .unset, .unset, .unset, .unset, .unset, .unset] [(.ref al), (.ref ps), (.ref ao), (.ref ao)]))
    refine Gl.spec X hx hZ rfl hown (hw _ (List.mem_of_getElem? (i := 87) rfl)) (hw _ (List.mem_of_getElem? (i := 88) rfl)) (hw _ (List.mem_of_getElem? (i := 89) rfl)) (by decide) (W := 1) (backC (own_at1 l Z a0 hw ao ps al (0 + 1) ed tv kd dc el mr em h32 n0 (by omega) A32 F32_predicate F32_arguments ⟨(((A29.keep K30).keep K31).ext E32), (A31.2.1.ext E32), (A31.2.2.1.ext E32), (A31.2.2.2.ext E32)⟩ (by omega) (V31.ext E32) (E31.ext E32) ((((((A26.keep K27).keep K28).ext E29).keep K30).keep K31).ext E32) ((((((((O24.keep K25 (allS (by omega) all0)).ext E26).keep K27 all0).keep K28 (allS (by omega) all0)).ext E29).keep K30 (allS (by omega) all0)).keep K31 (allS (by omega) all0)).ext E32) K) hZ (hw _ (List.mem_of_getElem? (i := 89) rfl)) (hw _ (List.mem_of_getElem? (i := 86) rfl)) (by decide) (by decide)) eT (hb hby at_117) (by rw [hml]; rfl) ao [(.ref ps), (.ref al)] [(.ref ao)] (lenOf pd_20 rfl) rfl rfl (Nat.le_of_eq rfl) (by decide) (by decide) ?_
    intro v T L X hq
    obtain ⟨rfl, NQ, K33, EA33, FP33, li, gli, FA33, EL33, F033, F133⟩ := hq
    have N := Fr.app N NQ
    obtain ⟨h33, eT⟩ : ∃ z, T.heap = z := ⟨_, rfl⟩
    rw [eT] at K33 EA33 FP33 FA33 EL33 F033 F133
    have sz33 := K33.1
    show Gl p e below s room_1.cells room_1.slots (fun v h L => v = some (.int 1) ∧ Fr n0 L) (T.setTop (mkF m 120 #[.val (.int p0), .val (.int p1), .val (.int p2), .val (.int p3), .val (.int (0 : Int32)), .val (.int (1 : Int32)), .val (.ref ps), .val (.ref tv), .val (.ref al), .unset, .unset, .unset, .unset, .unset, .unset] [(.ref ao)]))
    have lli : li < h33.size := EL33.lt
    refine Gl.by (fun t_ k_ => XS.astore X.here hx rfl (hb hby at_120) rfl rfl (l' := #[.val (.int p0), .val (.int p1), .val (.int p2), .val (.int p3), .val (.int (0 : Int32)), .val (.int (1 : Int32)), .val (.ref ps), .val (.ref tv), .val (.ref al), .val (.ref ao), .unset, .unset, .unset, .unset, .unset]) rfl k_) ?_
    show Gl p e below s room_1.cells room_1.slots (fun v h L => v = some (.int 1) ∧ Fr n0 L) (T.setTop (mkF m 122 #[.val (.int p0), .val (.int p1), .val (.int p2), .val (.int p3), .val (.int (0 : Int32)), .val (.int (1 : Int32)), .val (.ref ps), .val (.ref tv), .val (.ref al), .val (.ref ao), .unset, .unset, .unset, .unset, .unset] []))
    obtain ⟨T, h34, X, eT, E34, A34, D34, -, st⟩ := newO X hx hZ hown (hw _ (List.mem_of_getElem? (i := 124) rfl)) (hw _ (List.mem_of_getElem? (i := 125) rfl)) (hw _ (List.mem_of_getElem? (i := 126) rfl)) eT (g := (mkF m 122 #[.val (.int p0), .val (.int p1), .val (.int p2), .val (.int p3), .val (.int (0 : Int32)), .val (.int (1 : Int32)), .val (.ref ps), .val (.ref tv), .val (.ref al), .val (.ref ao), .unset, .unset, .unset, .unset, .unset] [])) rfl (hb hby at_122) (by decide) (by decide)
    obtain ⟨la, g34⟩ : ∃ z, z = h33.size := ⟨_, rfl⟩
    rw [← g34] at A34 D34 st
    have sz34 := E34.1
    have lt34 : la < h34.size := A34.lt
    refine Gl.by st ?_
    have F34_atom : Fld Z h34 la "com/example/intentio/intentio/hddl/Literal" "atom" "Lcom/example/intentio/intentio/hddl/Atom;" .null := D34 (Or.inr (hw _ (List.mem_of_getElem? (i := 132) rfl))) (ty := (.object "com/example/intentio/intentio/hddl/Atom")) (by decide)
    have F34_positive : Fld Z h34 la "com/example/intentio/intentio/hddl/Literal" "positive" "Z" (.int (0 : Int32)) := D34 (Or.inr (hw _ (List.mem_of_getElem? (i := 134) rfl))) (ty := .boolean) (by decide)
    show Gl p e below s room_1.cells room_1.slots (fun v h L => v = some (.int 1) ∧ Fr n0 L) (T.setTop (mkF m 125 #[.val (.int p0), .val (.int p1), .val (.int p2), .val (.int p3), .val (.int (0 : Int32)), .val (.int (1 : Int32)), .val (.ref ps), .val (.ref tv), .val (.ref al), .val (.ref ao), .unset, .unset, .unset, .unset, .unset] [(.ref la)]))
    refine Gl.by (fun t_ k_ => XS.dup X.here hx rfl (hb hby at_125) rfl rfl k_) ?_
    show Gl p e below s room_1.cells room_1.slots (fun v h L => v = some (.int 1) ∧ Fr n0 L) (T.setTop (mkF m 126 #[.val (.int p0), .val (.int p1), .val (.int p2), .val (.int p3), .val (.int (0 : Int32)), .val (.int (1 : Int32)), .val (.ref ps), .val (.ref tv), .val (.ref al), .val (.ref ao), .unset, .unset, .unset, .unset, .unset] [(.ref la), (.ref la)]))
    refine Gl.by (fun t_ k_ => XS.aload X.here hx rfl (hb hby at_126) rfl rfl k_) ?_
    show Gl p e below s room_1.cells room_1.slots (fun v h L => v = some (.int 1) ∧ Fr n0 L) (T.setTop (mkF m 128 #[.val (.int p0), .val (.int p1), .val (.int p2), .val (.int p3), .val (.int (0 : Int32)), .val (.int (1 : Int32)), .val (.ref ps), .val (.ref tv), .val (.ref al), .val (.ref ao), .unset, .unset, .unset, .unset, .unset] [(.ref ao), (.ref la), (.ref la)]))
    refine Gl.by (fun t_ k_ => XS.iload X.here hx rfl (hb hby at_128) rfl k_) ?_
    show Gl p e below s room_1.cells room_1.slots (fun v h L => v = some (.int 1) ∧ Fr n0 L) (T.setTop (mkF m 130 #[.val (.int p0), .val (.int p1), .val (.int p2), .val (.int p3), .val (.int (0 : Int32)), .val (.int (1 : Int32)), .val (.ref ps), .val (.ref tv), .val (.ref al), .val (.ref ao), .unset, .unset, .unset, .unset, .unset] [(.int (0 : Int32)), (.ref ao), (.ref la), (.ref la)]))
    refine Gl.spec X hx hZ rfl hown (hw _ (List.mem_of_getElem? (i := 127) rfl)) (hw _ (List.mem_of_getElem? (i := 128) rfl)) (hw _ (List.mem_of_getElem? (i := 129) rfl)) (by decide) (W := 1) (backC (own_liti0 l Z a0 hw la ao h34 n0 (by omega) A34 F34_atom F34_positive) hZ (hw _ (List.mem_of_getElem? (i := 129) rfl)) (hw _ (List.mem_of_getElem? (i := 126) rfl)) (by decide) (by decide)) eT (hb hby at_130) (by rw [hml]; rfl) la [(.ref ao), (.int (0 : Int32))] [(.ref la)] (lenOf pd_16 rfl) rfl rfl (Nat.le_of_eq rfl) (by decide) (by decide) ?_
    intro v T L X hq
    obtain ⟨rfl, NQ, K35, H35, G35, P35⟩ := hq
    have N := Fr.app N NQ
    obtain ⟨h35, eT⟩ : ∃ z, T.heap = z := ⟨_, rfl⟩
    rw [eT] at K35 H35 G35 P35
    have sz35 := K35.1
    show Gl p e below s room_1.cells room_1.slots (fun v h L => v = some (.int 1) ∧ Fr n0 L) (T.setTop (mkF m 133 #[.val (.int p0), .val (.int p1), .val (.int p2), .val (.int p3), .val (.int (0 : Int32)), .val (.int (1 : Int32)), .val (.ref ps), .val (.ref tv), .val (.ref al), .val (.ref ao), .unset, .unset, .unset, .unset, .unset] [(.ref la)]))
    refine Gl.by (fun t_ k_ => XS.astore X.here hx rfl (hb hby at_133) rfl rfl (l' := #[.val (.int p0), .val (.int p1), .val (.int p2), .val (.int p3), .val (.int (0 : Int32)), .val (.int (1 : Int32)), .val (.ref ps), .val (.ref tv), .val (.ref al), .val (.ref ao), .val (.ref la), .unset, .unset, .unset, .unset]) rfl k_) ?_
    show Gl p e below s room_1.cells room_1.slots (fun v h L => v = some (.int 1) ∧ Fr n0 L) (T.setTop (mkF m 135 #[.val (.int p0), .val (.int p1), .val (.int p2), .val (.int p3), .val (.int (0 : Int32)), .val (.int (1 : Int32)), .val (.ref ps), .val (.ref tv), .val (.ref al), .val (.ref ao), .val (.ref la), .unset, .unset, .unset, .unset] []))
    refine Gl.by (fun t_ k_ => XS.aload X.here hx rfl (hb hby at_135) rfl rfl k_) ?_
    show Gl p e below s room_1.cells room_1.slots (fun v h L => v = some (.int 1) ∧ Fr n0 L) (T.setTop (mkF m 137 #[.val (.int p0), .val (.int p1), .val (.int p2), .val (.int p3), .val (.int (0 : Int32)), .val (.int (1 : Int32)), .val (.ref ps), .val (.ref tv), .val (.ref al), .val (.ref ao), .val (.ref la), .unset, .unset, .unset, .unset] [(.ref la)]))
    refine Gl.virt X hx hZ hown (hw _ (List.mem_of_getElem? (i := 135) rfl)) (hw _ (List.mem_of_getElem? (i := 136) rfl)) (hw _ (List.mem_of_getElem? (i := 138) rfl)) (hw _ (List.mem_of_getElem? (i := 137) rfl)) (notFace_of_selects (args := #[]) (mvT hZ (hw _ (List.mem_of_getElem? (i := 138) rfl)))) (by decide) (A34.keep K35) (W := 0) (backC (own_cpl0 l Z a0 hw la ao h35 n0 (by omega) ⟨(A34.keep K35), G35, P35⟩) hZ (hw _ (List.mem_of_getElem? (i := 139) rfl)) (hw _ (List.mem_of_getElem? (i := 126) rfl)) (by decide) (by decide)) eT (hb hby at_137) (by rw [hml]; rfl) [] [] (lenOf pd_21 rfl) rfl rfl (Nat.le_of_eq rfl) (by decide) (by decide) ?_
    intro v T L X hq
    obtain ⟨NQ, K36, lc, rfl, glc, H36, G36, P36⟩ := hq
    have N := Fr.app N NQ
    obtain ⟨h36, eT⟩ : ∃ z, T.heap = z := ⟨_, rfl⟩
    rw [eT] at K36 H36 G36 P36
    have sz36 := K36.1
    show Gl p e below s room_1.cells room_1.slots (fun v h L => v = some (.int 1) ∧ Fr n0 L) (T.setTop (mkF m 140 #[.val (.int p0), .val (.int p1), .val (.int p2), .val (.int p3), .val (.int (0 : Int32)), .val (.int (1 : Int32)), .val (.ref ps), .val (.ref tv), .val (.ref al), .val (.ref ao), .val (.ref la), .unset, .unset, .unset, .unset] [(.ref lc)]))
    have llc : lc < h36.size := H36.lt
    refine Gl.by (fun t_ k_ => XS.astore X.here hx rfl (hb hby at_140) rfl rfl (l' := #[.val (.int p0), .val (.int p1), .val (.int p2), .val (.int p3), .val (.int (0 : Int32)), .val (.int (1 : Int32)), .val (.ref ps), .val (.ref tv), .val (.ref al), .val (.ref ao), .val (.ref la), .val (.ref lc), .unset, .unset, .unset]) rfl k_) ?_
    show Gl p e below s room_1.cells room_1.slots (fun v h L => v = some (.int 1) ∧ Fr n0 L) (T.setTop (mkF m 142 #[.val (.int p0), .val (.int p1), .val (.int p2), .val (.int p3), .val (.int (0 : Int32)), .val (.int (1 : Int32)), .val (.ref ps), .val (.ref tv), .val (.ref al), .val (.ref ao), .val (.ref la), .val (.ref lc), .unset, .unset, .unset] []))
    refine Gl.by (fun t_ k_ => XS.aload X.here hx rfl (hb hby at_142) rfl rfl k_) ?_
    show Gl p e below s room_1.cells room_1.slots (fun v h L => v = some (.int 1) ∧ Fr n0 L) (T.setTop (mkF m 144 #[.val (.int p0), .val (.int p1), .val (.int p2), .val (.int p3), .val (.int (0 : Int32)), .val (.int (1 : Int32)), .val (.ref ps), .val (.ref tv), .val (.ref al), .val (.ref ao), .val (.ref la), .val (.ref lc), .unset, .unset, .unset] [(.ref lc)]))
    refine Gl.by (fun t_ k_ => XS.ifnonnullYes X.here hx rfl (pc0 := 144) (pc' := 149) rfl (hb hby at_144) rfl (by decide) (by decide) k_) ?_
    show Gl p e below s room_1.cells room_1.slots (fun v h L => v = some (.int 1) ∧ Fr n0 L) (T.setTop (mkF m 149 #[.val (.int p0), .val (.int p1), .val (.int p2), .val (.int p3), .val (.int (0 : Int32)), .val (.int (1 : Int32)), .val (.ref ps), .val (.ref tv), .val (.ref al), .val (.ref ao), .val (.ref la), .val (.ref lc), .unset, .unset, .unset] []))
    refine Gl.by (fun t_ k_ => XS.aload X.here hx rfl (hb hby at_149) rfl rfl k_) ?_
    show Gl p e below s room_1.cells room_1.slots (fun v h L => v = some (.int 1) ∧ Fr n0 L) (T.setTop (mkF m 151 #[.val (.int p0), .val (.int p1), .val (.int p2), .val (.int p3), .val (.int (0 : Int32)), .val (.int (1 : Int32)), .val (.ref ps), .val (.ref tv), .val (.ref al), .val (.ref ao), .val (.ref la), .val (.ref lc), .unset, .unset, .unset] [(.ref lc)]))
    refine Gl.virt X hx hZ hown (hw _ (List.mem_of_getElem? (i := 142) rfl)) (hw _ (List.mem_of_getElem? (i := 143) rfl)) (hw _ (List.mem_of_getElem? (i := 145) rfl)) (hw _ (List.mem_of_getElem? (i := 144) rfl)) (notFace_of_selects (args := #[]) (mvT hZ (hw _ (List.mem_of_getElem? (i := 145) rfl)))) (by decide) H36 (W := 0) (backC (own_lpos1 l Z a0 hw lc h36 n0 P36) hZ (hw _ (List.mem_of_getElem? (i := 146) rfl)) (hw _ (List.mem_of_getElem? (i := 126) rfl)) (by decide) (by decide)) eT (hb hby at_151) (by rw [hml]; rfl) [] [] (lenOf pd_9 rfl) rfl rfl (Nat.le_of_eq rfl) (by decide) (by decide) ?_
    intro v T L X hq
    obtain ⟨rfl, rfl, eT⟩ := hq
    have N := Fr.app N (Fr.nil n0)
    show Gl p e below s room_1.cells room_1.slots (fun v h L => v = some (.int 1) ∧ Fr n0 L) (T.setTop (mkF m 154 #[.val (.int p0), .val (.int p1), .val (.int p2), .val (.int p3), .val (.int (0 : Int32)), .val (.int (1 : Int32)), .val (.ref ps), .val (.ref tv), .val (.ref al), .val (.ref ao), .val (.ref la), .val (.ref lc), .unset, .unset, .unset] [(.int (1 : Int32))]))
    refine Gl.by (fun t_ k_ => XS.iload X.here hx rfl (hb hby at_154) rfl k_) ?_
    show Gl p e below s room_1.cells room_1.slots (fun v h L => v = some (.int 1) ∧ Fr n0 L) (T.setTop (mkF m 156 #[.val (.int p0), .val (.int p1), .val (.int p2), .val (.int p3), .val (.int (0 : Int32)), .val (.int (1 : Int32)), .val (.ref ps), .val (.ref tv), .val (.ref al), .val (.ref ao), .val (.ref la), .val (.ref lc), .unset, .unset, .unset] [(.int (0 : Int32)), (.int (1 : Int32))]))
    refine Gl.by (fun t_ k_ => XS.ifNo X.here hx rfl (hb hby at_156) rfl ((if0 _ _).trans (teq (rfl : (0 : Int32) = 0)).2) k_) ?_
    show Gl p e below s room_1.cells room_1.slots (fun v h L => v = some (.int 1) ∧ Fr n0 L) (T.setTop (mkF m 159 #[.val (.int p0), .val (.int p1), .val (.int p2), .val (.int p3), .val (.int (0 : Int32)), .val (.int (1 : Int32)), .val (.ref ps), .val (.ref tv), .val (.ref al), .val (.ref ao), .val (.ref la), .val (.ref lc), .unset, .unset, .unset] [(.int (1 : Int32))]))
    refine Gl.by (fun t_ k_ => XS.iconst X.here hx rfl (hb hby at_159) k_) ?_
    show Gl p e below s room_1.cells room_1.slots (fun v h L => v = some (.int 1) ∧ Fr n0 L) (T.setTop (mkF m 160 #[.val (.int p0), .val (.int p1), .val (.int p2), .val (.int p3), .val (.int (0 : Int32)), .val (.int (1 : Int32)), .val (.ref ps), .val (.ref tv), .val (.ref al), .val (.ref ao), .val (.ref la), .val (.ref lc), .unset, .unset, .unset] [(.int (1 : Int32)), (.int (1 : Int32))]))
    refine Gl.by (fun t_ k_ => XS.goto X.here hx rfl (pc0 := 160) (pc' := 164) rfl (hb hby at_160) (by decide) (by decide) k_) ?_
    show Gl p e below s room_1.cells room_1.slots (fun v h L => v = some (.int 1) ∧ Fr n0 L) (T.setTop (mkF m 164 #[.val (.int p0), .val (.int p1), .val (.int p2), .val (.int p3), .val (.int (0 : Int32)), .val (.int (1 : Int32)), .val (.ref ps), .val (.ref tv), .val (.ref al), .val (.ref ao), .val (.ref la), .val (.ref lc), .unset, .unset, .unset] [(.int (1 : Int32)), (.int (1 : Int32))]))
    refine Gl.by (fun t_ k_ => XS.icmpYes X.here hx rfl (pc0 := 164) (pc' := 169) rfl (hb hby at_164) rfl (teq (rfl : (1 : Int32) = 1)).1 (by decide) (by decide) k_) ?_
    show Gl p e below s room_1.cells room_1.slots (fun v h L => v = some (.int 1) ∧ Fr n0 L) (T.setTop (mkF m 169 #[.val (.int p0), .val (.int p1), .val (.int p2), .val (.int p3), .val (.int (0 : Int32)), .val (.int (1 : Int32)), .val (.ref ps), .val (.ref tv), .val (.ref al), .val (.ref ao), .val (.ref la), .val (.ref lc), .unset, .unset, .unset] []))
    refine Gl.by (fun t_ k_ => XS.aload X.here hx rfl (hb hby at_169) rfl rfl k_) ?_
    show Gl p e below s room_1.cells room_1.slots (fun v h L => v = some (.int 1) ∧ Fr n0 L) (T.setTop (mkF m 171 #[.val (.int p0), .val (.int p1), .val (.int p2), .val (.int p3), .val (.int (0 : Int32)), .val (.int (1 : Int32)), .val (.ref ps), .val (.ref tv), .val (.ref al), .val (.ref ao), .val (.ref la), .val (.ref lc), .unset, .unset, .unset] [(.ref lc)]))
    refine Gl.virt X hx hZ hown (hw _ (List.mem_of_getElem? (i := 147) rfl)) (hw _ (List.mem_of_getElem? (i := 148) rfl)) (hw _ (List.mem_of_getElem? (i := 150) rfl)) (hw _ (List.mem_of_getElem? (i := 149) rfl)) (notFace_of_selects (args := #[]) (mvT hZ (hw _ (List.mem_of_getElem? (i := 150) rfl)))) (by decide) H36 (W := 0) (backC (own_latom l Z a0 hw lc ao h36 n0 G36) hZ (hw _ (List.mem_of_getElem? (i := 151) rfl)) (hw _ (List.mem_of_getElem? (i := 126) rfl)) (by decide) (by decide)) eT (hb hby at_171) (by rw [hml]; rfl) [] [] (lenOf pd_22 rfl) rfl rfl (Nat.le_of_eq rfl) (by decide) (by decide) ?_
    intro v T L X hq
    obtain ⟨rfl, rfl, eT⟩ := hq
    have N := Fr.app N (Fr.nil n0)
    show Gl p e below s room_1.cells room_1.slots (fun v h L => v = some (.int 1) ∧ Fr n0 L) (T.setTop (mkF m 174 #[.val (.int p0), .val (.int p1), .val (.int p2), .val (.int p3), .val (.int (0 : Int32)), .val (.int (1 : Int32)), .val (.ref ps), .val (.ref tv), .val (.ref al), .val (.ref ao), .val (.ref la), .val (.ref lc), .unset, .unset, .unset] [(.ref ao)]))
    refine Gl.by (fun t_ k_ => XS.astore X.here hx rfl (hb hby at_174) rfl rfl (l' := #[.val (.int p0), .val (.int p1), .val (.int p2), .val (.int p3), .val (.int (0 : Int32)), .val (.int (1 : Int32)), .val (.ref ps), .val (.ref tv), .val (.ref al), .val (.ref ao), .val (.ref la), .val (.ref lc), .val (.ref ao), .unset, .unset]) rfl k_) ?_
    show Gl p e below s room_1.cells room_1.slots (fun v h L => v = some (.int 1) ∧ Fr n0 L) (T.setTop (mkF m 176 #[.val (.int p0), .val (.int p1), .val (.int p2), .val (.int p3), .val (.int (0 : Int32)), .val (.int (1 : Int32)), .val (.ref ps), .val (.ref tv), .val (.ref al), .val (.ref ao), .val (.ref la), .val (.ref lc), .val (.ref ao), .unset, .unset] []))
    refine Gl.by (fun t_ k_ => XS.aload X.here hx rfl (hb hby at_176) rfl rfl k_) ?_
    show Gl p e below s room_1.cells room_1.slots (fun v h L => v = some (.int 1) ∧ Fr n0 L) (T.setTop (mkF m 178 #[.val (.int p0), .val (.int p1), .val (.int p2), .val (.int p3), .val (.int (0 : Int32)), .val (.int (1 : Int32)), .val (.ref ps), .val (.ref tv), .val (.ref al), .val (.ref ao), .val (.ref la), .val (.ref lc), .val (.ref ao), .unset, .unset] [(.ref ao)]))
    refine Gl.by (fun t_ k_ => XS.ifnonnullYes X.here hx rfl (pc0 := 178) (pc' := 183) rfl (hb hby at_178) rfl (by decide) (by decide) k_) ?_
    show Gl p e below s room_1.cells room_1.slots (fun v h L => v = some (.int 1) ∧ Fr n0 L) (T.setTop (mkF m 183 #[.val (.int p0), .val (.int p1), .val (.int p2), .val (.int p3), .val (.int (0 : Int32)), .val (.int (1 : Int32)), .val (.ref ps), .val (.ref tv), .val (.ref al), .val (.ref ao), .val (.ref la), .val (.ref lc), .val (.ref ao), .unset, .unset] []))
    refine Gl.by (fun t_ k_ => XS.aload X.here hx rfl (hb hby at_183) rfl rfl k_) ?_
    show Gl p e below s room_1.cells room_1.slots (fun v h L => v = some (.int 1) ∧ Fr n0 L) (T.setTop (mkF m 185 #[.val (.int p0), .val (.int p1), .val (.int p2), .val (.int p3), .val (.int (0 : Int32)), .val (.int (1 : Int32)), .val (.ref ps), .val (.ref tv), .val (.ref al), .val (.ref ao), .val (.ref la), .val (.ref lc), .val (.ref ao), .unset, .unset] [(.ref ao)]))
    refine Gl.virt X hx hZ hown (hw _ (List.mem_of_getElem? (i := 152) rfl)) (hw _ (List.mem_of_getElem? (i := 153) rfl)) (hw _ (List.mem_of_getElem? (i := 155) rfl)) (hw _ (List.mem_of_getElem? (i := 154) rfl)) (notFace_of_selects (args := #[]) (mvT hZ (hw _ (List.mem_of_getElem? (i := 155) rfl)))) (by decide) ((((A32.keep K33).ext E34).keep K35).keep K36) (W := 0) (backC (own_apred l Z a0 hw ao ps h36 n0 (((FP33.ext E34).keep K35 (ninS (ne_exa ((A32.keep K33).ext E34) A34 (by decide)) nin0)).keep K36 nin0)) hZ (hw _ (List.mem_of_getElem? (i := 156) rfl)) (hw _ (List.mem_of_getElem? (i := 86) rfl)) (by decide) (by decide)) eT (hb hby at_185) (by rw [hml]; rfl) [] [] (lenOf pd_23 rfl) rfl rfl (Nat.le_of_eq rfl) (by decide) (by decide) ?_
    intro v T L X hq
    obtain ⟨rfl, rfl, eT⟩ := hq
    have N := Fr.app N (Fr.nil n0)
    show Gl p e below s room_1.cells room_1.slots (fun v h L => v = some (.int 1) ∧ Fr n0 L) (T.setTop (mkF m 188 #[.val (.int p0), .val (.int p1), .val (.int p2), .val (.int p3), .val (.int (0 : Int32)), .val (.int (1 : Int32)), .val (.ref ps), .val (.ref tv), .val (.ref al), .val (.ref ao), .val (.ref la), .val (.ref lc), .val (.ref ao), .unset, .unset] [(.ref ps)]))
    refine Gl.by (fun t_ k_ => XS.aload X.here hx rfl (hb hby at_188) rfl rfl k_) ?_
    show Gl p e below s room_1.cells room_1.slots (fun v h L => v = some (.int 1) ∧ Fr n0 L) (T.setTop (mkF m 190 #[.val (.int p0), .val (.int p1), .val (.int p2), .val (.int p3), .val (.int (0 : Int32)), .val (.int (1 : Int32)), .val (.ref ps), .val (.ref tv), .val (.ref al), .val (.ref ao), .val (.ref la), .val (.ref lc), .val (.ref ao), .unset, .unset] [(.ref ps), (.ref ps)]))
    refine Gl.virt X hx hZ hown (hw _ (List.mem_of_getElem? (i := 157) rfl)) (hw _ (List.mem_of_getElem? (i := 158) rfl)) (hw _ (List.mem_of_getElem? (i := 160) rfl)) (hw _ (List.mem_of_getElem? (i := 159) rfl)) (notFace_of_selects (args := #[]) (mvT hZ (hw _ (List.mem_of_getElem? (i := 160) rfl)))) (by decide) (((((((((((SQ25.exa.ext E26).keep K27).keep K28).ext E29).keep K30).keep K31).ext E32).keep K33).ext E34).keep K35).keep K36) (W := 0) (backC (own_seq l Z a0 hw ps h36 n0) hZ (hw _ (List.mem_of_getElem? (i := 161) rfl)) (hw _ (List.mem_of_getElem? (i := 2) rfl)) (by decide) (by decide)) eT (hb hby at_190) (by rw [hml]; rfl) [(.ref ps)] [] (lenOf pd_24 rfl) rfl rfl (Nat.le_of_eq rfl) (by decide) (by decide) ?_
    intro v T L X hq
    obtain ⟨rfl, rfl, eT⟩ := hq
    have N := Fr.app N (Fr.nil n0)
    show Gl p e below s room_1.cells room_1.slots (fun v h L => v = some (.int 1) ∧ Fr n0 L) (T.setTop (mkF m 193 #[.val (.int p0), .val (.int p1), .val (.int p2), .val (.int p3), .val (.int (0 : Int32)), .val (.int (1 : Int32)), .val (.ref ps), .val (.ref tv), .val (.ref al), .val (.ref ao), .val (.ref la), .val (.ref lc), .val (.ref ao), .unset, .unset] [(.int (1 : Int32))]))
    refine Gl.by (fun t_ k_ => XS.ifYes X.here hx rfl (pc0 := 193) (pc' := 198) rfl (hb hby at_193) rfl ((if0 _ _).trans (feq (by decide : ¬ (1 : Int32) = 0)).2) (by decide) (by decide) k_) ?_
    show Gl p e below s room_1.cells room_1.slots (fun v h L => v = some (.int 1) ∧ Fr n0 L) (T.setTop (mkF m 198 #[.val (.int p0), .val (.int p1), .val (.int p2), .val (.int p3), .val (.int (0 : Int32)), .val (.int (1 : Int32)), .val (.ref ps), .val (.ref tv), .val (.ref al), .val (.ref ao), .val (.ref la), .val (.ref lc), .val (.ref ao), .unset, .unset] []))
    refine Gl.by (fun t_ k_ => XS.iload X.here hx rfl (hb hby at_198) rfl k_) ?_
    show Gl p e below s room_1.cells room_1.slots (fun v h L => v = some (.int 1) ∧ Fr n0 L) (T.setTop (mkF m 200 #[.val (.int p0), .val (.int p1), .val (.int p2), .val (.int p3), .val (.int (0 : Int32)), .val (.int (1 : Int32)), .val (.ref ps), .val (.ref tv), .val (.ref al), .val (.ref ao), .val (.ref la), .val (.ref lc), .val (.ref ao), .unset, .unset] [(.int (1 : Int32))]))
    refine Gl.by (fun t_ k_ => XS.ifNo X.here hx rfl (hb hby at_200) rfl ((if0 _ _).trans (feq (by decide : ¬ (1 : Int32) = 0)).1) k_) ?_
    show Gl p e below s room_1.cells room_1.slots (fun v h L => v = some (.int 1) ∧ Fr n0 L) (T.setTop (mkF m 203 #[.val (.int p0), .val (.int p1), .val (.int p2), .val (.int p3), .val (.int (0 : Int32)), .val (.int (1 : Int32)), .val (.ref ps), .val (.ref tv), .val (.ref al), .val (.ref ao), .val (.ref la), .val (.ref lc), .val (.ref ao), .unset, .unset] []))
    refine Gl.by (fun t_ k_ => XS.iconst X.here hx rfl (hb hby at_203) k_) ?_
    show Gl p e below s room_1.cells room_1.slots (fun v h L => v = some (.int 1) ∧ Fr n0 L) (T.setTop (mkF m 204 #[.val (.int p0), .val (.int p1), .val (.int p2), .val (.int p3), .val (.int (0 : Int32)), .val (.int (1 : Int32)), .val (.ref ps), .val (.ref tv), .val (.ref al), .val (.ref ao), .val (.ref la), .val (.ref lc), .val (.ref ao), .unset, .unset] [(.int (1 : Int32))]))
    refine Gl.by (fun t_ k_ => XS.goto X.here hx rfl (pc0 := 204) (pc' := 208) rfl (hb hby at_204) (by decide) (by decide) k_) ?_
    show Gl p e below s room_1.cells room_1.slots (fun v h L => v = some (.int 1) ∧ Fr n0 L) (T.setTop (mkF m 208 #[.val (.int p0), .val (.int p1), .val (.int p2), .val (.int p3), .val (.int (0 : Int32)), .val (.int (1 : Int32)), .val (.ref ps), .val (.ref tv), .val (.ref al), .val (.ref ao), .val (.ref la), .val (.ref lc), .val (.ref ao), .unset, .unset] [(.int (1 : Int32))]))
    refine Gl.by (fun t_ k_ => XS.istore X.here hx rfl (hb hby at_208) rfl (l' := #[.val (.int p0), .val (.int p1), .val (.int p2), .val (.int p3), .val (.int (0 : Int32)), .val (.int (1 : Int32)), .val (.ref ps), .val (.ref tv), .val (.ref al), .val (.ref ao), .val (.ref la), .val (.ref lc), .val (.ref ao), .val (.int (1 : Int32)), .unset]) rfl k_) ?_
    show Gl p e below s room_1.cells room_1.slots (fun v h L => v = some (.int 1) ∧ Fr n0 L) (T.setTop (mkF m 210 #[.val (.int p0), .val (.int p1), .val (.int p2), .val (.int p3), .val (.int (0 : Int32)), .val (.int (1 : Int32)), .val (.ref ps), .val (.ref tv), .val (.ref al), .val (.ref ao), .val (.ref la), .val (.ref lc), .val (.ref ao), .val (.int (1 : Int32)), .unset] []))
    refine Gl.by (fun t_ k_ => XS.aload X.here hx rfl (hb hby at_210) rfl rfl k_) ?_
    show Gl p e below s room_1.cells room_1.slots (fun v h L => v = some (.int 1) ∧ Fr n0 L) (T.setTop (mkF m 212 #[.val (.int p0), .val (.int p1), .val (.int p2), .val (.int p3), .val (.int (0 : Int32)), .val (.int (1 : Int32)), .val (.ref ps), .val (.ref tv), .val (.ref al), .val (.ref ao), .val (.ref la), .val (.ref lc), .val (.ref ao), .val (.int (1 : Int32)), .unset] [(.ref ao)]))
    refine Gl.virt X hx hZ hown (hw _ (List.mem_of_getElem? (i := 162) rfl)) (hw _ (List.mem_of_getElem? (i := 163) rfl)) (hw _ (List.mem_of_getElem? (i := 165) rfl)) (hw _ (List.mem_of_getElem? (i := 164) rfl)) (notFace_of_selects (args := #[]) (mvT hZ (hw _ (List.mem_of_getElem? (i := 165) rfl)))) (by decide) ((((A32.keep K33).ext E34).keep K35).keep K36) (W := 0) (backC (own_aargs l Z a0 hw ao li h36 n0 (((FA33.ext E34).keep K35 (ninS (ne_exa ((A32.keep K33).ext E34) A34 (by decide)) nin0)).keep K36 nin0)) hZ (hw _ (List.mem_of_getElem? (i := 166) rfl)) (hw _ (List.mem_of_getElem? (i := 86) rfl)) (by decide) (by decide)) eT (hb hby at_212) (by rw [hml]; rfl) [] [] (lenOf pd_10 rfl) rfl rfl (Nat.le_of_eq rfl) (by decide) (by decide) ?_
    intro v T L X hq
    obtain ⟨rfl, rfl, eT⟩ := hq
    have N := Fr.app N (Fr.nil n0)
    show Gl p e below s room_1.cells room_1.slots (fun v h L => v = some (.int 1) ∧ Fr n0 L) (T.setTop (mkF m 215 #[.val (.int p0), .val (.int p1), .val (.int p2), .val (.int p3), .val (.int (0 : Int32)), .val (.int (1 : Int32)), .val (.ref ps), .val (.ref tv), .val (.ref al), .val (.ref ao), .val (.ref la), .val (.ref lc), .val (.ref ao), .val (.int (1 : Int32)), .unset] [(.ref li)]))
    refine Gl.face X hx hZ hown (hw _ (List.mem_of_getElem? (i := 167) rfl)) (hw _ (List.mem_of_getElem? (i := 168) rfl)) (mvT hZ (hw _ (List.mem_of_getElem? (i := 169) rfl))) (hw _ (List.mem_of_getElem? (i := 271) rfl)) (hw _ (List.mem_of_getElem? (i := 272) rfl)) (hw _ (List.mem_of_getElem? (i := 273) rfl)) (hw _ (List.mem_of_getElem? (i := 274) rfl)) (hw _ (List.mem_of_getElem? (i := 275) rfl)) (by decide) (((EL33.ext E34).keep K35).keep K36) (W := 0) (backC (own_l12s l Z a0 hw li dc el mr em h36 n0 (((F133.ext E34).keep K35 (ninS (ne_exa (EL33.ext E34) A34 (by decide)) nin0)).keep K36 nin0) ((((((((((((O24.keep K25 (allS (by omega) all0)).ext E26).keep K27 all0).keep K28 (allS (by omega) all0)).ext E29).keep K30 (allS (by omega) all0)).keep K31 (allS (by omega) all0)).ext E32).keep K33 (allS (by omega) all0)).ext E34).keep K35 (allS (by omega) all0)).keep K36 all0) K) hZ (hw _ (List.mem_of_getElem? (i := 276) rfl)) (hw _ (List.mem_of_getElem? (i := 243) rfl)) (by decide) (by decide)) eT (hb hby at_215) (by rw [hml]; rfl) [] [] (lenOf pd_25 rfl) rfl rfl (Nat.le_of_eq rfl) (by decide) (by decide) ?_
    intro v T L X hq
    obtain ⟨rfl, rfl, eT⟩ := hq
    have N := Fr.app N (Fr.nil n0)
    show Gl p e below s room_1.cells room_1.slots (fun v h L => v = some (.int 1) ∧ Fr n0 L) (T.setTop (mkF m 220 #[.val (.int p0), .val (.int p1), .val (.int p2), .val (.int p3), .val (.int (0 : Int32)), .val (.int (1 : Int32)), .val (.ref ps), .val (.ref tv), .val (.ref al), .val (.ref ao), .val (.ref la), .val (.ref lc), .val (.ref ao), .val (.int (1 : Int32)), .unset] [(.int (1 : Int32))]))
    refine Gl.by (fun t_ k_ => XS.iload X.here hx rfl (hb hby at_220) rfl k_) ?_
    show Gl p e below s room_1.cells room_1.slots (fun v h L => v = some (.int 1) ∧ Fr n0 L) (T.setTop (mkF m 222 #[.val (.int p0), .val (.int p1), .val (.int p2), .val (.int p3), .val (.int (0 : Int32)), .val (.int (1 : Int32)), .val (.ref ps), .val (.ref tv), .val (.ref al), .val (.ref ao), .val (.ref la), .val (.ref lc), .val (.ref ao), .val (.int (1 : Int32)), .unset] [(.int (1 : Int32)), (.int (1 : Int32))]))
    refine Gl.by (fun t_ k_ => XS.icmpYes X.here hx rfl (pc0 := 222) (pc' := 227) rfl (hb hby at_222) rfl (teq (rfl : (1 : Int32) = 1)).1 (by decide) (by decide) k_) ?_
    show Gl p e below s room_1.cells room_1.slots (fun v h L => v = some (.int 1) ∧ Fr n0 L) (T.setTop (mkF m 227 #[.val (.int p0), .val (.int p1), .val (.int p2), .val (.int p3), .val (.int (0 : Int32)), .val (.int (1 : Int32)), .val (.ref ps), .val (.ref tv), .val (.ref al), .val (.ref ao), .val (.ref la), .val (.ref lc), .val (.ref ao), .val (.int (1 : Int32)), .unset] []))
    refine Gl.by (fun t_ k_ => XS.iload X.here hx rfl (hb hby at_227) rfl k_) ?_
    show Gl p e below s room_1.cells room_1.slots (fun v h L => v = some (.int 1) ∧ Fr n0 L) (T.setTop (mkF m 229 #[.val (.int p0), .val (.int p1), .val (.int p2), .val (.int p3), .val (.int (0 : Int32)), .val (.int (1 : Int32)), .val (.ref ps), .val (.ref tv), .val (.ref al), .val (.ref ao), .val (.ref la), .val (.ref lc), .val (.ref ao), .val (.int (1 : Int32)), .unset] [(.int (1 : Int32))]))
    refine Gl.by (fun t_ k_ => XS.ifNo X.here hx rfl (hb hby at_229) rfl ((if0 _ _).trans (feq (by decide : ¬ (1 : Int32) = 0)).1) k_) ?_
    show Gl p e below s room_1.cells room_1.slots (fun v h L => v = some (.int 1) ∧ Fr n0 L) (T.setTop (mkF m 232 #[.val (.int p0), .val (.int p1), .val (.int p2), .val (.int p3), .val (.int (0 : Int32)), .val (.int (1 : Int32)), .val (.ref ps), .val (.ref tv), .val (.ref al), .val (.ref ao), .val (.ref la), .val (.ref lc), .val (.ref ao), .val (.int (1 : Int32)), .unset] []))
    refine Gl.by (fun t_ k_ => XS.aload X.here hx rfl (hb hby at_232) rfl rfl k_) ?_
    show Gl p e below s room_1.cells room_1.slots (fun v h L => v = some (.int 1) ∧ Fr n0 L) (T.setTop (mkF m 234 #[.val (.int p0), .val (.int p1), .val (.int p2), .val (.int p3), .val (.int (0 : Int32)), .val (.int (1 : Int32)), .val (.ref ps), .val (.ref tv), .val (.ref al), .val (.ref ao), .val (.ref la), .val (.ref lc), .val (.ref ao), .val (.int (1 : Int32)), .unset] [(.ref ao)]))
    refine Gl.virt X hx hZ hown (hw _ (List.mem_of_getElem? (i := 162) rfl)) (hw _ (List.mem_of_getElem? (i := 163) rfl)) (hw _ (List.mem_of_getElem? (i := 165) rfl)) (hw _ (List.mem_of_getElem? (i := 164) rfl)) (notFace_of_selects (args := #[]) (mvT hZ (hw _ (List.mem_of_getElem? (i := 165) rfl)))) (by decide) ((((A32.keep K33).ext E34).keep K35).keep K36) (W := 0) (backC (own_aargs l Z a0 hw ao li h36 n0 (((FA33.ext E34).keep K35 (ninS (ne_exa ((A32.keep K33).ext E34) A34 (by decide)) nin0)).keep K36 nin0)) hZ (hw _ (List.mem_of_getElem? (i := 166) rfl)) (hw _ (List.mem_of_getElem? (i := 86) rfl)) (by decide) (by decide)) eT (hb hby at_234) (by rw [hml]; rfl) [] [] (lenOf pd_10 rfl) rfl rfl (Nat.le_of_eq rfl) (by decide) (by decide) ?_
    intro v T L X hq
    obtain ⟨rfl, rfl, eT⟩ := hq
    have N := Fr.app N (Fr.nil n0)
    show Gl p e below s room_1.cells room_1.slots (fun v h L => v = some (.int 1) ∧ Fr n0 L) (T.setTop (mkF m 237 #[.val (.int p0), .val (.int p1), .val (.int p2), .val (.int p3), .val (.int (0 : Int32)), .val (.int (1 : Int32)), .val (.ref ps), .val (.ref tv), .val (.ref al), .val (.ref ao), .val (.ref la), .val (.ref lc), .val (.ref ao), .val (.int (1 : Int32)), .unset] [(.ref li)]))
    refine Gl.by (fun t_ k_ => XS.iconst X.here hx rfl (hb hby at_237) k_) ?_
    show Gl p e below s room_1.cells room_1.slots (fun v h L => v = some (.int 1) ∧ Fr n0 L) (T.setTop (mkF m 238 #[.val (.int p0), .val (.int p1), .val (.int p2), .val (.int p3), .val (.int (0 : Int32)), .val (.int (1 : Int32)), .val (.ref ps), .val (.ref tv), .val (.ref al), .val (.ref ao), .val (.ref la), .val (.ref lc), .val (.ref ao), .val (.int (1 : Int32)), .unset] [(.int (0 : Int32)), (.ref li)]))
    refine Gl.face X hx hZ hown (hw _ (List.mem_of_getElem? (i := 277) rfl)) (hw _ (List.mem_of_getElem? (i := 278) rfl)) (mvT hZ (hw _ (List.mem_of_getElem? (i := 279) rfl))) (hw _ (List.mem_of_getElem? (i := 280) rfl)) (hw _ (List.mem_of_getElem? (i := 281) rfl)) (hw _ (List.mem_of_getElem? (i := 282) rfl)) (hw _ (List.mem_of_getElem? (i := 283) rfl)) (hw _ (List.mem_of_getElem? (i := 275) rfl)) (by decide) (((EL33.ext E34).keep K35).keep K36) (W := 0) (backC (own_l12g l Z a0 hw li tv h36 n0 (((F033.ext E34).keep K35 (ninS (ne_exa (EL33.ext E34) A34 (by decide)) nin0)).keep K36 nin0)) hZ (hw _ (List.mem_of_getElem? (i := 284) rfl)) (hw _ (List.mem_of_getElem? (i := 243) rfl)) (by decide) (by decide)) eT (hb hby at_238) (by rw [hml]; rfl) [(.int (0 : Int32))] [] (lenOf pd_26 rfl) rfl rfl (Nat.le_of_eq rfl) (by decide) (by decide) ?_
    intro v T L X hq
    obtain ⟨rfl, rfl, eT⟩ := hq
    have N := Fr.app N (Fr.nil n0)
    show Gl p e below s room_1.cells room_1.slots (fun v h L => v = some (.int 1) ∧ Fr n0 L) (T.setTop (mkF m 243 #[.val (.int p0), .val (.int p1), .val (.int p2), .val (.int p3), .val (.int (0 : Int32)), .val (.int (1 : Int32)), .val (.ref ps), .val (.ref tv), .val (.ref al), .val (.ref ao), .val (.ref la), .val (.ref lc), .val (.ref ao), .val (.int (1 : Int32)), .unset] [(.ref tv)]))
    refine Gl.by (fun t_ k_ => XS.aload X.here hx rfl (hb hby at_243) rfl rfl k_) ?_
    show Gl p e below s room_1.cells room_1.slots (fun v h L => v = some (.int 1) ∧ Fr n0 L) (T.setTop (mkF m 245 #[.val (.int p0), .val (.int p1), .val (.int p2), .val (.int p3), .val (.int (0 : Int32)), .val (.int (1 : Int32)), .val (.ref ps), .val (.ref tv), .val (.ref al), .val (.ref ao), .val (.ref la), .val (.ref lc), .val (.ref ao), .val (.int (1 : Int32)), .unset] [(.ref tv), (.ref tv)]))
    refine Gl.by (fun t_ k_ => Jvm.RoadKit.acmp (g := (mkF m 245 #[.val (.int p0), .val (.int p1), .val (.int p2), .val (.int p3), .val (.int (0 : Int32)), .val (.int (1 : Int32)), .val (.ref ps), .val (.ref tv), .val (.ref al), .val (.ref ao), .val (.ref la), .val (.ref lc), .val (.ref ao), .val (.int (1 : Int32)), .unset] [(.ref tv), (.ref tv)])) X hx rfl rfl rfl (pc0 := 245) (pc' := 250) (same := true) rfl (hb hby at_245) rfl (decide_eq_true rfl) (by decide) (by decide) k_) ?_
    show Gl p e below s room_1.cells room_1.slots (fun v h L => v = some (.int 1) ∧ Fr n0 L) (T.setTop (mkF m 250 #[.val (.int p0), .val (.int p1), .val (.int p2), .val (.int p3), .val (.int (0 : Int32)), .val (.int (1 : Int32)), .val (.ref ps), .val (.ref tv), .val (.ref al), .val (.ref ao), .val (.ref la), .val (.ref lc), .val (.ref ao), .val (.int (1 : Int32)), .unset] []))
    refine Gl.by (fun t_ k_ => XS.aload X.here hx rfl (hb hby at_250) rfl rfl k_) ?_
    show Gl p e below s room_1.cells room_1.slots (fun v h L => v = some (.int 1) ∧ Fr n0 L) (T.setTop (mkF m 252 #[.val (.int p0), .val (.int p1), .val (.int p2), .val (.int p3), .val (.int (0 : Int32)), .val (.int (1 : Int32)), .val (.ref ps), .val (.ref tv), .val (.ref al), .val (.ref ao), .val (.ref la), .val (.ref lc), .val (.ref ao), .val (.int (1 : Int32)), .unset] [(.ref la)]))
    refine Gl.virt X hx hZ hown (hw _ (List.mem_of_getElem? (i := 142) rfl)) (hw _ (List.mem_of_getElem? (i := 143) rfl)) (hw _ (List.mem_of_getElem? (i := 145) rfl)) (hw _ (List.mem_of_getElem? (i := 144) rfl)) (notFace_of_selects (args := #[]) (mvT hZ (hw _ (List.mem_of_getElem? (i := 145) rfl)))) (by decide) ((A34.keep K35).keep K36) (W := 0) (backC (own_lpos0 l Z a0 hw la h36 n0 (P35.keep K36 nin0)) hZ (hw _ (List.mem_of_getElem? (i := 146) rfl)) (hw _ (List.mem_of_getElem? (i := 126) rfl)) (by decide) (by decide)) eT (hb hby at_252) (by rw [hml]; rfl) [] [] (lenOf pd_9 rfl) rfl rfl (Nat.le_of_eq rfl) (by decide) (by decide) ?_
    intro v T L X hq
    obtain ⟨rfl, rfl, eT⟩ := hq
    have N := Fr.app N (Fr.nil n0)
    show Gl p e below s room_1.cells room_1.slots (fun v h L => v = some (.int 1) ∧ Fr n0 L) (T.setTop (mkF m 255 #[.val (.int p0), .val (.int p1), .val (.int p2), .val (.int p3), .val (.int (0 : Int32)), .val (.int (1 : Int32)), .val (.ref ps), .val (.ref tv), .val (.ref al), .val (.ref ao), .val (.ref la), .val (.ref lc), .val (.ref ao), .val (.int (1 : Int32)), .unset] [(.int (0 : Int32))]))
    refine Gl.by (fun t_ k_ => XS.iload X.here hx rfl (hb hby at_255) rfl k_) ?_
    show Gl p e below s room_1.cells room_1.slots (fun v h L => v = some (.int 1) ∧ Fr n0 L) (T.setTop (mkF m 257 #[.val (.int p0), .val (.int p1), .val (.int p2), .val (.int p3), .val (.int (0 : Int32)), .val (.int (1 : Int32)), .val (.ref ps), .val (.ref tv), .val (.ref al), .val (.ref ao), .val (.ref la), .val (.ref lc), .val (.ref ao), .val (.int (1 : Int32)), .unset] [(.int (0 : Int32)), (.int (0 : Int32))]))
    refine Gl.by (fun t_ k_ => XS.icmpYes X.here hx rfl (pc0 := 257) (pc' := 262) rfl (hb hby at_257) rfl (teq (rfl : (0 : Int32) = 0)).1 (by decide) (by decide) k_) ?_
    show Gl p e below s room_1.cells room_1.slots (fun v h L => v = some (.int 1) ∧ Fr n0 L) (T.setTop (mkF m 262 #[.val (.int p0), .val (.int p1), .val (.int p2), .val (.int p3), .val (.int (0 : Int32)), .val (.int (1 : Int32)), .val (.ref ps), .val (.ref tv), .val (.ref al), .val (.ref ao), .val (.ref la), .val (.ref lc), .val (.ref ao), .val (.int (1 : Int32)), .unset] []))
    refine Gl.by (fun t_ k_ => XS.aload X.here hx rfl (hb hby at_262) rfl rfl k_) ?_
    show Gl p e below s room_1.cells room_1.slots (fun v h L => v = some (.int 1) ∧ Fr n0 L) (T.setTop (mkF m 264 #[.val (.int p0), .val (.int p1), .val (.int p2), .val (.int p3), .val (.int (0 : Int32)), .val (.int (1 : Int32)), .val (.ref ps), .val (.ref tv), .val (.ref al), .val (.ref ao), .val (.ref la), .val (.ref lc), .val (.ref ao), .val (.int (1 : Int32)), .unset] [(.ref lc)]))
    refine Gl.virt X hx hZ hown (hw _ (List.mem_of_getElem? (i := 135) rfl)) (hw _ (List.mem_of_getElem? (i := 136) rfl)) (hw _ (List.mem_of_getElem? (i := 138) rfl)) (hw _ (List.mem_of_getElem? (i := 137) rfl)) (notFace_of_selects (args := #[]) (mvT hZ (hw _ (List.mem_of_getElem? (i := 138) rfl)))) (by decide) H36 (W := 0) (backC (own_cpl1 l Z a0 hw lc ao h36 n0 (by omega) ⟨H36, G36, P36⟩) hZ (hw _ (List.mem_of_getElem? (i := 139) rfl)) (hw _ (List.mem_of_getElem? (i := 126) rfl)) (by decide) (by decide)) eT (hb hby at_264) (by rw [hml]; rfl) [] [] (lenOf pd_21 rfl) rfl rfl (Nat.le_of_eq rfl) (by decide) (by decide) ?_
    intro v T L X hq
    obtain ⟨NQ, K37, ld, rfl, gld, H37, G37, P37⟩ := hq
    have N := Fr.app N NQ
    obtain ⟨h37, eT⟩ : ∃ z, T.heap = z := ⟨_, rfl⟩
    rw [eT] at K37 H37 G37 P37
    have sz37 := K37.1
    show Gl p e below s room_1.cells room_1.slots (fun v h L => v = some (.int 1) ∧ Fr n0 L) (T.setTop (mkF m 267 #[.val (.int p0), .val (.int p1), .val (.int p2), .val (.int p3), .val (.int (0 : Int32)), .val (.int (1 : Int32)), .val (.ref ps), .val (.ref tv), .val (.ref al), .val (.ref ao), .val (.ref la), .val (.ref lc), .val (.ref ao), .val (.int (1 : Int32)), .unset] [(.ref ld)]))
    refine Gl.by (fun t_ k_ => XS.astore X.here hx rfl (hb hby at_267) rfl rfl (l' := #[.val (.int p0), .val (.int p1), .val (.int p2), .val (.int p3), .val (.int (0 : Int32)), .val (.int (1 : Int32)), .val (.ref ps), .val (.ref tv), .val (.ref al), .val (.ref ao), .val (.ref la), .val (.ref lc), .val (.ref ao), .val (.int (1 : Int32)), .val (.ref ld)]) rfl k_) ?_
    show Gl p e below s room_1.cells room_1.slots (fun v h L => v = some (.int 1) ∧ Fr n0 L) (T.setTop (mkF m 269 #[.val (.int p0), .val (.int p1), .val (.int p2), .val (.int p3), .val (.int (0 : Int32)), .val (.int (1 : Int32)), .val (.ref ps), .val (.ref tv), .val (.ref al), .val (.ref ao), .val (.ref la), .val (.ref lc), .val (.ref ao), .val (.int (1 : Int32)), .val (.ref ld)] []))
    refine Gl.by (fun t_ k_ => XS.aload X.here hx rfl (hb hby at_269) rfl rfl k_) ?_
    show Gl p e below s room_1.cells room_1.slots (fun v h L => v = some (.int 1) ∧ Fr n0 L) (T.setTop (mkF m 271 #[.val (.int p0), .val (.int p1), .val (.int p2), .val (.int p3), .val (.int (0 : Int32)), .val (.int (1 : Int32)), .val (.ref ps), .val (.ref tv), .val (.ref al), .val (.ref ao), .val (.ref la), .val (.ref lc), .val (.ref ao), .val (.int (1 : Int32)), .val (.ref ld)] [(.ref ld)]))
    refine Gl.by (fun t_ k_ => XS.ifnullNo X.here hx rfl (hb hby at_271) rfl k_) ?_
    show Gl p e below s room_1.cells room_1.slots (fun v h L => v = some (.int 1) ∧ Fr n0 L) (T.setTop (mkF m 274 #[.val (.int p0), .val (.int p1), .val (.int p2), .val (.int p3), .val (.int (0 : Int32)), .val (.int (1 : Int32)), .val (.ref ps), .val (.ref tv), .val (.ref al), .val (.ref ao), .val (.ref la), .val (.ref lc), .val (.ref ao), .val (.int (1 : Int32)), .val (.ref ld)] []))
    refine Gl.by (fun t_ k_ => XS.aload X.here hx rfl (hb hby at_274) rfl rfl k_) ?_
    show Gl p e below s room_1.cells room_1.slots (fun v h L => v = some (.int 1) ∧ Fr n0 L) (T.setTop (mkF m 276 #[.val (.int p0), .val (.int p1), .val (.int p2), .val (.int p3), .val (.int (0 : Int32)), .val (.int (1 : Int32)), .val (.ref ps), .val (.ref tv), .val (.ref al), .val (.ref ao), .val (.ref la), .val (.ref lc), .val (.ref ao), .val (.int (1 : Int32)), .val (.ref ld)] [(.ref ld)]))
    refine Gl.virt X hx hZ hown (hw _ (List.mem_of_getElem? (i := 142) rfl)) (hw _ (List.mem_of_getElem? (i := 143) rfl)) (hw _ (List.mem_of_getElem? (i := 145) rfl)) (hw _ (List.mem_of_getElem? (i := 144) rfl)) (notFace_of_selects (args := #[]) (mvT hZ (hw _ (List.mem_of_getElem? (i := 145) rfl)))) (by decide) H37 (W := 0) (backC (own_lpos0 l Z a0 hw ld h37 n0 P37) hZ (hw _ (List.mem_of_getElem? (i := 146) rfl)) (hw _ (List.mem_of_getElem? (i := 126) rfl)) (by decide) (by decide)) eT (hb hby at_276) (by rw [hml]; rfl) [] [] (lenOf pd_9 rfl) rfl rfl (Nat.le_of_eq rfl) (by decide) (by decide) ?_
    intro v T L X hq
    obtain ⟨rfl, rfl, eT⟩ := hq
    have N := Fr.app N (Fr.nil n0)
    show Gl p e below s room_1.cells room_1.slots (fun v h L => v = some (.int 1) ∧ Fr n0 L) (T.setTop (mkF m 279 #[.val (.int p0), .val (.int p1), .val (.int p2), .val (.int p3), .val (.int (0 : Int32)), .val (.int (1 : Int32)), .val (.ref ps), .val (.ref tv), .val (.ref al), .val (.ref ao), .val (.ref la), .val (.ref lc), .val (.ref ao), .val (.int (1 : Int32)), .val (.ref ld)] [(.int (0 : Int32))]))
    refine Gl.by (fun t_ k_ => XS.iload X.here hx rfl (hb hby at_279) rfl k_) ?_
    show Gl p e below s room_1.cells room_1.slots (fun v h L => v = some (.int 1) ∧ Fr n0 L) (T.setTop (mkF m 281 #[.val (.int p0), .val (.int p1), .val (.int p2), .val (.int p3), .val (.int (0 : Int32)), .val (.int (1 : Int32)), .val (.ref ps), .val (.ref tv), .val (.ref al), .val (.ref ao), .val (.ref la), .val (.ref lc), .val (.ref ao), .val (.int (1 : Int32)), .val (.ref ld)] [(.int (0 : Int32)), (.int (0 : Int32))]))
    refine Gl.by (fun t_ k_ => XS.icmpNo X.here hx rfl (hb hby at_281) rfl (teq (rfl : (0 : Int32) = 0)).2 k_) ?_
    show Gl p e below s room_1.cells room_1.slots (fun v h L => v = some (.int 1) ∧ Fr n0 L) (T.setTop (mkF m 284 #[.val (.int p0), .val (.int p1), .val (.int p2), .val (.int p3), .val (.int (0 : Int32)), .val (.int (1 : Int32)), .val (.ref ps), .val (.ref tv), .val (.ref al), .val (.ref ao), .val (.ref la), .val (.ref lc), .val (.ref ao), .val (.int (1 : Int32)), .val (.ref ld)] []))
    refine Gl.by (fun t_ k_ => XS.iconst X.here hx rfl (hb hby at_284) k_) ?_
    show Gl p e below s room_1.cells room_1.slots (fun v h L => v = some (.int 1) ∧ Fr n0 L) (T.setTop (mkF m 285 #[.val (.int p0), .val (.int p1), .val (.int p2), .val (.int p3), .val (.int (0 : Int32)), .val (.int (1 : Int32)), .val (.ref ps), .val (.ref tv), .val (.ref al), .val (.ref ao), .val (.ref la), .val (.ref lc), .val (.ref ao), .val (.int (1 : Int32)), .val (.ref ld)] [(.int (1 : Int32))]))
    refine Gl.by (fun t_ k_ => XS.goto X.here hx rfl (pc0 := 285) (pc' := 289) rfl (hb hby at_285) (by decide) (by decide) k_) ?_
    show Gl p e below s room_1.cells room_1.slots (fun v h L => v = some (.int 1) ∧ Fr n0 L) (T.setTop (mkF m 289 #[.val (.int p0), .val (.int p1), .val (.int p2), .val (.int p3), .val (.int (0 : Int32)), .val (.int (1 : Int32)), .val (.ref ps), .val (.ref tv), .val (.ref al), .val (.ref ao), .val (.ref la), .val (.ref lc), .val (.ref ao), .val (.int (1 : Int32)), .val (.ref ld)] [(.int (1 : Int32))]))
    exact Gl.retZ X hx hlk hret (by simp) (hb hby at_289) (by decide) (by decide) ⟨rfl, N⟩
  have j10 : Gl p e below s room_1.cells room_1.slots (fun v h L => v = some (.int 1) ∧ Fr n0 L) (T.setTop (mkF m 26 #[.val (.int p0), .val (.int p1), .val (.int p2), .val (.int p3), .val (.int (1 : Int32)), .val (.int (0 : Int32)), .unset, .unset, .unset, .unset, .unset, .unset, .unset, .unset, .unset] [])) := by
    obtain ⟨T, h38, X, eT, E38, A38, D38, -, st⟩ := newO X hx hZ hown (hw _ (List.mem_of_getElem? (i := 0) rfl)) (hw _ (List.mem_of_getElem? (i := 1) rfl)) (hw _ (List.mem_of_getElem? (i := 2) rfl)) eT (g := (mkF m 26 #[.val (.int p0), .val (.int p1), .val (.int p2), .val (.int p3), .val (.int (1 : Int32)), .val (.int (0 : Int32)), .unset, .unset, .unset, .unset, .unset, .unset, .unset, .unset, .unset] [])) rfl (hb hby at_26) (by decide) (by decide)
    obtain ⟨ps, g38⟩ : ∃ z, z = h0.size := ⟨_, rfl⟩
    rw [← g38] at A38 D38 st
    have sz38 := E38.1
    have lt38 : ps < h38.size := A38.lt
    refine Gl.by st ?_
    have F38_coder : Fld Z h38 ps "java/lang/String" "coder" "B" (.int (0 : Int32)) := D38 (Or.inr (hw _ (List.mem_of_getElem? (i := 27) rfl))) (ty := .byte) (by decide)
    have F38_value : Fld Z h38 ps "java/lang/String" "value" "[B" .null := D38 (Or.inr (hw _ (List.mem_of_getElem? (i := 29) rfl))) (ty := (.array .byte)) (by decide)
    show Gl p e below s room_1.cells room_1.slots (fun v h L => v = some (.int 1) ∧ Fr n0 L) (T.setTop (mkF m 29 #[.val (.int p0), .val (.int p1), .val (.int p2), .val (.int p3), .val (.int (1 : Int32)), .val (.int (0 : Int32)), .unset, .unset, .unset, .unset, .unset, .unset, .unset, .unset, .unset] [(.ref ps)]))
    refine Gl.by (fun t_ k_ => XS.dup X.here hx rfl (hb hby at_29) rfl rfl k_) ?_
    show Gl p e below s room_1.cells room_1.slots (fun v h L => v = some (.int 1) ∧ Fr n0 L) (T.setTop (mkF m 30 #[.val (.int p0), .val (.int p1), .val (.int p2), .val (.int p3), .val (.int (1 : Int32)), .val (.int (0 : Int32)), .unset, .unset, .unset, .unset, .unset, .unset, .unset, .unset, .unset] [(.ref ps), (.ref ps)]))
    refine Gl.by (fun t_ k_ => XS.iconst X.here hx rfl (hb hby at_30) k_) ?_
    show Gl p e below s room_1.cells room_1.slots (fun v h L => v = some (.int 1) ∧ Fr n0 L) (T.setTop (mkF m 31 #[.val (.int p0), .val (.int p1), .val (.int p2), .val (.int p3), .val (.int (1 : Int32)), .val (.int (0 : Int32)), .unset, .unset, .unset, .unset, .unset, .unset, .unset, .unset, .unset] [(.int (3 : Int32)), (.ref ps), (.ref ps)]))
    obtain ⟨T, h39, k39, X, eT, E39, A39, st⟩ := newP X hx hZ (hw _ (List.mem_of_getElem? (i := 3) rfl)) eT (g := (mkF m 31 #[.val (.int p0), .val (.int p1), .val (.int p2), .val (.int p3), .val (.int (1 : Int32)), .val (.int (0 : Int32)), .unset, .unset, .unset, .unset, .unset, .unset, .unset, .unset, .unset] [(.int (3 : Int32)), (.ref ps), (.ref ps)])) rfl (hb hby at_31) rfl (by decide) (cap := 3) (by decide) (by decide) (by decide) (by decide)
    obtain ⟨ch, g39⟩ : ∃ z, z = h38.size := ⟨_, rfl⟩
    rw [← g39] at A39 st
    have sz39 := E39.1
    have lt39 : ch < h39.size := A39.lt
    have V39 : Arv Z h39 ch k39 .char (3 : Int32) [(.int (0 : Int32)), (.int (0 : Int32)), (.int (0 : Int32))] (.int (0 : Int32)) := (Arv.new A39 (by decide)).pad (pad_rep [] (.int (0 : Int32)) 3)
    refine Gl.by st ?_
    show Gl p e below s room_1.cells room_1.slots (fun v h L => v = some (.int 1) ∧ Fr n0 L) (T.setTop (mkF m 33 #[.val (.int p0), .val (.int p1), .val (.int p2), .val (.int p3), .val (.int (1 : Int32)), .val (.int (0 : Int32)), .unset, .unset, .unset, .unset, .unset, .unset, .unset, .unset, .unset] [(.ref ch), (.ref ps), (.ref ps)]))
    refine Gl.by (fun t_ k_ => XS.dup X.here hx rfl (hb hby at_33) rfl rfl k_) ?_
    show Gl p e below s room_1.cells room_1.slots (fun v h L => v = some (.int 1) ∧ Fr n0 L) (T.setTop (mkF m 34 #[.val (.int p0), .val (.int p1), .val (.int p2), .val (.int p3), .val (.int (1 : Int32)), .val (.int (0 : Int32)), .unset, .unset, .unset, .unset, .unset, .unset, .unset, .unset, .unset] [(.ref ch), (.ref ch), (.ref ps), (.ref ps)]))
    refine Gl.by (fun t_ k_ => XS.iconst X.here hx rfl (hb hby at_34) k_) ?_
    show Gl p e below s room_1.cells room_1.slots (fun v h L => v = some (.int 1) ∧ Fr n0 L) (T.setTop (mkF m 35 #[.val (.int p0), .val (.int p1), .val (.int p2), .val (.int p3), .val (.int (1 : Int32)), .val (.int (0 : Int32)), .unset, .unset, .unset, .unset, .unset, .unset, .unset, .unset, .unset] [(.int (0 : Int32)), (.ref ch), (.ref ch), (.ref ps), (.ref ps)]))
    refine Gl.by (fun t_ k_ => XS.iloadN X.here hx rfl (hb hby at_35) rfl k_) ?_
    show Gl p e below s room_1.cells room_1.slots (fun v h L => v = some (.int 1) ∧ Fr n0 L) (T.setTop (mkF m 36 #[.val (.int p0), .val (.int p1), .val (.int p2), .val (.int p3), .val (.int (1 : Int32)), .val (.int (0 : Int32)), .unset, .unset, .unset, .unset, .unset, .unset, .unset, .unset, .unset] [(.int p1), (.int (0 : Int32)), (.ref ch), (.ref ch), (.ref ps), (.ref ps)]))
    refine Gl.by (fun t_ k_ => XS.sipush X.here hx rfl (hb hby at_36) k_) ?_
    show Gl p e below s room_1.cells room_1.slots (fun v h L => v = some (.int 1) ∧ Fr n0 L) (T.setTop (mkF m 39 #[.val (.int p0), .val (.int p1), .val (.int p2), .val (.int p3), .val (.int (1 : Int32)), .val (.int (0 : Int32)), .unset, .unset, .unset, .unset, .unset, .unset, .unset, .unset, .unset] [(.int (255 : Int32)), (.int p1), (.int (0 : Int32)), (.ref ch), (.ref ch), (.ref ps), (.ref ps)]))
    refine Gl.by (fun t_ k_ => XS.iand X.here hx rfl (hb hby at_39) rfl k_) ?_
    show Gl p e below s room_1.cells room_1.slots (fun v h L => v = some (.int 1) ∧ Fr n0 L) (T.setTop (mkF m 40 #[.val (.int p0), .val (.int p1), .val (.int p2), .val (.int p3), .val (.int (1 : Int32)), .val (.int (0 : Int32)), .unset, .unset, .unset, .unset, .unset, .unset, .unset, .unset, .unset] [(.int (p1 &&& (255 : Int32))), (.int (0 : Int32)), (.ref ch), (.ref ch), (.ref ps), (.ref ps)]))
    refine Gl.by (fun t_ k_ => XS.i2c X.here hx rfl (hb hby at_40) rfl k_) ?_
    show Gl p e below s room_1.cells room_1.slots (fun v h L => v = some (.int 1) ∧ Fr n0 L) (T.setTop (mkF m 41 #[.val (.int p0), .val (.int p1), .val (.int p2), .val (.int p3), .val (.int (1 : Int32)), .val (.int (0 : Int32)), .unset, .unset, .unset, .unset, .unset, .unset, .unset, .unset, .unset] [(.int ((p1 &&& (255 : Int32)).toUInt32.toUInt16.toUInt32.toInt32)), (.int (0 : Int32)), (.ref ch), (.ref ch), (.ref ps), (.ref ps)]))
    rw [(and255_char p1).1]
    show Gl p e below s room_1.cells room_1.slots (fun v h L => v = some (.int 1) ∧ Fr n0 L) (T.setTop (mkF m 41 #[.val (.int p0), .val (.int p1), .val (.int p2), .val (.int p3), .val (.int (1 : Int32)), .val (.int (0 : Int32)), .unset, .unset, .unset, .unset, .unset, .unset, .unset, .unset, .unset] [(.int ((p1 &&& (255 : Int32)))), (.int (0 : Int32)), (.ref ch), (.ref ch), (.ref ps), (.ref ps)]))
    obtain ⟨cl40, Ar40, q40, S40, M40, H40, G40⟩ := (id (V39) : Arv Z h39 ch k39 .char (3 : Int32) [(.int (0 : Int32)), (.int (0 : Int32)), (.int (0 : Int32))] (.int (0 : Int32)))
    obtain ⟨T, h40, X, eT, W40, st⟩ := stC X hx hZ eT Ar40 (j := (0 : Int32)) (inb_of S40 ⟨by decide, by decide⟩) (g := (mkF m 41 #[.val (.int p0), .val (.int p1), .val (.int p2), .val (.int p3), .val (.int (1 : Int32)), .val (.int (0 : Int32)), .unset, .unset, .unset, .unset, .unset, .unset, .unset, .unset, .unset] [(.int ((p1 &&& (255 : Int32)))), (.int (0 : Int32)), (.ref ch), (.ref ch), (.ref ps), (.ref ps)])) rfl rfl (hb hby at_41)
    have V40 : Arv Z h40 ch k39 .char (3 : Int32) [(.int (nar .char ((p1 &&& (255 : Int32))))), (.int (0 : Int32)), (.int (0 : Int32))] (.int (0 : Int32)) := Arv.set Ar40 q40 S40 M40 H40 G40 (fits_nar_char _) W40 0 rfl (Nat.le_of_ble_eq_true rfl)
    have sz40 := (Keep.of_wr W40).1
    have N := Fr.snoc X N (by omega)
    refine Gl.by st ?_
    show Gl p e below s room_1.cells room_1.slots (fun v h L => v = some (.int 1) ∧ Fr n0 L) (T.setTop (mkF m 42 #[.val (.int p0), .val (.int p1), .val (.int p2), .val (.int p3), .val (.int (1 : Int32)), .val (.int (0 : Int32)), .unset, .unset, .unset, .unset, .unset, .unset, .unset, .unset, .unset] [(.ref ch), (.ref ps), (.ref ps)]))
    refine Gl.by (fun t_ k_ => XS.dup X.here hx rfl (hb hby at_42) rfl rfl k_) ?_
    show Gl p e below s room_1.cells room_1.slots (fun v h L => v = some (.int 1) ∧ Fr n0 L) (T.setTop (mkF m 43 #[.val (.int p0), .val (.int p1), .val (.int p2), .val (.int p3), .val (.int (1 : Int32)), .val (.int (0 : Int32)), .unset, .unset, .unset, .unset, .unset, .unset, .unset, .unset, .unset] [(.ref ch), (.ref ch), (.ref ps), (.ref ps)]))
    refine Gl.by (fun t_ k_ => XS.iconst X.here hx rfl (hb hby at_43) k_) ?_
    show Gl p e below s room_1.cells room_1.slots (fun v h L => v = some (.int 1) ∧ Fr n0 L) (T.setTop (mkF m 44 #[.val (.int p0), .val (.int p1), .val (.int p2), .val (.int p3), .val (.int (1 : Int32)), .val (.int (0 : Int32)), .unset, .unset, .unset, .unset, .unset, .unset, .unset, .unset, .unset] [(.int (1 : Int32)), (.ref ch), (.ref ch), (.ref ps), (.ref ps)]))
    refine Gl.by (fun t_ k_ => XS.iloadN X.here hx rfl (hb hby at_44) rfl k_) ?_
    show Gl p e below s room_1.cells room_1.slots (fun v h L => v = some (.int 1) ∧ Fr n0 L) (T.setTop (mkF m 45 #[.val (.int p0), .val (.int p1), .val (.int p2), .val (.int p3), .val (.int (1 : Int32)), .val (.int (0 : Int32)), .unset, .unset, .unset, .unset, .unset, .unset, .unset, .unset, .unset] [(.int p2), (.int (1 : Int32)), (.ref ch), (.ref ch), (.ref ps), (.ref ps)]))
    refine Gl.by (fun t_ k_ => XS.sipush X.here hx rfl (hb hby at_45) k_) ?_
    show Gl p e below s room_1.cells room_1.slots (fun v h L => v = some (.int 1) ∧ Fr n0 L) (T.setTop (mkF m 48 #[.val (.int p0), .val (.int p1), .val (.int p2), .val (.int p3), .val (.int (1 : Int32)), .val (.int (0 : Int32)), .unset, .unset, .unset, .unset, .unset, .unset, .unset, .unset, .unset] [(.int (255 : Int32)), (.int p2), (.int (1 : Int32)), (.ref ch), (.ref ch), (.ref ps), (.ref ps)]))
    refine Gl.by (fun t_ k_ => XS.iand X.here hx rfl (hb hby at_48) rfl k_) ?_
    show Gl p e below s room_1.cells room_1.slots (fun v h L => v = some (.int 1) ∧ Fr n0 L) (T.setTop (mkF m 49 #[.val (.int p0), .val (.int p1), .val (.int p2), .val (.int p3), .val (.int (1 : Int32)), .val (.int (0 : Int32)), .unset, .unset, .unset, .unset, .unset, .unset, .unset, .unset, .unset] [(.int (p2 &&& (255 : Int32))), (.int (1 : Int32)), (.ref ch), (.ref ch), (.ref ps), (.ref ps)]))
    refine Gl.by (fun t_ k_ => XS.i2c X.here hx rfl (hb hby at_49) rfl k_) ?_
    show Gl p e below s room_1.cells room_1.slots (fun v h L => v = some (.int 1) ∧ Fr n0 L) (T.setTop (mkF m 50 #[.val (.int p0), .val (.int p1), .val (.int p2), .val (.int p3), .val (.int (1 : Int32)), .val (.int (0 : Int32)), .unset, .unset, .unset, .unset, .unset, .unset, .unset, .unset, .unset] [(.int ((p2 &&& (255 : Int32)).toUInt32.toUInt16.toUInt32.toInt32)), (.int (1 : Int32)), (.ref ch), (.ref ch), (.ref ps), (.ref ps)]))
    rw [(and255_char p2).1]
    show Gl p e below s room_1.cells room_1.slots (fun v h L => v = some (.int 1) ∧ Fr n0 L) (T.setTop (mkF m 50 #[.val (.int p0), .val (.int p1), .val (.int p2), .val (.int p3), .val (.int (1 : Int32)), .val (.int (0 : Int32)), .unset, .unset, .unset, .unset, .unset, .unset, .unset, .unset, .unset] [(.int ((p2 &&& (255 : Int32)))), (.int (1 : Int32)), (.ref ch), (.ref ch), (.ref ps), (.ref ps)]))
    obtain ⟨cl41, Ar41, q41, S41, M41, H41, G41⟩ := (id (V40) : Arv Z h40 ch k39 .char (3 : Int32) [(.int (nar .char ((p1 &&& (255 : Int32))))), (.int (0 : Int32)), (.int (0 : Int32))] (.int (0 : Int32)))
    obtain ⟨T, h41, X, eT, W41, st⟩ := stC X hx hZ eT Ar41 (j := (1 : Int32)) (inb_of S41 ⟨by decide, by decide⟩) (g := (mkF m 50 #[.val (.int p0), .val (.int p1), .val (.int p2), .val (.int p3), .val (.int (1 : Int32)), .val (.int (0 : Int32)), .unset, .unset, .unset, .unset, .unset, .unset, .unset, .unset, .unset] [(.int ((p2 &&& (255 : Int32)))), (.int (1 : Int32)), (.ref ch), (.ref ch), (.ref ps), (.ref ps)])) rfl rfl (hb hby at_50)
    have V41 : Arv Z h41 ch k39 .char (3 : Int32) [(.int (nar .char ((p1 &&& (255 : Int32))))), (.int (nar .char ((p2 &&& (255 : Int32))))), (.int (0 : Int32))] (.int (0 : Int32)) := Arv.set Ar41 q41 S41 M41 H41 G41 (fits_nar_char _) W41 1 rfl (Nat.le_of_ble_eq_true rfl)
    have sz41 := (Keep.of_wr W41).1
    have N := Fr.snoc X N (by omega)
    refine Gl.by st ?_
    show Gl p e below s room_1.cells room_1.slots (fun v h L => v = some (.int 1) ∧ Fr n0 L) (T.setTop (mkF m 51 #[.val (.int p0), .val (.int p1), .val (.int p2), .val (.int p3), .val (.int (1 : Int32)), .val (.int (0 : Int32)), .unset, .unset, .unset, .unset, .unset, .unset, .unset, .unset, .unset] [(.ref ch), (.ref ps), (.ref ps)]))
    refine Gl.by (fun t_ k_ => XS.dup X.here hx rfl (hb hby at_51) rfl rfl k_) ?_
    show Gl p e below s room_1.cells room_1.slots (fun v h L => v = some (.int 1) ∧ Fr n0 L) (T.setTop (mkF m 52 #[.val (.int p0), .val (.int p1), .val (.int p2), .val (.int p3), .val (.int (1 : Int32)), .val (.int (0 : Int32)), .unset, .unset, .unset, .unset, .unset, .unset, .unset, .unset, .unset] [(.ref ch), (.ref ch), (.ref ps), (.ref ps)]))
    refine Gl.by (fun t_ k_ => XS.iconst X.here hx rfl (hb hby at_52) k_) ?_
    show Gl p e below s room_1.cells room_1.slots (fun v h L => v = some (.int 1) ∧ Fr n0 L) (T.setTop (mkF m 53 #[.val (.int p0), .val (.int p1), .val (.int p2), .val (.int p3), .val (.int (1 : Int32)), .val (.int (0 : Int32)), .unset, .unset, .unset, .unset, .unset, .unset, .unset, .unset, .unset] [(.int (2 : Int32)), (.ref ch), (.ref ch), (.ref ps), (.ref ps)]))
    refine Gl.by (fun t_ k_ => XS.iloadN X.here hx rfl (hb hby at_53) rfl k_) ?_
    show Gl p e below s room_1.cells room_1.slots (fun v h L => v = some (.int 1) ∧ Fr n0 L) (T.setTop (mkF m 54 #[.val (.int p0), .val (.int p1), .val (.int p2), .val (.int p3), .val (.int (1 : Int32)), .val (.int (0 : Int32)), .unset, .unset, .unset, .unset, .unset, .unset, .unset, .unset, .unset] [(.int p3), (.int (2 : Int32)), (.ref ch), (.ref ch), (.ref ps), (.ref ps)]))
    refine Gl.by (fun t_ k_ => XS.sipush X.here hx rfl (hb hby at_54) k_) ?_
    show Gl p e below s room_1.cells room_1.slots (fun v h L => v = some (.int 1) ∧ Fr n0 L) (T.setTop (mkF m 57 #[.val (.int p0), .val (.int p1), .val (.int p2), .val (.int p3), .val (.int (1 : Int32)), .val (.int (0 : Int32)), .unset, .unset, .unset, .unset, .unset, .unset, .unset, .unset, .unset] [(.int (255 : Int32)), (.int p3), (.int (2 : Int32)), (.ref ch), (.ref ch), (.ref ps), (.ref ps)]))
    refine Gl.by (fun t_ k_ => XS.iand X.here hx rfl (hb hby at_57) rfl k_) ?_
    show Gl p e below s room_1.cells room_1.slots (fun v h L => v = some (.int 1) ∧ Fr n0 L) (T.setTop (mkF m 58 #[.val (.int p0), .val (.int p1), .val (.int p2), .val (.int p3), .val (.int (1 : Int32)), .val (.int (0 : Int32)), .unset, .unset, .unset, .unset, .unset, .unset, .unset, .unset, .unset] [(.int (p3 &&& (255 : Int32))), (.int (2 : Int32)), (.ref ch), (.ref ch), (.ref ps), (.ref ps)]))
    refine Gl.by (fun t_ k_ => XS.i2c X.here hx rfl (hb hby at_58) rfl k_) ?_
    show Gl p e below s room_1.cells room_1.slots (fun v h L => v = some (.int 1) ∧ Fr n0 L) (T.setTop (mkF m 59 #[.val (.int p0), .val (.int p1), .val (.int p2), .val (.int p3), .val (.int (1 : Int32)), .val (.int (0 : Int32)), .unset, .unset, .unset, .unset, .unset, .unset, .unset, .unset, .unset] [(.int ((p3 &&& (255 : Int32)).toUInt32.toUInt16.toUInt32.toInt32)), (.int (2 : Int32)), (.ref ch), (.ref ch), (.ref ps), (.ref ps)]))
    rw [(and255_char p3).1]
    show Gl p e below s room_1.cells room_1.slots (fun v h L => v = some (.int 1) ∧ Fr n0 L) (T.setTop (mkF m 59 #[.val (.int p0), .val (.int p1), .val (.int p2), .val (.int p3), .val (.int (1 : Int32)), .val (.int (0 : Int32)), .unset, .unset, .unset, .unset, .unset, .unset, .unset, .unset, .unset] [(.int ((p3 &&& (255 : Int32)))), (.int (2 : Int32)), (.ref ch), (.ref ch), (.ref ps), (.ref ps)]))
    obtain ⟨cl42, Ar42, q42, S42, M42, H42, G42⟩ := (id (V41) : Arv Z h41 ch k39 .char (3 : Int32) [(.int (nar .char ((p1 &&& (255 : Int32))))), (.int (nar .char ((p2 &&& (255 : Int32))))), (.int (0 : Int32))] (.int (0 : Int32)))
    obtain ⟨T, h42, X, eT, W42, st⟩ := stC X hx hZ eT Ar42 (j := (2 : Int32)) (inb_of S42 ⟨by decide, by decide⟩) (g := (mkF m 59 #[.val (.int p0), .val (.int p1), .val (.int p2), .val (.int p3), .val (.int (1 : Int32)), .val (.int (0 : Int32)), .unset, .unset, .unset, .unset, .unset, .unset, .unset, .unset, .unset] [(.int ((p3 &&& (255 : Int32)))), (.int (2 : Int32)), (.ref ch), (.ref ch), (.ref ps), (.ref ps)])) rfl rfl (hb hby at_59)
    have V42 : Arv Z h42 ch k39 .char (3 : Int32) [(.int (nar .char ((p1 &&& (255 : Int32))))), (.int (nar .char ((p2 &&& (255 : Int32))))), (.int (nar .char ((p3 &&& (255 : Int32)))))] (.int (0 : Int32)) := Arv.set Ar42 q42 S42 M42 H42 G42 (fits_nar_char _) W42 2 rfl (Nat.le_of_ble_eq_true rfl)
    have sz42 := (Keep.of_wr W42).1
    have N := Fr.snoc X N (by omega)
    refine Gl.by st ?_
    show Gl p e below s room_1.cells room_1.slots (fun v h L => v = some (.int 1) ∧ Fr n0 L) (T.setTop (mkF m 60 #[.val (.int p0), .val (.int p1), .val (.int p2), .val (.int p3), .val (.int (1 : Int32)), .val (.int (0 : Int32)), .unset, .unset, .unset, .unset, .unset, .unset, .unset, .unset, .unset] [(.ref ch), (.ref ps), (.ref ps)]))
    have V43 : Arv Z h42 ch k39 .char (3 : Int32) (([(p1 &&& (255 : Int32)), (p2 &&& (255 : Int32)), (p3 &&& (255 : Int32))] : List Int32).map Value.int) (.int 0) := by
      have q := V42
      rw [ra1, ra2, ra3] at q
      exact q
    have O43 := (((((O.ext E38).ext E39).wr W40 (by omega)).wr W41 (by omega)).wr W42 (by omega))
    refine Gl.spec X hx hZ rfl hown (hw _ (List.mem_of_getElem? (i := 4) rfl)) (hw _ (List.mem_of_getElem? (i := 5) rfl)) (hw _ (List.mem_of_getElem? (i := 6) rfl)) (by decide) (W := 1) (payNew (n := 3) (n0 := n0) hZ (own_words hw) (hw _ (List.mem_of_getElem? (i := 1) rfl)) ([(p1 &&& (255 : Int32)), (p2 &&& (255 : Int32)), (p3 &&& (255 : Int32))] : List Int32) (by omega) (by omega) ((((A38.ext E39).wr W40).wr W41).wr W42) ((((F38_value.ext E39).other W40 (Or.inl (nea (by omega)))).other W41 (Or.inl (nea (by omega)))).other W42 (Or.inl (nea (by omega)))) ((((F38_coder.ext E39).other W40 (Or.inl (nea (by omega)))).other W41 (Or.inl (nea (by omega)))).other W42 (Or.inl (nea (by omega)))) V43 S hz O43 rfl rfl (by decide) (by decide) hp (by decide) (by decide)) eT (hb hby at_60) (by rw [hml]; rfl) ps [(.ref ch)] [(.ref ps)] (lenOf pd_17 rfl) rfl rfl (Nat.le_of_eq rfl) (by decide) (by decide) ?_
    intro v T L X hq
    obtain ⟨rfl, NQ, K44, SQ44⟩ := hq
    have N := Fr.app N NQ
    obtain ⟨h44, eT⟩ : ∃ z, T.heap = z := ⟨_, rfl⟩
    rw [eT] at K44 SQ44
    have sz44 := K44.1
    show Gl p e below s room_1.cells room_1.slots (fun v h L => v = some (.int 1) ∧ Fr n0 L) (T.setTop (mkF m 63 #[.val (.int p0), .val (.int p1), .val (.int p2), .val (.int p3), .val (.int (1 : Int32)), .val (.int (0 : Int32)), .unset, .unset, .unset, .unset, .unset, .unset, .unset, .unset, .unset] [(.ref ps)]))
    refine Gl.by (fun t_ k_ => XS.astore X.here hx rfl (hb hby at_63) rfl rfl (l' := #[.val (.int p0), .val (.int p1), .val (.int p2), .val (.int p3), .val (.int (1 : Int32)), .val (.int (0 : Int32)), .val (.ref ps), .unset, .unset, .unset, .unset, .unset, .unset, .unset, .unset]) rfl k_) ?_
    show Gl p e below s room_1.cells room_1.slots (fun v h L => v = some (.int 1) ∧ Fr n0 L) (T.setTop (mkF m 65 #[.val (.int p0), .val (.int p1), .val (.int p2), .val (.int p3), .val (.int (1 : Int32)), .val (.int (0 : Int32)), .val (.ref ps), .unset, .unset, .unset, .unset, .unset, .unset, .unset, .unset] []))
    obtain ⟨T, h45, X, eT, E45, A45, D45, -, st⟩ := newO X hx hZ hown (hw _ (List.mem_of_getElem? (i := 30) rfl)) (hw _ (List.mem_of_getElem? (i := 31) rfl)) (hw _ (List.mem_of_getElem? (i := 32) rfl)) eT (g := (mkF m 65 #[.val (.int p0), .val (.int p1), .val (.int p2), .val (.int p3), .val (.int (1 : Int32)), .val (.int (0 : Int32)), .val (.ref ps), .unset, .unset, .unset, .unset, .unset, .unset, .unset, .unset] [])) rfl (hb hby at_65) (by decide) (by decide)
    obtain ⟨tv, g45⟩ : ∃ z, z = h44.size := ⟨_, rfl⟩
    rw [← g45] at A45 D45 st
    have sz45 := E45.1
    have lt45 : tv < h45.size := A45.lt
    refine Gl.by st ?_
    have F45_name : Fld Z h45 tv "com/example/intentio/intentio/hddl/Term$Variable" "name" "Ljava/lang/String;" .null := D45 (Or.inr (hw _ (List.mem_of_getElem? (i := 57) rfl))) (ty := (.object "java/lang/String")) (by decide)
    have F45_type : Fld Z h45 tv "com/example/intentio/intentio/hddl/Term$Variable" "type" "Lcom/example/intentio/intentio/hddl/Type;" .null := D45 (Or.inr (hw _ (List.mem_of_getElem? (i := 59) rfl))) (ty := (.object "com/example/intentio/intentio/hddl/Type")) (by decide)
    show Gl p e below s room_1.cells room_1.slots (fun v h L => v = some (.int 1) ∧ Fr n0 L) (T.setTop (mkF m 68 #[.val (.int p0), .val (.int p1), .val (.int p2), .val (.int p3), .val (.int (1 : Int32)), .val (.int (0 : Int32)), .val (.ref ps), .unset, .unset, .unset, .unset, .unset, .unset, .unset, .unset] [(.ref tv)]))
    refine Gl.by (fun t_ k_ => XS.dup X.here hx rfl (hb hby at_68) rfl rfl k_) ?_
    show Gl p e below s room_1.cells room_1.slots (fun v h L => v = some (.int 1) ∧ Fr n0 L) (T.setTop (mkF m 69 #[.val (.int p0), .val (.int p1), .val (.int p2), .val (.int p3), .val (.int (1 : Int32)), .val (.int (0 : Int32)), .val (.ref ps), .unset, .unset, .unset, .unset, .unset, .unset, .unset, .unset] [(.ref tv), (.ref tv)]))
    refine Gl.by (fun t_ k_ => XS.iloadN X.here hx rfl (hb hby at_69) rfl k_) ?_
    show Gl p e below s room_1.cells room_1.slots (fun v h L => v = some (.int 1) ∧ Fr n0 L) (T.setTop (mkF m 70 #[.val (.int p0), .val (.int p1), .val (.int p2), .val (.int p3), .val (.int (1 : Int32)), .val (.int (0 : Int32)), .val (.ref ps), .unset, .unset, .unset, .unset, .unset, .unset, .unset, .unset] [(.int p0), (.ref tv), (.ref tv)]))
    refine Gl.by (fun t_ k_ => XS.bipush X.here hx rfl (hb hby at_70) k_) ?_
    show Gl p e below s room_1.cells room_1.slots (fun v h L => v = some (.int 1) ∧ Fr n0 L) (T.setTop (mkF m 72 #[.val (.int p0), .val (.int p1), .val (.int p2), .val (.int p3), .val (.int (1 : Int32)), .val (.int (0 : Int32)), .val (.ref ps), .unset, .unset, .unset, .unset, .unset, .unset, .unset, .unset] [(.int (8 : Int32)), (.int p0), (.ref tv), (.ref tv)]))
    refine Gl.by (fun t_ k_ => XS.iushr X.here hx rfl (hb hby at_72) rfl k_) ?_
    show Gl p e below s room_1.cells room_1.slots (fun v h L => v = some (.int 1) ∧ Fr n0 L) (T.setTop (mkF m 73 #[.val (.int p0), .val (.int p1), .val (.int p2), .val (.int p3), .val (.int (1 : Int32)), .val (.int (0 : Int32)), .val (.ref ps), .unset, .unset, .unset, .unset, .unset, .unset, .unset, .unset] [(.int ((p0.toUInt32 >>> ((8 : Int32) &&& 31).toUInt32).toInt32)), (.ref tv), (.ref tv)]))
    refine Gl.by (fun t_ k_ => XS.sipush X.here hx rfl (hb hby at_73) k_) ?_
    show Gl p e below s room_1.cells room_1.slots (fun v h L => v = some (.int 1) ∧ Fr n0 L) (T.setTop (mkF m 76 #[.val (.int p0), .val (.int p1), .val (.int p2), .val (.int p3), .val (.int (1 : Int32)), .val (.int (0 : Int32)), .val (.ref ps), .unset, .unset, .unset, .unset, .unset, .unset, .unset, .unset] [(.int (255 : Int32)), (.int ((p0.toUInt32 >>> ((8 : Int32) &&& 31).toUInt32).toInt32)), (.ref tv), (.ref tv)]))
    refine Gl.by (fun t_ k_ => XS.iand X.here hx rfl (hb hby at_76) rfl k_) ?_
    show Gl p e below s room_1.cells room_1.slots (fun v h L => v = some (.int 1) ∧ Fr n0 L) (T.setTop (mkF m 77 #[.val (.int p0), .val (.int p1), .val (.int p2), .val (.int p3), .val (.int (1 : Int32)), .val (.int (0 : Int32)), .val (.ref ps), .unset, .unset, .unset, .unset, .unset, .unset, .unset, .unset] [(.int (((p0.toUInt32 >>> ((8 : Int32) &&& 31).toUInt32).toInt32) &&& (255 : Int32))), (.ref tv), (.ref tv)]))
    refine Gl.by (fun t_ k_ => XS.i2c X.here hx rfl (hb hby at_77) rfl k_) ?_
    show Gl p e below s room_1.cells room_1.slots (fun v h L => v = some (.int 1) ∧ Fr n0 L) (T.setTop (mkF m 78 #[.val (.int p0), .val (.int p1), .val (.int p2), .val (.int p3), .val (.int (1 : Int32)), .val (.int (0 : Int32)), .val (.ref ps), .unset, .unset, .unset, .unset, .unset, .unset, .unset, .unset] [(.int ((((p0.toUInt32 >>> ((8 : Int32) &&& 31).toUInt32).toInt32) &&& (255 : Int32)).toUInt32.toUInt16.toUInt32.toInt32)), (.ref tv), (.ref tv)]))
    rw [(and255_char ((p0.toUInt32 >>> ((8 : Int32) &&& 31).toUInt32).toInt32)).1]
    show Gl p e below s room_1.cells room_1.slots (fun v h L => v = some (.int 1) ∧ Fr n0 L) (T.setTop (mkF m 78 #[.val (.int p0), .val (.int p1), .val (.int p2), .val (.int p3), .val (.int (1 : Int32)), .val (.int (0 : Int32)), .val (.ref ps), .unset, .unset, .unset, .unset, .unset, .unset, .unset, .unset] [(.int ((((p0.toUInt32 >>> ((8 : Int32) &&& 31).toUInt32).toInt32) &&& (255 : Int32)))), (.ref tv), (.ref tv)]))
    refine Gl.stat X hx hZ hown (hw _ (List.mem_of_getElem? (i := 33) rfl)) (hw _ (List.mem_of_getElem? (i := 34) rfl)) (hw _ (List.mem_of_getElem? (i := 2) rfl)) (hw _ (List.mem_of_getElem? (i := 35) rfl)) (by decide) (W := 2) (backC (own_vof l Z a0 hw (((p0.toUInt32 >>> ((8 : Int32) &&& 31).toUInt32).toInt32) &&& (255 : Int32)) z h45 n0 (by omega) sa8.2 S hz ((O43.keep K44 (allS (by omega) all0)).ext E45)) hZ (hw _ (List.mem_of_getElem? (i := 35) rfl)) (hw _ (List.mem_of_getElem? (i := 2) rfl)) (by decide) (by decide)) eT (hb hby at_78) (by rw [hml]; rfl) [(.int ((((p0.toUInt32 >>> ((8 : Int32) &&& 31).toUInt32).toInt32) &&& (255 : Int32))))] [(.ref tv), (.ref tv)] (lenOf pd_18 rfl) rfl rfl (Nat.le_of_eq rfl) (by decide) (by decide) ?_
    intro v T L X hq
    obtain ⟨NQ, K46, sx, rfl, ge46⟩ := hq
    have N := Fr.app N NQ
    obtain ⟨h46, eT⟩ : ∃ z, T.heap = z := ⟨_, rfl⟩
    rw [eT] at K46
    have sz46 := K46.1
    show Gl p e below s room_1.cells room_1.slots (fun v h L => v = some (.int 1) ∧ Fr n0 L) (T.setTop (mkF m 81 #[.val (.int p0), .val (.int p1), .val (.int p2), .val (.int p3), .val (.int (1 : Int32)), .val (.int (0 : Int32)), .val (.ref ps), .unset, .unset, .unset, .unset, .unset, .unset, .unset, .unset] [(.ref sx), (.ref tv), (.ref tv)]))
    refine Gl.by (fun t_ k_ => XS.aconstNull X.here hx rfl (hb hby at_81) k_) ?_
    show Gl p e below s room_1.cells room_1.slots (fun v h L => v = some (.int 1) ∧ Fr n0 L) (T.setTop (mkF m 82 #[.val (.int p0), .val (.int p1), .val (.int p2), .val (.int p3), .val (.int (1 : Int32)), .val (.int (0 : Int32)), .val (.ref ps), .unset, .unset, .unset, .unset, .unset, .unset, .unset, .unset] [.null, (.ref sx), (.ref tv), (.ref tv)]))
    refine Gl.spec X hx hZ rfl hown (hw _ (List.mem_of_getElem? (i := 47) rfl)) (hw _ (List.mem_of_getElem? (i := 48) rfl)) (hw _ (List.mem_of_getElem? (i := 49) rfl)) (by decide) (W := 1) (backC (own_tvi l Z a0 hw tv sx h46 n0 (by omega) (A45.keep K46) (F45_name.keep K46 nin0) (F45_type.keep K46 nin0)) hZ (hw _ (List.mem_of_getElem? (i := 49) rfl)) (hw _ (List.mem_of_getElem? (i := 32) rfl)) (by decide) (by decide)) eT (hb hby at_82) (by rw [hml]; rfl) tv [(.ref sx), .null] [(.ref tv)] (lenOf pd_19 rfl) rfl rfl (Nat.le_of_eq rfl) (by decide) (by decide) ?_
    intro v T L X hq
    obtain ⟨rfl, NQ, K47, Q47⟩ := hq
    have N := Fr.app N NQ
    obtain ⟨h47, eT⟩ : ∃ z, T.heap = z := ⟨_, rfl⟩
    rw [eT] at K47 Q47
    have sz47 := K47.1
    show Gl p e below s room_1.cells room_1.slots (fun v h L => v = some (.int 1) ∧ Fr n0 L) (T.setTop (mkF m 85 #[.val (.int p0), .val (.int p1), .val (.int p2), .val (.int p3), .val (.int (1 : Int32)), .val (.int (0 : Int32)), .val (.ref ps), .unset, .unset, .unset, .unset, .unset, .unset, .unset, .unset] [(.ref tv)]))
    refine Gl.by (fun t_ k_ => XS.astore X.here hx rfl (hb hby at_85) rfl rfl (l' := #[.val (.int p0), .val (.int p1), .val (.int p2), .val (.int p3), .val (.int (1 : Int32)), .val (.int (0 : Int32)), .val (.ref ps), .val (.ref tv), .unset, .unset, .unset, .unset, .unset, .unset, .unset]) rfl k_) ?_
    show Gl p e below s room_1.cells room_1.slots (fun v h L => v = some (.int 1) ∧ Fr n0 L) (T.setTop (mkF m 87 #[.val (.int p0), .val (.int p1), .val (.int p2), .val (.int p3), .val (.int (1 : Int32)), .val (.int (0 : Int32)), .val (.ref ps), .val (.ref tv), .unset, .unset, .unset, .unset, .unset, .unset, .unset] []))
    obtain ⟨T, h48, X, eT, E48, A48, D48, -, st⟩ := newO X hx hZ hown (hw _ (List.mem_of_getElem? (i := 60) rfl)) (hw _ (List.mem_of_getElem? (i := 61) rfl)) (hw _ (List.mem_of_getElem? (i := 62) rfl)) eT (g := (mkF m 87 #[.val (.int p0), .val (.int p1), .val (.int p2), .val (.int p3), .val (.int (1 : Int32)), .val (.int (0 : Int32)), .val (.ref ps), .val (.ref tv), .unset, .unset, .unset, .unset, .unset, .unset, .unset] [])) rfl (hb hby at_87) (by decide) (by decide)
    obtain ⟨al, g48⟩ : ∃ z, z = h47.size := ⟨_, rfl⟩
    rw [← g48] at A48 D48 st
    have sz48 := E48.1
    have lt48 : al < h48.size := A48.lt
    refine Gl.by st ?_
    have F48_elementData : Fld Z h48 al "java/util/ArrayList" "elementData" "[Ljava/lang/Object;" .null := D48 (Or.inl (hw _ (List.mem_of_getElem? (i := 83) rfl))) (ty := (.array (.object "java/lang/Object"))) (by decide)
    have F48_size : Fld Z h48 al "java/util/ArrayList" "size" "I" (.int (0 : Int32)) := D48 (Or.inl (hw _ (List.mem_of_getElem? (i := 115) rfl))) (ty := .int) (by decide)
    have F48_modCount : Fld Z h48 al "java/util/AbstractList" "modCount" "I" (.int (0 : Int32)) := D48 (Or.inl (hw _ (List.mem_of_getElem? (i := 80) rfl))) (ty := .int) (by decide)
    show Gl p e below s room_1.cells room_1.slots (fun v h L => v = some (.int 1) ∧ Fr n0 L) (T.setTop (mkF m 90 #[.val (.int p0), .val (.int p1), .val (.int p2), .val (.int p3), .val (.int (1 : Int32)), .val (.int (0 : Int32)), .val (.ref ps), .val (.ref tv), .unset, .unset, .unset, .unset, .unset, .unset, .unset] [(.ref al)]))
    refine Gl.by (fun t_ k_ => XS.dup X.here hx rfl (hb hby at_90) rfl rfl k_) ?_
    show Gl p e below s room_1.cells room_1.slots (fun v h L => v = some (.int 1) ∧ Fr n0 L) (T.setTop (mkF m 91 #[.val (.int p0), .val (.int p1), .val (.int p2), .val (.int p3), .val (.int (1 : Int32)), .val (.int (0 : Int32)), .val (.ref ps), .val (.ref tv), .unset, .unset, .unset, .unset, .unset, .unset, .unset] [(.ref al), (.ref al)]))
    refine Gl.spec X hx hZ rfl hown (hw _ (List.mem_of_getElem? (i := 63) rfl)) (hw _ (List.mem_of_getElem? (i := 64) rfl)) (hw _ (List.mem_of_getElem? (i := 65) rfl)) (by decide) (W := 1) (backC (own_ali l Z a0 hw al dc el mr em h48 n0 (by omega) A48 F48_elementData F48_size F48_modCount (((((O43.keep K44 (allS (by omega) all0)).ext E45).keep K46 all0).keep K47 (allS (by omega) all0)).ext E48) K) hZ (hw _ (List.mem_of_getElem? (i := 65) rfl)) (hw _ (List.mem_of_getElem? (i := 62) rfl)) (by decide) (by decide)) eT (hb hby at_91) (by rw [hml]; rfl) al [] [(.ref al)] (lenOf pd_0 rfl) rfl rfl (Nat.le_of_eq rfl) (by decide) (by decide) ?_
    intro v T L X hq
    obtain ⟨rfl, NQ, K49, A49⟩ := hq
    have N := Fr.app N NQ
    obtain ⟨h49, eT⟩ : ∃ z, T.heap = z := ⟨_, rfl⟩
    rw [eT] at K49 A49
    have sz49 := K49.1
    show Gl p e below s room_1.cells room_1.slots (fun v h L => v = some (.int 1) ∧ Fr n0 L) (T.setTop (mkF m 94 #[.val (.int p0), .val (.int p1), .val (.int p2), .val (.int p3), .val (.int (1 : Int32)), .val (.int (0 : Int32)), .val (.ref ps), .val (.ref tv), .unset, .unset, .unset, .unset, .unset, .unset, .unset] [(.ref al)]))
    refine Gl.by (fun t_ k_ => XS.astore X.here hx rfl (hb hby at_94) rfl rfl (l' := #[.val (.int p0), .val (.int p1), .val (.int p2), .val (.int p3), .val (.int (1 : Int32)), .val (.int (0 : Int32)), .val (.ref ps), .val (.ref tv), .val (.ref al), .unset, .unset, .unset, .unset, .unset, .unset]) rfl k_) ?_
    show Gl p e below s room_1.cells room_1.slots (fun v h L => v = some (.int 1) ∧ Fr n0 L) (T.setTop (mkF m 96 #[.val (.int p0), .val (.int p1), .val (.int p2), .val (.int p3), .val (.int (1 : Int32)), .val (.int (0 : Int32)), .val (.ref ps), .val (.ref tv), .val (.ref al), .unset, .unset, .unset, .unset, .unset, .unset] []))
    refine Gl.by (fun t_ k_ => XS.iload X.here hx rfl (hb hby at_96) rfl k_) ?_
    show Gl p e below s room_1.cells room_1.slots (fun v h L => v = some (.int 1) ∧ Fr n0 L) (T.setTop (mkF m 98 #[.val (.int p0), .val (.int p1), .val (.int p2), .val (.int p3), .val (.int (1 : Int32)), .val (.int (0 : Int32)), .val (.ref ps), .val (.ref tv), .val (.ref al), .unset, .unset, .unset, .unset, .unset, .unset] [(.int (0 : Int32))]))
    refine Gl.by (fun t_ k_ => XS.ifYes X.here hx rfl (pc0 := 98) (pc' := 109) rfl (hb hby at_98) rfl ((if0 _ _).trans (teq (rfl : (0 : Int32) = 0)).1) (by decide) (by decide) k_) ?_
    show Gl p e below s room_1.cells room_1.slots (fun v h L => v = some (.int 1) ∧ Fr n0 L) (T.setTop (mkF m 109 #[.val (.int p0), .val (.int p1), .val (.int p2), .val (.int p3), .val (.int (1 : Int32)), .val (.int (0 : Int32)), .val (.ref ps), .val (.ref tv), .val (.ref al), .unset, .unset, .unset, .unset, .unset, .unset] []))
    obtain ⟨T, h50, X, eT, E50, A50, D50, -, st⟩ := newO X hx hZ hown (hw _ (List.mem_of_getElem? (i := 84) rfl)) (hw _ (List.mem_of_getElem? (i := 85) rfl)) (hw _ (List.mem_of_getElem? (i := 86) rfl)) eT (g := (mkF m 109 #[.val (.int p0), .val (.int p1), .val (.int p2), .val (.int p3), .val (.int (1 : Int32)), .val (.int (0 : Int32)), .val (.ref ps), .val (.ref tv), .val (.ref al), .unset, .unset, .unset, .unset, .unset, .unset] [])) rfl (hb hby at_109) (by decide) (by decide)
    obtain ⟨ao, g50⟩ : ∃ z, z = h49.size := ⟨_, rfl⟩
    rw [← g50] at A50 D50 st
    have sz50 := E50.1
    have lt50 : ao < h50.size := A50.lt
    refine Gl.by st ?_
    have F50_predicate : Fld Z h50 ao "com/example/intentio/intentio/hddl/Atom" "predicate" "Ljava/lang/String;" .null := D50 (Or.inr (hw _ (List.mem_of_getElem? (i := 121) rfl))) (ty := (.object "java/lang/String")) (by decide)
    have F50_arguments : Fld Z h50 ao "com/example/intentio/intentio/hddl/Atom" "arguments" "Ljava/util/List;" .null := D50 (Or.inr (hw _ (List.mem_of_getElem? (i := 123) rfl))) (ty := (.object "java/util/List")) (by decide)
    show Gl p e below s room_1.cells room_1.slots (fun v h L => v = some (.int 1) ∧ Fr n0 L) (T.setTop (mkF m 112 #[.val (.int p0), .val (.int p1), .val (.int p2), .val (.int p3), .val (.int (1 : Int32)), .val (.int (0 : Int32)), .val (.ref ps), .val (.ref tv), .val (.ref al), .unset, .unset, .unset, .unset, .unset, .unset] [(.ref ao)]))
    refine Gl.by (fun t_ k_ => XS.dup X.here hx rfl (hb hby at_112) rfl rfl k_) ?_
    show Gl p e below s room_1.cells room_1.slots (fun v h L => v = some (.int 1) ∧ Fr n0 L) (T.setTop (mkF m 113 #[.val (.int p0), .val (.int p1), .val (.int p2), .val (.int p3), .val (.int (1 : Int32)), .val (.int (0 : Int32)), .val (.ref ps), .val (.ref tv), .val (.ref al), .unset, .unset, .unset, .unset, .unset, .unset] [(.ref ao), (.ref ao)]))
    refine Gl.by (fun t_ k_ => XS.aload X.here hx rfl (hb hby at_113) rfl rfl k_) ?_
    show Gl p e below s room_1.cells room_1.slots (fun v h L => v = some (.int 1) ∧ Fr n0 L) (T.setTop (mkF m 115 #[.val (.int p0), .val (.int p1), .val (.int p2), .val (.int p3), .val (.int (1 : Int32)), .val (.int (0 : Int32)), .val (.ref ps), .val (.ref tv), .val (.ref al), .unset, .unset, .unset, .unset, .unset, .unset] [(.ref ps), (.ref ao), (.ref ao)]))
    refine Gl.by (fun t_ k_ => XS.aload X.here hx rfl (hb hby at_115) rfl rfl k_) ?_
    show Gl p e below s room_1.cells room_1.slots (fun v h L => v = some (.int 1) ∧ Fr n0 L) (T.setTop (mkF m 117 #[.val (.int p0), .val (.int p1), .val (.int p2), .val (.int p3), .val (.int (1 : Int32)), .val (.int (0 : Int32)), .val (.ref ps), .val (.ref tv), .val (.ref al), .unset, .unset, .unset, .unset, .unset, .unset] [(.ref al), (.ref ps), (.ref ao), (.ref ao)]))
    refine Gl.spec X hx hZ rfl hown (hw _ (List.mem_of_getElem? (i := 87) rfl)) (hw _ (List.mem_of_getElem? (i := 88) rfl)) (hw _ (List.mem_of_getElem? (i := 89) rfl)) (by decide) (W := 1) (backC (own_at0 l Z a0 hw ao ps al dc 0 dc el mr em h50 n0 (by omega) A50 F50_predicate F50_arguments ⟨((A48.keep K49).ext E50), (A49.2.1.ext E50), (A49.2.2.1.ext E50), (A49.2.2.2.ext E50)⟩ (((((((O43.keep K44 (allS (by omega) all0)).ext E45).keep K46 all0).keep K47 (allS (by omega) all0)).ext E48).keep K49 (allS (by omega) all0)).ext E50) K) hZ (hw _ (List.mem_of_getElem? (i := 89) rfl)) (hw _ (List.mem_of_getElem? (i := 86) rfl)) (by decide) (by decide)) eT (hb hby at_117) (by rw [hml]; rfl) ao [(.ref ps), (.ref al)] [(.ref ao)] (lenOf pd_20 rfl) rfl rfl (Nat.le_of_eq rfl) (by decide) (by decide) ?_
    intro v T L X hq
    obtain ⟨rfl, NQ, K51, EA51, FP51, FA51⟩ := hq
    have N := Fr.app N NQ
    obtain ⟨h51, eT⟩ : ∃ z, T.heap = z := ⟨_, rfl⟩
    rw [eT] at K51 EA51 FP51 FA51
    have sz51 := K51.1
    show Gl p e below s room_1.cells room_1.slots (fun v h L => v = some (.int 1) ∧ Fr n0 L) (T.setTop (mkF m 120 #[.val (.int p0), .val (.int p1), .val (.int p2), .val (.int p3), .val (.int (1 : Int32)), .val (.int (0 : Int32)), .val (.ref ps), .val (.ref tv), .val (.ref al), .unset, .unset, .unset, .unset, .unset, .unset] [(.ref ao)]))
    refine Gl.by (fun t_ k_ => XS.astore X.here hx rfl (hb hby at_120) rfl rfl (l' := #[.val (.int p0), .val (.int p1), .val (.int p2), .val (.int p3), .val (.int (1 : Int32)), .val (.int (0 : Int32)), .val (.ref ps), .val (.ref tv), .val (.ref al), .val (.ref ao), .unset, .unset, .unset, .unset, .unset]) rfl k_) ?_
    show Gl p e below s room_1.cells room_1.slots (fun v h L => v = some (.int 1) ∧ Fr n0 L) (T.setTop (mkF m 122 #[.val (.int p0), .val (.int p1), .val (.int p2), .val (.int p3), .val (.int (1 : Int32)), .val (.int (0 : Int32)), .val (.ref ps), .val (.ref tv), .val (.ref al), .val (.ref ao), .unset, .unset, .unset, .unset, .unset] []))
    obtain ⟨T, h52, X, eT, E52, A52, D52, -, st⟩ := newO X hx hZ hown (hw _ (List.mem_of_getElem? (i := 124) rfl)) (hw _ (List.mem_of_getElem? (i := 125) rfl)) (hw _ (List.mem_of_getElem? (i := 126) rfl)) eT (g := (mkF m 122 #[.val (.int p0), .val (.int p1), .val (.int p2), .val (.int p3), .val (.int (1 : Int32)), .val (.int (0 : Int32)), .val (.ref ps), .val (.ref tv), .val (.ref al), .val (.ref ao), .unset, .unset, .unset, .unset, .unset] [])) rfl (hb hby at_122) (by decide) (by decide)
    obtain ⟨la, g52⟩ : ∃ z, z = h51.size := ⟨_, rfl⟩
    rw [← g52] at A52 D52 st
    have sz52 := E52.1
    have lt52 : la < h52.size := A52.lt
    refine Gl.by st ?_
    have F52_atom : Fld Z h52 la "com/example/intentio/intentio/hddl/Literal" "atom" "Lcom/example/intentio/intentio/hddl/Atom;" .null := D52 (Or.inr (hw _ (List.mem_of_getElem? (i := 132) rfl))) (ty := (.object "com/example/intentio/intentio/hddl/Atom")) (by decide)
    have F52_positive : Fld Z h52 la "com/example/intentio/intentio/hddl/Literal" "positive" "Z" (.int (0 : Int32)) := D52 (Or.inr (hw _ (List.mem_of_getElem? (i := 134) rfl))) (ty := .boolean) (by decide)
    show Gl p e below s room_1.cells room_1.slots (fun v h L => v = some (.int 1) ∧ Fr n0 L) (T.setTop (mkF m 125 #[.val (.int p0), .val (.int p1), .val (.int p2), .val (.int p3), .val (.int (1 : Int32)), .val (.int (0 : Int32)), .val (.ref ps), .val (.ref tv), .val (.ref al), .val (.ref ao), .unset, .unset, .unset, .unset, .unset] [(.ref la)]))
    refine Gl.by (fun t_ k_ => XS.dup X.here hx rfl (hb hby at_125) rfl rfl k_) ?_
    show Gl p e below s room_1.cells room_1.slots (fun v h L => v = some (.int 1) ∧ Fr n0 L) (T.setTop (mkF m 126 #[.val (.int p0), .val (.int p1), .val (.int p2), .val (.int p3), .val (.int (1 : Int32)), .val (.int (0 : Int32)), .val (.ref ps), .val (.ref tv), .val (.ref al), .val (.ref ao), .unset, .unset, .unset, .unset, .unset] [(.ref la), (.ref la)]))
    refine Gl.by (fun t_ k_ => XS.aload X.here hx rfl (hb hby at_126) rfl rfl k_) ?_
    show Gl p e below s room_1.cells room_1.slots (fun v h L => v = some (.int 1) ∧ Fr n0 L) (T.setTop (mkF m 128 #[.val (.int p0), .val (.int p1), .val (.int p2), .val (.int p3), .val (.int (1 : Int32)), .val (.int (0 : Int32)), .val (.ref ps), .val (.ref tv), .val (.ref al), .val (.ref ao), .unset, .unset, .unset, .unset, .unset] [(.ref ao), (.ref la), (.ref la)]))
    refine Gl.by (fun t_ k_ => XS.iload X.here hx rfl (hb hby at_128) rfl k_) ?_
    show Gl p e below s room_1.cells room_1.slots (fun v h L => v = some (.int 1) ∧ Fr n0 L) (T.setTop (mkF m 130 #[.val (.int p0), .val (.int p1), .val (.int p2), .val (.int p3), .val (.int (1 : Int32)), .val (.int (0 : Int32)), .val (.ref ps), .val (.ref tv), .val (.ref al), .val (.ref ao), .unset, .unset, .unset, .unset, .unset] [(.int (1 : Int32)), (.ref ao), (.ref la), (.ref la)]))
    refine Gl.spec X hx hZ rfl hown (hw _ (List.mem_of_getElem? (i := 127) rfl)) (hw _ (List.mem_of_getElem? (i := 128) rfl)) (hw _ (List.mem_of_getElem? (i := 129) rfl)) (by decide) (W := 1) (backC (own_liti1 l Z a0 hw la ao h52 n0 (by omega) A52 F52_atom F52_positive) hZ (hw _ (List.mem_of_getElem? (i := 129) rfl)) (hw _ (List.mem_of_getElem? (i := 126) rfl)) (by decide) (by decide)) eT (hb hby at_130) (by rw [hml]; rfl) la [(.ref ao), (.int (1 : Int32))] [(.ref la)] (lenOf pd_16 rfl) rfl rfl (Nat.le_of_eq rfl) (by decide) (by decide) ?_
    intro v T L X hq
    obtain ⟨rfl, NQ, K53, H53, G53, P53⟩ := hq
    have N := Fr.app N NQ
    obtain ⟨h53, eT⟩ : ∃ z, T.heap = z := ⟨_, rfl⟩
    rw [eT] at K53 H53 G53 P53
    have sz53 := K53.1
    show Gl p e below s room_1.cells room_1.slots (fun v h L => v = some (.int 1) ∧ Fr n0 L) (T.setTop (mkF m 133 #[.val (.int p0), .val (.int p1), .val (.int p2), .val (.int p3), .val (.int (1 : Int32)), .val (.int (0 : Int32)), .val (.ref ps), .val (.ref tv), .val (.ref al), .val (.ref ao), .unset, .unset, .unset, .unset, .unset] [(.ref la)]))
    refine Gl.by (fun t_ k_ => XS.astore X.here hx rfl (hb hby at_133) rfl rfl (l' := #[.val (.int p0), .val (.int p1), .val (.int p2), .val (.int p3), .val (.int (1 : Int32)), .val (.int (0 : Int32)), .val (.ref ps), .val (.ref tv), .val (.ref al), .val (.ref ao), .val (.ref la), .unset, .unset, .unset, .unset]) rfl k_) ?_
    show Gl p e below s room_1.cells room_1.slots (fun v h L => v = some (.int 1) ∧ Fr n0 L) (T.setTop (mkF m 135 #[.val (.int p0), .val (.int p1), .val (.int p2), .val (.int p3), .val (.int (1 : Int32)), .val (.int (0 : Int32)), .val (.ref ps), .val (.ref tv), .val (.ref al), .val (.ref ao), .val (.ref la), .unset, .unset, .unset, .unset] []))
    refine Gl.by (fun t_ k_ => XS.aload X.here hx rfl (hb hby at_135) rfl rfl k_) ?_
    show Gl p e below s room_1.cells room_1.slots (fun v h L => v = some (.int 1) ∧ Fr n0 L) (T.setTop (mkF m 137 #[.val (.int p0), .val (.int p1), .val (.int p2), .val (.int p3), .val (.int (1 : Int32)), .val (.int (0 : Int32)), .val (.ref ps), .val (.ref tv), .val (.ref al), .val (.ref ao), .val (.ref la), .unset, .unset, .unset, .unset] [(.ref la)]))
    refine Gl.virt X hx hZ hown (hw _ (List.mem_of_getElem? (i := 135) rfl)) (hw _ (List.mem_of_getElem? (i := 136) rfl)) (hw _ (List.mem_of_getElem? (i := 138) rfl)) (hw _ (List.mem_of_getElem? (i := 137) rfl)) (notFace_of_selects (args := #[]) (mvT hZ (hw _ (List.mem_of_getElem? (i := 138) rfl)))) (by decide) (A52.keep K53) (W := 0) (backC (own_cpl1 l Z a0 hw la ao h53 n0 (by omega) ⟨(A52.keep K53), G53, P53⟩) hZ (hw _ (List.mem_of_getElem? (i := 139) rfl)) (hw _ (List.mem_of_getElem? (i := 126) rfl)) (by decide) (by decide)) eT (hb hby at_137) (by rw [hml]; rfl) [] [] (lenOf pd_21 rfl) rfl rfl (Nat.le_of_eq rfl) (by decide) (by decide) ?_
    intro v T L X hq
    obtain ⟨NQ, K54, lc, rfl, glc, H54, G54, P54⟩ := hq
    have N := Fr.app N NQ
    obtain ⟨h54, eT⟩ : ∃ z, T.heap = z := ⟨_, rfl⟩
    rw [eT] at K54 H54 G54 P54
    have sz54 := K54.1
    show Gl p e below s room_1.cells room_1.slots (fun v h L => v = some (.int 1) ∧ Fr n0 L) (T.setTop (mkF m 140 #[.val (.int p0), .val (.int p1), .val (.int p2), .val (.int p3), .val (.int (1 : Int32)), .val (.int (0 : Int32)), .val (.ref ps), .val (.ref tv), .val (.ref al), .val (.ref ao), .val (.ref la), .unset, .unset, .unset, .unset] [(.ref lc)]))
    have llc : lc < h54.size := H54.lt
    refine Gl.by (fun t_ k_ => XS.astore X.here hx rfl (hb hby at_140) rfl rfl (l' := #[.val (.int p0), .val (.int p1), .val (.int p2), .val (.int p3), .val (.int (1 : Int32)), .val (.int (0 : Int32)), .val (.ref ps), .val (.ref tv), .val (.ref al), .val (.ref ao), .val (.ref la), .val (.ref lc), .unset, .unset, .unset]) rfl k_) ?_
    show Gl p e below s room_1.cells room_1.slots (fun v h L => v = some (.int 1) ∧ Fr n0 L) (T.setTop (mkF m 142 #[.val (.int p0), .val (.int p1), .val (.int p2), .val (.int p3), .val (.int (1 : Int32)), .val (.int (0 : Int32)), .val (.ref ps), .val (.ref tv), .val (.ref al), .val (.ref ao), .val (.ref la), .val (.ref lc), .unset, .unset, .unset] []))
    refine Gl.by (fun t_ k_ => XS.aload X.here hx rfl (hb hby at_142) rfl rfl k_) ?_
    show Gl p e below s room_1.cells room_1.slots (fun v h L => v = some (.int 1) ∧ Fr n0 L) (T.setTop (mkF m 144 #[.val (.int p0), .val (.int p1), .val (.int p2), .val (.int p3), .val (.int (1 : Int32)), .val (.int (0 : Int32)), .val (.ref ps), .val (.ref tv), .val (.ref al), .val (.ref ao), .val (.ref la), .val (.ref lc), .unset, .unset, .unset] [(.ref lc)]))
    refine Gl.by (fun t_ k_ => XS.ifnonnullYes X.here hx rfl (pc0 := 144) (pc' := 149) rfl (hb hby at_144) rfl (by decide) (by decide) k_) ?_
    show Gl p e below s room_1.cells room_1.slots (fun v h L => v = some (.int 1) ∧ Fr n0 L) (T.setTop (mkF m 149 #[.val (.int p0), .val (.int p1), .val (.int p2), .val (.int p3), .val (.int (1 : Int32)), .val (.int (0 : Int32)), .val (.ref ps), .val (.ref tv), .val (.ref al), .val (.ref ao), .val (.ref la), .val (.ref lc), .unset, .unset, .unset] []))
    refine Gl.by (fun t_ k_ => XS.aload X.here hx rfl (hb hby at_149) rfl rfl k_) ?_
    show Gl p e below s room_1.cells room_1.slots (fun v h L => v = some (.int 1) ∧ Fr n0 L) (T.setTop (mkF m 151 #[.val (.int p0), .val (.int p1), .val (.int p2), .val (.int p3), .val (.int (1 : Int32)), .val (.int (0 : Int32)), .val (.ref ps), .val (.ref tv), .val (.ref al), .val (.ref ao), .val (.ref la), .val (.ref lc), .unset, .unset, .unset] [(.ref lc)]))
    refine Gl.virt X hx hZ hown (hw _ (List.mem_of_getElem? (i := 142) rfl)) (hw _ (List.mem_of_getElem? (i := 143) rfl)) (hw _ (List.mem_of_getElem? (i := 145) rfl)) (hw _ (List.mem_of_getElem? (i := 144) rfl)) (notFace_of_selects (args := #[]) (mvT hZ (hw _ (List.mem_of_getElem? (i := 145) rfl)))) (by decide) H54 (W := 0) (backC (own_lpos0 l Z a0 hw lc h54 n0 P54) hZ (hw _ (List.mem_of_getElem? (i := 146) rfl)) (hw _ (List.mem_of_getElem? (i := 126) rfl)) (by decide) (by decide)) eT (hb hby at_151) (by rw [hml]; rfl) [] [] (lenOf pd_9 rfl) rfl rfl (Nat.le_of_eq rfl) (by decide) (by decide) ?_
    intro v T L X hq
    obtain ⟨rfl, rfl, eT⟩ := hq
    have N := Fr.app N (Fr.nil n0)
    show Gl p e below s room_1.cells room_1.slots (fun v h L => v = some (.int 1) ∧ Fr n0 L) (T.setTop (mkF m 154 #[.val (.int p0), .val (.int p1), .val (.int p2), .val (.int p3), .val (.int (1 : Int32)), .val (.int (0 : Int32)), .val (.ref ps), .val (.ref tv), .val (.ref al), .val (.ref ao), .val (.ref la), .val (.ref lc), .unset, .unset, .unset] [(.int (0 : Int32))]))
    refine Gl.by (fun t_ k_ => XS.iload X.here hx rfl (hb hby at_154) rfl k_) ?_
    show Gl p e below s room_1.cells room_1.slots (fun v h L => v = some (.int 1) ∧ Fr n0 L) (T.setTop (mkF m 156 #[.val (.int p0), .val (.int p1), .val (.int p2), .val (.int p3), .val (.int (1 : Int32)), .val (.int (0 : Int32)), .val (.ref ps), .val (.ref tv), .val (.ref al), .val (.ref ao), .val (.ref la), .val (.ref lc), .unset, .unset, .unset] [(.int (1 : Int32)), (.int (0 : Int32))]))
    refine Gl.by (fun t_ k_ => XS.ifYes X.here hx rfl (pc0 := 156) (pc' := 163) rfl (hb hby at_156) rfl ((if0 _ _).trans (feq (by decide : ¬ (1 : Int32) = 0)).2) (by decide) (by decide) k_) ?_
    show Gl p e below s room_1.cells room_1.slots (fun v h L => v = some (.int 1) ∧ Fr n0 L) (T.setTop (mkF m 163 #[.val (.int p0), .val (.int p1), .val (.int p2), .val (.int p3), .val (.int (1 : Int32)), .val (.int (0 : Int32)), .val (.ref ps), .val (.ref tv), .val (.ref al), .val (.ref ao), .val (.ref la), .val (.ref lc), .unset, .unset, .unset] [(.int (0 : Int32))]))
    refine Gl.by (fun t_ k_ => XS.iconst X.here hx rfl (hb hby at_163) k_) ?_
    show Gl p e below s room_1.cells room_1.slots (fun v h L => v = some (.int 1) ∧ Fr n0 L) (T.setTop (mkF m 164 #[.val (.int p0), .val (.int p1), .val (.int p2), .val (.int p3), .val (.int (1 : Int32)), .val (.int (0 : Int32)), .val (.ref ps), .val (.ref tv), .val (.ref al), .val (.ref ao), .val (.ref la), .val (.ref lc), .unset, .unset, .unset] [(.int (0 : Int32)), (.int (0 : Int32))]))
    refine Gl.by (fun t_ k_ => XS.icmpYes X.here hx rfl (pc0 := 164) (pc' := 169) rfl (hb hby at_164) rfl (teq (rfl : (0 : Int32) = 0)).1 (by decide) (by decide) k_) ?_
    show Gl p e below s room_1.cells room_1.slots (fun v h L => v = some (.int 1) ∧ Fr n0 L) (T.setTop (mkF m 169 #[.val (.int p0), .val (.int p1), .val (.int p2), .val (.int p3), .val (.int (1 : Int32)), .val (.int (0 : Int32)), .val (.ref ps), .val (.ref tv), .val (.ref al), .val (.ref ao), .val (.ref la), .val (.ref lc), .unset, .unset, .unset] []))
    refine Gl.by (fun t_ k_ => XS.aload X.here hx rfl (hb hby at_169) rfl rfl k_) ?_
    show Gl p e below s room_1.cells room_1.slots (fun v h L => v = some (.int 1) ∧ Fr n0 L) (T.setTop (mkF m 171 #[.val (.int p0), .val (.int p1), .val (.int p2), .val (.int p3), .val (.int (1 : Int32)), .val (.int (0 : Int32)), .val (.ref ps), .val (.ref tv), .val (.ref al), .val (.ref ao), .val (.ref la), .val (.ref lc), .unset, .unset, .unset] [(.ref lc)]))
    refine Gl.virt X hx hZ hown (hw _ (List.mem_of_getElem? (i := 147) rfl)) (hw _ (List.mem_of_getElem? (i := 148) rfl)) (hw _ (List.mem_of_getElem? (i := 150) rfl)) (hw _ (List.mem_of_getElem? (i := 149) rfl)) (notFace_of_selects (args := #[]) (mvT hZ (hw _ (List.mem_of_getElem? (i := 150) rfl)))) (by decide) H54 (W := 0) (backC (own_latom l Z a0 hw lc ao h54 n0 G54) hZ (hw _ (List.mem_of_getElem? (i := 151) rfl)) (hw _ (List.mem_of_getElem? (i := 126) rfl)) (by decide) (by decide)) eT (hb hby at_171) (by rw [hml]; rfl) [] [] (lenOf pd_22 rfl) rfl rfl (Nat.le_of_eq rfl) (by decide) (by decide) ?_
    intro v T L X hq
    obtain ⟨rfl, rfl, eT⟩ := hq
    have N := Fr.app N (Fr.nil n0)
    show Gl p e below s room_1.cells room_1.slots (fun v h L => v = some (.int 1) ∧ Fr n0 L) (T.setTop (mkF m 174 #[.val (.int p0), .val (.int p1), .val (.int p2), .val (.int p3), .val (.int (1 : Int32)), .val (.int (0 : Int32)), .val (.ref ps), .val (.ref tv), .val (.ref al), .val (.ref ao), .val (.ref la), .val (.ref lc), .unset, .unset, .unset] [(.ref ao)]))
    refine Gl.by (fun t_ k_ => XS.astore X.here hx rfl (hb hby at_174) rfl rfl (l' := #[.val (.int p0), .val (.int p1), .val (.int p2), .val (.int p3), .val (.int (1 : Int32)), .val (.int (0 : Int32)), .val (.ref ps), .val (.ref tv), .val (.ref al), .val (.ref ao), .val (.ref la), .val (.ref lc), .val (.ref ao), .unset, .unset]) rfl k_) ?_
    show Gl p e below s room_1.cells room_1.slots (fun v h L => v = some (.int 1) ∧ Fr n0 L) (T.setTop (mkF m 176 #[.val (.int p0), .val (.int p1), .val (.int p2), .val (.int p3), .val (.int (1 : Int32)), .val (.int (0 : Int32)), .val (.ref ps), .val (.ref tv), .val (.ref al), .val (.ref ao), .val (.ref la), .val (.ref lc), .val (.ref ao), .unset, .unset] []))
    refine Gl.by (fun t_ k_ => XS.aload X.here hx rfl (hb hby at_176) rfl rfl k_) ?_
    show Gl p e below s room_1.cells room_1.slots (fun v h L => v = some (.int 1) ∧ Fr n0 L) (T.setTop (mkF m 178 #[.val (.int p0), .val (.int p1), .val (.int p2), .val (.int p3), .val (.int (1 : Int32)), .val (.int (0 : Int32)), .val (.ref ps), .val (.ref tv), .val (.ref al), .val (.ref ao), .val (.ref la), .val (.ref lc), .val (.ref ao), .unset, .unset] [(.ref ao)]))
    refine Gl.by (fun t_ k_ => XS.ifnonnullYes X.here hx rfl (pc0 := 178) (pc' := 183) rfl (hb hby at_178) rfl (by decide) (by decide) k_) ?_
    show Gl p e below s room_1.cells room_1.slots (fun v h L => v = some (.int 1) ∧ Fr n0 L) (T.setTop (mkF m 183 #[.val (.int p0), .val (.int p1), .val (.int p2), .val (.int p3), .val (.int (1 : Int32)), .val (.int (0 : Int32)), .val (.ref ps), .val (.ref tv), .val (.ref al), .val (.ref ao), .val (.ref la), .val (.ref lc), .val (.ref ao), .unset, .unset] []))
    refine Gl.by (fun t_ k_ => XS.aload X.here hx rfl (hb hby at_183) rfl rfl k_) ?_
    show Gl p e below s room_1.cells room_1.slots (fun v h L => v = some (.int 1) ∧ Fr n0 L) (T.setTop (mkF m 185 #[.val (.int p0), .val (.int p1), .val (.int p2), .val (.int p3), .val (.int (1 : Int32)), .val (.int (0 : Int32)), .val (.ref ps), .val (.ref tv), .val (.ref al), .val (.ref ao), .val (.ref la), .val (.ref lc), .val (.ref ao), .unset, .unset] [(.ref ao)]))
    refine Gl.virt X hx hZ hown (hw _ (List.mem_of_getElem? (i := 152) rfl)) (hw _ (List.mem_of_getElem? (i := 153) rfl)) (hw _ (List.mem_of_getElem? (i := 155) rfl)) (hw _ (List.mem_of_getElem? (i := 154) rfl)) (notFace_of_selects (args := #[]) (mvT hZ (hw _ (List.mem_of_getElem? (i := 155) rfl)))) (by decide) ((((A50.keep K51).ext E52).keep K53).keep K54) (W := 0) (backC (own_apred l Z a0 hw ao ps h54 n0 (((FP51.ext E52).keep K53 (ninS (ne_exa ((A50.keep K51).ext E52) A52 (by decide)) nin0)).keep K54 nin0)) hZ (hw _ (List.mem_of_getElem? (i := 156) rfl)) (hw _ (List.mem_of_getElem? (i := 86) rfl)) (by decide) (by decide)) eT (hb hby at_185) (by rw [hml]; rfl) [] [] (lenOf pd_23 rfl) rfl rfl (Nat.le_of_eq rfl) (by decide) (by decide) ?_
    intro v T L X hq
    obtain ⟨rfl, rfl, eT⟩ := hq
    have N := Fr.app N (Fr.nil n0)
    show Gl p e below s room_1.cells room_1.slots (fun v h L => v = some (.int 1) ∧ Fr n0 L) (T.setTop (mkF m 188 #[.val (.int p0), .val (.int p1), .val (.int p2), .val (.int p3), .val (.int (1 : Int32)), .val (.int (0 : Int32)), .val (.ref ps), .val (.ref tv), .val (.ref al), .val (.ref ao), .val (.ref la), .val (.ref lc), .val (.ref ao), .unset, .unset] [(.ref ps)]))
    refine Gl.by (fun t_ k_ => XS.aload X.here hx rfl (hb hby at_188) rfl rfl k_) ?_
    show Gl p e below s room_1.cells room_1.slots (fun v h L => v = some (.int 1) ∧ Fr n0 L) (T.setTop (mkF m 190 #[.val (.int p0), .val (.int p1), .val (.int p2), .val (.int p3), .val (.int (1 : Int32)), .val (.int (0 : Int32)), .val (.ref ps), .val (.ref tv), .val (.ref al), .val (.ref ao), .val (.ref la), .val (.ref lc), .val (.ref ao), .unset, .unset] [(.ref ps), (.ref ps)]))
    refine Gl.virt X hx hZ hown (hw _ (List.mem_of_getElem? (i := 157) rfl)) (hw _ (List.mem_of_getElem? (i := 158) rfl)) (hw _ (List.mem_of_getElem? (i := 160) rfl)) (hw _ (List.mem_of_getElem? (i := 159) rfl)) (notFace_of_selects (args := #[]) (mvT hZ (hw _ (List.mem_of_getElem? (i := 160) rfl)))) (by decide) ((((((((((SQ44.exa.ext E45).keep K46).keep K47).ext E48).keep K49).ext E50).keep K51).ext E52).keep K53).keep K54) (W := 0) (backC (own_seq l Z a0 hw ps h54 n0) hZ (hw _ (List.mem_of_getElem? (i := 161) rfl)) (hw _ (List.mem_of_getElem? (i := 2) rfl)) (by decide) (by decide)) eT (hb hby at_190) (by rw [hml]; rfl) [(.ref ps)] [] (lenOf pd_24 rfl) rfl rfl (Nat.le_of_eq rfl) (by decide) (by decide) ?_
    intro v T L X hq
    obtain ⟨rfl, rfl, eT⟩ := hq
    have N := Fr.app N (Fr.nil n0)
    show Gl p e below s room_1.cells room_1.slots (fun v h L => v = some (.int 1) ∧ Fr n0 L) (T.setTop (mkF m 193 #[.val (.int p0), .val (.int p1), .val (.int p2), .val (.int p3), .val (.int (1 : Int32)), .val (.int (0 : Int32)), .val (.ref ps), .val (.ref tv), .val (.ref al), .val (.ref ao), .val (.ref la), .val (.ref lc), .val (.ref ao), .unset, .unset] [(.int (1 : Int32))]))
    refine Gl.by (fun t_ k_ => XS.ifYes X.here hx rfl (pc0 := 193) (pc' := 198) rfl (hb hby at_193) rfl ((if0 _ _).trans (feq (by decide : ¬ (1 : Int32) = 0)).2) (by decide) (by decide) k_) ?_
    show Gl p e below s room_1.cells room_1.slots (fun v h L => v = some (.int 1) ∧ Fr n0 L) (T.setTop (mkF m 198 #[.val (.int p0), .val (.int p1), .val (.int p2), .val (.int p3), .val (.int (1 : Int32)), .val (.int (0 : Int32)), .val (.ref ps), .val (.ref tv), .val (.ref al), .val (.ref ao), .val (.ref la), .val (.ref lc), .val (.ref ao), .unset, .unset] []))
    refine Gl.by (fun t_ k_ => XS.iload X.here hx rfl (hb hby at_198) rfl k_) ?_
    show Gl p e below s room_1.cells room_1.slots (fun v h L => v = some (.int 1) ∧ Fr n0 L) (T.setTop (mkF m 200 #[.val (.int p0), .val (.int p1), .val (.int p2), .val (.int p3), .val (.int (1 : Int32)), .val (.int (0 : Int32)), .val (.ref ps), .val (.ref tv), .val (.ref al), .val (.ref ao), .val (.ref la), .val (.ref lc), .val (.ref ao), .unset, .unset] [(.int (0 : Int32))]))
    refine Gl.by (fun t_ k_ => XS.ifYes X.here hx rfl (pc0 := 200) (pc' := 207) rfl (hb hby at_200) rfl ((if0 _ _).trans (teq (rfl : (0 : Int32) = 0)).1) (by decide) (by decide) k_) ?_
    show Gl p e below s room_1.cells room_1.slots (fun v h L => v = some (.int 1) ∧ Fr n0 L) (T.setTop (mkF m 207 #[.val (.int p0), .val (.int p1), .val (.int p2), .val (.int p3), .val (.int (1 : Int32)), .val (.int (0 : Int32)), .val (.ref ps), .val (.ref tv), .val (.ref al), .val (.ref ao), .val (.ref la), .val (.ref lc), .val (.ref ao), .unset, .unset] []))
    refine Gl.by (fun t_ k_ => XS.iconst X.here hx rfl (hb hby at_207) k_) ?_
    show Gl p e below s room_1.cells room_1.slots (fun v h L => v = some (.int 1) ∧ Fr n0 L) (T.setTop (mkF m 208 #[.val (.int p0), .val (.int p1), .val (.int p2), .val (.int p3), .val (.int (1 : Int32)), .val (.int (0 : Int32)), .val (.ref ps), .val (.ref tv), .val (.ref al), .val (.ref ao), .val (.ref la), .val (.ref lc), .val (.ref ao), .unset, .unset] [(.int (0 : Int32))]))
    refine Gl.by (fun t_ k_ => XS.istore X.here hx rfl (hb hby at_208) rfl (l' := #[.val (.int p0), .val (.int p1), .val (.int p2), .val (.int p3), .val (.int (1 : Int32)), .val (.int (0 : Int32)), .val (.ref ps), .val (.ref tv), .val (.ref al), .val (.ref ao), .val (.ref la), .val (.ref lc), .val (.ref ao), .val (.int (0 : Int32)), .unset]) rfl k_) ?_
    show Gl p e below s room_1.cells room_1.slots (fun v h L => v = some (.int 1) ∧ Fr n0 L) (T.setTop (mkF m 210 #[.val (.int p0), .val (.int p1), .val (.int p2), .val (.int p3), .val (.int (1 : Int32)), .val (.int (0 : Int32)), .val (.ref ps), .val (.ref tv), .val (.ref al), .val (.ref ao), .val (.ref la), .val (.ref lc), .val (.ref ao), .val (.int (0 : Int32)), .unset] []))
    refine Gl.by (fun t_ k_ => XS.aload X.here hx rfl (hb hby at_210) rfl rfl k_) ?_
    show Gl p e below s room_1.cells room_1.slots (fun v h L => v = some (.int 1) ∧ Fr n0 L) (T.setTop (mkF m 212 #[.val (.int p0), .val (.int p1), .val (.int p2), .val (.int p3), .val (.int (1 : Int32)), .val (.int (0 : Int32)), .val (.ref ps), .val (.ref tv), .val (.ref al), .val (.ref ao), .val (.ref la), .val (.ref lc), .val (.ref ao), .val (.int (0 : Int32)), .unset] [(.ref ao)]))
    refine Gl.virt X hx hZ hown (hw _ (List.mem_of_getElem? (i := 162) rfl)) (hw _ (List.mem_of_getElem? (i := 163) rfl)) (hw _ (List.mem_of_getElem? (i := 165) rfl)) (hw _ (List.mem_of_getElem? (i := 164) rfl)) (notFace_of_selects (args := #[]) (mvT hZ (hw _ (List.mem_of_getElem? (i := 165) rfl)))) (by decide) ((((A50.keep K51).ext E52).keep K53).keep K54) (W := 0) (backC (own_aargs l Z a0 hw ao el h54 n0 (((FA51.ext E52).keep K53 (ninS (ne_exa ((A50.keep K51).ext E52) A52 (by decide)) nin0)).keep K54 nin0)) hZ (hw _ (List.mem_of_getElem? (i := 166) rfl)) (hw _ (List.mem_of_getElem? (i := 86) rfl)) (by decide) (by decide)) eT (hb hby at_212) (by rw [hml]; rfl) [] [] (lenOf pd_10 rfl) rfl rfl (Nat.le_of_eq rfl) (by decide) (by decide) ?_
    intro v T L X hq
    obtain ⟨rfl, rfl, eT⟩ := hq
    have N := Fr.app N (Fr.nil n0)
    show Gl p e below s room_1.cells room_1.slots (fun v h L => v = some (.int 1) ∧ Fr n0 L) (T.setTop (mkF m 215 #[.val (.int p0), .val (.int p1), .val (.int p2), .val (.int p3), .val (.int (1 : Int32)), .val (.int (0 : Int32)), .val (.ref ps), .val (.ref tv), .val (.ref al), .val (.ref ao), .val (.ref la), .val (.ref lc), .val (.ref ao), .val (.int (0 : Int32)), .unset] [(.ref el)]))
    refine Gl.face X hx hZ hown (hw _ (List.mem_of_getElem? (i := 167) rfl)) (hw _ (List.mem_of_getElem? (i := 168) rfl)) (mvT hZ (hw _ (List.mem_of_getElem? (i := 169) rfl))) (hw _ (List.mem_of_getElem? (i := 170) rfl)) (hw _ (List.mem_of_getElem? (i := 171) rfl)) (hw _ (List.mem_of_getElem? (i := 172) rfl)) (hw _ (List.mem_of_getElem? (i := 173) rfl)) (hw _ (List.mem_of_getElem? (i := 174) rfl)) (by decide) (K.2.2.2.1.ext (((((((((((O43.keep K44 (allS (by omega) all0)).ext E45).keep K46 all0).keep K47 (allS (by omega) all0)).ext E48).keep K49 (allS (by omega) all0)).ext E50).keep K51 (allS (by omega) all0)).ext E52).keep K53 (allS (by omega) all0)).keep K54 all0).2) (W := 0) (backC (own_lns l Z a0 hw dc el mr em h54 n0 (((((((((((O43.keep K44 (allS (by omega) all0)).ext E45).keep K46 all0).keep K47 (allS (by omega) all0)).ext E48).keep K49 (allS (by omega) all0)).ext E50).keep K51 (allS (by omega) all0)).ext E52).keep K53 (allS (by omega) all0)).keep K54 all0) K) hZ (hw _ (List.mem_of_getElem? (i := 176) rfl)) (hw _ (List.mem_of_getElem? (i := 175) rfl)) (by decide) (by decide)) eT (hb hby at_215) (by rw [hml]; rfl) [] [] (lenOf pd_25 rfl) rfl rfl (Nat.le_of_eq rfl) (by decide) (by decide) ?_
    intro v T L X hq
    obtain ⟨rfl, rfl, eT⟩ := hq
    have N := Fr.app N (Fr.nil n0)
    show Gl p e below s room_1.cells room_1.slots (fun v h L => v = some (.int 1) ∧ Fr n0 L) (T.setTop (mkF m 220 #[.val (.int p0), .val (.int p1), .val (.int p2), .val (.int p3), .val (.int (1 : Int32)), .val (.int (0 : Int32)), .val (.ref ps), .val (.ref tv), .val (.ref al), .val (.ref ao), .val (.ref la), .val (.ref lc), .val (.ref ao), .val (.int (0 : Int32)), .unset] [(.int (0 : Int32))]))
    refine Gl.by (fun t_ k_ => XS.iload X.here hx rfl (hb hby at_220) rfl k_) ?_
    show Gl p e below s room_1.cells room_1.slots (fun v h L => v = some (.int 1) ∧ Fr n0 L) (T.setTop (mkF m 222 #[.val (.int p0), .val (.int p1), .val (.int p2), .val (.int p3), .val (.int (1 : Int32)), .val (.int (0 : Int32)), .val (.ref ps), .val (.ref tv), .val (.ref al), .val (.ref ao), .val (.ref la), .val (.ref lc), .val (.ref ao), .val (.int (0 : Int32)), .unset] [(.int (0 : Int32)), (.int (0 : Int32))]))
    refine Gl.by (fun t_ k_ => XS.icmpYes X.here hx rfl (pc0 := 222) (pc' := 227) rfl (hb hby at_222) rfl (teq (rfl : (0 : Int32) = 0)).1 (by decide) (by decide) k_) ?_
    show Gl p e below s room_1.cells room_1.slots (fun v h L => v = some (.int 1) ∧ Fr n0 L) (T.setTop (mkF m 227 #[.val (.int p0), .val (.int p1), .val (.int p2), .val (.int p3), .val (.int (1 : Int32)), .val (.int (0 : Int32)), .val (.ref ps), .val (.ref tv), .val (.ref al), .val (.ref ao), .val (.ref la), .val (.ref lc), .val (.ref ao), .val (.int (0 : Int32)), .unset] []))
    refine Gl.by (fun t_ k_ => XS.iload X.here hx rfl (hb hby at_227) rfl k_) ?_
    show Gl p e below s room_1.cells room_1.slots (fun v h L => v = some (.int 1) ∧ Fr n0 L) (T.setTop (mkF m 229 #[.val (.int p0), .val (.int p1), .val (.int p2), .val (.int p3), .val (.int (1 : Int32)), .val (.int (0 : Int32)), .val (.ref ps), .val (.ref tv), .val (.ref al), .val (.ref ao), .val (.ref la), .val (.ref lc), .val (.ref ao), .val (.int (0 : Int32)), .unset] [(.int (0 : Int32))]))
    refine Gl.by (fun t_ k_ => XS.ifYes X.here hx rfl (pc0 := 229) (pc' := 250) rfl (hb hby at_229) rfl ((if0 _ _).trans (teq (rfl : (0 : Int32) = 0)).1) (by decide) (by decide) k_) ?_
    show Gl p e below s room_1.cells room_1.slots (fun v h L => v = some (.int 1) ∧ Fr n0 L) (T.setTop (mkF m 250 #[.val (.int p0), .val (.int p1), .val (.int p2), .val (.int p3), .val (.int (1 : Int32)), .val (.int (0 : Int32)), .val (.ref ps), .val (.ref tv), .val (.ref al), .val (.ref ao), .val (.ref la), .val (.ref lc), .val (.ref ao), .val (.int (0 : Int32)), .unset] []))
    refine Gl.by (fun t_ k_ => XS.aload X.here hx rfl (hb hby at_250) rfl rfl k_) ?_
    show Gl p e below s room_1.cells room_1.slots (fun v h L => v = some (.int 1) ∧ Fr n0 L) (T.setTop (mkF m 252 #[.val (.int p0), .val (.int p1), .val (.int p2), .val (.int p3), .val (.int (1 : Int32)), .val (.int (0 : Int32)), .val (.ref ps), .val (.ref tv), .val (.ref al), .val (.ref ao), .val (.ref la), .val (.ref lc), .val (.ref ao), .val (.int (0 : Int32)), .unset] [(.ref la)]))
    refine Gl.virt X hx hZ hown (hw _ (List.mem_of_getElem? (i := 142) rfl)) (hw _ (List.mem_of_getElem? (i := 143) rfl)) (hw _ (List.mem_of_getElem? (i := 145) rfl)) (hw _ (List.mem_of_getElem? (i := 144) rfl)) (notFace_of_selects (args := #[]) (mvT hZ (hw _ (List.mem_of_getElem? (i := 145) rfl)))) (by decide) ((A52.keep K53).keep K54) (W := 0) (backC (own_lpos1 l Z a0 hw la h54 n0 (P53.keep K54 nin0)) hZ (hw _ (List.mem_of_getElem? (i := 146) rfl)) (hw _ (List.mem_of_getElem? (i := 126) rfl)) (by decide) (by decide)) eT (hb hby at_252) (by rw [hml]; rfl) [] [] (lenOf pd_9 rfl) rfl rfl (Nat.le_of_eq rfl) (by decide) (by decide) ?_
    intro v T L X hq
    obtain ⟨rfl, rfl, eT⟩ := hq
    have N := Fr.app N (Fr.nil n0)
    show Gl p e below s room_1.cells room_1.slots (fun v h L => v = some (.int 1) ∧ Fr n0 L) (T.setTop (mkF m 255 #[.val (.int p0), .val (.int p1), .val (.int p2), .val (.int p3), .val (.int (1 : Int32)), .val (.int (0 : Int32)), .val (.ref ps), .val (.ref tv), .val (.ref al), .val (.ref ao), .val (.ref la), .val (.ref lc), .val (.ref ao), .val (.int (0 : Int32)), .unset] [(.int (1 : Int32))]))
    refine Gl.by (fun t_ k_ => XS.iload X.here hx rfl (hb hby at_255) rfl k_) ?_
    show Gl p e below s room_1.cells room_1.slots (fun v h L => v = some (.int 1) ∧ Fr n0 L) (T.setTop (mkF m 257 #[.val (.int p0), .val (.int p1), .val (.int p2), .val (.int p3), .val (.int (1 : Int32)), .val (.int (0 : Int32)), .val (.ref ps), .val (.ref tv), .val (.ref al), .val (.ref ao), .val (.ref la), .val (.ref lc), .val (.ref ao), .val (.int (0 : Int32)), .unset] [(.int (1 : Int32)), (.int (1 : Int32))]))
    refine Gl.by (fun t_ k_ => XS.icmpYes X.here hx rfl (pc0 := 257) (pc' := 262) rfl (hb hby at_257) rfl (teq (rfl : (1 : Int32) = 1)).1 (by decide) (by decide) k_) ?_
    show Gl p e below s room_1.cells room_1.slots (fun v h L => v = some (.int 1) ∧ Fr n0 L) (T.setTop (mkF m 262 #[.val (.int p0), .val (.int p1), .val (.int p2), .val (.int p3), .val (.int (1 : Int32)), .val (.int (0 : Int32)), .val (.ref ps), .val (.ref tv), .val (.ref al), .val (.ref ao), .val (.ref la), .val (.ref lc), .val (.ref ao), .val (.int (0 : Int32)), .unset] []))
    refine Gl.by (fun t_ k_ => XS.aload X.here hx rfl (hb hby at_262) rfl rfl k_) ?_
    show Gl p e below s room_1.cells room_1.slots (fun v h L => v = some (.int 1) ∧ Fr n0 L) (T.setTop (mkF m 264 #[.val (.int p0), .val (.int p1), .val (.int p2), .val (.int p3), .val (.int (1 : Int32)), .val (.int (0 : Int32)), .val (.ref ps), .val (.ref tv), .val (.ref al), .val (.ref ao), .val (.ref la), .val (.ref lc), .val (.ref ao), .val (.int (0 : Int32)), .unset] [(.ref lc)]))
    refine Gl.virt X hx hZ hown (hw _ (List.mem_of_getElem? (i := 135) rfl)) (hw _ (List.mem_of_getElem? (i := 136) rfl)) (hw _ (List.mem_of_getElem? (i := 138) rfl)) (hw _ (List.mem_of_getElem? (i := 137) rfl)) (notFace_of_selects (args := #[]) (mvT hZ (hw _ (List.mem_of_getElem? (i := 138) rfl)))) (by decide) H54 (W := 0) (backC (own_cpl0 l Z a0 hw lc ao h54 n0 (by omega) ⟨H54, G54, P54⟩) hZ (hw _ (List.mem_of_getElem? (i := 139) rfl)) (hw _ (List.mem_of_getElem? (i := 126) rfl)) (by decide) (by decide)) eT (hb hby at_264) (by rw [hml]; rfl) [] [] (lenOf pd_21 rfl) rfl rfl (Nat.le_of_eq rfl) (by decide) (by decide) ?_
    intro v T L X hq
    obtain ⟨NQ, K55, ld, rfl, gld, H55, G55, P55⟩ := hq
    have N := Fr.app N NQ
    obtain ⟨h55, eT⟩ : ∃ z, T.heap = z := ⟨_, rfl⟩
    rw [eT] at K55 H55 G55 P55
    have sz55 := K55.1
    show Gl p e below s room_1.cells room_1.slots (fun v h L => v = some (.int 1) ∧ Fr n0 L) (T.setTop (mkF m 267 #[.val (.int p0), .val (.int p1), .val (.int p2), .val (.int p3), .val (.int (1 : Int32)), .val (.int (0 : Int32)), .val (.ref ps), .val (.ref tv), .val (.ref al), .val (.ref ao), .val (.ref la), .val (.ref lc), .val (.ref ao), .val (.int (0 : Int32)), .unset] [(.ref ld)]))
    refine Gl.by (fun t_ k_ => XS.astore X.here hx rfl (hb hby at_267) rfl rfl (l' := #[.val (.int p0), .val (.int p1), .val (.int p2), .val (.int p3), .val (.int (1 : Int32)), .val (.int (0 : Int32)), .val (.ref ps), .val (.ref tv), .val (.ref al), .val (.ref ao), .val (.ref la), .val (.ref lc), .val (.ref ao), .val (.int (0 : Int32)), .val (.ref ld)]) rfl k_) ?_
    show Gl p e below s room_1.cells room_1.slots (fun v h L => v = some (.int 1) ∧ Fr n0 L) (T.setTop (mkF m 269 #[.val (.int p0), .val (.int p1), .val (.int p2), .val (.int p3), .val (.int (1 : Int32)), .val (.int (0 : Int32)), .val (.ref ps), .val (.ref tv), .val (.ref al), .val (.ref ao), .val (.ref la), .val (.ref lc), .val (.ref ao), .val (.int (0 : Int32)), .val (.ref ld)] []))
    refine Gl.by (fun t_ k_ => XS.aload X.here hx rfl (hb hby at_269) rfl rfl k_) ?_
    show Gl p e below s room_1.cells room_1.slots (fun v h L => v = some (.int 1) ∧ Fr n0 L) (T.setTop (mkF m 271 #[.val (.int p0), .val (.int p1), .val (.int p2), .val (.int p3), .val (.int (1 : Int32)), .val (.int (0 : Int32)), .val (.ref ps), .val (.ref tv), .val (.ref al), .val (.ref ao), .val (.ref la), .val (.ref lc), .val (.ref ao), .val (.int (0 : Int32)), .val (.ref ld)] [(.ref ld)]))
    refine Gl.by (fun t_ k_ => XS.ifnullNo X.here hx rfl (hb hby at_271) rfl k_) ?_
    show Gl p e below s room_1.cells room_1.slots (fun v h L => v = some (.int 1) ∧ Fr n0 L) (T.setTop (mkF m 274 #[.val (.int p0), .val (.int p1), .val (.int p2), .val (.int p3), .val (.int (1 : Int32)), .val (.int (0 : Int32)), .val (.ref ps), .val (.ref tv), .val (.ref al), .val (.ref ao), .val (.ref la), .val (.ref lc), .val (.ref ao), .val (.int (0 : Int32)), .val (.ref ld)] []))
    refine Gl.by (fun t_ k_ => XS.aload X.here hx rfl (hb hby at_274) rfl rfl k_) ?_
    show Gl p e below s room_1.cells room_1.slots (fun v h L => v = some (.int 1) ∧ Fr n0 L) (T.setTop (mkF m 276 #[.val (.int p0), .val (.int p1), .val (.int p2), .val (.int p3), .val (.int (1 : Int32)), .val (.int (0 : Int32)), .val (.ref ps), .val (.ref tv), .val (.ref al), .val (.ref ao), .val (.ref la), .val (.ref lc), .val (.ref ao), .val (.int (0 : Int32)), .val (.ref ld)] [(.ref ld)]))
    refine Gl.virt X hx hZ hown (hw _ (List.mem_of_getElem? (i := 142) rfl)) (hw _ (List.mem_of_getElem? (i := 143) rfl)) (hw _ (List.mem_of_getElem? (i := 145) rfl)) (hw _ (List.mem_of_getElem? (i := 144) rfl)) (notFace_of_selects (args := #[]) (mvT hZ (hw _ (List.mem_of_getElem? (i := 145) rfl)))) (by decide) H55 (W := 0) (backC (own_lpos1 l Z a0 hw ld h55 n0 P55) hZ (hw _ (List.mem_of_getElem? (i := 146) rfl)) (hw _ (List.mem_of_getElem? (i := 126) rfl)) (by decide) (by decide)) eT (hb hby at_276) (by rw [hml]; rfl) [] [] (lenOf pd_9 rfl) rfl rfl (Nat.le_of_eq rfl) (by decide) (by decide) ?_
    intro v T L X hq
    obtain ⟨rfl, rfl, eT⟩ := hq
    have N := Fr.app N (Fr.nil n0)
    show Gl p e below s room_1.cells room_1.slots (fun v h L => v = some (.int 1) ∧ Fr n0 L) (T.setTop (mkF m 279 #[.val (.int p0), .val (.int p1), .val (.int p2), .val (.int p3), .val (.int (1 : Int32)), .val (.int (0 : Int32)), .val (.ref ps), .val (.ref tv), .val (.ref al), .val (.ref ao), .val (.ref la), .val (.ref lc), .val (.ref ao), .val (.int (0 : Int32)), .val (.ref ld)] [(.int (1 : Int32))]))
    refine Gl.by (fun t_ k_ => XS.iload X.here hx rfl (hb hby at_279) rfl k_) ?_
    show Gl p e below s room_1.cells room_1.slots (fun v h L => v = some (.int 1) ∧ Fr n0 L) (T.setTop (mkF m 281 #[.val (.int p0), .val (.int p1), .val (.int p2), .val (.int p3), .val (.int (1 : Int32)), .val (.int (0 : Int32)), .val (.ref ps), .val (.ref tv), .val (.ref al), .val (.ref ao), .val (.ref la), .val (.ref lc), .val (.ref ao), .val (.int (0 : Int32)), .val (.ref ld)] [(.int (1 : Int32)), (.int (1 : Int32))]))
    refine Gl.by (fun t_ k_ => XS.icmpNo X.here hx rfl (hb hby at_281) rfl (teq (rfl : (1 : Int32) = 1)).2 k_) ?_
    show Gl p e below s room_1.cells room_1.slots (fun v h L => v = some (.int 1) ∧ Fr n0 L) (T.setTop (mkF m 284 #[.val (.int p0), .val (.int p1), .val (.int p2), .val (.int p3), .val (.int (1 : Int32)), .val (.int (0 : Int32)), .val (.ref ps), .val (.ref tv), .val (.ref al), .val (.ref ao), .val (.ref la), .val (.ref lc), .val (.ref ao), .val (.int (0 : Int32)), .val (.ref ld)] []))
    refine Gl.by (fun t_ k_ => XS.iconst X.here hx rfl (hb hby at_284) k_) ?_
    show Gl p e below s room_1.cells room_1.slots (fun v h L => v = some (.int 1) ∧ Fr n0 L) (T.setTop (mkF m 285 #[.val (.int p0), .val (.int p1), .val (.int p2), .val (.int p3), .val (.int (1 : Int32)), .val (.int (0 : Int32)), .val (.ref ps), .val (.ref tv), .val (.ref al), .val (.ref ao), .val (.ref la), .val (.ref lc), .val (.ref ao), .val (.int (0 : Int32)), .val (.ref ld)] [(.int (1 : Int32))]))
    refine Gl.by (fun t_ k_ => XS.goto X.here hx rfl (pc0 := 285) (pc' := 289) rfl (hb hby at_285) (by decide) (by decide) k_) ?_
    show Gl p e below s room_1.cells room_1.slots (fun v h L => v = some (.int 1) ∧ Fr n0 L) (T.setTop (mkF m 289 #[.val (.int p0), .val (.int p1), .val (.int p2), .val (.int p3), .val (.int (1 : Int32)), .val (.int (0 : Int32)), .val (.ref ps), .val (.ref tv), .val (.ref al), .val (.ref ao), .val (.ref la), .val (.ref lc), .val (.ref ao), .val (.int (0 : Int32)), .val (.ref ld)] [(.int (1 : Int32))]))
    exact Gl.retZ X hx hlk hret (by simp) (hb hby at_289) (by decide) (by decide) ⟨rfl, N⟩
  have j11 : Gl p e below s room_1.cells room_1.slots (fun v h L => v = some (.int 1) ∧ Fr n0 L) (T.setTop (mkF m 26 #[.val (.int p0), .val (.int p1), .val (.int p2), .val (.int p3), .val (.int (1 : Int32)), .val (.int (1 : Int32)), .unset, .unset, .unset, .unset, .unset, .unset, .unset, .unset, .unset] [])) := by
    obtain ⟨T, h56, X, eT, E56, A56, D56, -, st⟩ := newO X hx hZ hown (hw _ (List.mem_of_getElem? (i := 0) rfl)) (hw _ (List.mem_of_getElem? (i := 1) rfl)) (hw _ (List.mem_of_getElem? (i := 2) rfl)) eT (g := (mkF m 26 #[.val (.int p0), .val (.int p1), .val (.int p2), .val (.int p3), .val (.int (1 : Int32)), .val (.int (1 : Int32)), .unset, .unset, .unset, .unset, .unset, .unset, .unset, .unset, .unset] [])) rfl (hb hby at_26) (by decide) (by decide)
    obtain ⟨ps, g56⟩ : ∃ z, z = h0.size := ⟨_, rfl⟩
    rw [← g56] at A56 D56 st
    have sz56 := E56.1
    have lt56 : ps < h56.size := A56.lt
    refine Gl.by st ?_
    have F56_coder : Fld Z h56 ps "java/lang/String" "coder" "B" (.int (0 : Int32)) := D56 (Or.inr (hw _ (List.mem_of_getElem? (i := 27) rfl))) (ty := .byte) (by decide)
    have F56_value : Fld Z h56 ps "java/lang/String" "value" "[B" .null := D56 (Or.inr (hw _ (List.mem_of_getElem? (i := 29) rfl))) (ty := (.array .byte)) (by decide)
    show Gl p e below s room_1.cells room_1.slots (fun v h L => v = some (.int 1) ∧ Fr n0 L) (T.setTop (mkF m 29 #[.val (.int p0), .val (.int p1), .val (.int p2), .val (.int p3), .val (.int (1 : Int32)), .val (.int (1 : Int32)), .unset, .unset, .unset, .unset, .unset, .unset, .unset, .unset, .unset] [(.ref ps)]))
    refine Gl.by (fun t_ k_ => XS.dup X.here hx rfl (hb hby at_29) rfl rfl k_) ?_
    show Gl p e below s room_1.cells room_1.slots (fun v h L => v = some (.int 1) ∧ Fr n0 L) (T.setTop (mkF m 30 #[.val (.int p0), .val (.int p1), .val (.int p2), .val (.int p3), .val (.int (1 : Int32)), .val (.int (1 : Int32)), .unset, .unset, .unset, .unset, .unset, .unset, .unset, .unset, .unset] [(.ref ps), (.ref ps)]))
    refine Gl.by (fun t_ k_ => XS.iconst X.here hx rfl (hb hby at_30) k_) ?_
    show Gl p e below s room_1.cells room_1.slots (fun v h L => v = some (.int 1) ∧ Fr n0 L) (T.setTop (mkF m 31 #[.val (.int p0), .val (.int p1), .val (.int p2), .val (.int p3), .val (.int (1 : Int32)), .val (.int (1 : Int32)), .unset, .unset, .unset, .unset, .unset, .unset, .unset, .unset, .unset] [(.int (3 : Int32)), (.ref ps), (.ref ps)]))
    obtain ⟨T, h57, k57, X, eT, E57, A57, st⟩ := newP X hx hZ (hw _ (List.mem_of_getElem? (i := 3) rfl)) eT (g := (mkF m 31 #[.val (.int p0), .val (.int p1), .val (.int p2), .val (.int p3), .val (.int (1 : Int32)), .val (.int (1 : Int32)), .unset, .unset, .unset, .unset, .unset, .unset, .unset, .unset, .unset] [(.int (3 : Int32)), (.ref ps), (.ref ps)])) rfl (hb hby at_31) rfl (by decide) (cap := 3) (by decide) (by decide) (by decide) (by decide)
    obtain ⟨ch, g57⟩ : ∃ z, z = h56.size := ⟨_, rfl⟩
    rw [← g57] at A57 st
    have sz57 := E57.1
    have lt57 : ch < h57.size := A57.lt
    have V57 : Arv Z h57 ch k57 .char (3 : Int32) [(.int (0 : Int32)), (.int (0 : Int32)), (.int (0 : Int32))] (.int (0 : Int32)) := (Arv.new A57 (by decide)).pad (pad_rep [] (.int (0 : Int32)) 3)
    refine Gl.by st ?_
    show Gl p e below s room_1.cells room_1.slots (fun v h L => v = some (.int 1) ∧ Fr n0 L) (T.setTop (mkF m 33 #[.val (.int p0), .val (.int p1), .val (.int p2), .val (.int p3), .val (.int (1 : Int32)), .val (.int (1 : Int32)), .unset, .unset, .unset, .unset, .unset, .unset, .unset, .unset, .unset] [(.ref ch), (.ref ps), (.ref ps)]))
    refine Gl.by (fun t_ k_ => XS.dup X.here hx rfl (hb hby at_33) rfl rfl k_) ?_
    show Gl p e below s room_1.cells room_1.slots (fun v h L => v = some (.int 1) ∧ Fr n0 L) (T.setTop (mkF m 34 #[.val (.int p0), .val (.int p1), .val (.int p2), .val (.int p3), .val (.int (1 : Int32)), .val (.int (1 : Int32)), .unset, .unset, .unset, .unset, .unset, .unset, .unset, .unset, .unset] [(.ref ch), (.ref ch), (.ref ps), (.ref ps)]))
    refine Gl.by (fun t_ k_ => XS.iconst X.here hx rfl (hb hby at_34) k_) ?_
    show Gl p e below s room_1.cells room_1.slots (fun v h L => v = some (.int 1) ∧ Fr n0 L) (T.setTop (mkF m 35 #[.val (.int p0), .val (.int p1), .val (.int p2), .val (.int p3), .val (.int (1 : Int32)), .val (.int (1 : Int32)), .unset, .unset, .unset, .unset, .unset, .unset, .unset, .unset, .unset] [(.int (0 : Int32)), (.ref ch), (.ref ch), (.ref ps), (.ref ps)]))
    refine Gl.by (fun t_ k_ => XS.iloadN X.here hx rfl (hb hby at_35) rfl k_) ?_
    show Gl p e below s room_1.cells room_1.slots (fun v h L => v = some (.int 1) ∧ Fr n0 L) (T.setTop (mkF m 36 #[.val (.int p0), .val (.int p1), .val (.int p2), .val (.int p3), .val (.int (1 : Int32)), .val (.int (1 : Int32)), .unset, .unset, .unset, .unset, .unset, .unset, .unset, .unset, .unset] [(.int p1), (.int (0 : Int32)), (.ref ch), (.ref ch), (.ref ps), (.ref ps)]))
    refine Gl.by (fun t_ k_ => XS.sipush X.here hx rfl (hb hby at_36) k_) ?_
    show Gl p e below s room_1.cells room_1.slots (fun v h L => v = some (.int 1) ∧ Fr n0 L) (T.setTop (mkF m 39 #[.val (.int p0), .val (.int p1), .val (.int p2), .val (.int p3), .val (.int (1 : Int32)), .val (.int (1 : Int32)), .unset, .unset, .unset, .unset, .unset, .unset, .unset, .unset, .unset] [(.int (255 : Int32)), (.int p1), (.int (0 : Int32)), (.ref ch), (.ref ch), (.ref ps), (.ref ps)]))
    refine Gl.by (fun t_ k_ => XS.iand X.here hx rfl (hb hby at_39) rfl k_) ?_
    show Gl p e below s room_1.cells room_1.slots (fun v h L => v = some (.int 1) ∧ Fr n0 L) (T.setTop (mkF m 40 #[.val (.int p0), .val (.int p1), .val (.int p2), .val (.int p3), .val (.int (1 : Int32)), .val (.int (1 : Int32)), .unset, .unset, .unset, .unset, .unset, .unset, .unset, .unset, .unset] [(.int (p1 &&& (255 : Int32))), (.int (0 : Int32)), (.ref ch), (.ref ch), (.ref ps), (.ref ps)]))
    refine Gl.by (fun t_ k_ => XS.i2c X.here hx rfl (hb hby at_40) rfl k_) ?_
    show Gl p e below s room_1.cells room_1.slots (fun v h L => v = some (.int 1) ∧ Fr n0 L) (T.setTop (mkF m 41 #[.val (.int p0), .val (.int p1), .val (.int p2), .val (.int p3), .val (.int (1 : Int32)), .val (.int (1 : Int32)), .unset, .unset, .unset, .unset, .unset, .unset, .unset, .unset, .unset] [(.int ((p1 &&& (255 : Int32)).toUInt32.toUInt16.toUInt32.toInt32)), (.int (0 : Int32)), (.ref ch), (.ref ch), (.ref ps), (.ref ps)]))
    rw [(and255_char p1).1]
    show Gl p e below s room_1.cells room_1.slots (fun v h L => v = some (.int 1) ∧ Fr n0 L) (T.setTop (mkF m 41 #[.val (.int p0), .val (.int p1), .val (.int p2), .val (.int p3), .val (.int (1 : Int32)), .val (.int (1 : Int32)), .unset, .unset, .unset, .unset, .unset, .unset, .unset, .unset, .unset] [(.int ((p1 &&& (255 : Int32)))), (.int (0 : Int32)), (.ref ch), (.ref ch), (.ref ps), (.ref ps)]))
    obtain ⟨cl58, Ar58, q58, S58, M58, H58, G58⟩ := (id (V57) : Arv Z h57 ch k57 .char (3 : Int32) [(.int (0 : Int32)), (.int (0 : Int32)), (.int (0 : Int32))] (.int (0 : Int32)))
    obtain ⟨T, h58, X, eT, W58, st⟩ := stC X hx hZ eT Ar58 (j := (0 : Int32)) (inb_of S58 ⟨by decide, by decide⟩) (g := (mkF m 41 #[.val (.int p0), .val (.int p1), .val (.int p2), .val (.int p3), .val (.int (1 : Int32)), .val (.int (1 : Int32)), .unset, .unset, .unset, .unset, .unset, .unset, .unset, .unset, .unset] [(.int ((p1 &&& (255 : Int32)))), (.int (0 : Int32)), (.ref ch), (.ref ch), (.ref ps), (.ref ps)])) rfl rfl (hb hby at_41)
    have V58 : Arv Z h58 ch k57 .char (3 : Int32) [(.int (nar .char ((p1 &&& (255 : Int32))))), (.int (0 : Int32)), (.int (0 : Int32))] (.int (0 : Int32)) := Arv.set Ar58 q58 S58 M58 H58 G58 (fits_nar_char _) W58 0 rfl (Nat.le_of_ble_eq_true rfl)
    have sz58 := (Keep.of_wr W58).1
    have N := Fr.snoc X N (by omega)
    refine Gl.by st ?_
    show Gl p e below s room_1.cells room_1.slots (fun v h L => v = some (.int 1) ∧ Fr n0 L) (T.setTop (mkF m 42 #[.val (.int p0), .val (.int p1), .val (.int p2), .val (.int p3), .val (.int (1 : Int32)), .val (.int (1 : Int32)), .unset, .unset, .unset, .unset, .unset, .unset, .unset, .unset, .unset] [(.ref ch), (.ref ps), (.ref ps)]))
    refine Gl.by (fun t_ k_ => XS.dup X.here hx rfl (hb hby at_42) rfl rfl k_) ?_
    show Gl p e below s room_1.cells room_1.slots (fun v h L => v = some (.int 1) ∧ Fr n0 L) (T.setTop (mkF m 43 #[.val (.int p0), .val (.int p1), .val (.int p2), .val (.int p3), .val (.int (1 : Int32)), .val (.int (1 : Int32)), .unset, .unset, .unset, .unset, .unset, .unset, .unset, .unset, .unset] [(.ref ch), (.ref ch), (.ref ps), (.ref ps)]))
    refine Gl.by (fun t_ k_ => XS.iconst X.here hx rfl (hb hby at_43) k_) ?_
    show Gl p e below s room_1.cells room_1.slots (fun v h L => v = some (.int 1) ∧ Fr n0 L) (T.setTop (mkF m 44 #[.val (.int p0), .val (.int p1), .val (.int p2), .val (.int p3), .val (.int (1 : Int32)), .val (.int (1 : Int32)), .unset, .unset, .unset, .unset, .unset, .unset, .unset, .unset, .unset] [(.int (1 : Int32)), (.ref ch), (.ref ch), (.ref ps), (.ref ps)]))
    refine Gl.by (fun t_ k_ => XS.iloadN X.here hx rfl (hb hby at_44) rfl k_) ?_
    show Gl p e below s room_1.cells room_1.slots (fun v h L => v = some (.int 1) ∧ Fr n0 L) (T.setTop (mkF m 45 #[.val (.int p0), .val (.int p1), .val (.int p2), .val (.int p3), .val (.int (1 : Int32)), .val (.int (1 : Int32)), .unset, .unset, .unset, .unset, .unset, .unset, .unset, .unset, .unset] [(.int p2), (.int (1 : Int32)), (.ref ch), (.ref ch), (.ref ps), (.ref ps)]))
    refine Gl.by (fun t_ k_ => XS.sipush X.here hx rfl (hb hby at_45) k_) ?_
    show Gl p e below s room_1.cells room_1.slots (fun v h L => v = some (.int 1) ∧ Fr n0 L) (T.setTop (mkF m 48 #[.val (.int p0), .val (.int p1), .val (.int p2), .val (.int p3), .val (.int (1 : Int32)), .val (.int (1 : Int32)), .unset, .unset, .unset, .unset, .unset, .unset, .unset, .unset, .unset] [(.int (255 : Int32)), (.int p2), (.int (1 : Int32)), (.ref ch), (.ref ch), (.ref ps), (.ref ps)]))
    refine Gl.by (fun t_ k_ => XS.iand X.here hx rfl (hb hby at_48) rfl k_) ?_
    show Gl p e below s room_1.cells room_1.slots (fun v h L => v = some (.int 1) ∧ Fr n0 L) (T.setTop (mkF m 49 #[.val (.int p0), .val (.int p1), .val (.int p2), .val (.int p3), .val (.int (1 : Int32)), .val (.int (1 : Int32)), .unset, .unset, .unset, .unset, .unset, .unset, .unset, .unset, .unset] [(.int (p2 &&& (255 : Int32))), (.int (1 : Int32)), (.ref ch), (.ref ch), (.ref ps), (.ref ps)]))
    refine Gl.by (fun t_ k_ => XS.i2c X.here hx rfl (hb hby at_49) rfl k_) ?_
    show Gl p e below s room_1.cells room_1.slots (fun v h L => v = some (.int 1) ∧ Fr n0 L) (T.setTop (mkF m 50 #[.val (.int p0), .val (.int p1), .val (.int p2), .val (.int p3), .val (.int (1 : Int32)), .val (.int (1 : Int32)), .unset, .unset, .unset, .unset, .unset, .unset, .unset, .unset, .unset] [(.int ((p2 &&& (255 : Int32)).toUInt32.toUInt16.toUInt32.toInt32)), (.int (1 : Int32)), (.ref ch), (.ref ch), (.ref ps), (.ref ps)]))
    rw [(and255_char p2).1]
    show Gl p e below s room_1.cells room_1.slots (fun v h L => v = some (.int 1) ∧ Fr n0 L) (T.setTop (mkF m 50 #[.val (.int p0), .val (.int p1), .val (.int p2), .val (.int p3), .val (.int (1 : Int32)), .val (.int (1 : Int32)), .unset, .unset, .unset, .unset, .unset, .unset, .unset, .unset, .unset] [(.int ((p2 &&& (255 : Int32)))), (.int (1 : Int32)), (.ref ch), (.ref ch), (.ref ps), (.ref ps)]))
    obtain ⟨cl59, Ar59, q59, S59, M59, H59, G59⟩ := (id (V58) : Arv Z h58 ch k57 .char (3 : Int32) [(.int (nar .char ((p1 &&& (255 : Int32))))), (.int (0 : Int32)), (.int (0 : Int32))] (.int (0 : Int32)))
    obtain ⟨T, h59, X, eT, W59, st⟩ := stC X hx hZ eT Ar59 (j := (1 : Int32)) (inb_of S59 ⟨by decide, by decide⟩) (g := (mkF m 50 #[.val (.int p0), .val (.int p1), .val (.int p2), .val (.int p3), .val (.int (1 : Int32)), .val (.int (1 : Int32)), .unset, .unset, .unset, .unset, .unset, .unset, .unset, .unset, .unset] [(.int ((p2 &&& (255 : Int32)))), (.int (1 : Int32)), (.ref ch), (.ref ch), (.ref ps), (.ref ps)])) rfl rfl (hb hby at_50)
    have V59 : Arv Z h59 ch k57 .char (3 : Int32) [(.int (nar .char ((p1 &&& (255 : Int32))))), (.int (nar .char ((p2 &&& (255 : Int32))))), (.int (0 : Int32))] (.int (0 : Int32)) := Arv.set Ar59 q59 S59 M59 H59 G59 (fits_nar_char _) W59 1 rfl (Nat.le_of_ble_eq_true rfl)
    have sz59 := (Keep.of_wr W59).1
    have N := Fr.snoc X N (by omega)
    refine Gl.by st ?_
    show Gl p e below s room_1.cells room_1.slots (fun v h L => v = some (.int 1) ∧ Fr n0 L) (T.setTop (mkF m 51 #[.val (.int p0), .val (.int p1), .val (.int p2), .val (.int p3), .val (.int (1 : Int32)), .val (.int (1 : Int32)), .unset, .unset, .unset, .unset, .unset, .unset, .unset, .unset, .unset] [(.ref ch), (.ref ps), (.ref ps)]))
    refine Gl.by (fun t_ k_ => XS.dup X.here hx rfl (hb hby at_51) rfl rfl k_) ?_
    show Gl p e below s room_1.cells room_1.slots (fun v h L => v = some (.int 1) ∧ Fr n0 L) (T.setTop (mkF m 52 #[.val (.int p0), .val (.int p1), .val (.int p2), .val (.int p3), .val (.int (1 : Int32)), .val (.int (1 : Int32)), .unset, .unset, .unset, .unset, .unset, .unset, .unset, .unset, .unset] [(.ref ch), (.ref ch), (.ref ps), (.ref ps)]))
    refine Gl.by (fun t_ k_ => XS.iconst X.here hx rfl (hb hby at_52) k_) ?_
    show Gl p e below s room_1.cells room_1.slots (fun v h L => v = some (.int 1) ∧ Fr n0 L) (T.setTop (mkF m 53 #[.val (.int p0), .val (.int p1), .val (.int p2), .val (.int p3), .val (.int (1 : Int32)), .val (.int (1 : Int32)), .unset, .unset, .unset, .unset, .unset, .unset, .unset, .unset, .unset] [(.int (2 : Int32)), (.ref ch), (.ref ch), (.ref ps), (.ref ps)]))
    refine Gl.by (fun t_ k_ => XS.iloadN X.here hx rfl (hb hby at_53) rfl k_) ?_
    show Gl p e below s room_1.cells room_1.slots (fun v h L => v = some (.int 1) ∧ Fr n0 L) (T.setTop (mkF m 54 #[.val (.int p0), .val (.int p1), .val (.int p2), .val (.int p3), .val (.int (1 : Int32)), .val (.int (1 : Int32)), .unset, .unset, .unset, .unset, .unset, .unset, .unset, .unset, .unset] [(.int p3), (.int (2 : Int32)), (.ref ch), (.ref ch), (.ref ps), (.ref ps)]))
    refine Gl.by (fun t_ k_ => XS.sipush X.here hx rfl (hb hby at_54) k_) ?_
    show Gl p e below s room_1.cells room_1.slots (fun v h L => v = some (.int 1) ∧ Fr n0 L) (T.setTop (mkF m 57 #[.val (.int p0), .val (.int p1), .val (.int p2), .val (.int p3), .val (.int (1 : Int32)), .val (.int (1 : Int32)), .unset, .unset, .unset, .unset, .unset, .unset, .unset, .unset, .unset] [(.int (255 : Int32)), (.int p3), (.int (2 : Int32)), (.ref ch), (.ref ch), (.ref ps), (.ref ps)]))
    refine Gl.by (fun t_ k_ => XS.iand X.here hx rfl (hb hby at_57) rfl k_) ?_
    show Gl p e below s room_1.cells room_1.slots (fun v h L => v = some (.int 1) ∧ Fr n0 L) (T.setTop (mkF m 58 #[.val (.int p0), .val (.int p1), .val (.int p2), .val (.int p3), .val (.int (1 : Int32)), .val (.int (1 : Int32)), .unset, .unset, .unset, .unset, .unset, .unset, .unset, .unset, .unset] [(.int (p3 &&& (255 : Int32))), (.int (2 : Int32)), (.ref ch), (.ref ch), (.ref ps), (.ref ps)]))
    refine Gl.by (fun t_ k_ => XS.i2c X.here hx rfl (hb hby at_58) rfl k_) ?_
    show Gl p e below s room_1.cells room_1.slots (fun v h L => v = some (.int 1) ∧ Fr n0 L) (T.setTop (mkF m 59 #[.val (.int p0), .val (.int p1), .val (.int p2), .val (.int p3), .val (.int (1 : Int32)), .val (.int (1 : Int32)), .unset, .unset, .unset, .unset, .unset, .unset, .unset, .unset, .unset] [(.int ((p3 &&& (255 : Int32)).toUInt32.toUInt16.toUInt32.toInt32)), (.int (2 : Int32)), (.ref ch), (.ref ch), (.ref ps), (.ref ps)]))
    rw [(and255_char p3).1]
    show Gl p e below s room_1.cells room_1.slots (fun v h L => v = some (.int 1) ∧ Fr n0 L) (T.setTop (mkF m 59 #[.val (.int p0), .val (.int p1), .val (.int p2), .val (.int p3), .val (.int (1 : Int32)), .val (.int (1 : Int32)), .unset, .unset, .unset, .unset, .unset, .unset, .unset, .unset, .unset] [(.int ((p3 &&& (255 : Int32)))), (.int (2 : Int32)), (.ref ch), (.ref ch), (.ref ps), (.ref ps)]))
    obtain ⟨cl60, Ar60, q60, S60, M60, H60, G60⟩ := (id (V59) : Arv Z h59 ch k57 .char (3 : Int32) [(.int (nar .char ((p1 &&& (255 : Int32))))), (.int (nar .char ((p2 &&& (255 : Int32))))), (.int (0 : Int32))] (.int (0 : Int32)))
    obtain ⟨T, h60, X, eT, W60, st⟩ := stC X hx hZ eT Ar60 (j := (2 : Int32)) (inb_of S60 ⟨by decide, by decide⟩) (g := (mkF m 59 #[.val (.int p0), .val (.int p1), .val (.int p2), .val (.int p3), .val (.int (1 : Int32)), .val (.int (1 : Int32)), .unset, .unset, .unset, .unset, .unset, .unset, .unset, .unset, .unset] [(.int ((p3 &&& (255 : Int32)))), (.int (2 : Int32)), (.ref ch), (.ref ch), (.ref ps), (.ref ps)])) rfl rfl (hb hby at_59)
    have V60 : Arv Z h60 ch k57 .char (3 : Int32) [(.int (nar .char ((p1 &&& (255 : Int32))))), (.int (nar .char ((p2 &&& (255 : Int32))))), (.int (nar .char ((p3 &&& (255 : Int32)))))] (.int (0 : Int32)) := Arv.set Ar60 q60 S60 M60 H60 G60 (fits_nar_char _) W60 2 rfl (Nat.le_of_ble_eq_true rfl)
    have sz60 := (Keep.of_wr W60).1
    have N := Fr.snoc X N (by omega)
    refine Gl.by st ?_
    show Gl p e below s room_1.cells room_1.slots (fun v h L => v = some (.int 1) ∧ Fr n0 L) (T.setTop (mkF m 60 #[.val (.int p0), .val (.int p1), .val (.int p2), .val (.int p3), .val (.int (1 : Int32)), .val (.int (1 : Int32)), .unset, .unset, .unset, .unset, .unset, .unset, .unset, .unset, .unset] [(.ref ch), (.ref ps), (.ref ps)]))
    have V61 : Arv Z h60 ch k57 .char (3 : Int32) (([(p1 &&& (255 : Int32)), (p2 &&& (255 : Int32)), (p3 &&& (255 : Int32))] : List Int32).map Value.int) (.int 0) := by
      have q := V60
      rw [ra1, ra2, ra3] at q
      exact q
    have O61 := (((((O.ext E56).ext E57).wr W58 (by omega)).wr W59 (by omega)).wr W60 (by omega))
    refine Gl.spec X hx hZ rfl hown (hw _ (List.mem_of_getElem? (i := 4) rfl)) (hw _ (List.mem_of_getElem? (i := 5) rfl)) (hw _ (List.mem_of_getElem? (i := 6) rfl)) (by decide) (W := 1) (payNew (n := 3) (n0 := n0) hZ (own_words hw) (hw _ (List.mem_of_getElem? (i := 1) rfl)) ([(p1 &&& (255 : Int32)), (p2 &&& (255 : Int32)), (p3 &&& (255 : Int32))] : List Int32) (by omega) (by omega) ((((A56.ext E57).wr W58).wr W59).wr W60) ((((F56_value.ext E57).other W58 (Or.inl (nea (by omega)))).other W59 (Or.inl (nea (by omega)))).other W60 (Or.inl (nea (by omega)))) ((((F56_coder.ext E57).other W58 (Or.inl (nea (by omega)))).other W59 (Or.inl (nea (by omega)))).other W60 (Or.inl (nea (by omega)))) V61 S hz O61 rfl rfl (by decide) (by decide) hp (by decide) (by decide)) eT (hb hby at_60) (by rw [hml]; rfl) ps [(.ref ch)] [(.ref ps)] (lenOf pd_17 rfl) rfl rfl (Nat.le_of_eq rfl) (by decide) (by decide) ?_
    intro v T L X hq
    obtain ⟨rfl, NQ, K62, SQ62⟩ := hq
    have N := Fr.app N NQ
    obtain ⟨h62, eT⟩ : ∃ z, T.heap = z := ⟨_, rfl⟩
    rw [eT] at K62 SQ62
    have sz62 := K62.1
    show Gl p e below s room_1.cells room_1.slots (fun v h L => v = some (.int 1) ∧ Fr n0 L) (T.setTop (mkF m 63 #[.val (.int p0), .val (.int p1), .val (.int p2), .val (.int p3), .val (.int (1 : Int32)), .val (.int (1 : Int32)), .unset, .unset, .unset, .unset, .unset, .unset, .unset, .unset, .unset] [(.ref ps)]))
    refine Gl.by (fun t_ k_ => XS.astore X.here hx rfl (hb hby at_63) rfl rfl (l' := #[.val (.int p0), .val (.int p1), .val (.int p2), .val (.int p3), .val (.int (1 : Int32)), .val (.int (1 : Int32)), .val (.ref ps), .unset, .unset, .unset, .unset, .unset, .unset, .unset, .unset]) rfl k_) ?_
    show Gl p e below s room_1.cells room_1.slots (fun v h L => v = some (.int 1) ∧ Fr n0 L) (T.setTop (mkF m 65 #[.val (.int p0), .val (.int p1), .val (.int p2), .val (.int p3), .val (.int (1 : Int32)), .val (.int (1 : Int32)), .val (.ref ps), .unset, .unset, .unset, .unset, .unset, .unset, .unset, .unset] []))
    obtain ⟨T, h63, X, eT, E63, A63, D63, -, st⟩ := newO X hx hZ hown (hw _ (List.mem_of_getElem? (i := 30) rfl)) (hw _ (List.mem_of_getElem? (i := 31) rfl)) (hw _ (List.mem_of_getElem? (i := 32) rfl)) eT (g := (mkF m 65 #[.val (.int p0), .val (.int p1), .val (.int p2), .val (.int p3), .val (.int (1 : Int32)), .val (.int (1 : Int32)), .val (.ref ps), .unset, .unset, .unset, .unset, .unset, .unset, .unset, .unset] [])) rfl (hb hby at_65) (by decide) (by decide)
    obtain ⟨tv, g63⟩ : ∃ z, z = h62.size := ⟨_, rfl⟩
    rw [← g63] at A63 D63 st
    have sz63 := E63.1
    have lt63 : tv < h63.size := A63.lt
    refine Gl.by st ?_
    have F63_name : Fld Z h63 tv "com/example/intentio/intentio/hddl/Term$Variable" "name" "Ljava/lang/String;" .null := D63 (Or.inr (hw _ (List.mem_of_getElem? (i := 57) rfl))) (ty := (.object "java/lang/String")) (by decide)
    have F63_type : Fld Z h63 tv "com/example/intentio/intentio/hddl/Term$Variable" "type" "Lcom/example/intentio/intentio/hddl/Type;" .null := D63 (Or.inr (hw _ (List.mem_of_getElem? (i := 59) rfl))) (ty := (.object "com/example/intentio/intentio/hddl/Type")) (by decide)
    show Gl p e below s room_1.cells room_1.slots (fun v h L => v = some (.int 1) ∧ Fr n0 L) (T.setTop (mkF m 68 #[.val (.int p0), .val (.int p1), .val (.int p2), .val (.int p3), .val (.int (1 : Int32)), .val (.int (1 : Int32)), .val (.ref ps), .unset, .unset, .unset, .unset, .unset, .unset, .unset, .unset] [(.ref tv)]))
    refine Gl.by (fun t_ k_ => XS.dup X.here hx rfl (hb hby at_68) rfl rfl k_) ?_
    show Gl p e below s room_1.cells room_1.slots (fun v h L => v = some (.int 1) ∧ Fr n0 L) (T.setTop (mkF m 69 #[.val (.int p0), .val (.int p1), .val (.int p2), .val (.int p3), .val (.int (1 : Int32)), .val (.int (1 : Int32)), .val (.ref ps), .unset, .unset, .unset, .unset, .unset, .unset, .unset, .unset] [(.ref tv), (.ref tv)]))
    refine Gl.by (fun t_ k_ => XS.iloadN X.here hx rfl (hb hby at_69) rfl k_) ?_
    show Gl p e below s room_1.cells room_1.slots (fun v h L => v = some (.int 1) ∧ Fr n0 L) (T.setTop (mkF m 70 #[.val (.int p0), .val (.int p1), .val (.int p2), .val (.int p3), .val (.int (1 : Int32)), .val (.int (1 : Int32)), .val (.ref ps), .unset, .unset, .unset, .unset, .unset, .unset, .unset, .unset] [(.int p0), (.ref tv), (.ref tv)]))
    refine Gl.by (fun t_ k_ => XS.bipush X.here hx rfl (hb hby at_70) k_) ?_
    show Gl p e below s room_1.cells room_1.slots (fun v h L => v = some (.int 1) ∧ Fr n0 L) (T.setTop (mkF m 72 #[.val (.int p0), .val (.int p1), .val (.int p2), .val (.int p3), .val (.int (1 : Int32)), .val (.int (1 : Int32)), .val (.ref ps), .unset, .unset, .unset, .unset, .unset, .unset, .unset, .unset] [(.int (8 : Int32)), (.int p0), (.ref tv), (.ref tv)]))
    refine Gl.by (fun t_ k_ => XS.iushr X.here hx rfl (hb hby at_72) rfl k_) ?_
    show Gl p e below s room_1.cells room_1.slots (fun v h L => v = some (.int 1) ∧ Fr n0 L) (T.setTop (mkF m 73 #[.val (.int p0), .val (.int p1), .val (.int p2), .val (.int p3), .val (.int (1 : Int32)), .val (.int (1 : Int32)), .val (.ref ps), .unset, .unset, .unset, .unset, .unset, .unset, .unset, .unset] [(.int ((p0.toUInt32 >>> ((8 : Int32) &&& 31).toUInt32).toInt32)), (.ref tv), (.ref tv)]))
    refine Gl.by (fun t_ k_ => XS.sipush X.here hx rfl (hb hby at_73) k_) ?_
    show Gl p e below s room_1.cells room_1.slots (fun v h L => v = some (.int 1) ∧ Fr n0 L) (T.setTop (mkF m 76 #[.val (.int p0), .val (.int p1), .val (.int p2), .val (.int p3), .val (.int (1 : Int32)), .val (.int (1 : Int32)), .val (.ref ps), .unset, .unset, .unset, .unset, .unset, .unset, .unset, .unset] [(.int (255 : Int32)), (.int ((p0.toUInt32 >>> ((8 : Int32) &&& 31).toUInt32).toInt32)), (.ref tv), (.ref tv)]))
    refine Gl.by (fun t_ k_ => XS.iand X.here hx rfl (hb hby at_76) rfl k_) ?_
    show Gl p e below s room_1.cells room_1.slots (fun v h L => v = some (.int 1) ∧ Fr n0 L) (T.setTop (mkF m 77 #[.val (.int p0), .val (.int p1), .val (.int p2), .val (.int p3), .val (.int (1 : Int32)), .val (.int (1 : Int32)), .val (.ref ps), .unset, .unset, .unset, .unset, .unset, .unset, .unset, .unset] [(.int (((p0.toUInt32 >>> ((8 : Int32) &&& 31).toUInt32).toInt32) &&& (255 : Int32))), (.ref tv), (.ref tv)]))
    refine Gl.by (fun t_ k_ => XS.i2c X.here hx rfl (hb hby at_77) rfl k_) ?_
    show Gl p e below s room_1.cells room_1.slots (fun v h L => v = some (.int 1) ∧ Fr n0 L) (T.setTop (mkF m 78 #[.val (.int p0), .val (.int p1), .val (.int p2), .val (.int p3), .val (.int (1 : Int32)), .val (.int (1 : Int32)), .val (.ref ps), .unset, .unset, .unset, .unset, .unset, .unset, .unset, .unset] [(.int ((((p0.toUInt32 >>> ((8 : Int32) &&& 31).toUInt32).toInt32) &&& (255 : Int32)).toUInt32.toUInt16.toUInt32.toInt32)), (.ref tv), (.ref tv)]))
    rw [(and255_char ((p0.toUInt32 >>> ((8 : Int32) &&& 31).toUInt32).toInt32)).1]
    show Gl p e below s room_1.cells room_1.slots (fun v h L => v = some (.int 1) ∧ Fr n0 L) (T.setTop (mkF m 78 #[.val (.int p0), .val (.int p1), .val (.int p2), .val (.int p3), .val (.int (1 : Int32)), .val (.int (1 : Int32)), .val (.ref ps), .unset, .unset, .unset, .unset, .unset, .unset, .unset, .unset] [(.int ((((p0.toUInt32 >>> ((8 : Int32) &&& 31).toUInt32).toInt32) &&& (255 : Int32)))), (.ref tv), (.ref tv)]))
    refine Gl.stat X hx hZ hown (hw _ (List.mem_of_getElem? (i := 33) rfl)) (hw _ (List.mem_of_getElem? (i := 34) rfl)) (hw _ (List.mem_of_getElem? (i := 2) rfl)) (hw _ (List.mem_of_getElem? (i := 35) rfl)) (by decide) (W := 2) (backC (own_vof l Z a0 hw (((p0.toUInt32 >>> ((8 : Int32) &&& 31).toUInt32).toInt32) &&& (255 : Int32)) z h63 n0 (by omega) sa8.2 S hz ((O61.keep K62 (allS (by omega) all0)).ext E63)) hZ (hw _ (List.mem_of_getElem? (i := 35) rfl)) (hw _ (List.mem_of_getElem? (i := 2) rfl)) (by decide) (by decide)) eT (hb hby at_78) (by rw [hml]; rfl) [(.int ((((p0.toUInt32 >>> ((8 : Int32) &&& 31).toUInt32).toInt32) &&& (255 : Int32))))] [(.ref tv), (.ref tv)] (lenOf pd_18 rfl) rfl rfl (Nat.le_of_eq rfl) (by decide) (by decide) ?_
    intro v T L X hq
    obtain ⟨NQ, K64, sx, rfl, ge64⟩ := hq
    have N := Fr.app N NQ
    obtain ⟨h64, eT⟩ : ∃ z, T.heap = z := ⟨_, rfl⟩
    rw [eT] at K64
    have sz64 := K64.1
    show Gl p e below s room_1.cells room_1.slots (fun v h L => v = some (.int 1) ∧ Fr n0 L) (T.setTop (mkF m 81 #[.val (.int p0), .val (.int p1), .val (.int p2), .val (.int p3), .val (.int (1 : Int32)), .val (.int (1 : Int32)), .val (.ref ps), .unset, .unset, .unset, .unset, .unset, .unset, .unset, .unset] [(.ref sx), (.ref tv), (.ref tv)]))
    refine Gl.by (fun t_ k_ => XS.aconstNull X.here hx rfl (hb hby at_81) k_) ?_
    show Gl p e below s room_1.cells room_1.slots (fun v h L => v = some (.int 1) ∧ Fr n0 L) (T.setTop (mkF m 82 #[.val (.int p0), .val (.int p1), .val (.int p2), .val (.int p3), .val (.int (1 : Int32)), .val (.int (1 : Int32)), .val (.ref ps), .unset, .unset, .unset, .unset, .unset, .unset, .unset, .unset] [.null, (.ref sx), (.ref tv), (.ref tv)]))
    refine Gl.spec X hx hZ rfl hown (hw _ (List.mem_of_getElem? (i := 47) rfl)) (hw _ (List.mem_of_getElem? (i := 48) rfl)) (hw _ (List.mem_of_getElem? (i := 49) rfl)) (by decide) (W := 1) (backC (own_tvi l Z a0 hw tv sx h64 n0 (by omega) (A63.keep K64) (F63_name.keep K64 nin0) (F63_type.keep K64 nin0)) hZ (hw _ (List.mem_of_getElem? (i := 49) rfl)) (hw _ (List.mem_of_getElem? (i := 32) rfl)) (by decide) (by decide)) eT (hb hby at_82) (by rw [hml]; rfl) tv [(.ref sx), .null] [(.ref tv)] (lenOf pd_19 rfl) rfl rfl (Nat.le_of_eq rfl) (by decide) (by decide) ?_
    intro v T L X hq
    obtain ⟨rfl, NQ, K65, Q65⟩ := hq
    have N := Fr.app N NQ
    obtain ⟨h65, eT⟩ : ∃ z, T.heap = z := ⟨_, rfl⟩
    rw [eT] at K65 Q65
    have sz65 := K65.1
    show Gl p e below s room_1.cells room_1.slots (fun v h L => v = some (.int 1) ∧ Fr n0 L) (T.setTop (mkF m 85 #[.val (.int p0), .val (.int p1), .val (.int p2), .val (.int p3), .val (.int (1 : Int32)), .val (.int (1 : Int32)), .val (.ref ps), .unset, .unset, .unset, .unset, .unset, .unset, .unset, .unset] [(.ref tv)]))
    refine Gl.by (fun t_ k_ => XS.astore X.here hx rfl (hb hby at_85) rfl rfl (l' := #[.val (.int p0), .val (.int p1), .val (.int p2), .val (.int p3), .val (.int (1 : Int32)), .val (.int (1 : Int32)), .val (.ref ps), .val (.ref tv), .unset, .unset, .unset, .unset, .unset, .unset, .unset]) rfl k_) ?_
    show Gl p e below s room_1.cells room_1.slots (fun v h L => v = some (.int 1) ∧ Fr n0 L) (T.setTop (mkF m 87 #[.val (.int p0), .val (.int p1), .val (.int p2), .val (.int p3), .val (.int (1 : Int32)), .val (.int (1 : Int32)), .val (.ref ps), .val (.ref tv), .unset, .unset, .unset, .unset, .unset, .unset, .unset] []))
    obtain ⟨T, h66, X, eT, E66, A66, D66, -, st⟩ := newO X hx hZ hown (hw _ (List.mem_of_getElem? (i := 60) rfl)) (hw _ (List.mem_of_getElem? (i := 61) rfl)) (hw _ (List.mem_of_getElem? (i := 62) rfl)) eT (g := (mkF m 87 #[.val (.int p0), .val (.int p1), .val (.int p2), .val (.int p3), .val (.int (1 : Int32)), .val (.int (1 : Int32)), .val (.ref ps), .val (.ref tv), .unset, .unset, .unset, .unset, .unset, .unset, .unset] [])) rfl (hb hby at_87) (by decide) (by decide)
    obtain ⟨al, g66⟩ : ∃ z, z = h65.size := ⟨_, rfl⟩
    rw [← g66] at A66 D66 st
    have sz66 := E66.1
    have lt66 : al < h66.size := A66.lt
    refine Gl.by st ?_
    have F66_elementData : Fld Z h66 al "java/util/ArrayList" "elementData" "[Ljava/lang/Object;" .null := D66 (Or.inl (hw _ (List.mem_of_getElem? (i := 83) rfl))) (ty := (.array (.object "java/lang/Object"))) (by decide)
    have F66_size : Fld Z h66 al "java/util/ArrayList" "size" "I" (.int (0 : Int32)) := D66 (Or.inl (hw _ (List.mem_of_getElem? (i := 115) rfl))) (ty := .int) (by decide)
    have F66_modCount : Fld Z h66 al "java/util/AbstractList" "modCount" "I" (.int (0 : Int32)) := D66 (Or.inl (hw _ (List.mem_of_getElem? (i := 80) rfl))) (ty := .int) (by decide)
    show Gl p e below s room_1.cells room_1.slots (fun v h L => v = some (.int 1) ∧ Fr n0 L) (T.setTop (mkF m 90 #[.val (.int p0), .val (.int p1), .val (.int p2), .val (.int p3), .val (.int (1 : Int32)), .val (.int (1 : Int32)), .val (.ref ps), .val (.ref tv), .unset, .unset, .unset, .unset, .unset, .unset, .unset] [(.ref al)]))
    refine Gl.by (fun t_ k_ => XS.dup X.here hx rfl (hb hby at_90) rfl rfl k_) ?_
    show Gl p e below s room_1.cells room_1.slots (fun v h L => v = some (.int 1) ∧ Fr n0 L) (T.setTop (mkF m 91 #[.val (.int p0), .val (.int p1), .val (.int p2), .val (.int p3), .val (.int (1 : Int32)), .val (.int (1 : Int32)), .val (.ref ps), .val (.ref tv), .unset, .unset, .unset, .unset, .unset, .unset, .unset] [(.ref al), (.ref al)]))
    refine Gl.spec X hx hZ rfl hown (hw _ (List.mem_of_getElem? (i := 63) rfl)) (hw _ (List.mem_of_getElem? (i := 64) rfl)) (hw _ (List.mem_of_getElem? (i := 65) rfl)) (by decide) (W := 1) (backC (own_ali l Z a0 hw al dc el mr em h66 n0 (by omega) A66 F66_elementData F66_size F66_modCount (((((O61.keep K62 (allS (by omega) all0)).ext E63).keep K64 all0).keep K65 (allS (by omega) all0)).ext E66) K) hZ (hw _ (List.mem_of_getElem? (i := 65) rfl)) (hw _ (List.mem_of_getElem? (i := 62) rfl)) (by decide) (by decide)) eT (hb hby at_91) (by rw [hml]; rfl) al [] [(.ref al)] (lenOf pd_0 rfl) rfl rfl (Nat.le_of_eq rfl) (by decide) (by decide) ?_
    intro v T L X hq
    obtain ⟨rfl, NQ, K67, A67⟩ := hq
    have N := Fr.app N NQ
    obtain ⟨h67, eT⟩ : ∃ z, T.heap = z := ⟨_, rfl⟩
    rw [eT] at K67 A67
    have sz67 := K67.1
    show Gl p e below s room_1.cells room_1.slots (fun v h L => v = some (.int 1) ∧ Fr n0 L) (T.setTop (mkF m 94 #[.val (.int p0), .val (.int p1), .val (.int p2), .val (.int p3), .val (.int (1 : Int32)), .val (.int (1 : Int32)), .val (.ref ps), .val (.ref tv), .unset, .unset, .unset, .unset, .unset, .unset, .unset] [(.ref al)]))
    refine Gl.by (fun t_ k_ => XS.astore X.here hx rfl (hb hby at_94) rfl rfl (l' := #[.val (.int p0), .val (.int p1), .val (.int p2), .val (.int p3), .val (.int (1 : Int32)), .val (.int (1 : Int32)), .val (.ref ps), .val (.ref tv), .val (.ref al), .unset, .unset, .unset, .unset, .unset, .unset]) rfl k_) ?_
    show Gl p e below s room_1.cells room_1.slots (fun v h L => v = some (.int 1) ∧ Fr n0 L) (T.setTop (mkF m 96 #[.val (.int p0), .val (.int p1), .val (.int p2), .val (.int p3), .val (.int (1 : Int32)), .val (.int (1 : Int32)), .val (.ref ps), .val (.ref tv), .val (.ref al), .unset, .unset, .unset, .unset, .unset, .unset] []))
    refine Gl.by (fun t_ k_ => XS.iload X.here hx rfl (hb hby at_96) rfl k_) ?_
    show Gl p e below s room_1.cells room_1.slots (fun v h L => v = some (.int 1) ∧ Fr n0 L) (T.setTop (mkF m 98 #[.val (.int p0), .val (.int p1), .val (.int p2), .val (.int p3), .val (.int (1 : Int32)), .val (.int (1 : Int32)), .val (.ref ps), .val (.ref tv), .val (.ref al), .unset, .unset, .unset, .unset, .unset, .unset] [(.int (1 : Int32))]))
    refine Gl.by (fun t_ k_ => XS.ifNo X.here hx rfl (hb hby at_98) rfl ((if0 _ _).trans (feq (by decide : ¬ (1 : Int32) = 0)).1) k_) ?_
    show Gl p e below s room_1.cells room_1.slots (fun v h L => v = some (.int 1) ∧ Fr n0 L) (T.setTop (mkF m 101 #[.val (.int p0), .val (.int p1), .val (.int p2), .val (.int p3), .val (.int (1 : Int32)), .val (.int (1 : Int32)), .val (.ref ps), .val (.ref tv), .val (.ref al), .unset, .unset, .unset, .unset, .unset, .unset] []))
    refine Gl.by (fun t_ k_ => XS.aload X.here hx rfl (hb hby at_101) rfl rfl k_) ?_
    show Gl p e below s room_1.cells room_1.slots (fun v h L => v = some (.int 1) ∧ Fr n0 L) (T.setTop (mkF m 103 #[.val (.int p0), .val (.int p1), .val (.int p2), .val (.int p3), .val (.int (1 : Int32)), .val (.int (1 : Int32)), .val (.ref ps), .val (.ref tv), .val (.ref al), .unset, .unset, .unset, .unset, .unset, .unset] [(.ref al)]))
    refine Gl.by (fun t_ k_ => XS.aload X.here hx rfl (hb hby at_103) rfl rfl k_) ?_
    show Gl p e below s room_1.cells room_1.slots (fun v h L => v = some (.int 1) ∧ Fr n0 L) (T.setTop (mkF m 105 #[.val (.int p0), .val (.int p1), .val (.int p2), .val (.int p3), .val (.int (1 : Int32)), .val (.int (1 : Int32)), .val (.ref ps), .val (.ref tv), .val (.ref al), .unset, .unset, .unset, .unset, .unset, .unset] [(.ref tv), (.ref al)]))
    refine Gl.virt X hx hZ hown (hw _ (List.mem_of_getElem? (i := 179) rfl)) (hw _ (List.mem_of_getElem? (i := 180) rfl)) (hw _ (List.mem_of_getElem? (i := 182) rfl)) (hw _ (List.mem_of_getElem? (i := 181) rfl)) (notFace_of_selects (args := #[]) (mvT hZ (hw _ (List.mem_of_getElem? (i := 182) rfl)))) (by decide) (A66.keep K67) (W := 0) (backC (own_add l Z a0 hw al tv 0 dc el mr em h67 n0 (by omega) (by omega) ⟨(A66.keep K67), A67.2.1, A67.2.2.1, A67.2.2.2⟩ ((((A63.keep K64).keep K65).ext E66).keep K67) ((((((O61.keep K62 (allS (by omega) all0)).ext E63).keep K64 all0).keep K65 (allS (by omega) all0)).ext E66).keep K67 (allS (by omega) all0)) K) hZ (hw _ (List.mem_of_getElem? (i := 183) rfl)) (hw _ (List.mem_of_getElem? (i := 62) rfl)) (by decide) (by decide)) eT (hb hby at_105) (by rw [hml]; rfl) [(.ref tv)] [] (lenOf pd_24 rfl) rfl rfl (Nat.le_of_eq rfl) (by decide) (by decide) ?_
    intro v T L X hq
    obtain ⟨rfl, NQ, K68, ed, kd, ged, A68, V68, E68⟩ := hq
    have N := Fr.app N NQ
    obtain ⟨h68, eT⟩ : ∃ z, T.heap = z := ⟨_, rfl⟩
    rw [eT] at K68 A68 V68 E68
    have sz68 := K68.1
    show Gl p e below s room_1.cells room_1.slots (fun v h L => v = some (.int 1) ∧ Fr n0 L) (T.setTop (mkF m 108 #[.val (.int p0), .val (.int p1), .val (.int p2), .val (.int p3), .val (.int (1 : Int32)), .val (.int (1 : Int32)), .val (.ref ps), .val (.ref tv), .val (.ref al), .unset, .unset, .unset, .unset, .unset, .unset] [(.int (1 : Int32))]))
    have led : ed < h68.size := E68.lt
    refine Gl.by (fun t_ k_ => XS.pop X.here hx rfl (hb hby at_108) rfl rfl k_) ?_
    show Gl p e below s room_1.cells room_1.slots (fun v h L => v = some (.int 1) ∧ Fr n0 L) (T.setTop (mkF m 109 #[.val (.int p0), .val (.int p1), .val (.int p2), .val (.int p3), .val (.int (1 : Int32)), .val (.int (1 : Int32)), .val (.ref ps), .val (.ref tv), .val (.ref al), .unset, .unset, .unset, .unset, .unset, .unset] []))
    obtain ⟨T, h69, X, eT, E69, A69, D69, -, st⟩ := newO X hx hZ hown (hw _ (List.mem_of_getElem? (i := 84) rfl)) (hw _ (List.mem_of_getElem? (i := 85) rfl)) (hw _ (List.mem_of_getElem? (i := 86) rfl)) eT (g := (mkF m 109 #[.val (.int p0), .val (.int p1), .val (.int p2), .val (.int p3), .val (.int (1 : Int32)), .val (.int (1 : Int32)), .val (.ref ps), .val (.ref tv), .val (.ref al), .unset, .unset, .unset, .unset, .unset, .unset] [])) rfl (hb hby at_109) (by decide) (by decide)
    obtain ⟨ao, g69⟩ : ∃ z, z = h68.size := ⟨_, rfl⟩
    rw [← g69] at A69 D69 st
    have sz69 := E69.1
    have lt69 : ao < h69.size := A69.lt
    refine Gl.by st ?_
    have F69_predicate : Fld Z h69 ao "com/example/intentio/intentio/hddl/Atom" "predicate" "Ljava/lang/String;" .null := D69 (Or.inr (hw _ (List.mem_of_getElem? (i := 121) rfl))) (ty := (.object "java/lang/String")) (by decide)
    have F69_arguments : Fld Z h69 ao "com/example/intentio/intentio/hddl/Atom" "arguments" "Ljava/util/List;" .null := D69 (Or.inr (hw _ (List.mem_of_getElem? (i := 123) rfl))) (ty := (.object "java/util/List")) (by decide)
    show Gl p e below s room_1.cells room_1.slots (fun v h L => v = some (.int 1) ∧ Fr n0 L) (T.setTop (mkF m 112 #[.val (.int p0), .val (.int p1), .val (.int p2), .val (.int p3), .val (.int (1 : Int32)), .val (.int (1 : Int32)), .val (.ref ps), .val (.ref tv), .val (.ref al), .unset, .unset, .unset, .unset, .unset, .unset] [(.ref ao)]))
    refine Gl.by (fun t_ k_ => XS.dup X.here hx rfl (hb hby at_112) rfl rfl k_) ?_
    show Gl p e below s room_1.cells room_1.slots (fun v h L => v = some (.int 1) ∧ Fr n0 L) (T.setTop (mkF m 113 #[.val (.int p0), .val (.int p1), .val (.int p2), .val (.int p3), .val (.int (1 : Int32)), .val (.int (1 : Int32)), .val (.ref ps), .val (.ref tv), .val (.ref al), .unset, .unset, .unset, .unset, .unset, .unset] [(.ref ao), (.ref ao)]))
    refine Gl.by (fun t_ k_ => XS.aload X.here hx rfl (hb hby at_113) rfl rfl k_) ?_
    show Gl p e below s room_1.cells room_1.slots (fun v h L => v = some (.int 1) ∧ Fr n0 L) (T.setTop (mkF m 115 #[.val (.int p0), .val (.int p1), .val (.int p2), .val (.int p3), .val (.int (1 : Int32)), .val (.int (1 : Int32)), .val (.ref ps), .val (.ref tv), .val (.ref al), .unset, .unset, .unset, .unset, .unset, .unset] [(.ref ps), (.ref ao), (.ref ao)]))
    refine Gl.by (fun t_ k_ => XS.aload X.here hx rfl (hb hby at_115) rfl rfl k_) ?_
    show Gl p e below s room_1.cells room_1.slots (fun v h L => v = some (.int 1) ∧ Fr n0 L) (T.setTop (mkF m 117 #[.val (.int p0), .val (.int p1), .val (.int p2), .val (.int p3), .val (.int (1 : Int32)), .val (.int (1 : Int32)), .val (.ref ps), .val (.ref tv), .val (.ref al), .unset, .unset, .unset, .unset, .unset, .unset] [(.ref al), (.ref ps), (.ref ao), (.ref ao)]))
    refine Gl.spec X hx hZ rfl hown (hw _ (List.mem_of_getElem? (i := 87) rfl)) (hw _ (List.mem_of_getElem? (i := 88) rfl)) (hw _ (List.mem_of_getElem? (i := 89) rfl)) (by decide) (W := 1) (backC (own_at1 l Z a0 hw ao ps al (0 + 1) ed tv kd dc el mr em h69 n0 (by omega) A69 F69_predicate F69_arguments ⟨(((A66.keep K67).keep K68).ext E69), (A68.2.1.ext E69), (A68.2.2.1.ext E69), (A68.2.2.2.ext E69)⟩ (by omega) (V68.ext E69) (E68.ext E69) ((((((A63.keep K64).keep K65).ext E66).keep K67).keep K68).ext E69) ((((((((O61.keep K62 (allS (by omega) all0)).ext E63).keep K64 all0).keep K65 (allS (by omega) all0)).ext E66).keep K67 (allS (by omega) all0)).keep K68 (allS (by omega) all0)).ext E69) K) hZ (hw _ (List.mem_of_getElem? (i := 89) rfl)) (hw _ (List.mem_of_getElem? (i := 86) rfl)) (by decide) (by decide)) eT (hb hby at_117) (by rw [hml]; rfl) ao [(.ref ps), (.ref al)] [(.ref ao)] (lenOf pd_20 rfl) rfl rfl (Nat.le_of_eq rfl) (by decide) (by decide) ?_
    intro v T L X hq
    obtain ⟨rfl, NQ, K70, EA70, FP70, li, gli, FA70, EL70, F070, F170⟩ := hq
    have N := Fr.app N NQ
    obtain ⟨h70, eT⟩ : ∃ z, T.heap = z := ⟨_, rfl⟩
    rw [eT] at K70 EA70 FP70 FA70 EL70 F070 F170
    have sz70 := K70.1
    show Gl p e below s room_1.cells room_1.slots (fun v h L => v = some (.int 1) ∧ Fr n0 L) (T.setTop (mkF m 120 #[.val (.int p0), .val (.int p1), .val (.int p2), .val (.int p3), .val (.int (1 : Int32)), .val (.int (1 : Int32)), .val (.ref ps), .val (.ref tv), .val (.ref al), .unset, .unset, .unset, .unset, .unset, .unset] [(.ref ao)]))
    have lli : li < h70.size := EL70.lt
    refine Gl.by (fun t_ k_ => XS.astore X.here hx rfl (hb hby at_120) rfl rfl (l' := #[.val (.int p0), .val (.int p1), .val (.int p2), .val (.int p3), .val (.int (1 : Int32)), .val (.int (1 : Int32)), .val (.ref ps), .val (.ref tv), .val (.ref al), .val (.ref ao), .unset, .unset, .unset, .unset, .unset]) rfl k_) ?_
    show Gl p e below s room_1.cells room_1.slots (fun v h L => v = some (.int 1) ∧ Fr n0 L) (T.setTop (mkF m 122 #[.val (.int p0), .val (.int p1), .val (.int p2), .val (.int p3), .val (.int (1 : Int32)), .val (.int (1 : Int32)), .val (.ref ps), .val (.ref tv), .val (.ref al), .val (.ref ao), .unset, .unset, .unset, .unset, .unset] []))
    obtain ⟨T, h71, X, eT, E71, A71, D71, -, st⟩ := newO X hx hZ hown (hw _ (List.mem_of_getElem? (i := 124) rfl)) (hw _ (List.mem_of_getElem? (i := 125) rfl)) (hw _ (List.mem_of_getElem? (i := 126) rfl)) eT (g := (mkF m 122 #[.val (.int p0), .val (.int p1), .val (.int p2), .val (.int p3), .val (.int (1 : Int32)), .val (.int (1 : Int32)), .val (.ref ps), .val (.ref tv), .val (.ref al), .val (.ref ao), .unset, .unset, .unset, .unset, .unset] [])) rfl (hb hby at_122) (by decide) (by decide)
    obtain ⟨la, g71⟩ : ∃ z, z = h70.size := ⟨_, rfl⟩
    rw [← g71] at A71 D71 st
    have sz71 := E71.1
    have lt71 : la < h71.size := A71.lt
    refine Gl.by st ?_
    have F71_atom : Fld Z h71 la "com/example/intentio/intentio/hddl/Literal" "atom" "Lcom/example/intentio/intentio/hddl/Atom;" .null := D71 (Or.inr (hw _ (List.mem_of_getElem? (i := 132) rfl))) (ty := (.object "com/example/intentio/intentio/hddl/Atom")) (by decide)
    have F71_positive : Fld Z h71 la "com/example/intentio/intentio/hddl/Literal" "positive" "Z" (.int (0 : Int32)) := D71 (Or.inr (hw _ (List.mem_of_getElem? (i := 134) rfl))) (ty := .boolean) (by decide)
    show Gl p e below s room_1.cells room_1.slots (fun v h L => v = some (.int 1) ∧ Fr n0 L) (T.setTop (mkF m 125 #[.val (.int p0), .val (.int p1), .val (.int p2), .val (.int p3), .val (.int (1 : Int32)), .val (.int (1 : Int32)), .val (.ref ps), .val (.ref tv), .val (.ref al), .val (.ref ao), .unset, .unset, .unset, .unset, .unset] [(.ref la)]))
    refine Gl.by (fun t_ k_ => XS.dup X.here hx rfl (hb hby at_125) rfl rfl k_) ?_
    show Gl p e below s room_1.cells room_1.slots (fun v h L => v = some (.int 1) ∧ Fr n0 L) (T.setTop (mkF m 126 #[.val (.int p0), .val (.int p1), .val (.int p2), .val (.int p3), .val (.int (1 : Int32)), .val (.int (1 : Int32)), .val (.ref ps), .val (.ref tv), .val (.ref al), .val (.ref ao), .unset, .unset, .unset, .unset, .unset] [(.ref la), (.ref la)]))
    refine Gl.by (fun t_ k_ => XS.aload X.here hx rfl (hb hby at_126) rfl rfl k_) ?_
    show Gl p e below s room_1.cells room_1.slots (fun v h L => v = some (.int 1) ∧ Fr n0 L) (T.setTop (mkF m 128 #[.val (.int p0), .val (.int p1), .val (.int p2), .val (.int p3), .val (.int (1 : Int32)), .val (.int (1 : Int32)), .val (.ref ps), .val (.ref tv), .val (.ref al), .val (.ref ao), .unset, .unset, .unset, .unset, .unset] [(.ref ao), (.ref la), (.ref la)]))
    refine Gl.by (fun t_ k_ => XS.iload X.here hx rfl (hb hby at_128) rfl k_) ?_
    show Gl p e below s room_1.cells room_1.slots (fun v h L => v = some (.int 1) ∧ Fr n0 L) (T.setTop (mkF m 130 #[.val (.int p0), .val (.int p1), .val (.int p2), .val (.int p3), .val (.int (1 : Int32)), .val (.int (1 : Int32)), .val (.ref ps), .val (.ref tv), .val (.ref al), .val (.ref ao), .unset, .unset, .unset, .unset, .unset] [(.int (1 : Int32)), (.ref ao), (.ref la), (.ref la)]))
    refine Gl.spec X hx hZ rfl hown (hw _ (List.mem_of_getElem? (i := 127) rfl)) (hw _ (List.mem_of_getElem? (i := 128) rfl)) (hw _ (List.mem_of_getElem? (i := 129) rfl)) (by decide) (W := 1) (backC (own_liti1 l Z a0 hw la ao h71 n0 (by omega) A71 F71_atom F71_positive) hZ (hw _ (List.mem_of_getElem? (i := 129) rfl)) (hw _ (List.mem_of_getElem? (i := 126) rfl)) (by decide) (by decide)) eT (hb hby at_130) (by rw [hml]; rfl) la [(.ref ao), (.int (1 : Int32))] [(.ref la)] (lenOf pd_16 rfl) rfl rfl (Nat.le_of_eq rfl) (by decide) (by decide) ?_
    intro v T L X hq
    obtain ⟨rfl, NQ, K72, H72, G72, P72⟩ := hq
    have N := Fr.app N NQ
    obtain ⟨h72, eT⟩ : ∃ z, T.heap = z := ⟨_, rfl⟩
    rw [eT] at K72 H72 G72 P72
    have sz72 := K72.1
    show Gl p e below s room_1.cells room_1.slots (fun v h L => v = some (.int 1) ∧ Fr n0 L) (T.setTop (mkF m 133 #[.val (.int p0), .val (.int p1), .val (.int p2), .val (.int p3), .val (.int (1 : Int32)), .val (.int (1 : Int32)), .val (.ref ps), .val (.ref tv), .val (.ref al), .val (.ref ao), .unset, .unset, .unset, .unset, .unset] [(.ref la)]))
    refine Gl.by (fun t_ k_ => XS.astore X.here hx rfl (hb hby at_133) rfl rfl (l' := #[.val (.int p0), .val (.int p1), .val (.int p2), .val (.int p3), .val (.int (1 : Int32)), .val (.int (1 : Int32)), .val (.ref ps), .val (.ref tv), .val (.ref al), .val (.ref ao), .val (.ref la), .unset, .unset, .unset, .unset]) rfl k_) ?_
    show Gl p e below s room_1.cells room_1.slots (fun v h L => v = some (.int 1) ∧ Fr n0 L) (T.setTop (mkF m 135 #[.val (.int p0), .val (.int p1), .val (.int p2), .val (.int p3), .val (.int (1 : Int32)), .val (.int (1 : Int32)), .val (.ref ps), .val (.ref tv), .val (.ref al), .val (.ref ao), .val (.ref la), .unset, .unset, .unset, .unset] []))
    refine Gl.by (fun t_ k_ => XS.aload X.here hx rfl (hb hby at_135) rfl rfl k_) ?_
    show Gl p e below s room_1.cells room_1.slots (fun v h L => v = some (.int 1) ∧ Fr n0 L) (T.setTop (mkF m 137 #[.val (.int p0), .val (.int p1), .val (.int p2), .val (.int p3), .val (.int (1 : Int32)), .val (.int (1 : Int32)), .val (.ref ps), .val (.ref tv), .val (.ref al), .val (.ref ao), .val (.ref la), .unset, .unset, .unset, .unset] [(.ref la)]))
    refine Gl.virt X hx hZ hown (hw _ (List.mem_of_getElem? (i := 135) rfl)) (hw _ (List.mem_of_getElem? (i := 136) rfl)) (hw _ (List.mem_of_getElem? (i := 138) rfl)) (hw _ (List.mem_of_getElem? (i := 137) rfl)) (notFace_of_selects (args := #[]) (mvT hZ (hw _ (List.mem_of_getElem? (i := 138) rfl)))) (by decide) (A71.keep K72) (W := 0) (backC (own_cpl1 l Z a0 hw la ao h72 n0 (by omega) ⟨(A71.keep K72), G72, P72⟩) hZ (hw _ (List.mem_of_getElem? (i := 139) rfl)) (hw _ (List.mem_of_getElem? (i := 126) rfl)) (by decide) (by decide)) eT (hb hby at_137) (by rw [hml]; rfl) [] [] (lenOf pd_21 rfl) rfl rfl (Nat.le_of_eq rfl) (by decide) (by decide) ?_
    intro v T L X hq
    obtain ⟨NQ, K73, lc, rfl, glc, H73, G73, P73⟩ := hq
    have N := Fr.app N NQ
    obtain ⟨h73, eT⟩ : ∃ z, T.heap = z := ⟨_, rfl⟩
    rw [eT] at K73 H73 G73 P73
    have sz73 := K73.1
    show Gl p e below s room_1.cells room_1.slots (fun v h L => v = some (.int 1) ∧ Fr n0 L) (T.setTop (mkF m 140 #[.val (.int p0), .val (.int p1), .val (.int p2), .val (.int p3), .val (.int (1 : Int32)), .val (.int (1 : Int32)), .val (.ref ps), .val (.ref tv), .val (.ref al), .val (.ref ao), .val (.ref la), .unset, .unset, .unset, .unset] [(.ref lc)]))
    have llc : lc < h73.size := H73.lt
    refine Gl.by (fun t_ k_ => XS.astore X.here hx rfl (hb hby at_140) rfl rfl (l' := #[.val (.int p0), .val (.int p1), .val (.int p2), .val (.int p3), .val (.int (1 : Int32)), .val (.int (1 : Int32)), .val (.ref ps), .val (.ref tv), .val (.ref al), .val (.ref ao), .val (.ref la), .val (.ref lc), .unset, .unset, .unset]) rfl k_) ?_
    show Gl p e below s room_1.cells room_1.slots (fun v h L => v = some (.int 1) ∧ Fr n0 L) (T.setTop (mkF m 142 #[.val (.int p0), .val (.int p1), .val (.int p2), .val (.int p3), .val (.int (1 : Int32)), .val (.int (1 : Int32)), .val (.ref ps), .val (.ref tv), .val (.ref al), .val (.ref ao), .val (.ref la), .val (.ref lc), .unset, .unset, .unset] []))
    refine Gl.by (fun t_ k_ => XS.aload X.here hx rfl (hb hby at_142) rfl rfl k_) ?_
    show Gl p e below s room_1.cells room_1.slots (fun v h L => v = some (.int 1) ∧ Fr n0 L) (T.setTop (mkF m 144 #[.val (.int p0), .val (.int p1), .val (.int p2), .val (.int p3), .val (.int (1 : Int32)), .val (.int (1 : Int32)), .val (.ref ps), .val (.ref tv), .val (.ref al), .val (.ref ao), .val (.ref la), .val (.ref lc), .unset, .unset, .unset] [(.ref lc)]))
    refine Gl.by (fun t_ k_ => XS.ifnonnullYes X.here hx rfl (pc0 := 144) (pc' := 149) rfl (hb hby at_144) rfl (by decide) (by decide) k_) ?_
    show Gl p e below s room_1.cells room_1.slots (fun v h L => v = some (.int 1) ∧ Fr n0 L) (T.setTop (mkF m 149 #[.val (.int p0), .val (.int p1), .val (.int p2), .val (.int p3), .val (.int (1 : Int32)), .val (.int (1 : Int32)), .val (.ref ps), .val (.ref tv), .val (.ref al), .val (.ref ao), .val (.ref la), .val (.ref lc), .unset, .unset, .unset] []))
    refine Gl.by (fun t_ k_ => XS.aload X.here hx rfl (hb hby at_149) rfl rfl k_) ?_
    show Gl p e below s room_1.cells room_1.slots (fun v h L => v = some (.int 1) ∧ Fr n0 L) (T.setTop (mkF m 151 #[.val (.int p0), .val (.int p1), .val (.int p2), .val (.int p3), .val (.int (1 : Int32)), .val (.int (1 : Int32)), .val (.ref ps), .val (.ref tv), .val (.ref al), .val (.ref ao), .val (.ref la), .val (.ref lc), .unset, .unset, .unset] [(.ref lc)]))
    refine Gl.virt X hx hZ hown (hw _ (List.mem_of_getElem? (i := 142) rfl)) (hw _ (List.mem_of_getElem? (i := 143) rfl)) (hw _ (List.mem_of_getElem? (i := 145) rfl)) (hw _ (List.mem_of_getElem? (i := 144) rfl)) (notFace_of_selects (args := #[]) (mvT hZ (hw _ (List.mem_of_getElem? (i := 145) rfl)))) (by decide) H73 (W := 0) (backC (own_lpos0 l Z a0 hw lc h73 n0 P73) hZ (hw _ (List.mem_of_getElem? (i := 146) rfl)) (hw _ (List.mem_of_getElem? (i := 126) rfl)) (by decide) (by decide)) eT (hb hby at_151) (by rw [hml]; rfl) [] [] (lenOf pd_9 rfl) rfl rfl (Nat.le_of_eq rfl) (by decide) (by decide) ?_
    intro v T L X hq
    obtain ⟨rfl, rfl, eT⟩ := hq
    have N := Fr.app N (Fr.nil n0)
    show Gl p e below s room_1.cells room_1.slots (fun v h L => v = some (.int 1) ∧ Fr n0 L) (T.setTop (mkF m 154 #[.val (.int p0), .val (.int p1), .val (.int p2), .val (.int p3), .val (.int (1 : Int32)), .val (.int (1 : Int32)), .val (.ref ps), .val (.ref tv), .val (.ref al), .val (.ref ao), .val (.ref la), .val (.ref lc), .unset, .unset, .unset] [(.int (0 : Int32))]))
    refine Gl.by (fun t_ k_ => XS.iload X.here hx rfl (hb hby at_154) rfl k_) ?_
    show Gl p e below s room_1.cells room_1.slots (fun v h L => v = some (.int 1) ∧ Fr n0 L) (T.setTop (mkF m 156 #[.val (.int p0), .val (.int p1), .val (.int p2), .val (.int p3), .val (.int (1 : Int32)), .val (.int (1 : Int32)), .val (.ref ps), .val (.ref tv), .val (.ref al), .val (.ref ao), .val (.ref la), .val (.ref lc), .unset, .unset, .unset] [(.int (1 : Int32)), (.int (0 : Int32))]))
    refine Gl.by (fun t_ k_ => XS.ifYes X.here hx rfl (pc0 := 156) (pc' := 163) rfl (hb hby at_156) rfl ((if0 _ _).trans (feq (by decide : ¬ (1 : Int32) = 0)).2) (by decide) (by decide) k_) ?_
    show Gl p e below s room_1.cells room_1.slots (fun v h L => v = some (.int 1) ∧ Fr n0 L) (T.setTop (mkF m 163 #[.val (.int p0), .val (.int p1), .val (.int p2), .val (.int p3), .val (.int (1 : Int32)), .val (.int (1 : Int32)), .val (.ref ps), .val (.ref tv), .val (.ref al), .val (.ref ao), .val (.ref la), .val (.ref lc), .unset, .unset, .unset] [(.int (0 : Int32))]))
    refine Gl.by (fun t_ k_ => XS.iconst X.here hx rfl (hb hby at_163) k_) ?_
    show Gl p e below s room_1.cells room_1.slots (fun v h L => v = some (.int 1) ∧ Fr n0 L) (T.setTop (mkF m 164 #[.val (.int p0), .val (.int p1), .val (.int p2), .val (.int p3), .val (.int (1 : Int32)), .val (.int (1 : Int32)), .val (.ref ps), .val (.ref tv), .val (.ref al), .val (.ref ao), .val (.ref la), .val (.ref lc), .unset, .unset, .unset] [(.int (0 : Int32)), (.int (0 : Int32))]))
    refine Gl.by (fun t_ k_ => XS.icmpYes X.here hx rfl (pc0 := 164) (pc' := 169) rfl (hb hby at_164) rfl (teq (rfl : (0 : Int32) = 0)).1 (by decide) (by decide) k_) ?_
    show Gl p e below s room_1.cells room_1.slots (fun v h L => v = some (.int 1) ∧ Fr n0 L) (T.setTop (mkF m 169 #[.val (.int p0), .val (.int p1), .val (.int p2), .val (.int p3), .val (.int (1 : Int32)), .val (.int (1 : Int32)), .val (.ref ps), .val (.ref tv), .val (.ref al), .val (.ref ao), .val (.ref la), .val (.ref lc), .unset, .unset, .unset] []))
    refine Gl.by (fun t_ k_ => XS.aload X.here hx rfl (hb hby at_169) rfl rfl k_) ?_
    show Gl p e below s room_1.cells room_1.slots (fun v h L => v = some (.int 1) ∧ Fr n0 L) (T.setTop (mkF m 171 #[.val (.int p0), .val (.int p1), .val (.int p2), .val (.int p3), .val (.int (1 : Int32)), .val (.int (1 : Int32)), .val (.ref ps), .val (.ref tv), .val (.ref al), .val (.ref ao), .val (.ref la), .val (.ref lc), .unset, .unset, .unset] [(.ref lc)]))
    refine Gl.virt X hx hZ hown (hw _ (List.mem_of_getElem? (i := 147) rfl)) (hw _ (List.mem_of_getElem? (i := 148) rfl)) (hw _ (List.mem_of_getElem? (i := 150) rfl)) (hw _ (List.mem_of_getElem? (i := 149) rfl)) (notFace_of_selects (args := #[]) (mvT hZ (hw _ (List.mem_of_getElem? (i := 150) rfl)))) (by decide) H73 (W := 0) (backC (own_latom l Z a0 hw lc ao h73 n0 G73) hZ (hw _ (List.mem_of_getElem? (i := 151) rfl)) (hw _ (List.mem_of_getElem? (i := 126) rfl)) (by decide) (by decide)) eT (hb hby at_171) (by rw [hml]; rfl) [] [] (lenOf pd_22 rfl) rfl rfl (Nat.le_of_eq rfl) (by decide) (by decide) ?_
    intro v T L X hq
    obtain ⟨rfl, rfl, eT⟩ := hq
    have N := Fr.app N (Fr.nil n0)
    show Gl p e below s room_1.cells room_1.slots (fun v h L => v = some (.int 1) ∧ Fr n0 L) (T.setTop (mkF m 174 #[.val (.int p0), .val (.int p1), .val (.int p2), .val (.int p3), .val (.int (1 : Int32)), .val (.int (1 : Int32)), .val (.ref ps), .val (.ref tv), .val (.ref al), .val (.ref ao), .val (.ref la), .val (.ref lc), .unset, .unset, .unset] [(.ref ao)]))
    refine Gl.by (fun t_ k_ => XS.astore X.here hx rfl (hb hby at_174) rfl rfl (l' := #[.val (.int p0), .val (.int p1), .val (.int p2), .val (.int p3), .val (.int (1 : Int32)), .val (.int (1 : Int32)), .val (.ref ps), .val (.ref tv), .val (.ref al), .val (.ref ao), .val (.ref la), .val (.ref lc), .val (.ref ao), .unset, .unset]) rfl k_) ?_
    show Gl p e below s room_1.cells room_1.slots (fun v h L => v = some (.int 1) ∧ Fr n0 L) (T.setTop (mkF m 176 #[.val (.int p0), .val (.int p1), .val (.int p2), .val (.int p3), .val (.int (1 : Int32)), .val (.int (1 : Int32)), .val (.ref ps), .val (.ref tv), .val (.ref al), .val (.ref ao), .val (.ref la), .val (.ref lc), .val (.ref ao), .unset, .unset] []))
    refine Gl.by (fun t_ k_ => XS.aload X.here hx rfl (hb hby at_176) rfl rfl k_) ?_
    show Gl p e below s room_1.cells room_1.slots (fun v h L => v = some (.int 1) ∧ Fr n0 L) (T.setTop (mkF m 178 #[.val (.int p0), .val (.int p1), .val (.int p2), .val (.int p3), .val (.int (1 : Int32)), .val (.int (1 : Int32)), .val (.ref ps), .val (.ref tv), .val (.ref al), .val (.ref ao), .val (.ref la), .val (.ref lc), .val (.ref ao), .unset, .unset] [(.ref ao)]))
    refine Gl.by (fun t_ k_ => XS.ifnonnullYes X.here hx rfl (pc0 := 178) (pc' := 183) rfl (hb hby at_178) rfl (by decide) (by decide) k_) ?_
    show Gl p e below s room_1.cells room_1.slots (fun v h L => v = some (.int 1) ∧ Fr n0 L) (T.setTop (mkF m 183 #[.val (.int p0), .val (.int p1), .val (.int p2), .val (.int p3), .val (.int (1 : Int32)), .val (.int (1 : Int32)), .val (.ref ps), .val (.ref tv), .val (.ref al), .val (.ref ao), .val (.ref la), .val (.ref lc), .val (.ref ao), .unset, .unset] []))
    refine Gl.by (fun t_ k_ => XS.aload X.here hx rfl (hb hby at_183) rfl rfl k_) ?_
    show Gl p e below s room_1.cells room_1.slots (fun v h L => v = some (.int 1) ∧ Fr n0 L) (T.setTop (mkF m 185 #[.val (.int p0), .val (.int p1), .val (.int p2), .val (.int p3), .val (.int (1 : Int32)), .val (.int (1 : Int32)), .val (.ref ps), .val (.ref tv), .val (.ref al), .val (.ref ao), .val (.ref la), .val (.ref lc), .val (.ref ao), .unset, .unset] [(.ref ao)]))
    refine Gl.virt X hx hZ hown (hw _ (List.mem_of_getElem? (i := 152) rfl)) (hw _ (List.mem_of_getElem? (i := 153) rfl)) (hw _ (List.mem_of_getElem? (i := 155) rfl)) (hw _ (List.mem_of_getElem? (i := 154) rfl)) (notFace_of_selects (args := #[]) (mvT hZ (hw _ (List.mem_of_getElem? (i := 155) rfl)))) (by decide) ((((A69.keep K70).ext E71).keep K72).keep K73) (W := 0) (backC (own_apred l Z a0 hw ao ps h73 n0 (((FP70.ext E71).keep K72 (ninS (ne_exa ((A69.keep K70).ext E71) A71 (by decide)) nin0)).keep K73 nin0)) hZ (hw _ (List.mem_of_getElem? (i := 156) rfl)) (hw _ (List.mem_of_getElem? (i := 86) rfl)) (by decide) (by decide)) eT (hb hby at_185) (by rw [hml]; rfl) [] [] (lenOf pd_23 rfl) rfl rfl (Nat.le_of_eq rfl) (by decide) (by decide) ?_
    intro v T L X hq
    obtain ⟨rfl, rfl, eT⟩ := hq
    have N := Fr.app N (Fr.nil n0)
    show Gl p e below s room_1.cells room_1.slots (fun v h L => v = some (.int 1) ∧ Fr n0 L) (T.setTop (mkF m 188 #[.val (.int p0), .val (.int p1), .val (.int p2), .val (.int p3), .val (.int (1 : Int32)), .val (.int (1 : Int32)), .val (.ref ps), .val (.ref tv), .val (.ref al), .val (.ref ao), .val (.ref la), .val (.ref lc), .val (.ref ao), .unset, .unset] [(.ref ps)]))
    refine Gl.by (fun t_ k_ => XS.aload X.here hx rfl (hb hby at_188) rfl rfl k_) ?_
    show Gl p e below s room_1.cells room_1.slots (fun v h L => v = some (.int 1) ∧ Fr n0 L) (T.setTop (mkF m 190 #[.val (.int p0), .val (.int p1), .val (.int p2), .val (.int p3), .val (.int (1 : Int32)), .val (.int (1 : Int32)), .val (.ref ps), .val (.ref tv), .val (.ref al), .val (.ref ao), .val (.ref la), .val (.ref lc), .val (.ref ao), .unset, .unset] [(.ref ps), (.ref ps)]))
    refine Gl.virt X hx hZ hown (hw _ (List.mem_of_getElem? (i := 157) rfl)) (hw _ (List.mem_of_getElem? (i := 158) rfl)) (hw _ (List.mem_of_getElem? (i := 160) rfl)) (hw _ (List.mem_of_getElem? (i := 159) rfl)) (notFace_of_selects (args := #[]) (mvT hZ (hw _ (List.mem_of_getElem? (i := 160) rfl)))) (by decide) (((((((((((SQ62.exa.ext E63).keep K64).keep K65).ext E66).keep K67).keep K68).ext E69).keep K70).ext E71).keep K72).keep K73) (W := 0) (backC (own_seq l Z a0 hw ps h73 n0) hZ (hw _ (List.mem_of_getElem? (i := 161) rfl)) (hw _ (List.mem_of_getElem? (i := 2) rfl)) (by decide) (by decide)) eT (hb hby at_190) (by rw [hml]; rfl) [(.ref ps)] [] (lenOf pd_24 rfl) rfl rfl (Nat.le_of_eq rfl) (by decide) (by decide) ?_
    intro v T L X hq
    obtain ⟨rfl, rfl, eT⟩ := hq
    have N := Fr.app N (Fr.nil n0)
    show Gl p e below s room_1.cells room_1.slots (fun v h L => v = some (.int 1) ∧ Fr n0 L) (T.setTop (mkF m 193 #[.val (.int p0), .val (.int p1), .val (.int p2), .val (.int p3), .val (.int (1 : Int32)), .val (.int (1 : Int32)), .val (.ref ps), .val (.ref tv), .val (.ref al), .val (.ref ao), .val (.ref la), .val (.ref lc), .val (.ref ao), .unset, .unset] [(.int (1 : Int32))]))
    refine Gl.by (fun t_ k_ => XS.ifYes X.here hx rfl (pc0 := 193) (pc' := 198) rfl (hb hby at_193) rfl ((if0 _ _).trans (feq (by decide : ¬ (1 : Int32) = 0)).2) (by decide) (by decide) k_) ?_
    show Gl p e below s room_1.cells room_1.slots (fun v h L => v = some (.int 1) ∧ Fr n0 L) (T.setTop (mkF m 198 #[.val (.int p0), .val (.int p1), .val (.int p2), .val (.int p3), .val (.int (1 : Int32)), .val (.int (1 : Int32)), .val (.ref ps), .val (.ref tv), .val (.ref al), .val (.ref ao), .val (.ref la), .val (.ref lc), .val (.ref ao), .unset, .unset] []))
    refine Gl.by (fun t_ k_ => XS.iload X.here hx rfl (hb hby at_198) rfl k_) ?_
    show Gl p e below s room_1.cells room_1.slots (fun v h L => v = some (.int 1) ∧ Fr n0 L) (T.setTop (mkF m 200 #[.val (.int p0), .val (.int p1), .val (.int p2), .val (.int p3), .val (.int (1 : Int32)), .val (.int (1 : Int32)), .val (.ref ps), .val (.ref tv), .val (.ref al), .val (.ref ao), .val (.ref la), .val (.ref lc), .val (.ref ao), .unset, .unset] [(.int (1 : Int32))]))
    refine Gl.by (fun t_ k_ => XS.ifNo X.here hx rfl (hb hby at_200) rfl ((if0 _ _).trans (feq (by decide : ¬ (1 : Int32) = 0)).1) k_) ?_
    show Gl p e below s room_1.cells room_1.slots (fun v h L => v = some (.int 1) ∧ Fr n0 L) (T.setTop (mkF m 203 #[.val (.int p0), .val (.int p1), .val (.int p2), .val (.int p3), .val (.int (1 : Int32)), .val (.int (1 : Int32)), .val (.ref ps), .val (.ref tv), .val (.ref al), .val (.ref ao), .val (.ref la), .val (.ref lc), .val (.ref ao), .unset, .unset] []))
    refine Gl.by (fun t_ k_ => XS.iconst X.here hx rfl (hb hby at_203) k_) ?_
    show Gl p e below s room_1.cells room_1.slots (fun v h L => v = some (.int 1) ∧ Fr n0 L) (T.setTop (mkF m 204 #[.val (.int p0), .val (.int p1), .val (.int p2), .val (.int p3), .val (.int (1 : Int32)), .val (.int (1 : Int32)), .val (.ref ps), .val (.ref tv), .val (.ref al), .val (.ref ao), .val (.ref la), .val (.ref lc), .val (.ref ao), .unset, .unset] [(.int (1 : Int32))]))
    refine Gl.by (fun t_ k_ => XS.goto X.here hx rfl (pc0 := 204) (pc' := 208) rfl (hb hby at_204) (by decide) (by decide) k_) ?_
    show Gl p e below s room_1.cells room_1.slots (fun v h L => v = some (.int 1) ∧ Fr n0 L) (T.setTop (mkF m 208 #[.val (.int p0), .val (.int p1), .val (.int p2), .val (.int p3), .val (.int (1 : Int32)), .val (.int (1 : Int32)), .val (.ref ps), .val (.ref tv), .val (.ref al), .val (.ref ao), .val (.ref la), .val (.ref lc), .val (.ref ao), .unset, .unset] [(.int (1 : Int32))]))
    refine Gl.by (fun t_ k_ => XS.istore X.here hx rfl (hb hby at_208) rfl (l' := #[.val (.int p0), .val (.int p1), .val (.int p2), .val (.int p3), .val (.int (1 : Int32)), .val (.int (1 : Int32)), .val (.ref ps), .val (.ref tv), .val (.ref al), .val (.ref ao), .val (.ref la), .val (.ref lc), .val (.ref ao), .val (.int (1 : Int32)), .unset]) rfl k_) ?_
    show Gl p e below s room_1.cells room_1.slots (fun v h L => v = some (.int 1) ∧ Fr n0 L) (T.setTop (mkF m 210 #[.val (.int p0), .val (.int p1), .val (.int p2), .val (.int p3), .val (.int (1 : Int32)), .val (.int (1 : Int32)), .val (.ref ps), .val (.ref tv), .val (.ref al), .val (.ref ao), .val (.ref la), .val (.ref lc), .val (.ref ao), .val (.int (1 : Int32)), .unset] []))
    refine Gl.by (fun t_ k_ => XS.aload X.here hx rfl (hb hby at_210) rfl rfl k_) ?_
    show Gl p e below s room_1.cells room_1.slots (fun v h L => v = some (.int 1) ∧ Fr n0 L) (T.setTop (mkF m 212 #[.val (.int p0), .val (.int p1), .val (.int p2), .val (.int p3), .val (.int (1 : Int32)), .val (.int (1 : Int32)), .val (.ref ps), .val (.ref tv), .val (.ref al), .val (.ref ao), .val (.ref la), .val (.ref lc), .val (.ref ao), .val (.int (1 : Int32)), .unset] [(.ref ao)]))
    refine Gl.virt X hx hZ hown (hw _ (List.mem_of_getElem? (i := 162) rfl)) (hw _ (List.mem_of_getElem? (i := 163) rfl)) (hw _ (List.mem_of_getElem? (i := 165) rfl)) (hw _ (List.mem_of_getElem? (i := 164) rfl)) (notFace_of_selects (args := #[]) (mvT hZ (hw _ (List.mem_of_getElem? (i := 165) rfl)))) (by decide) ((((A69.keep K70).ext E71).keep K72).keep K73) (W := 0) (backC (own_aargs l Z a0 hw ao li h73 n0 (((FA70.ext E71).keep K72 (ninS (ne_exa ((A69.keep K70).ext E71) A71 (by decide)) nin0)).keep K73 nin0)) hZ (hw _ (List.mem_of_getElem? (i := 166) rfl)) (hw _ (List.mem_of_getElem? (i := 86) rfl)) (by decide) (by decide)) eT (hb hby at_212) (by rw [hml]; rfl) [] [] (lenOf pd_10 rfl) rfl rfl (Nat.le_of_eq rfl) (by decide) (by decide) ?_
    intro v T L X hq
    obtain ⟨rfl, rfl, eT⟩ := hq
    have N := Fr.app N (Fr.nil n0)
    show Gl p e below s room_1.cells room_1.slots (fun v h L => v = some (.int 1) ∧ Fr n0 L) (T.setTop (mkF m 215 #[.val (.int p0), .val (.int p1), .val (.int p2), .val (.int p3), .val (.int (1 : Int32)), .val (.int (1 : Int32)), .val (.ref ps), .val (.ref tv), .val (.ref al), .val (.ref ao), .val (.ref la), .val (.ref lc), .val (.ref ao), .val (.int (1 : Int32)), .unset] [(.ref li)]))
    refine Gl.face X hx hZ hown (hw _ (List.mem_of_getElem? (i := 167) rfl)) (hw _ (List.mem_of_getElem? (i := 168) rfl)) (mvT hZ (hw _ (List.mem_of_getElem? (i := 169) rfl))) (hw _ (List.mem_of_getElem? (i := 271) rfl)) (hw _ (List.mem_of_getElem? (i := 272) rfl)) (hw _ (List.mem_of_getElem? (i := 273) rfl)) (hw _ (List.mem_of_getElem? (i := 274) rfl)) (hw _ (List.mem_of_getElem? (i := 275) rfl)) (by decide) (((EL70.ext E71).keep K72).keep K73) (W := 0) (backC (own_l12s l Z a0 hw li dc el mr em h73 n0 (((F170.ext E71).keep K72 (ninS (ne_exa (EL70.ext E71) A71 (by decide)) nin0)).keep K73 nin0) ((((((((((((O61.keep K62 (allS (by omega) all0)).ext E63).keep K64 all0).keep K65 (allS (by omega) all0)).ext E66).keep K67 (allS (by omega) all0)).keep K68 (allS (by omega) all0)).ext E69).keep K70 (allS (by omega) all0)).ext E71).keep K72 (allS (by omega) all0)).keep K73 all0) K) hZ (hw _ (List.mem_of_getElem? (i := 276) rfl)) (hw _ (List.mem_of_getElem? (i := 243) rfl)) (by decide) (by decide)) eT (hb hby at_215) (by rw [hml]; rfl) [] [] (lenOf pd_25 rfl) rfl rfl (Nat.le_of_eq rfl) (by decide) (by decide) ?_
    intro v T L X hq
    obtain ⟨rfl, rfl, eT⟩ := hq
    have N := Fr.app N (Fr.nil n0)
    show Gl p e below s room_1.cells room_1.slots (fun v h L => v = some (.int 1) ∧ Fr n0 L) (T.setTop (mkF m 220 #[.val (.int p0), .val (.int p1), .val (.int p2), .val (.int p3), .val (.int (1 : Int32)), .val (.int (1 : Int32)), .val (.ref ps), .val (.ref tv), .val (.ref al), .val (.ref ao), .val (.ref la), .val (.ref lc), .val (.ref ao), .val (.int (1 : Int32)), .unset] [(.int (1 : Int32))]))
    refine Gl.by (fun t_ k_ => XS.iload X.here hx rfl (hb hby at_220) rfl k_) ?_
    show Gl p e below s room_1.cells room_1.slots (fun v h L => v = some (.int 1) ∧ Fr n0 L) (T.setTop (mkF m 222 #[.val (.int p0), .val (.int p1), .val (.int p2), .val (.int p3), .val (.int (1 : Int32)), .val (.int (1 : Int32)), .val (.ref ps), .val (.ref tv), .val (.ref al), .val (.ref ao), .val (.ref la), .val (.ref lc), .val (.ref ao), .val (.int (1 : Int32)), .unset] [(.int (1 : Int32)), (.int (1 : Int32))]))
    refine Gl.by (fun t_ k_ => XS.icmpYes X.here hx rfl (pc0 := 222) (pc' := 227) rfl (hb hby at_222) rfl (teq (rfl : (1 : Int32) = 1)).1 (by decide) (by decide) k_) ?_
    show Gl p e below s room_1.cells room_1.slots (fun v h L => v = some (.int 1) ∧ Fr n0 L) (T.setTop (mkF m 227 #[.val (.int p0), .val (.int p1), .val (.int p2), .val (.int p3), .val (.int (1 : Int32)), .val (.int (1 : Int32)), .val (.ref ps), .val (.ref tv), .val (.ref al), .val (.ref ao), .val (.ref la), .val (.ref lc), .val (.ref ao), .val (.int (1 : Int32)), .unset] []))
    refine Gl.by (fun t_ k_ => XS.iload X.here hx rfl (hb hby at_227) rfl k_) ?_
    show Gl p e below s room_1.cells room_1.slots (fun v h L => v = some (.int 1) ∧ Fr n0 L) (T.setTop (mkF m 229 #[.val (.int p0), .val (.int p1), .val (.int p2), .val (.int p3), .val (.int (1 : Int32)), .val (.int (1 : Int32)), .val (.ref ps), .val (.ref tv), .val (.ref al), .val (.ref ao), .val (.ref la), .val (.ref lc), .val (.ref ao), .val (.int (1 : Int32)), .unset] [(.int (1 : Int32))]))
    refine Gl.by (fun t_ k_ => XS.ifNo X.here hx rfl (hb hby at_229) rfl ((if0 _ _).trans (feq (by decide : ¬ (1 : Int32) = 0)).1) k_) ?_
    show Gl p e below s room_1.cells room_1.slots (fun v h L => v = some (.int 1) ∧ Fr n0 L) (T.setTop (mkF m 232 #[.val (.int p0), .val (.int p1), .val (.int p2), .val (.int p3), .val (.int (1 : Int32)), .val (.int (1 : Int32)), .val (.ref ps), .val (.ref tv), .val (.ref al), .val (.ref ao), .val (.ref la), .val (.ref lc), .val (.ref ao), .val (.int (1 : Int32)), .unset] []))
    refine Gl.by (fun t_ k_ => XS.aload X.here hx rfl (hb hby at_232) rfl rfl k_) ?_
    show Gl p e below s room_1.cells room_1.slots (fun v h L => v = some (.int 1) ∧ Fr n0 L) (T.setTop (mkF m 234 #[.val (.int p0), .val (.int p1), .val (.int p2), .val (.int p3), .val (.int (1 : Int32)), .val (.int (1 : Int32)), .val (.ref ps), .val (.ref tv), .val (.ref al), .val (.ref ao), .val (.ref la), .val (.ref lc), .val (.ref ao), .val (.int (1 : Int32)), .unset] [(.ref ao)]))
    refine Gl.virt X hx hZ hown (hw _ (List.mem_of_getElem? (i := 162) rfl)) (hw _ (List.mem_of_getElem? (i := 163) rfl)) (hw _ (List.mem_of_getElem? (i := 165) rfl)) (hw _ (List.mem_of_getElem? (i := 164) rfl)) (notFace_of_selects (args := #[]) (mvT hZ (hw _ (List.mem_of_getElem? (i := 165) rfl)))) (by decide) ((((A69.keep K70).ext E71).keep K72).keep K73) (W := 0) (backC (own_aargs l Z a0 hw ao li h73 n0 (((FA70.ext E71).keep K72 (ninS (ne_exa ((A69.keep K70).ext E71) A71 (by decide)) nin0)).keep K73 nin0)) hZ (hw _ (List.mem_of_getElem? (i := 166) rfl)) (hw _ (List.mem_of_getElem? (i := 86) rfl)) (by decide) (by decide)) eT (hb hby at_234) (by rw [hml]; rfl) [] [] (lenOf pd_10 rfl) rfl rfl (Nat.le_of_eq rfl) (by decide) (by decide) ?_
    intro v T L X hq
    obtain ⟨rfl, rfl, eT⟩ := hq
    have N := Fr.app N (Fr.nil n0)
    show Gl p e below s room_1.cells room_1.slots (fun v h L => v = some (.int 1) ∧ Fr n0 L) (T.setTop (mkF m 237 #[.val (.int p0), .val (.int p1), .val (.int p2), .val (.int p3), .val (.int (1 : Int32)), .val (.int (1 : Int32)), .val (.ref ps), .val (.ref tv), .val (.ref al), .val (.ref ao), .val (.ref la), .val (.ref lc), .val (.ref ao), .val (.int (1 : Int32)), .unset] [(.ref li)]))
    refine Gl.by (fun t_ k_ => XS.iconst X.here hx rfl (hb hby at_237) k_) ?_
    show Gl p e below s room_1.cells room_1.slots (fun v h L => v = some (.int 1) ∧ Fr n0 L) (T.setTop (mkF m 238 #[.val (.int p0), .val (.int p1), .val (.int p2), .val (.int p3), .val (.int (1 : Int32)), .val (.int (1 : Int32)), .val (.ref ps), .val (.ref tv), .val (.ref al), .val (.ref ao), .val (.ref la), .val (.ref lc), .val (.ref ao), .val (.int (1 : Int32)), .unset] [(.int (0 : Int32)), (.ref li)]))
    refine Gl.face X hx hZ hown (hw _ (List.mem_of_getElem? (i := 277) rfl)) (hw _ (List.mem_of_getElem? (i := 278) rfl)) (mvT hZ (hw _ (List.mem_of_getElem? (i := 279) rfl))) (hw _ (List.mem_of_getElem? (i := 280) rfl)) (hw _ (List.mem_of_getElem? (i := 281) rfl)) (hw _ (List.mem_of_getElem? (i := 282) rfl)) (hw _ (List.mem_of_getElem? (i := 283) rfl)) (hw _ (List.mem_of_getElem? (i := 275) rfl)) (by decide) (((EL70.ext E71).keep K72).keep K73) (W := 0) (backC (own_l12g l Z a0 hw li tv h73 n0 (((F070.ext E71).keep K72 (ninS (ne_exa (EL70.ext E71) A71 (by decide)) nin0)).keep K73 nin0)) hZ (hw _ (List.mem_of_getElem? (i := 284) rfl)) (hw _ (List.mem_of_getElem? (i := 243) rfl)) (by decide) (by decide)) eT (hb hby at_238) (by rw [hml]; rfl) [(.int (0 : Int32))] [] (lenOf pd_26 rfl) rfl rfl (Nat.le_of_eq rfl) (by decide) (by decide) ?_
    intro v T L X hq
    obtain ⟨rfl, rfl, eT⟩ := hq
    have N := Fr.app N (Fr.nil n0)
    show Gl p e below s room_1.cells room_1.slots (fun v h L => v = some (.int 1) ∧ Fr n0 L) (T.setTop (mkF m 243 #[.val (.int p0), .val (.int p1), .val (.int p2), .val (.int p3), .val (.int (1 : Int32)), .val (.int (1 : Int32)), .val (.ref ps), .val (.ref tv), .val (.ref al), .val (.ref ao), .val (.ref la), .val (.ref lc), .val (.ref ao), .val (.int (1 : Int32)), .unset] [(.ref tv)]))
    refine Gl.by (fun t_ k_ => XS.aload X.here hx rfl (hb hby at_243) rfl rfl k_) ?_
    show Gl p e below s room_1.cells room_1.slots (fun v h L => v = some (.int 1) ∧ Fr n0 L) (T.setTop (mkF m 245 #[.val (.int p0), .val (.int p1), .val (.int p2), .val (.int p3), .val (.int (1 : Int32)), .val (.int (1 : Int32)), .val (.ref ps), .val (.ref tv), .val (.ref al), .val (.ref ao), .val (.ref la), .val (.ref lc), .val (.ref ao), .val (.int (1 : Int32)), .unset] [(.ref tv), (.ref tv)]))
    refine Gl.by (fun t_ k_ => Jvm.RoadKit.acmp (g := (mkF m 245 #[.val (.int p0), .val (.int p1), .val (.int p2), .val (.int p3), .val (.int (1 : Int32)), .val (.int (1 : Int32)), .val (.ref ps), .val (.ref tv), .val (.ref al), .val (.ref ao), .val (.ref la), .val (.ref lc), .val (.ref ao), .val (.int (1 : Int32)), .unset] [(.ref tv), (.ref tv)])) X hx rfl rfl rfl (pc0 := 245) (pc' := 250) (same := true) rfl (hb hby at_245) rfl (decide_eq_true rfl) (by decide) (by decide) k_) ?_
    show Gl p e below s room_1.cells room_1.slots (fun v h L => v = some (.int 1) ∧ Fr n0 L) (T.setTop (mkF m 250 #[.val (.int p0), .val (.int p1), .val (.int p2), .val (.int p3), .val (.int (1 : Int32)), .val (.int (1 : Int32)), .val (.ref ps), .val (.ref tv), .val (.ref al), .val (.ref ao), .val (.ref la), .val (.ref lc), .val (.ref ao), .val (.int (1 : Int32)), .unset] []))
    refine Gl.by (fun t_ k_ => XS.aload X.here hx rfl (hb hby at_250) rfl rfl k_) ?_
    show Gl p e below s room_1.cells room_1.slots (fun v h L => v = some (.int 1) ∧ Fr n0 L) (T.setTop (mkF m 252 #[.val (.int p0), .val (.int p1), .val (.int p2), .val (.int p3), .val (.int (1 : Int32)), .val (.int (1 : Int32)), .val (.ref ps), .val (.ref tv), .val (.ref al), .val (.ref ao), .val (.ref la), .val (.ref lc), .val (.ref ao), .val (.int (1 : Int32)), .unset] [(.ref la)]))
    refine Gl.virt X hx hZ hown (hw _ (List.mem_of_getElem? (i := 142) rfl)) (hw _ (List.mem_of_getElem? (i := 143) rfl)) (hw _ (List.mem_of_getElem? (i := 145) rfl)) (hw _ (List.mem_of_getElem? (i := 144) rfl)) (notFace_of_selects (args := #[]) (mvT hZ (hw _ (List.mem_of_getElem? (i := 145) rfl)))) (by decide) ((A71.keep K72).keep K73) (W := 0) (backC (own_lpos1 l Z a0 hw la h73 n0 (P72.keep K73 nin0)) hZ (hw _ (List.mem_of_getElem? (i := 146) rfl)) (hw _ (List.mem_of_getElem? (i := 126) rfl)) (by decide) (by decide)) eT (hb hby at_252) (by rw [hml]; rfl) [] [] (lenOf pd_9 rfl) rfl rfl (Nat.le_of_eq rfl) (by decide) (by decide) ?_
    intro v T L X hq
    obtain ⟨rfl, rfl, eT⟩ := hq
    have N := Fr.app N (Fr.nil n0)
    show Gl p e below s room_1.cells room_1.slots (fun v h L => v = some (.int 1) ∧ Fr n0 L) (T.setTop (mkF m 255 #[.val (.int p0), .val (.int p1), .val (.int p2), .val (.int p3), .val (.int (1 : Int32)), .val (.int (1 : Int32)), .val (.ref ps), .val (.ref tv), .val (.ref al), .val (.ref ao), .val (.ref la), .val (.ref lc), .val (.ref ao), .val (.int (1 : Int32)), .unset] [(.int (1 : Int32))]))
    refine Gl.by (fun t_ k_ => XS.iload X.here hx rfl (hb hby at_255) rfl k_) ?_
    show Gl p e below s room_1.cells room_1.slots (fun v h L => v = some (.int 1) ∧ Fr n0 L) (T.setTop (mkF m 257 #[.val (.int p0), .val (.int p1), .val (.int p2), .val (.int p3), .val (.int (1 : Int32)), .val (.int (1 : Int32)), .val (.ref ps), .val (.ref tv), .val (.ref al), .val (.ref ao), .val (.ref la), .val (.ref lc), .val (.ref ao), .val (.int (1 : Int32)), .unset] [(.int (1 : Int32)), (.int (1 : Int32))]))
    refine Gl.by (fun t_ k_ => XS.icmpYes X.here hx rfl (pc0 := 257) (pc' := 262) rfl (hb hby at_257) rfl (teq (rfl : (1 : Int32) = 1)).1 (by decide) (by decide) k_) ?_
    show Gl p e below s room_1.cells room_1.slots (fun v h L => v = some (.int 1) ∧ Fr n0 L) (T.setTop (mkF m 262 #[.val (.int p0), .val (.int p1), .val (.int p2), .val (.int p3), .val (.int (1 : Int32)), .val (.int (1 : Int32)), .val (.ref ps), .val (.ref tv), .val (.ref al), .val (.ref ao), .val (.ref la), .val (.ref lc), .val (.ref ao), .val (.int (1 : Int32)), .unset] []))
    refine Gl.by (fun t_ k_ => XS.aload X.here hx rfl (hb hby at_262) rfl rfl k_) ?_
    show Gl p e below s room_1.cells room_1.slots (fun v h L => v = some (.int 1) ∧ Fr n0 L) (T.setTop (mkF m 264 #[.val (.int p0), .val (.int p1), .val (.int p2), .val (.int p3), .val (.int (1 : Int32)), .val (.int (1 : Int32)), .val (.ref ps), .val (.ref tv), .val (.ref al), .val (.ref ao), .val (.ref la), .val (.ref lc), .val (.ref ao), .val (.int (1 : Int32)), .unset] [(.ref lc)]))
    refine Gl.virt X hx hZ hown (hw _ (List.mem_of_getElem? (i := 135) rfl)) (hw _ (List.mem_of_getElem? (i := 136) rfl)) (hw _ (List.mem_of_getElem? (i := 138) rfl)) (hw _ (List.mem_of_getElem? (i := 137) rfl)) (notFace_of_selects (args := #[]) (mvT hZ (hw _ (List.mem_of_getElem? (i := 138) rfl)))) (by decide) H73 (W := 0) (backC (own_cpl0 l Z a0 hw lc ao h73 n0 (by omega) ⟨H73, G73, P73⟩) hZ (hw _ (List.mem_of_getElem? (i := 139) rfl)) (hw _ (List.mem_of_getElem? (i := 126) rfl)) (by decide) (by decide)) eT (hb hby at_264) (by rw [hml]; rfl) [] [] (lenOf pd_21 rfl) rfl rfl (Nat.le_of_eq rfl) (by decide) (by decide) ?_
    intro v T L X hq
    obtain ⟨NQ, K74, ld, rfl, gld, H74, G74, P74⟩ := hq
    have N := Fr.app N NQ
    obtain ⟨h74, eT⟩ : ∃ z, T.heap = z := ⟨_, rfl⟩
    rw [eT] at K74 H74 G74 P74
    have sz74 := K74.1
    show Gl p e below s room_1.cells room_1.slots (fun v h L => v = some (.int 1) ∧ Fr n0 L) (T.setTop (mkF m 267 #[.val (.int p0), .val (.int p1), .val (.int p2), .val (.int p3), .val (.int (1 : Int32)), .val (.int (1 : Int32)), .val (.ref ps), .val (.ref tv), .val (.ref al), .val (.ref ao), .val (.ref la), .val (.ref lc), .val (.ref ao), .val (.int (1 : Int32)), .unset] [(.ref ld)]))
    refine Gl.by (fun t_ k_ => XS.astore X.here hx rfl (hb hby at_267) rfl rfl (l' := #[.val (.int p0), .val (.int p1), .val (.int p2), .val (.int p3), .val (.int (1 : Int32)), .val (.int (1 : Int32)), .val (.ref ps), .val (.ref tv), .val (.ref al), .val (.ref ao), .val (.ref la), .val (.ref lc), .val (.ref ao), .val (.int (1 : Int32)), .val (.ref ld)]) rfl k_) ?_
    show Gl p e below s room_1.cells room_1.slots (fun v h L => v = some (.int 1) ∧ Fr n0 L) (T.setTop (mkF m 269 #[.val (.int p0), .val (.int p1), .val (.int p2), .val (.int p3), .val (.int (1 : Int32)), .val (.int (1 : Int32)), .val (.ref ps), .val (.ref tv), .val (.ref al), .val (.ref ao), .val (.ref la), .val (.ref lc), .val (.ref ao), .val (.int (1 : Int32)), .val (.ref ld)] []))
    refine Gl.by (fun t_ k_ => XS.aload X.here hx rfl (hb hby at_269) rfl rfl k_) ?_
    show Gl p e below s room_1.cells room_1.slots (fun v h L => v = some (.int 1) ∧ Fr n0 L) (T.setTop (mkF m 271 #[.val (.int p0), .val (.int p1), .val (.int p2), .val (.int p3), .val (.int (1 : Int32)), .val (.int (1 : Int32)), .val (.ref ps), .val (.ref tv), .val (.ref al), .val (.ref ao), .val (.ref la), .val (.ref lc), .val (.ref ao), .val (.int (1 : Int32)), .val (.ref ld)] [(.ref ld)]))
    refine Gl.by (fun t_ k_ => XS.ifnullNo X.here hx rfl (hb hby at_271) rfl k_) ?_
    show Gl p e below s room_1.cells room_1.slots (fun v h L => v = some (.int 1) ∧ Fr n0 L) (T.setTop (mkF m 274 #[.val (.int p0), .val (.int p1), .val (.int p2), .val (.int p3), .val (.int (1 : Int32)), .val (.int (1 : Int32)), .val (.ref ps), .val (.ref tv), .val (.ref al), .val (.ref ao), .val (.ref la), .val (.ref lc), .val (.ref ao), .val (.int (1 : Int32)), .val (.ref ld)] []))
    refine Gl.by (fun t_ k_ => XS.aload X.here hx rfl (hb hby at_274) rfl rfl k_) ?_
    show Gl p e below s room_1.cells room_1.slots (fun v h L => v = some (.int 1) ∧ Fr n0 L) (T.setTop (mkF m 276 #[.val (.int p0), .val (.int p1), .val (.int p2), .val (.int p3), .val (.int (1 : Int32)), .val (.int (1 : Int32)), .val (.ref ps), .val (.ref tv), .val (.ref al), .val (.ref ao), .val (.ref la), .val (.ref lc), .val (.ref ao), .val (.int (1 : Int32)), .val (.ref ld)] [(.ref ld)]))
    refine Gl.virt X hx hZ hown (hw _ (List.mem_of_getElem? (i := 142) rfl)) (hw _ (List.mem_of_getElem? (i := 143) rfl)) (hw _ (List.mem_of_getElem? (i := 145) rfl)) (hw _ (List.mem_of_getElem? (i := 144) rfl)) (notFace_of_selects (args := #[]) (mvT hZ (hw _ (List.mem_of_getElem? (i := 145) rfl)))) (by decide) H74 (W := 0) (backC (own_lpos1 l Z a0 hw ld h74 n0 P74) hZ (hw _ (List.mem_of_getElem? (i := 146) rfl)) (hw _ (List.mem_of_getElem? (i := 126) rfl)) (by decide) (by decide)) eT (hb hby at_276) (by rw [hml]; rfl) [] [] (lenOf pd_9 rfl) rfl rfl (Nat.le_of_eq rfl) (by decide) (by decide) ?_
    intro v T L X hq
    obtain ⟨rfl, rfl, eT⟩ := hq
    have N := Fr.app N (Fr.nil n0)
    show Gl p e below s room_1.cells room_1.slots (fun v h L => v = some (.int 1) ∧ Fr n0 L) (T.setTop (mkF m 279 #[.val (.int p0), .val (.int p1), .val (.int p2), .val (.int p3), .val (.int (1 : Int32)), .val (.int (1 : Int32)), .val (.ref ps), .val (.ref tv), .val (.ref al), .val (.ref ao), .val (.ref la), .val (.ref lc), .val (.ref ao), .val (.int (1 : Int32)), .val (.ref ld)] [(.int (1 : Int32))]))
    refine Gl.by (fun t_ k_ => XS.iload X.here hx rfl (hb hby at_279) rfl k_) ?_
    show Gl p e below s room_1.cells room_1.slots (fun v h L => v = some (.int 1) ∧ Fr n0 L) (T.setTop (mkF m 281 #[.val (.int p0), .val (.int p1), .val (.int p2), .val (.int p3), .val (.int (1 : Int32)), .val (.int (1 : Int32)), .val (.ref ps), .val (.ref tv), .val (.ref al), .val (.ref ao), .val (.ref la), .val (.ref lc), .val (.ref ao), .val (.int (1 : Int32)), .val (.ref ld)] [(.int (1 : Int32)), (.int (1 : Int32))]))
    refine Gl.by (fun t_ k_ => XS.icmpNo X.here hx rfl (hb hby at_281) rfl (teq (rfl : (1 : Int32) = 1)).2 k_) ?_
    show Gl p e below s room_1.cells room_1.slots (fun v h L => v = some (.int 1) ∧ Fr n0 L) (T.setTop (mkF m 284 #[.val (.int p0), .val (.int p1), .val (.int p2), .val (.int p3), .val (.int (1 : Int32)), .val (.int (1 : Int32)), .val (.ref ps), .val (.ref tv), .val (.ref al), .val (.ref ao), .val (.ref la), .val (.ref lc), .val (.ref ao), .val (.int (1 : Int32)), .val (.ref ld)] []))
    refine Gl.by (fun t_ k_ => XS.iconst X.here hx rfl (hb hby at_284) k_) ?_
    show Gl p e below s room_1.cells room_1.slots (fun v h L => v = some (.int 1) ∧ Fr n0 L) (T.setTop (mkF m 285 #[.val (.int p0), .val (.int p1), .val (.int p2), .val (.int p3), .val (.int (1 : Int32)), .val (.int (1 : Int32)), .val (.ref ps), .val (.ref tv), .val (.ref al), .val (.ref ao), .val (.ref la), .val (.ref lc), .val (.ref ao), .val (.int (1 : Int32)), .val (.ref ld)] [(.int (1 : Int32))]))
    refine Gl.by (fun t_ k_ => XS.goto X.here hx rfl (pc0 := 285) (pc' := 289) rfl (hb hby at_285) (by decide) (by decide) k_) ?_
    show Gl p e below s room_1.cells room_1.slots (fun v h L => v = some (.int 1) ∧ Fr n0 L) (T.setTop (mkF m 289 #[.val (.int p0), .val (.int p1), .val (.int p2), .val (.int p3), .val (.int (1 : Int32)), .val (.int (1 : Int32)), .val (.ref ps), .val (.ref tv), .val (.ref al), .val (.ref ao), .val (.ref la), .val (.ref lc), .val (.ref ao), .val (.int (1 : Int32)), .val (.ref ld)] [(.int (1 : Int32))]))
    exact Gl.retZ X hx hlk hret (by simp) (hb hby at_289) (by decide) (by decide) ⟨rfl, N⟩
  show Gl p e below s room_1.cells room_1.slots (fun v h L => v = some (.int 1) ∧ Fr n0 L) (T.setTop (mkF m 0 #[.val (.int p0), .val (.int p1), .val (.int p2), .val (.int p3), .unset, .unset, .unset, .unset, .unset, .unset, .unset, .unset, .unset, .unset, .unset] []))
  refine Gl.by (fun t_ k_ => XS.iloadN X.here hx rfl (hb hby at_0) rfl k_) ?_
  show Gl p e below s room_1.cells room_1.slots (fun v h L => v = some (.int 1) ∧ Fr n0 L) (T.setTop (mkF m 1 #[.val (.int p0), .val (.int p1), .val (.int p2), .val (.int p3), .unset, .unset, .unset, .unset, .unset, .unset, .unset, .unset, .unset, .unset, .unset] [(.int p0)]))
  refine Gl.by (fun t_ k_ => XS.iconst X.here hx rfl (hb hby at_1) k_) ?_
  show Gl p e below s room_1.cells room_1.slots (fun v h L => v = some (.int 1) ∧ Fr n0 L) (T.setTop (mkF m 2 #[.val (.int p0), .val (.int p1), .val (.int p2), .val (.int p3), .unset, .unset, .unset, .unset, .unset, .unset, .unset, .unset, .unset, .unset, .unset] [(.int (1 : Int32)), (.int p0)]))
  refine Gl.by (fun t_ k_ => XS.iand X.here hx rfl (hb hby at_2) rfl k_) ?_
  show Gl p e below s room_1.cells room_1.slots (fun v h L => v = some (.int 1) ∧ Fr n0 L) (T.setTop (mkF m 3 #[.val (.int p0), .val (.int p1), .val (.int p2), .val (.int p3), .unset, .unset, .unset, .unset, .unset, .unset, .unset, .unset, .unset, .unset, .unset] [(.int (p0 &&& (1 : Int32)))]))
  by_cases c0 : (p0 &&& (1 : Int32)) = (0 : Int32)
  · refine Gl.by (fun t_ k_ => XS.ifYes X.here hx rfl (pc0 := 3) (pc' := 10) rfl (hb hby at_3) rfl ((if0 _ _).trans (teq c0).1) (by decide) (by decide) k_) ?_
    show Gl p e below s room_1.cells room_1.slots (fun v h L => v = some (.int 1) ∧ Fr n0 L) (T.setTop (mkF m 10 #[.val (.int p0), .val (.int p1), .val (.int p2), .val (.int p3), .unset, .unset, .unset, .unset, .unset, .unset, .unset, .unset, .unset, .unset, .unset] []))
    refine Gl.by (fun t_ k_ => XS.iconst X.here hx rfl (hb hby at_10) k_) ?_
    show Gl p e below s room_1.cells room_1.slots (fun v h L => v = some (.int 1) ∧ Fr n0 L) (T.setTop (mkF m 11 #[.val (.int p0), .val (.int p1), .val (.int p2), .val (.int p3), .unset, .unset, .unset, .unset, .unset, .unset, .unset, .unset, .unset, .unset, .unset] [(.int (0 : Int32))]))
    refine Gl.by (fun t_ k_ => XS.istore X.here hx rfl (hb hby at_11) rfl (l' := #[.val (.int p0), .val (.int p1), .val (.int p2), .val (.int p3), .val (.int (0 : Int32)), .unset, .unset, .unset, .unset, .unset, .unset, .unset, .unset, .unset, .unset]) rfl k_) ?_
    show Gl p e below s room_1.cells room_1.slots (fun v h L => v = some (.int 1) ∧ Fr n0 L) (T.setTop (mkF m 13 #[.val (.int p0), .val (.int p1), .val (.int p2), .val (.int p3), .val (.int (0 : Int32)), .unset, .unset, .unset, .unset, .unset, .unset, .unset, .unset, .unset, .unset] []))
    refine Gl.by (fun t_ k_ => XS.iloadN X.here hx rfl (hb hby at_13) rfl k_) ?_
    show Gl p e below s room_1.cells room_1.slots (fun v h L => v = some (.int 1) ∧ Fr n0 L) (T.setTop (mkF m 14 #[.val (.int p0), .val (.int p1), .val (.int p2), .val (.int p3), .val (.int (0 : Int32)), .unset, .unset, .unset, .unset, .unset, .unset, .unset, .unset, .unset, .unset] [(.int p0)]))
    refine Gl.by (fun t_ k_ => XS.iconst X.here hx rfl (hb hby at_14) k_) ?_
    show Gl p e below s room_1.cells room_1.slots (fun v h L => v = some (.int 1) ∧ Fr n0 L) (T.setTop (mkF m 15 #[.val (.int p0), .val (.int p1), .val (.int p2), .val (.int p3), .val (.int (0 : Int32)), .unset, .unset, .unset, .unset, .unset, .unset, .unset, .unset, .unset, .unset] [(.int (2 : Int32)), (.int p0)]))
    refine Gl.by (fun t_ k_ => XS.iand X.here hx rfl (hb hby at_15) rfl k_) ?_
    show Gl p e below s room_1.cells room_1.slots (fun v h L => v = some (.int 1) ∧ Fr n0 L) (T.setTop (mkF m 16 #[.val (.int p0), .val (.int p1), .val (.int p2), .val (.int p3), .val (.int (0 : Int32)), .unset, .unset, .unset, .unset, .unset, .unset, .unset, .unset, .unset, .unset] [(.int (p0 &&& (2 : Int32)))]))
    by_cases c1 : (p0 &&& (2 : Int32)) = (0 : Int32)
    · refine Gl.by (fun t_ k_ => XS.ifYes X.here hx rfl (pc0 := 16) (pc' := 23) rfl (hb hby at_16) rfl ((if0 _ _).trans (teq c1).1) (by decide) (by decide) k_) ?_
      show Gl p e below s room_1.cells room_1.slots (fun v h L => v = some (.int 1) ∧ Fr n0 L) (T.setTop (mkF m 23 #[.val (.int p0), .val (.int p1), .val (.int p2), .val (.int p3), .val (.int (0 : Int32)), .unset, .unset, .unset, .unset, .unset, .unset, .unset, .unset, .unset, .unset] []))
      refine Gl.by (fun t_ k_ => XS.iconst X.here hx rfl (hb hby at_23) k_) ?_
      show Gl p e below s room_1.cells room_1.slots (fun v h L => v = some (.int 1) ∧ Fr n0 L) (T.setTop (mkF m 24 #[.val (.int p0), .val (.int p1), .val (.int p2), .val (.int p3), .val (.int (0 : Int32)), .unset, .unset, .unset, .unset, .unset, .unset, .unset, .unset, .unset, .unset] [(.int (0 : Int32))]))
      refine Gl.by (fun t_ k_ => XS.istore X.here hx rfl (hb hby at_24) rfl (l' := #[.val (.int p0), .val (.int p1), .val (.int p2), .val (.int p3), .val (.int (0 : Int32)), .val (.int (0 : Int32)), .unset, .unset, .unset, .unset, .unset, .unset, .unset, .unset, .unset]) rfl k_) ?_
      show Gl p e below s room_1.cells room_1.slots (fun v h L => v = some (.int 1) ∧ Fr n0 L) (T.setTop (mkF m 26 #[.val (.int p0), .val (.int p1), .val (.int p2), .val (.int p3), .val (.int (0 : Int32)), .val (.int (0 : Int32)), .unset, .unset, .unset, .unset, .unset, .unset, .unset, .unset, .unset] []))
      exact j00
    · refine Gl.by (fun t_ k_ => XS.ifNo X.here hx rfl (hb hby at_16) rfl ((if0 _ _).trans (feq c1).1) k_) ?_
      show Gl p e below s room_1.cells room_1.slots (fun v h L => v = some (.int 1) ∧ Fr n0 L) (T.setTop (mkF m 19 #[.val (.int p0), .val (.int p1), .val (.int p2), .val (.int p3), .val (.int (0 : Int32)), .unset, .unset, .unset, .unset, .unset, .unset, .unset, .unset, .unset, .unset] []))
      refine Gl.by (fun t_ k_ => XS.iconst X.here hx rfl (hb hby at_19) k_) ?_
      show Gl p e below s room_1.cells room_1.slots (fun v h L => v = some (.int 1) ∧ Fr n0 L) (T.setTop (mkF m 20 #[.val (.int p0), .val (.int p1), .val (.int p2), .val (.int p3), .val (.int (0 : Int32)), .unset, .unset, .unset, .unset, .unset, .unset, .unset, .unset, .unset, .unset] [(.int (1 : Int32))]))
      refine Gl.by (fun t_ k_ => XS.goto X.here hx rfl (pc0 := 20) (pc' := 24) rfl (hb hby at_20) (by decide) (by decide) k_) ?_
      show Gl p e below s room_1.cells room_1.slots (fun v h L => v = some (.int 1) ∧ Fr n0 L) (T.setTop (mkF m 24 #[.val (.int p0), .val (.int p1), .val (.int p2), .val (.int p3), .val (.int (0 : Int32)), .unset, .unset, .unset, .unset, .unset, .unset, .unset, .unset, .unset, .unset] [(.int (1 : Int32))]))
      refine Gl.by (fun t_ k_ => XS.istore X.here hx rfl (hb hby at_24) rfl (l' := #[.val (.int p0), .val (.int p1), .val (.int p2), .val (.int p3), .val (.int (0 : Int32)), .val (.int (1 : Int32)), .unset, .unset, .unset, .unset, .unset, .unset, .unset, .unset, .unset]) rfl k_) ?_
      show Gl p e below s room_1.cells room_1.slots (fun v h L => v = some (.int 1) ∧ Fr n0 L) (T.setTop (mkF m 26 #[.val (.int p0), .val (.int p1), .val (.int p2), .val (.int p3), .val (.int (0 : Int32)), .val (.int (1 : Int32)), .unset, .unset, .unset, .unset, .unset, .unset, .unset, .unset, .unset] []))
      exact j01
  · refine Gl.by (fun t_ k_ => XS.ifNo X.here hx rfl (hb hby at_3) rfl ((if0 _ _).trans (feq c0).1) k_) ?_
    show Gl p e below s room_1.cells room_1.slots (fun v h L => v = some (.int 1) ∧ Fr n0 L) (T.setTop (mkF m 6 #[.val (.int p0), .val (.int p1), .val (.int p2), .val (.int p3), .unset, .unset, .unset, .unset, .unset, .unset, .unset, .unset, .unset, .unset, .unset] []))
    refine Gl.by (fun t_ k_ => XS.iconst X.here hx rfl (hb hby at_6) k_) ?_
    show Gl p e below s room_1.cells room_1.slots (fun v h L => v = some (.int 1) ∧ Fr n0 L) (T.setTop (mkF m 7 #[.val (.int p0), .val (.int p1), .val (.int p2), .val (.int p3), .unset, .unset, .unset, .unset, .unset, .unset, .unset, .unset, .unset, .unset, .unset] [(.int (1 : Int32))]))
    refine Gl.by (fun t_ k_ => XS.goto X.here hx rfl (pc0 := 7) (pc' := 11) rfl (hb hby at_7) (by decide) (by decide) k_) ?_
    show Gl p e below s room_1.cells room_1.slots (fun v h L => v = some (.int 1) ∧ Fr n0 L) (T.setTop (mkF m 11 #[.val (.int p0), .val (.int p1), .val (.int p2), .val (.int p3), .unset, .unset, .unset, .unset, .unset, .unset, .unset, .unset, .unset, .unset, .unset] [(.int (1 : Int32))]))
    refine Gl.by (fun t_ k_ => XS.istore X.here hx rfl (hb hby at_11) rfl (l' := #[.val (.int p0), .val (.int p1), .val (.int p2), .val (.int p3), .val (.int (1 : Int32)), .unset, .unset, .unset, .unset, .unset, .unset, .unset, .unset, .unset, .unset]) rfl k_) ?_
    show Gl p e below s room_1.cells room_1.slots (fun v h L => v = some (.int 1) ∧ Fr n0 L) (T.setTop (mkF m 13 #[.val (.int p0), .val (.int p1), .val (.int p2), .val (.int p3), .val (.int (1 : Int32)), .unset, .unset, .unset, .unset, .unset, .unset, .unset, .unset, .unset, .unset] []))
    refine Gl.by (fun t_ k_ => XS.iloadN X.here hx rfl (hb hby at_13) rfl k_) ?_
    show Gl p e below s room_1.cells room_1.slots (fun v h L => v = some (.int 1) ∧ Fr n0 L) (T.setTop (mkF m 14 #[.val (.int p0), .val (.int p1), .val (.int p2), .val (.int p3), .val (.int (1 : Int32)), .unset, .unset, .unset, .unset, .unset, .unset, .unset, .unset, .unset, .unset] [(.int p0)]))
    refine Gl.by (fun t_ k_ => XS.iconst X.here hx rfl (hb hby at_14) k_) ?_
    show Gl p e below s room_1.cells room_1.slots (fun v h L => v = some (.int 1) ∧ Fr n0 L) (T.setTop (mkF m 15 #[.val (.int p0), .val (.int p1), .val (.int p2), .val (.int p3), .val (.int (1 : Int32)), .unset, .unset, .unset, .unset, .unset, .unset, .unset, .unset, .unset, .unset] [(.int (2 : Int32)), (.int p0)]))
    refine Gl.by (fun t_ k_ => XS.iand X.here hx rfl (hb hby at_15) rfl k_) ?_
    show Gl p e below s room_1.cells room_1.slots (fun v h L => v = some (.int 1) ∧ Fr n0 L) (T.setTop (mkF m 16 #[.val (.int p0), .val (.int p1), .val (.int p2), .val (.int p3), .val (.int (1 : Int32)), .unset, .unset, .unset, .unset, .unset, .unset, .unset, .unset, .unset, .unset] [(.int (p0 &&& (2 : Int32)))]))
    by_cases c1 : (p0 &&& (2 : Int32)) = (0 : Int32)
    · refine Gl.by (fun t_ k_ => XS.ifYes X.here hx rfl (pc0 := 16) (pc' := 23) rfl (hb hby at_16) rfl ((if0 _ _).trans (teq c1).1) (by decide) (by decide) k_) ?_
      show Gl p e below s room_1.cells room_1.slots (fun v h L => v = some (.int 1) ∧ Fr n0 L) (T.setTop (mkF m 23 #[.val (.int p0), .val (.int p1), .val (.int p2), .val (.int p3), .val (.int (1 : Int32)), .unset, .unset, .unset, .unset, .unset, .unset, .unset, .unset, .unset, .unset] []))
      refine Gl.by (fun t_ k_ => XS.iconst X.here hx rfl (hb hby at_23) k_) ?_
      show Gl p e below s room_1.cells room_1.slots (fun v h L => v = some (.int 1) ∧ Fr n0 L) (T.setTop (mkF m 24 #[.val (.int p0), .val (.int p1), .val (.int p2), .val (.int p3), .val (.int (1 : Int32)), .unset, .unset, .unset, .unset, .unset, .unset, .unset, .unset, .unset, .unset] [(.int (0 : Int32))]))
      refine Gl.by (fun t_ k_ => XS.istore X.here hx rfl (hb hby at_24) rfl (l' := #[.val (.int p0), .val (.int p1), .val (.int p2), .val (.int p3), .val (.int (1 : Int32)), .val (.int (0 : Int32)), .unset, .unset, .unset, .unset, .unset, .unset, .unset, .unset, .unset]) rfl k_) ?_
      show Gl p e below s room_1.cells room_1.slots (fun v h L => v = some (.int 1) ∧ Fr n0 L) (T.setTop (mkF m 26 #[.val (.int p0), .val (.int p1), .val (.int p2), .val (.int p3), .val (.int (1 : Int32)), .val (.int (0 : Int32)), .unset, .unset, .unset, .unset, .unset, .unset, .unset, .unset, .unset] []))
      exact j10
    · refine Gl.by (fun t_ k_ => XS.ifNo X.here hx rfl (hb hby at_16) rfl ((if0 _ _).trans (feq c1).1) k_) ?_
      show Gl p e below s room_1.cells room_1.slots (fun v h L => v = some (.int 1) ∧ Fr n0 L) (T.setTop (mkF m 19 #[.val (.int p0), .val (.int p1), .val (.int p2), .val (.int p3), .val (.int (1 : Int32)), .unset, .unset, .unset, .unset, .unset, .unset, .unset, .unset, .unset, .unset] []))
      refine Gl.by (fun t_ k_ => XS.iconst X.here hx rfl (hb hby at_19) k_) ?_
      show Gl p e below s room_1.cells room_1.slots (fun v h L => v = some (.int 1) ∧ Fr n0 L) (T.setTop (mkF m 20 #[.val (.int p0), .val (.int p1), .val (.int p2), .val (.int p3), .val (.int (1 : Int32)), .unset, .unset, .unset, .unset, .unset, .unset, .unset, .unset, .unset, .unset] [(.int (1 : Int32))]))
      refine Gl.by (fun t_ k_ => XS.goto X.here hx rfl (pc0 := 20) (pc' := 24) rfl (hb hby at_20) (by decide) (by decide) k_) ?_
      show Gl p e below s room_1.cells room_1.slots (fun v h L => v = some (.int 1) ∧ Fr n0 L) (T.setTop (mkF m 24 #[.val (.int p0), .val (.int p1), .val (.int p2), .val (.int p3), .val (.int (1 : Int32)), .unset, .unset, .unset, .unset, .unset, .unset, .unset, .unset, .unset, .unset] [(.int (1 : Int32))]))
      refine Gl.by (fun t_ k_ => XS.istore X.here hx rfl (hb hby at_24) rfl (l' := #[.val (.int p0), .val (.int p1), .val (.int p2), .val (.int p3), .val (.int (1 : Int32)), .val (.int (1 : Int32)), .unset, .unset, .unset, .unset, .unset, .unset, .unset, .unset, .unset]) rfl k_) ?_
      show Gl p e below s room_1.cells room_1.slots (fun v h L => v = some (.int 1) ∧ Fr n0 L) (T.setTop (mkF m 26 #[.val (.int p0), .val (.int p1), .val (.int p2), .val (.int p3), .val (.int (1 : Int32)), .val (.int (1 : Int32)), .unset, .unset, .unset, .unset, .unset, .unset, .unset, .unset, .unset] []))
      exact j11
theorem own_arv0 {s : State} {args : Array Value} {t : Term} {a : Addr} (ev : t.eval args s none [] s = some (.ref a)) (h1 : (Jvm.Cond.arrayOf t (.object "java/lang/Object")).value args s none s [] = some true) (h2 : (Jvm.Cond.eq (.length t) (.int 0)).before args s = true) : ∃ k, Arv s s.heap a k (.object "java/lang/Object") 0 [] .null := by
  obtain ⟨cl, Ar⟩ := Arr.start ev h1
  obtain ⟨hsz, hsize⟩ := Jvm.Free.IntBox.length_fwd h2 ev Ar.1 Ar.2.1 Ar.2.2
  have h0 : cl.slots.size = 0 := by
    have e := len_toInt hsz
    rw [hsize] at e
    have : ((0 : Int32)).toInt = 0 := by decide
    omega
  exact ⟨cl.cls, cl, Ar, rfl, h0, by decide, fun i hi => absurd hi (by rw [h0]; exact Nat.not_lt_zero i), fun i hi => absurd hi (by rw [h0]; exact Nat.not_lt_zero i)⟩
theorem own_alok {s : State} {args : Array Value} (hw : ∀ d ∈ tables_1, d.before args s = true) (hs : ∀ w ∈ jdkStatics_1, w.before args s = true) (M0 : MirrorMade s "[Ljava/lang/Object;") : ∃ (dc el mr : Nat) (em : Value), ALok s dc el mr em := by
  have s15 := Cond.before_iff.mp (hs _ (List.mem_of_getElem? (i := 15) rfl))
  obtain ⟨dc, ed⟩ := arr_v s15
  have Sd := Sta.start ed (Or.inr ⟨(hw _ (List.mem_of_getElem? (i := 62) rfl)), hs _ (List.mem_of_getElem? (i := 11) rfl)⟩)
  have Vd := own_arv0 ed s15 (hs _ (List.mem_of_getElem? (i := 17) rfl))
  have s20 := Cond.before_iff.mp (hs _ (List.mem_of_getElem? (i := 20) rfl))
  obtain ⟨el, ee⟩ := exa_v s20
  have Se := Sta.start ee (Or.inl (hs _ (List.mem_of_getElem? (i := 19) rfl)))
  have s21 := Cond.before_iff.mp (hs _ (List.mem_of_getElem? (i := 21) rfl))
  obtain ⟨ea, ef⟩ := arr_v s21
  have Fe := Fld.start ((fld_at ee).symm.trans ef)
  obtain ⟨ke, Ve⟩ := own_arv0 ef s21 (hs _ (List.mem_of_getElem? (i := 23) rfl))
  have s27 := Cond.before_iff.mp (hs _ (List.mem_of_getElem? (i := 27) rfl))
  obtain ⟨em, eg⟩ := exa_v s27
  have Sm := Sta.start eg (Or.inl (hs _ (List.mem_of_getElem? (i := 26) rfl)))
  obtain ⟨c, k, mr, m1, m2, m3, m4⟩ := M0
  exact ⟨dc, el, mr, .ref em, Sd, Vd, Se, Exa.start ee s20, ⟨ea, ke, Fe, Ve⟩, Sm, rfl, c, k, m1, m2, m3, m4⟩
set_option maxRecDepth 65536 in
set_option maxHeartbeats 40000000 in
theorem comes_1 {Post : Tables → Env → Array Value → State → Outcome → State → Prop} (hpost : ∀ tb e args s v u, (limb_1_1.after args s (.returned v) u = true ∧ limb_1_2.after args s (.returned v) u = true ∧ True) → FrameEnd s (.returned v) u (Jvm.fieldLocs frame_1_writes args s ++ Jvm.arrayLocs frame_1_arrays args s ++ Jvm.staticLocs frame_1_statics s) 40 192 → Post tb e args s (.returned v) u) :
    ArmFor flags0 classFile x code maxLocals ret World_1 tables_1 room_1 Calls_1 rest_1 Pre_1 Post := by
  intro l hfl _ _ p e ha hc hk s m args below hf hA hF happ hP
  obtain ⟨hcalls, hrest, hpre⟩ := hP
  obtain ⟨-, -, -, hnamed, -, -, -, hat⟩ := (Spec.applies_iff hf).mp happ
  obtain ⟨hg, hn⟩ := and_e (Cond.before_iff.mp (show (Jvm.Cond.and given_1 narrow_1).before args s = true from hpre))
  obtain ⟨hcnt, u0⟩ := and_e hg
  obtain ⟨a0, u1⟩ := and_e u0
  obtain ⟨a1, u2⟩ := and_e u1
  obtain ⟨a2, u3⟩ := and_e u2
  obtain ⟨w0, w1, w2, w3, rfl⟩ : ∃ w0 w1 w2 w3 : Value, args = #[w0, w1, w2, w3] := by
    have hs : args.size = 4 := by simpa [Cond.value, given_1] using hcnt
    obtain ⟨L⟩ := args
    match L, hs with
    | [w0, w1, w2, w3], _ => exact ⟨w0, w1, w2, w3, rfl⟩
  have hw := fun d (hd : d ∈ tables_1) => atoms_spec (ws := Jvm.Cond.code x code maxLocals ret :: tables_1) hat d (List.mem_cons_of_mem _ hd)
  obtain ⟨hsets, hown0⟩ := atoms_of _ (rest_1_c_eq ▸ (show rest_1_c.before _ s = true from hrest))
  have hfit : Fit s := fun {y c} hc i hi => by
    obtain ⟨ha, rfl⟩ := Array.getElem?_eq_some_iff.mp hc
    have q := List.all_eq_true.mp ((Array.all_eq_true_iff_forall_mem.mp hF) _ (Array.getElem_mem ha)) i (List.mem_range.mpr hi)
    simpa [Array.getElem?_eq_getElem hi] using q
  obtain ⟨p0, e0⟩ := is_v a0
  obtain rfl : w0 = (.int p0) := Option.some.inj e0
  obtain ⟨p1, e1⟩ := is_v a1
  obtain rfl : w1 = (.int p1) := Option.some.inj e1
  obtain ⟨p2, e2⟩ := is_v a2
  obtain rfl : w2 = (.int p2) := Option.some.inj e2
  obtain ⟨p3, e3⟩ := is_v u3
  obtain rfl : w3 = (.int p3) := Option.some.inj e3
  have nz := not_v (Cond.before_iff.mp (hsets _ (List.mem_of_getElem? (i := 2) rfl)))
  obtain ⟨zc, ezc⟩ := is_v (Cond.before_iff.mp (hsets _ (List.mem_of_getElem? (i := 1) rfl)))
  have Szc : Sta s s.heap "java/lang/String" "COMPACT_STRINGS" "Z" (.int zc) := Sta.start ezc (Or.inl (hsets _ (List.mem_of_getElem? (i := 0) rfl)))
  have hzc : ¬ (zc = (0 : Int32)) := gotF (Cond.eq_ints ezc (Term.int_eval (0))) nz
  obtain ⟨dc, el, mr, em, hK⟩ := own_alok hw hsets hcalls.1
  obtain ⟨n, o, h1, h2, h3, _, L, rfl, ⟨rfl, N⟩, hq⟩ := own_law l s _ hw tables_1 p0 p1 p2 p3 zc dc el mr em s.heap s.heap.size (Nat.le_refl _) Szc hzc (Old.start s) hK p e ha hc hk s m _ below hf ((Spec.applies_iff_loose hf).mp happ).1 ⟨rfl, State.Warmed39.refl s, rfl⟩ trivial
  refine ⟨n, _, h1, h2, h3, hpost _ _ _ _ _ _ ⟨Cond.after_iff.mpr rfl, Cond.after_iff.mpr (eq_i res_at (Term.int_eval (1)) rfl), trivial⟩ ⟨hq.1, hq.2.1, (hq.2.2.sift fun y hy => Or.inr (N y hy)).mono (by decide) (by decide)⟩⟩
theorem main_1_1 : Claimed_1_1 := comes_1 fun _ _ _ _ _ _ h hF => ⟨h.1, hF⟩
theorem main_1_2 : Claimed_1_2 := comes_1 fun _ _ _ _ _ _ h hF => ⟨h.2.1, hF⟩
end Jvm.Pilot.@@N@@
namespace Jvm.Pilot.@@N@@
open Jvm Jvm.ClassFile Sem Op Lib Jvm.Free Jvm.Stand Jvm.Pilot.@@N@@.Jvm.D
/-! MADE BY PROGRAM (witnessworld.py) out of the Statement's table words and the real class files: 42 classes; the members and pool entries that the words name. The judged class is class 1, her method 1. -/
namespace start1
open Jvm.ClassFile
def u (s : String) : CpInfo := .utf8 (stringToUtf16 s)
/-- a pool by its gaps: so many unusable entries, then the entry; so many at the end -/
def gap : Nat → List CpInfo → List CpInfo
  | 0, r => r
  | n + 1, r => .unusable :: gap n r
def poolList (es : List (Nat × CpInfo)) (last : Nat) : List CpInfo := es.foldr (fun e r => gap e.1 (e.2 :: r)) (gap last [])
def pool (es : List (Nat × CpInfo)) (last : Nat) : Array CpInfo := ⟨poolList es last⟩
def fileOf (pool : Array CpInfo) (this : Nat) (attrs : Array Attribute := #[]) (ms : Array MethodInfo := #[]) (fl : Nat := 33) (sup : Nat := 0) (ifs : Array Nat := #[]) (fds : Array FieldInfo := #[]) : ClassFile where
  minorVersion := 0
  majorVersion := 65
  constantPool := pool
  accessFlags := fl
  thisClass := this
  superClass := sup
  interfaces := ifs
  fields := fds
  methods := ms
  attributes := attrs
def plain (name : String) (sup : Option ClassId) : Class where
  name := name
  kind := .ordinary
  loader := none
  accessFlags := 33
  super := sup
  interfaces := #[]
  cf := none
  fields := #[]
  methods := #[]
  instanceTypes := #[]
  staticTypes := #[]
  resolved := #[]
  callSites := []
  init := .initialized
  statics := none
  mirror := none

def pool0 : Array CpInfo := pool [(5, u "<init>"), (0, u "()V"), (1, .class_ 10), (1, u "java/lang/Object"), (0, u "getClass"), (0, u "()Ljava/lang/Class;")] 111

def k0c0 : Code := { maxStack := 0, maxLocals := 1, code := object_method_1_code, exceptionTable := #[], attributes := #[] }
def k0m0 : Method := { name := "<init>", desc := "()V", sig := { parameters := [], returnType := none }, accessFlags := 1, code := some k0c0 }
def k0m1 : Method := { name := "getClass", desc := "()Ljava/lang/Class;", sig := { parameters := [], returnType := some (.object "java/lang/Class") }, accessFlags := 273, code := none }
/-- java/lang/Object -/
def k0 : Class := { plain "java/lang/Object" none with
  accessFlags := 33
  interfaces := #[]
  cf := some (fileOf pool0 8 #[] #[{ accessFlags := 1, nameIndex := 5, descriptorIndex := 6, attributes := #[] }, { accessFlags := 273, nameIndex := 11, descriptorIndex := 12, attributes := #[] }] 33 0 #[] #[])
  fields := #[]
  methods := #[k0m0, k0m1]
  instanceTypes := #[]
  staticTypes := #[]
  resolved := Array.replicate 124 none
  statics := none }

def pool1 : Array CpInfo := pool [(2, .class_ 4), (0, .nameAndType 5 6), (0, u "java/lang/Object"), (0, u "<init>"), (0, u "()V"), (0, .class_ 8), (0, u "java/lang/String"), (0, .methodref 7 10), (0, .nameAndType 5 11), (0, u "([C)V"), (0, .class_ 13), (0, u "com/example/intentio/intentio/hddl/Term$Variable"), (0, .methodref 7 15), (0, .nameAndType 16 17), (0, u "valueOf"), (0, u "(C)Ljava/lang/String;"), (0, .methodref 12 19), (0, .nameAndType 5 20), (0, u "(Ljava/lang/String;Lcom/example/intentio/intentio/hddl/Type;)V"), (0, .class_ 22), (0, u "java/util/ArrayList"), (0, .methodref 21 3), (0, .methodref 21 25), (0, .nameAndType 26 27), (0, u "add"), (0, u "(Ljava/lang/Object;)Z"), (0, .class_ 29), (0, u "com/example/intentio/intentio/hddl/Atom"), (0, .methodref 28 31), (0, .nameAndType 5 32), (0, u "(Ljava/lang/String;Ljava/util/List;)V"), (0, .class_ 34), (0, u "com/example/intentio/intentio/hddl/Literal"), (0, .methodref 33 36), (0, .nameAndType 5 37), (0, u "(Lcom/example/intentio/intentio/hddl/Atom;Z)V"), (0, .methodref 33 39), (0, .nameAndType 40 41), (0, u "complement"), (0, u "()Lcom/example/intentio/intentio/hddl/Literal;"), (0, .methodref 33 43), (0, .nameAndType 44 45), (0, u "positive"), (0, u "()Z"), (0, .methodref 33 47), (0, .nameAndType 48 49), (0, u "atom"), (0, u "()Lcom/example/intentio/intentio/hddl/Atom;"), (0, .methodref 28 51), (0, .nameAndType 52 53), (0, u "predicate"), (0, u "()Ljava/lang/String;"), (0, .methodref 7 55), (0, .nameAndType 56 27), (0, u "equals"), (0, .methodref 28 58), (0, .nameAndType 59 60), (0, u "arguments"), (0, u "()Ljava/util/List;"), (0, .interfaceMethodref 62 63), (0, .class_ 64), (0, .nameAndType 65 66), (0, u "java/util/List"), (0, u "size"), (0, u "()I"), (0, .interfaceMethodref 62 68), (0, .nameAndType 69 70), (0, u "get"), (0, u "(I)Ljava/lang/Object;"), (0, .class_ 72), (0, u "com/example/intentio/intentio/hddl/LiteralComplementPinLaw"), (2, u "law"), (0, u "(IIII)Z")] 7

def k1m0 : Method := { name := "<init>", desc := "()V", sig := { parameters := [], returnType := none }, accessFlags := 1, code := none }
def k1c1 : Code := { maxStack := 7, maxLocals := 15, code := code, exceptionTable := #[], attributes := #[] }
def k1m1 : Method := { name := "law", desc := "(IIII)Z", sig := { parameters := [.int, .int, .int, .int], returnType := some .boolean }, accessFlags := 9, code := some k1c1 }
/-- com/example/intentio/intentio/hddl/LiteralComplementPinLaw -/
def k1 : Class := { plain "com/example/intentio/intentio/hddl/LiteralComplementPinLaw" (some 0) with
  accessFlags := 49
  interfaces := #[]
  cf := some (fileOf pool1 71 #[] #[{ accessFlags := 1, nameIndex := 5, descriptorIndex := 6, attributes := #[] }, { accessFlags := 9, nameIndex := 75, descriptorIndex := 76, attributes := #[] }] 49 2 #[] #[])
  fields := #[]
  methods := #[k1m0, k1m1]
  instanceTypes := #[]
  staticTypes := #[]
  resolved := Array.replicate 84 none
  statics := none }

def pool2 : Array CpInfo := pool [(1, .class_ 2), (0, u "java/io/Serializable"), (0, .class_ 4), (0, u "java/lang/Object")] 2

/-- java/io/Serializable -/
def k2 : Class := { plain "java/io/Serializable" (some 0) with
  accessFlags := 1537
  interfaces := #[]
  cf := some (fileOf pool2 1 #[] #[] 1537 3 #[] #[])
  fields := #[]
  methods := #[]
  instanceTypes := #[]
  staticTypes := #[]
  resolved := Array.replicate 7 none
  statics := none }

def pool3 : Array CpInfo := pool [(1, .class_ 2), (0, u "java/lang/Comparable"), (0, .class_ 4), (0, u "java/lang/Object")] 7

/-- java/lang/Comparable -/
def k3 : Class := { plain "java/lang/Comparable" (some 0) with
  accessFlags := 1537
  interfaces := #[]
  cf := some (fileOf pool3 1 #[] #[] 1537 3 #[] #[])
  fields := #[]
  methods := #[]
  instanceTypes := #[]
  staticTypes := #[]
  resolved := Array.replicate 12 none
  statics := none }

def pool4 : Array CpInfo := pool [(2, .class_ 4), (1, u "java/lang/CharSequence"), (42, .class_ 48), (0, u "java/lang/CharSequence$1CodePointIterator"), (10, .class_ 60), (0, u "java/lang/CharSequence$1CharIterator"), (5, .class_ 67), (0, u "java/lang/Object")] 63

/-- java/lang/CharSequence -/
def k4 : Class := { plain "java/lang/CharSequence" (some 0) with
  accessFlags := 1537
  interfaces := #[]
  cf := some (fileOf pool4 2 #[.nestMembers #[47, 59]] #[] 1537 66 #[] #[])
  fields := #[]
  methods := #[]
  instanceTypes := #[]
  staticTypes := #[]
  resolved := Array.replicate 131 none
  statics := none }

def pool5 : Array CpInfo := pool [(1, .class_ 2), (0, u "java/lang/constant/Constable"), (0, .class_ 4), (0, u "java/lang/Object")] 6

/-- java/lang/constant/Constable -/
def k5 : Class := { plain "java/lang/constant/Constable" (some 0) with
  accessFlags := 1537
  interfaces := #[]
  cf := some (fileOf pool5 1 #[] #[] 1537 3 #[] #[])
  fields := #[]
  methods := #[]
  instanceTypes := #[]
  staticTypes := #[]
  resolved := Array.replicate 11 none
  statics := none }

def pool6 : Array CpInfo := pool [(1, .class_ 2), (0, u "java/lang/constant/ConstantDesc"), (0, .class_ 4), (0, u "java/lang/Object")] 32

/-- java/lang/constant/ConstantDesc -/
def k6 : Class := { plain "java/lang/constant/ConstantDesc" (some 0) with
  accessFlags := 1537
  interfaces := #[]
  cf := some (fileOf pool6 1 #[] #[] 1537 3 #[] #[])
  fields := #[]
  methods := #[]
  instanceTypes := #[]
  staticTypes := #[]
  resolved := Array.replicate 37 none
  statics := none }

def pool7 : Array CpInfo := pool [(1, .methodref 2 3), (0, .class_ 4), (0, .nameAndType 5 6), (0, u "java/lang/Object"), (0, u "<init>"), (0, u "()V"), (2, .fieldref 10 11), (0, .class_ 12), (0, .nameAndType 13 14), (0, u "java/lang/String"), (0, u "value"), (0, u "[B"), (0, .fieldref 10 16), (0, .nameAndType 17 18), (0, u "coder"), (0, u "B"), (2, u "hash"), (0, u "I"), (2, u "hashIsZero"), (0, u "Z"), (0, .methodref 10 28), (0, .nameAndType 5 29), (0, u "([CIILjava/lang/Void;)V"), (8, .fieldref 10 39), (0, .nameAndType 40 26), (0, u "COMPACT_STRINGS"), (1, .class_ 44), (1, u "java/lang/StringUTF16"), (0, u "compress"), (1, .methodref 42 48), (0, .nameAndType 49 50), (0, u "coderFromArrayLen"), (0, u "([BI)B"), (2, u "toBytes"), (53, .class_ 109), (1, u "java/lang/StringLatin1"), (67, .methodref 42 178), (0, .nameAndType 45 179), (0, u "([CII)[B"), (29, .methodref 10 210), (0, .nameAndType 5 211), (0, u "([BB)V"), (157, u "(C)Z"), (173, u "equals"), (29, u "(Ljava/lang/Object;)Z"), (1, .class_ 576), (0, u "java/lang/CharSequence"), (22, u "CASE_INSENSITIVE_ORDER"), (0, u "Ljava/util/Comparator;"), (181, u "valueOf"), (0, u "(C)Ljava/lang/String;"), (226, u "([C)V"), (4, .methodref 107 1016), (0, .nameAndType 1017 369), (0, u "canEncode"), (0, .methodref 107 1019), (0, .nameAndType 53 1020), (0, u "(C)[B"), (80, u "serialPersistentFields"), (0, u "[Ljava/io/ObjectStreamField;"), (0, .class_ 1104), (0, u "java/lang/String$CaseInsensitiveComparator"), (1, .class_ 1107), (0, u "java/io/Serializable"), (0, .class_ 1109), (0, u "java/lang/Comparable"), (0, .class_ 1111), (0, u "java/lang/constant/Constable"), (0, .class_ 1113), (0, u "java/lang/constant/ConstantDesc"), (2, u "serialVersionUID"), (0, u "J"), (3, u "REPL"), (0, u "C"), (2, u "LATIN1"), (1, u "UTF16")] 323

def k7m0 : Method := { name := "<init>", desc := "()V", sig := { parameters := [], returnType := none }, accessFlags := 1, code := none }
def k7c1 : Code := { maxStack := 5, maxLocals := 2, code := jdk_42_method_3_code, exceptionTable := #[], attributes := #[] }
def k7m1 : Method := { name := "<init>", desc := "([C)V", sig := { parameters := [(.array .char)], returnType := none }, accessFlags := 1, code := some k7c1 }
def k7c2 : Code := { maxStack := 2, maxLocals := 3, code := jdk_42_method_66_code, exceptionTable := #[], attributes := #[] }
def k7m2 : Method := { name := "equals", desc := "(Ljava/lang/Object;)Z", sig := { parameters := [(.object "java/lang/Object")], returnType := some .boolean }, accessFlags := 1, code := some k7c2 }
def k7c3 : Code := { maxStack := 4, maxLocals := 1, code := jdk_42_method_139_code, exceptionTable := #[], attributes := #[] }
def k7m3 : Method := { name := "valueOf", desc := "(C)Ljava/lang/String;", sig := { parameters := [.char], returnType := some (.object "java/lang/String") }, accessFlags := 9, code := some k7c3 }
def k7c4 : Code := { maxStack := 4, maxLocals := 6, code := jdk_42_method_149_code, exceptionTable := #[], attributes := #[] }
def k7m4 : Method := { name := "<init>", desc := "([CIILjava/lang/Void;)V", sig := { parameters := [(.array .char), .int, .int, (.object "java/lang/Void")], returnType := none }, accessFlags := 2, code := some k7c4 }
def k7c5 : Code := { maxStack := 2, maxLocals := 3, code := jdk_42_method_151_code, exceptionTable := #[], attributes := #[] }
def k7m5 : Method := { name := "<init>", desc := "([BB)V", sig := { parameters := [(.array .byte), .byte], returnType := none }, accessFlags := 0, code := some k7c5 }
/-- java/lang/String -/
def k7 : Class := { plain "java/lang/String" (some 0) with
  accessFlags := 49
  interfaces := #[2, 3, 4, 5, 6]
  cf := some (fileOf pool7 10 #[.nestMembers #[1103]] #[{ accessFlags := 1, nameIndex := 5, descriptorIndex := 6, attributes := #[] }, { accessFlags := 1, nameIndex := 5, descriptorIndex := 1010, attributes := #[] }, { accessFlags := 1, nameIndex := 543, descriptorIndex := 573, attributes := #[] }, { accessFlags := 9, nameIndex := 782, descriptorIndex := 783, attributes := #[] }, { accessFlags := 2, nameIndex := 5, descriptorIndex := 29, attributes := #[] }, { accessFlags := 0, nameIndex := 5, descriptorIndex := 211, attributes := #[] }] 49 2 #[1106, 1108, 575, 1110, 1112] #[{ accessFlags := 18, nameIndex := 13, descriptorIndex := 14, attributes := #[] }, { accessFlags := 18, nameIndex := 17, descriptorIndex := 18, attributes := #[] }, { accessFlags := 2, nameIndex := 21, descriptorIndex := 22, attributes := #[] }, { accessFlags := 2, nameIndex := 25, descriptorIndex := 26, attributes := #[] }, { accessFlags := 26, nameIndex := 1116, descriptorIndex := 1117, attributes := #[] }, { accessFlags := 24, nameIndex := 40, descriptorIndex := 26, attributes := #[] }, { accessFlags := 26, nameIndex := 1101, descriptorIndex := 1102, attributes := #[] }, { accessFlags := 26, nameIndex := 1121, descriptorIndex := 1122, attributes := #[] }, { accessFlags := 25, nameIndex := 599, descriptorIndex := 600, attributes := #[] }, { accessFlags := 24, nameIndex := 1125, descriptorIndex := 18, attributes := #[] }, { accessFlags := 24, nameIndex := 1127, descriptorIndex := 18, attributes := #[] }])
  fields := #[{ name := "value", type := (.array .byte), accessFlags := 18, slot := 0, constantValue := 0 }, { name := "coder", type := .byte, accessFlags := 18, slot := 1, constantValue := 0 }, { name := "hash", type := .int, accessFlags := 2, slot := 2, constantValue := 0 }, { name := "hashIsZero", type := .boolean, accessFlags := 2, slot := 3, constantValue := 0 }, { name := "serialVersionUID", type := .long, accessFlags := 26, slot := 0, constantValue := 0 }, { name := "COMPACT_STRINGS", type := .boolean, accessFlags := 24, slot := 1, constantValue := 0 }, { name := "serialPersistentFields", type := (.array (.object "java/io/ObjectStreamField")), accessFlags := 26, slot := 2, constantValue := 0 }, { name := "REPL", type := .char, accessFlags := 26, slot := 3, constantValue := 0 }, { name := "CASE_INSENSITIVE_ORDER", type := (.object "java/util/Comparator"), accessFlags := 25, slot := 4, constantValue := 0 }, { name := "LATIN1", type := .byte, accessFlags := 24, slot := 5, constantValue := 0 }, { name := "UTF16", type := .byte, accessFlags := 24, slot := 6, constantValue := 0 }]
  methods := #[k7m0, k7m1, k7m2, k7m3, k7m4, k7m5]
  instanceTypes := #[(.array .byte), .byte, .int, .boolean]
  staticTypes := #[.long, .boolean, (.array (.object "java/io/ObjectStreamField")), .char, (.object "java/util/Comparator"), .byte, .byte]
  resolved := Array.replicate 1451 none
  statics := some 0 }

def pool8 : Array CpInfo := pool [(6, .class_ 8), (1, u "java/lang/Object"), (0, u "<init>"), (0, u "()V"), (1, .class_ 14), (1, u "java/lang/StringUTF16"), (31, u "$assertionsDisabled"), (0, u "Z"), (13, u "HI_BYTE_SHIFT"), (0, u "I"), (2, u "LO_BYTE_SHIFT"), (49, .methodref 12 116), (0, .nameAndType 117 118), (0, u "compress"), (0, u "([CI[BII)I"), (3, u "([CII)[B"), (138, u "coderFromArrayLen"), (0, u "([BI)B"), (106, .class_ 371), (1, u "java/lang/StringUTF16$LinesSpliterator"), (58, u "MAX_LENGTH"), (196, .class_ 628), (0, u "java/lang/StringUTF16$CodePointsSpliterator"), (0, .class_ 630), (0, u "java/lang/StringUTF16$CharsSpliterator")] 4

def k8m0 : Method := { name := "<init>", desc := "()V", sig := { parameters := [], returnType := none }, accessFlags := 0, code := none }
def k8c1 : Code := { maxStack := 2, maxLocals := 2, code := jdk_52_method_15_code, exceptionTable := #[], attributes := #[] }
def k8m1 : Method := { name := "coderFromArrayLen", desc := "([BI)B", sig := { parameters := [(.array .byte), .int], returnType := some .byte }, accessFlags := 8, code := some k8c1 }
def k8c2 : Code := { maxStack := 5, maxLocals := 6, code := jdk_52_method_16_code, exceptionTable := #[], attributes := #[] }
def k8m2 : Method := { name := "compress", desc := "([CII)[B", sig := { parameters := [(.array .char), .int, .int], returnType := some (.array .byte) }, accessFlags := 9, code := some k8c2 }
def k8c3 : Code := { maxStack := 3, maxLocals := 7, code := jdk_52_method_21_code, exceptionTable := #[], attributes := #[] }
def k8m3 : Method := { name := "compress", desc := "([CI[BII)I", sig := { parameters := [(.array .char), .int, (.array .byte), .int, .int], returnType := some .int }, accessFlags := 9, code := some k8c3 }
/-- java/lang/StringUTF16 -/
def k8 : Class := { plain "java/lang/StringUTF16" (some 0) with
  accessFlags := 48
  interfaces := #[]
  cf := some (fileOf pool8 12 #[.nestMembers #[627, 629, 369]] #[{ accessFlags := 0, nameIndex := 9, descriptorIndex := 10, attributes := #[] }, { accessFlags := 8, nameIndex := 261, descriptorIndex := 262, attributes := #[] }, { accessFlags := 9, nameIndex := 117, descriptorIndex := 122, attributes := #[] }, { accessFlags := 9, nameIndex := 117, descriptorIndex := 118, attributes := #[] }] 48 6 #[] #[{ accessFlags := 26, nameIndex := 61, descriptorIndex := 62, attributes := #[] }, { accessFlags := 26, nameIndex := 65, descriptorIndex := 62, attributes := #[] }, { accessFlags := 24, nameIndex := 430, descriptorIndex := 62, attributes := #[] }, { accessFlags := 4120, nameIndex := 46, descriptorIndex := 47, attributes := #[] }])
  fields := #[{ name := "HI_BYTE_SHIFT", type := .int, accessFlags := 26, slot := 0, constantValue := 0 }, { name := "LO_BYTE_SHIFT", type := .int, accessFlags := 26, slot := 1, constantValue := 0 }, { name := "MAX_LENGTH", type := .int, accessFlags := 24, slot := 2, constantValue := 0 }, { name := "$assertionsDisabled", type := .boolean, accessFlags := 4120, slot := 3, constantValue := 0 }]
  methods := #[k8m0, k8m1, k8m2, k8m3]
  instanceTypes := #[]
  staticTypes := #[.int, .int, .int, .boolean]
  resolved := Array.replicate 635 none
  statics := none }

def pool9 : Array CpInfo := pool [(1, .methodref 2 3), (0, .class_ 4), (0, .nameAndType 5 6), (0, u "java/lang/Object"), (0, u "<init>"), (0, u "()V"), (0, .class_ 8), (0, u "java/lang/Record")] 13

def k9c0 : Code := { maxStack := 1, maxLocals := 1, code := jdk_30_method_1_code, exceptionTable := #[], attributes := #[] }
def k9m0 : Method := { name := "<init>", desc := "()V", sig := { parameters := [], returnType := none }, accessFlags := 4, code := some k9c0 }
/-- java/lang/Record -/
def k9 : Class := { plain "java/lang/Record" (some 0) with
  accessFlags := 1057
  interfaces := #[]
  cf := some (fileOf pool9 7 #[] #[{ accessFlags := 4, nameIndex := 5, descriptorIndex := 6, attributes := #[] }] 1057 2 #[] #[])
  fields := #[]
  methods := #[k9m0]
  instanceTypes := #[]
  staticTypes := #[]
  resolved := Array.replicate 22 none
  statics := none }

def pool10 : Array CpInfo := pool [(1, .class_ 2), (0, u "com/example/intentio/intentio/hddl/Term"), (0, .class_ 4), (0, u "java/lang/Object"), (5, .class_ 11), (0, u "com/example/intentio/intentio/hddl/Term$Fresh"), (0, .class_ 13), (0, u "com/example/intentio/intentio/hddl/Term$Variable"), (0, .class_ 15), (0, u "com/example/intentio/intentio/hddl/Term$Constant")] 5

/-- com/example/intentio/intentio/hddl/Term -/
def k10 : Class := { plain "com/example/intentio/intentio/hddl/Term" (some 0) with
  accessFlags := 1537
  interfaces := #[]
  cf := some (fileOf pool10 1 #[.nestMembers #[10, 12, 14]] #[] 1537 3 #[] #[])
  fields := #[]
  methods := #[]
  instanceTypes := #[]
  staticTypes := #[]
  resolved := Array.replicate 21 none
  statics := none }

def pool11 : Array CpInfo := pool [(1, .methodref 2 3), (0, .class_ 4), (0, .nameAndType 5 6), (0, u "java/lang/Record"), (0, u "<init>"), (0, u "()V"), (0, .fieldref 8 9), (0, .class_ 10), (0, .nameAndType 11 12), (0, u "com/example/intentio/intentio/hddl/Term$Variable"), (0, u "name"), (0, u "Ljava/lang/String;"), (0, .fieldref 8 14), (0, .nameAndType 15 16), (0, u "type"), (0, u "Lcom/example/intentio/intentio/hddl/Type;"), (8, .class_ 26), (0, u "com/example/intentio/intentio/hddl/Term"), (0, u "(Ljava/lang/String;Lcom/example/intentio/intentio/hddl/Type;)V")] 31

def k11c0 : Code := { maxStack := 2, maxLocals := 3, code := prog_78_method_1_code, exceptionTable := #[], attributes := #[] }
def k11m0 : Method := { name := "<init>", desc := "(Ljava/lang/String;Lcom/example/intentio/intentio/hddl/Type;)V", sig := { parameters := [(.object "java/lang/String"), (.object "com/example/intentio/intentio/hddl/Type")], returnType := none }, accessFlags := 1, code := some k11c0 }
/-- com/example/intentio/intentio/hddl/Term$Variable -/
def k11 : Class := { plain "com/example/intentio/intentio/hddl/Term$Variable" (some 9) with
  accessFlags := 49
  interfaces := #[10]
  cf := some (fileOf pool11 8 #[.nestHost 25] #[{ accessFlags := 1, nameIndex := 5, descriptorIndex := 27, attributes := #[] }] 49 2 #[25] #[{ accessFlags := 18, nameIndex := 11, descriptorIndex := 12, attributes := #[] }, { accessFlags := 18, nameIndex := 15, descriptorIndex := 16, attributes := #[] }])
  fields := #[{ name := "name", type := (.object "java/lang/String"), accessFlags := 18, slot := 0, constantValue := 0 }, { name := "type", type := (.object "com/example/intentio/intentio/hddl/Type"), accessFlags := 18, slot := 1, constantValue := 0 }]
  methods := #[k11m0]
  instanceTypes := #[(.object "java/lang/String"), (.object "com/example/intentio/intentio/hddl/Type")]
  staticTypes := #[]
  resolved := Array.replicate 59 none
  statics := none }

def pool12 : Array CpInfo := pool [(4, .class_ 6), (1, u "java/lang/Object"), (0, u "<init>"), (0, u "()V"), (5, .class_ 16), (1, u "java/lang/StringLatin1"), (73, u "canEncode"), (14, u "(C)Z"), (15, u "$assertionsDisabled"), (0, u "Z"), (98, .class_ 223), (1, u "java/lang/StringLatin1$LinesSpliterator"), (156, u "toBytes"), (1, u "(C)[B"), (7, .class_ 391), (0, u "java/lang/StringLatin1$CharsSpliterator")] 3

def k12m0 : Method := { name := "<init>", desc := "()V", sig := { parameters := [], returnType := none }, accessFlags := 0, code := none }
def k12c1 : Code := { maxStack := 2, maxLocals := 1, code := jdk_43_method_3_code, exceptionTable := #[], attributes := #[] }
def k12m1 : Method := { name := "canEncode", desc := "(C)Z", sig := { parameters := [.char], returnType := some .boolean }, accessFlags := 9, code := some k12c1 }
def k12c2 : Code := { maxStack := 4, maxLocals := 1, code := jdk_43_method_46_code, exceptionTable := #[], attributes := #[] }
def k12m2 : Method := { name := "toBytes", desc := "(C)[B", sig := { parameters := [.char], returnType := some (.array .byte) }, accessFlags := 9, code := some k12c2 }
/-- java/lang/StringLatin1 -/
def k12 : Class := { plain "java/lang/StringLatin1" (some 0) with
  accessFlags := 48
  interfaces := #[]
  cf := some (fileOf pool12 14 #[.nestMembers #[390, 221]] #[{ accessFlags := 0, nameIndex := 7, descriptorIndex := 8, attributes := #[] }, { accessFlags := 9, nameIndex := 90, descriptorIndex := 105, attributes := #[] }, { accessFlags := 9, nameIndex := 380, descriptorIndex := 382, attributes := #[] }] 48 4 #[] #[{ accessFlags := 4120, nameIndex := 121, descriptorIndex := 122, attributes := #[] }])
  fields := #[{ name := "$assertionsDisabled", type := .boolean, accessFlags := 4120, slot := 0, constantValue := 0 }]
  methods := #[k12m0, k12m1, k12m2]
  instanceTypes := #[]
  staticTypes := #[.boolean]
  resolved := Array.replicate 395 none
  statics := none }

def pool13 : Array CpInfo := pool [(8, .class_ 10), (1, u "java/lang/Iterable"), (24, .class_ 36), (0, u "java/lang/Object")] 25

/-- java/lang/Iterable -/
def k13 : Class := { plain "java/lang/Iterable" (some 0) with
  accessFlags := 1537
  interfaces := #[]
  cf := some (fileOf pool13 8 #[] #[] 1537 35 #[] #[])
  fields := #[]
  methods := #[]
  instanceTypes := #[]
  staticTypes := #[]
  resolved := Array.replicate 62 none
  statics := none }

def pool14 : Array CpInfo := pool [(10, .class_ 12), (1, u "java/util/Collection"), (0, u "toArray"), (16, u "()Z"), (29, .class_ 61), (0, u "java/lang/Object"), (0, .class_ 63), (0, u "java/lang/Iterable"), (2, u "isEmpty"), (3, u "()[Ljava/lang/Object;")] 44

def k14m0 : Method := { name := "isEmpty", desc := "()Z", sig := { parameters := [], returnType := some .boolean }, accessFlags := 1025, code := none }
def k14m1 : Method := { name := "toArray", desc := "()[Ljava/lang/Object;", sig := { parameters := [], returnType := some (.array (.object "java/lang/Object")) }, accessFlags := 1025, code := none }
/-- java/util/Collection -/
def k14 : Class := { plain "java/util/Collection" (some 0) with
  accessFlags := 1537
  interfaces := #[13]
  cf := some (fileOf pool14 10 #[] #[{ accessFlags := 1025, nameIndex := 66, descriptorIndex := 30, attributes := #[] }, { accessFlags := 1025, nameIndex := 13, descriptorIndex := 70, attributes := #[] }] 1537 60 #[62] #[])
  fields := #[]
  methods := #[k14m0, k14m1]
  instanceTypes := #[]
  staticTypes := #[]
  resolved := Array.replicate 115 none
  statics := none }

def pool15 : Array CpInfo := pool [(1, .methodref 2 3), (0, .class_ 4), (0, .nameAndType 5 6), (0, u "java/lang/Object"), (0, u "<init>"), (0, u "()V"), (1, .class_ 10), (1, u "java/util/AbstractCollection"), (66, .class_ 78), (0, u "java/util/Collection")] 81

def k15c0 : Code := { maxStack := 1, maxLocals := 1, code := jdk_22_method_1_code, exceptionTable := #[], attributes := #[] }
def k15m0 : Method := { name := "<init>", desc := "()V", sig := { parameters := [], returnType := none }, accessFlags := 4, code := some k15c0 }
/-- java/util/AbstractCollection -/
def k15 : Class := { plain "java/util/AbstractCollection" (some 0) with
  accessFlags := 1057
  interfaces := #[14]
  cf := some (fileOf pool15 8 #[] #[{ accessFlags := 4, nameIndex := 5, descriptorIndex := 6, attributes := #[] }] 1057 2 #[77] #[])
  fields := #[]
  methods := #[k15m0]
  instanceTypes := #[]
  staticTypes := #[]
  resolved := Array.replicate 160 none
  statics := none }

def pool16 : Array CpInfo := pool [(8, .class_ 10), (1, u "java/util/SequencedCollection"), (15, .class_ 27), (0, u "java/lang/Object"), (0, .class_ 29), (0, u "java/util/Collection")] 27

/-- java/util/SequencedCollection -/
def k16 : Class := { plain "java/util/SequencedCollection" (some 0) with
  accessFlags := 1537
  interfaces := #[14]
  cf := some (fileOf pool16 8 #[] #[] 1537 26 #[28] #[])
  fields := #[]
  methods := #[]
  instanceTypes := #[]
  staticTypes := #[]
  resolved := Array.replicate 57 none
  statics := none }

def pool17 : Array CpInfo := pool [(8, .class_ 10), (1, u "java/util/List"), (20, u "(Ljava/lang/Object;)V"), (16, u "<init>"), (26, u "get"), (0, u "(I)Ljava/lang/Object;"), (2, u "size"), (0, u "()I"), (7, u "of"), (1, .fieldref 91 92), (0, .class_ 93), (0, .nameAndType 94 95), (0, u "java/util/ImmutableCollections"), (0, u "EMPTY_LIST"), (0, u "Ljava/util/ImmutableCollections$ListN;"), (0, .class_ 97), (0, u "java/util/ImmutableCollections$List12"), (0, .methodref 96 99), (0, .nameAndType 48 31), (3, .class_ 104), (0, u "java/lang/Object"), (3, u "([Ljava/lang/Object;)Ljava/util/List;"), (3, .methodref 91 113), (0, .nameAndType 114 115), (0, u "listCopy"), (0, u "(Ljava/util/Collection;)Ljava/util/List;"), (3, u "()Ljava/util/List;"), (0, .class_ 121), (0, u "java/util/SequencedCollection"), (112, u "copyOf")] 16

def k17m0 : Method := { name := "size", desc := "()I", sig := { parameters := [], returnType := some .int }, accessFlags := 1025, code := none }
def k17m1 : Method := { name := "get", desc := "(I)Ljava/lang/Object;", sig := { parameters := [.int], returnType := some (.object "java/lang/Object") }, accessFlags := 1025, code := none }
def k17c2 : Code := { maxStack := 1, maxLocals := 0, code := jdk_40_method_36_code, exceptionTable := #[], attributes := #[] }
def k17m2 : Method := { name := "of", desc := "()Ljava/util/List;", sig := { parameters := [], returnType := some (.object "java/util/List") }, accessFlags := 9, code := some k17c2 }
def k17c3 : Code := { maxStack := 5, maxLocals := 2, code := jdk_40_method_47_code, exceptionTable := #[], attributes := #[] }
def k17m3 : Method := { name := "of", desc := "([Ljava/lang/Object;)Ljava/util/List;", sig := { parameters := [(.array (.object "java/lang/Object"))], returnType := some (.object "java/util/List") }, accessFlags := 137, code := some k17c3 }
def k17c4 : Code := { maxStack := 1, maxLocals := 1, code := jdk_40_method_48_code, exceptionTable := #[], attributes := #[] }
def k17m4 : Method := { name := "copyOf", desc := "(Ljava/util/Collection;)Ljava/util/List;", sig := { parameters := [(.object "java/util/Collection")], returnType := some (.object "java/util/List") }, accessFlags := 9, code := some k17c4 }
/-- java/util/List -/
def k17 : Class := { plain "java/util/List" (some 0) with
  accessFlags := 1537
  interfaces := #[16]
  cf := some (fileOf pool17 8 #[] #[{ accessFlags := 1025, nameIndex := 79, descriptorIndex := 80, attributes := #[] }, { accessFlags := 1025, nameIndex := 75, descriptorIndex := 76, attributes := #[] }, { accessFlags := 9, nameIndex := 88, descriptorIndex := 119, attributes := #[] }, { accessFlags := 137, nameIndex := 88, descriptorIndex := 108, attributes := #[] }, { accessFlags := 9, nameIndex := 234, descriptorIndex := 115, attributes := #[] }] 1537 103 #[120] #[])
  fields := #[]
  methods := #[k17m0, k17m1, k17m2, k17m3, k17m4]
  instanceTypes := #[]
  staticTypes := #[]
  resolved := Array.replicate 251 none
  statics := none }

def pool18 : Array CpInfo := pool [(1, .methodref 2 3), (0, .class_ 4), (0, .nameAndType 5 6), (0, u "java/util/AbstractCollection"), (0, u "<init>"), (0, u "()V"), (0, .fieldref 8 9), (0, .class_ 10), (0, .nameAndType 11 12), (0, u "java/util/AbstractList"), (0, u "modCount"), (0, u "I"), (64, .class_ 78), (0, u "java/util/AbstractList$Itr"), (3, .class_ 83), (0, u "java/util/AbstractList$ListItr"), (9, .class_ 94), (0, u "java/util/AbstractList$RandomAccessSubList"), (3, .class_ 99), (0, u "java/util/AbstractList$SubList"), (33, .class_ 134), (0, u "java/util/List"), (73, .class_ 209), (0, u "java/util/AbstractList$SubList$1"), (0, .class_ 211), (0, u "java/util/AbstractList$RandomAccessSpliterator")] 6

def k18c0 : Code := { maxStack := 2, maxLocals := 1, code := jdk_39_method_1_code, exceptionTable := #[], attributes := #[] }
def k18m0 : Method := { name := "<init>", desc := "()V", sig := { parameters := [], returnType := none }, accessFlags := 4, code := some k18c0 }
/-- java/util/AbstractList -/
def k18 : Class := { plain "java/util/AbstractList" (some 15) with
  accessFlags := 1057
  interfaces := #[17]
  cf := some (fileOf pool18 8 #[.nestMembers #[93, 98, 208, 210, 82, 77]] #[{ accessFlags := 4, nameIndex := 5, descriptorIndex := 6, attributes := #[] }] 1057 2 #[133] #[{ accessFlags := 132, nameIndex := 11, descriptorIndex := 12, attributes := #[] }])
  fields := #[{ name := "modCount", type := .int, accessFlags := 132, slot := 0, constantValue := 0 }]
  methods := #[k18m0]
  instanceTypes := #[.int]
  staticTypes := #[]
  resolved := Array.replicate 218 none
  statics := none }

def pool19 : Array CpInfo := pool [(1, .class_ 2), (0, u "java/util/RandomAccess"), (0, .class_ 4), (0, u "java/lang/Object")] 2

/-- java/util/RandomAccess -/
def k19 : Class := { plain "java/util/RandomAccess" (some 0) with
  accessFlags := 1537
  interfaces := #[]
  cf := some (fileOf pool19 1 #[] #[] 1537 3 #[] #[])
  fields := #[]
  methods := #[]
  instanceTypes := #[]
  staticTypes := #[]
  resolved := Array.replicate 7 none
  statics := none }

def pool20 : Array CpInfo := pool [(1, .class_ 2), (0, u "java/lang/Cloneable"), (0, .class_ 4), (0, u "java/lang/Object")] 2

/-- java/lang/Cloneable -/
def k20 : Class := { plain "java/lang/Cloneable" (some 0) with
  accessFlags := 1537
  interfaces := #[]
  cf := some (fileOf pool20 1 #[] #[] 1537 3 #[] #[])
  fields := #[]
  methods := #[]
  instanceTypes := #[]
  staticTypes := #[]
  resolved := Array.replicate 7 none
  statics := none }

def pool21 : Array CpInfo := pool [(1, .methodref 2 3), (0, .class_ 4), (0, .nameAndType 5 6), (0, u "java/util/AbstractList"), (0, u "<init>"), (0, u "()V"), (0, .class_ 8), (0, u "java/lang/Object"), (0, .fieldref 10 11), (0, .class_ 12), (0, .nameAndType 13 14), (0, u "java/util/ArrayList"), (0, u "elementData"), (0, u "[Ljava/lang/Object;"), (2, u "EMPTY_ELEMENTDATA"), (21, .fieldref 10 40), (0, .nameAndType 41 14), (0, u "DEFAULTCAPACITY_EMPTY_ELEMENTDATA"), (4, u "toArray"), (0, u "()[Ljava/lang/Object;"), (0, .fieldref 10 49), (0, .nameAndType 50 51), (0, u "size"), (0, u "I"), (6, .class_ 60), (1, u "java/util/Arrays"), (0, u "copyOf"), (1, .fieldref 10 64), (0, .nameAndType 65 51), (0, u "modCount"), (0, .methodref 58 67), (0, .nameAndType 61 68), (0, u "([Ljava/lang/Object;I)[Ljava/lang/Object;"), (0, .methodref 10 70), (0, .nameAndType 71 72), (0, u "grow"), (0, u "(I)[Ljava/lang/Object;"), (6, .methodref 80 81), (0, .class_ 82), (0, .nameAndType 83 84), (0, u "java/lang/Math"), (0, u "max"), (0, u "(II)I"), (11, u "(Ljava/lang/Object;)Z"), (32, .methodref 10 130), (0, .nameAndType 71 47), (0, .methodref 10 132), (0, .nameAndType 133 134), (0, u "add"), (0, u "(Ljava/lang/Object;[Ljava/lang/Object;I)V"), (13, .class_ 149), (0, u "java/util/List"), (23, u "()Z"), (88, .class_ 263), (0, u "java/util/ArrayList$ListItr"), (3, .class_ 268), (0, u "java/util/ArrayList$Itr"), (7, .class_ 277), (0, u "java/util/ArrayList$SubList"), (12, .class_ 291), (0, u "java/util/ArrayList$ArrayListSpliterator"), (37, .class_ 330), (0, u "java/util/RandomAccess"), (0, .class_ 332), (0, u "java/lang/Cloneable"), (0, .class_ 334), (0, u "java/io/Serializable"), (0, u "serialVersionUID"), (0, u "J"), (3, u "DEFAULT_CAPACITY"), (22, u "isEmpty"), (136, .class_ 501), (0, u "java/util/ArrayList$SubList$2"), (0, .class_ 503), (0, u "java/util/ArrayList$SubList$1")] 5

def k21c0 : Code := { maxStack := 2, maxLocals := 1, code := jdk_38_method_2_code, exceptionTable := #[], attributes := #[] }
def k21m0 : Method := { name := "<init>", desc := "()V", sig := { parameters := [], returnType := none }, accessFlags := 1, code := some k21c0 }
def k21c1 : Code := { maxStack := 4, maxLocals := 4, code := jdk_38_method_6_code, exceptionTable := #[], attributes := #[] }
def k21m1 : Method := { name := "grow", desc := "(I)[Ljava/lang/Object;", sig := { parameters := [.int], returnType := some (.array (.object "java/lang/Object")) }, accessFlags := 2, code := some k21c1 }
def k21c2 : Code := { maxStack := 3, maxLocals := 1, code := jdk_38_method_7_code, exceptionTable := #[], attributes := #[] }
def k21m2 : Method := { name := "grow", desc := "()[Ljava/lang/Object;", sig := { parameters := [], returnType := some (.array (.object "java/lang/Object")) }, accessFlags := 2, code := some k21c2 }
def k21c3 : Code := { maxStack := 1, maxLocals := 1, code := jdk_38_method_9_code, exceptionTable := #[], attributes := #[] }
def k21m3 : Method := { name := "isEmpty", desc := "()Z", sig := { parameters := [], returnType := some .boolean }, accessFlags := 1, code := some k21c3 }
def k21c4 : Code := { maxStack := 2, maxLocals := 1, code := jdk_38_method_16_code, exceptionTable := #[], attributes := #[] }
def k21m4 : Method := { name := "toArray", desc := "()[Ljava/lang/Object;", sig := { parameters := [], returnType := some (.array (.object "java/lang/Object")) }, accessFlags := 1, code := some k21c4 }
def k21c5 : Code := { maxStack := 3, maxLocals := 4, code := jdk_38_method_24_code, exceptionTable := #[], attributes := #[] }
def k21m5 : Method := { name := "add", desc := "(Ljava/lang/Object;[Ljava/lang/Object;I)V", sig := { parameters := [(.object "java/lang/Object"), (.array (.object "java/lang/Object")), .int], returnType := none }, accessFlags := 2, code := some k21c5 }
def k21c6 : Code := { maxStack := 4, maxLocals := 2, code := jdk_38_method_25_code, exceptionTable := #[], attributes := #[] }
def k21m6 : Method := { name := "add", desc := "(Ljava/lang/Object;)Z", sig := { parameters := [(.object "java/lang/Object")], returnType := some .boolean }, accessFlags := 1, code := some k21c6 }
/-- java/util/ArrayList -/
def k21 : Class := { plain "java/util/ArrayList" (some 18) with
  accessFlags := 33
  interfaces := #[17, 19, 20, 2]
  cf := some (fileOf pool21 10 #[.nestMembers #[290, 276, 500, 502, 262, 267]] #[{ accessFlags := 1, nameIndex := 5, descriptorIndex := 6, attributes := #[] }, { accessFlags := 2, nameIndex := 71, descriptorIndex := 72, attributes := #[] }, { accessFlags := 2, nameIndex := 71, descriptorIndex := 47, attributes := #[] }, { accessFlags := 1, nameIndex := 363, descriptorIndex := 173, attributes := #[] }, { accessFlags := 1, nameIndex := 46, descriptorIndex := 47, attributes := #[] }, { accessFlags := 2, nameIndex := 133, descriptorIndex := 134, attributes := #[] }, { accessFlags := 1, nameIndex := 133, descriptorIndex := 96, attributes := #[] }] 33 2 #[148, 329, 331, 333] #[{ accessFlags := 26, nameIndex := 335, descriptorIndex := 336, attributes := #[] }, { accessFlags := 26, nameIndex := 340, descriptorIndex := 51, attributes := #[] }, { accessFlags := 26, nameIndex := 17, descriptorIndex := 14, attributes := #[] }, { accessFlags := 26, nameIndex := 41, descriptorIndex := 14, attributes := #[] }, { accessFlags := 128, nameIndex := 13, descriptorIndex := 14, attributes := #[] }, { accessFlags := 2, nameIndex := 50, descriptorIndex := 51, attributes := #[] }])
  fields := #[{ name := "serialVersionUID", type := .long, accessFlags := 26, slot := 0, constantValue := 0 }, { name := "DEFAULT_CAPACITY", type := .int, accessFlags := 26, slot := 1, constantValue := 0 }, { name := "EMPTY_ELEMENTDATA", type := (.array (.object "java/lang/Object")), accessFlags := 26, slot := 2, constantValue := 0 }, { name := "DEFAULTCAPACITY_EMPTY_ELEMENTDATA", type := (.array (.object "java/lang/Object")), accessFlags := 26, slot := 3, constantValue := 0 }, { name := "elementData", type := (.array (.object "java/lang/Object")), accessFlags := 128, slot := 1, constantValue := 0 }, { name := "size", type := .int, accessFlags := 2, slot := 2, constantValue := 0 }]
  methods := #[k21m0, k21m1, k21m2, k21m3, k21m4, k21m5, k21m6]
  instanceTypes := #[.int, (.array (.object "java/lang/Object")), .int]
  staticTypes := #[.long, .int, (.array (.object "java/lang/Object")), (.array (.object "java/lang/Object"))]
  resolved := Array.replicate 509 none
  statics := some 1 }

def pool22 : Array CpInfo := pool [(1, .methodref 2 3), (0, .class_ 4), (0, .nameAndType 5 6), (0, u "java/lang/Record"), (0, u "<init>"), (0, u "()V"), (0, .interfaceMethodref 8 9), (0, .class_ 10), (0, .nameAndType 11 12), (0, u "java/util/List"), (0, u "copyOf"), (0, u "(Ljava/util/Collection;)Ljava/util/List;"), (0, .fieldref 14 15), (0, .class_ 16), (0, .nameAndType 17 18), (0, u "com/example/intentio/intentio/hddl/Atom"), (0, u "predicate"), (0, u "Ljava/lang/String;"), (0, .fieldref 14 20), (0, .nameAndType 21 22), (0, u "arguments"), (0, u "Ljava/util/List;"), (37, u "(Ljava/lang/String;Ljava/util/List;)V"), (24, u "()Ljava/lang/String;"), (19, u "()Ljava/util/List;")] 22

def k22c0 : Code := { maxStack := 2, maxLocals := 3, code := prog_44_method_1_code, exceptionTable := #[], attributes := #[] }
def k22m0 : Method := { name := "<init>", desc := "(Ljava/lang/String;Ljava/util/List;)V", sig := { parameters := [(.object "java/lang/String"), (.object "java/util/List")], returnType := none }, accessFlags := 1, code := some k22c0 }
def k22c1 : Code := { maxStack := 1, maxLocals := 1, code := prog_44_method_7_code, exceptionTable := #[], attributes := #[] }
def k22m1 : Method := { name := "predicate", desc := "()Ljava/lang/String;", sig := { parameters := [], returnType := some (.object "java/lang/String") }, accessFlags := 1, code := some k22c1 }
def k22c2 : Code := { maxStack := 1, maxLocals := 1, code := prog_44_method_8_code, exceptionTable := #[], attributes := #[] }
def k22m2 : Method := { name := "arguments", desc := "()Ljava/util/List;", sig := { parameters := [], returnType := some (.object "java/util/List") }, accessFlags := 1, code := some k22c2 }
/-- com/example/intentio/intentio/hddl/Atom -/
def k22 : Class := { plain "com/example/intentio/intentio/hddl/Atom" (some 9) with
  accessFlags := 49
  interfaces := #[]
  cf := some (fileOf pool22 14 #[] #[{ accessFlags := 1, nameIndex := 5, descriptorIndex := 60, attributes := #[] }, { accessFlags := 1, nameIndex := 17, descriptorIndex := 85, attributes := #[] }, { accessFlags := 1, nameIndex := 21, descriptorIndex := 105, attributes := #[] }] 49 2 #[] #[{ accessFlags := 18, nameIndex := 17, descriptorIndex := 18, attributes := #[] }, { accessFlags := 18, nameIndex := 21, descriptorIndex := 22, attributes := #[] }])
  fields := #[{ name := "predicate", type := (.object "java/lang/String"), accessFlags := 18, slot := 0, constantValue := 0 }, { name := "arguments", type := (.object "java/util/List"), accessFlags := 18, slot := 1, constantValue := 0 }]
  methods := #[k22m0, k22m1, k22m2]
  instanceTypes := #[(.object "java/lang/String"), (.object "java/util/List")]
  staticTypes := #[]
  resolved := Array.replicate 128 none
  statics := none }

def pool23 : Array CpInfo := pool [(2, .class_ 4), (1, u "java/lang/Object"), (0, u "<init>"), (0, u "()V"), (3, .class_ 11), (0, u "java/util/ImmutableCollections$List12"), (0, .class_ 13), (0, u "java/util/ImmutableCollections$ListN"), (3, u "Z"), (0, .class_ 19), (0, u "java/util/List"), (0, .interfaceMethodref 21 22), (0, .class_ 23), (0, .nameAndType 24 25), (0, u "java/util/Collection"), (0, u "isEmpty"), (0, u "()Z"), (0, .interfaceMethodref 18 27), (0, .nameAndType 28 29), (0, u "of"), (0, u "()Ljava/util/List;"), (0, .interfaceMethodref 21 31), (0, .nameAndType 32 33), (0, u "toArray"), (0, u "()[Ljava/lang/Object;"), (0, .interfaceMethodref 18 35), (0, .nameAndType 28 36), (0, u "([Ljava/lang/Object;)Ljava/util/List;"), (10, .class_ 49), (1, u "java/util/ImmutableCollections"), (0, u "$assertionsDisabled"), (5, u "[Ljava/lang/Object;"), (5, u "EMPTY_LIST"), (0, u "Ljava/util/ImmutableCollections$ListN;"), (8, u "EMPTY_LIST_NULLS"), (22, u "SALT32L"), (0, u "J"), (2, u "REVERSE"), (6, u "archivedObjects"), (2, u "EMPTY"), (0, u "Ljava/lang/Object;"), (0, .class_ 112), (0, u "java/util/ImmutableCollections$SetN"), (5, u "EMPTY_SET"), (0, u "Ljava/util/ImmutableCollections$SetN;"), (0, .class_ 121), (0, u "java/util/ImmutableCollections$MapN"), (3, u "EMPTY_MAP"), (0, u "Ljava/util/ImmutableCollections$MapN;"), (4, u "EXPAND_FACTOR"), (0, u "I"), (9, u "listCopy"), (0, u "(Ljava/util/Collection;)Ljava/util/List;"), (25, .class_ 170), (0, u "java/util/ImmutableCollections$MapN$MapNIterator"), (0, .class_ 172), (0, u "java/util/ImmutableCollections$MapN$1"), (0, .class_ 174), (0, u "java/util/ImmutableCollections$Map1"), (0, .class_ 176), (0, u "java/util/ImmutableCollections$AbstractImmutableMap"), (0, .class_ 178), (0, u "java/util/ImmutableCollections$SetN$SetNIterator"), (0, .class_ 180), (0, u "java/util/ImmutableCollections$Set12"), (0, .class_ 182), (0, u "java/util/ImmutableCollections$Set12$1"), (0, .class_ 184), (0, u "java/util/ImmutableCollections$AbstractImmutableSet"), (0, .class_ 186), (0, u "java/util/ImmutableCollections$SubList"), (0, .class_ 188), (0, u "java/util/ImmutableCollections$ListItr"), (0, .class_ 190), (0, u "java/util/ImmutableCollections$AbstractImmutableList"), (0, .class_ 192), (0, u "java/util/ImmutableCollections$AbstractImmutableCollection"), (0, .class_ 194), (0, u "java/util/ImmutableCollections$Access"), (0, .class_ 196), (0, u "java/util/ImmutableCollections$Access$1")] 16

def k23m0 : Method := { name := "<init>", desc := "()V", sig := { parameters := [], returnType := none }, accessFlags := 2, code := none }
def k23c1 : Code := { maxStack := 1, maxLocals := 2, code := jdk_56_method_3_code, exceptionTable := #[], attributes := #[] }
def k23m1 : Method := { name := "listCopy", desc := "(Ljava/util/Collection;)Ljava/util/List;", sig := { parameters := [(.object "java/util/Collection")], returnType := some (.object "java/util/List") }, accessFlags := 8, code := some k23c1 }
/-- java/util/ImmutableCollections -/
def k23 : Class := { plain "java/util/ImmutableCollections" (some 0) with
  accessFlags := 32
  interfaces := #[]
  cf := some (fileOf pool23 47 #[.nestMembers #[120, 169, 171, 173, 175, 111, 177, 179, 181, 183, 12, 10, 185, 187, 189, 191, 193, 195]] #[{ accessFlags := 2, nameIndex := 5, descriptorIndex := 6, attributes := #[] }, { accessFlags := 8, nameIndex := 142, descriptorIndex := 143, attributes := #[] }] 32 2 #[] #[{ accessFlags := 26, nameIndex := 95, descriptorIndex := 96, attributes := #[] }, { accessFlags := 26, nameIndex := 99, descriptorIndex := 17, attributes := #[] }, { accessFlags := 10, nameIndex := 106, descriptorIndex := 56, attributes := #[] }, { accessFlags := 26, nameIndex := 109, descriptorIndex := 110, attributes := #[] }, { accessFlags := 24, nameIndex := 62, descriptorIndex := 63, attributes := #[] }, { accessFlags := 24, nameIndex := 72, descriptorIndex := 63, attributes := #[] }, { accessFlags := 24, nameIndex := 118, descriptorIndex := 119, attributes := #[] }, { accessFlags := 24, nameIndex := 125, descriptorIndex := 126, attributes := #[] }, { accessFlags := 24, nameIndex := 131, descriptorIndex := 132, attributes := #[] }, { accessFlags := 4120, nameIndex := 50, descriptorIndex := 17, attributes := #[] }])
  fields := #[{ name := "SALT32L", type := .long, accessFlags := 26, slot := 0, constantValue := 0 }, { name := "REVERSE", type := .boolean, accessFlags := 26, slot := 1, constantValue := 0 }, { name := "archivedObjects", type := (.array (.object "java/lang/Object")), accessFlags := 10, slot := 2, constantValue := 0 }, { name := "EMPTY", type := (.object "java/lang/Object"), accessFlags := 26, slot := 3, constantValue := 0 }, { name := "EMPTY_LIST", type := (.object "java/util/ImmutableCollections$ListN"), accessFlags := 24, slot := 4, constantValue := 0 }, { name := "EMPTY_LIST_NULLS", type := (.object "java/util/ImmutableCollections$ListN"), accessFlags := 24, slot := 5, constantValue := 0 }, { name := "EMPTY_SET", type := (.object "java/util/ImmutableCollections$SetN"), accessFlags := 24, slot := 6, constantValue := 0 }, { name := "EMPTY_MAP", type := (.object "java/util/ImmutableCollections$MapN"), accessFlags := 24, slot := 7, constantValue := 0 }, { name := "EXPAND_FACTOR", type := .int, accessFlags := 24, slot := 8, constantValue := 0 }, { name := "$assertionsDisabled", type := .boolean, accessFlags := 4120, slot := 9, constantValue := 0 }]
  methods := #[k23m0, k23m1]
  instanceTypes := #[]
  staticTypes := #[.long, .boolean, (.array (.object "java/lang/Object")), (.object "java/lang/Object"), (.object "java/util/ImmutableCollections$ListN"), (.object "java/util/ImmutableCollections$ListN"), (.object "java/util/ImmutableCollections$SetN"), (.object "java/util/ImmutableCollections$MapN"), .int, .boolean]
  resolved := Array.replicate 213 none
  statics := some 2 }

def pool24 : Array CpInfo := pool [(1, .methodref 2 3), (0, .class_ 4), (0, .nameAndType 5 6), (0, u "java/util/AbstractCollection"), (0, u "<init>"), (0, u "()V"), (1, .class_ 10), (1, u "java/util/ImmutableCollections"), (2, .class_ 14), (0, u "java/util/ImmutableCollections$AbstractImmutableCollection")] 41

def k24c0 : Code := { maxStack := 1, maxLocals := 1, code := jdk_47_method_1_code, exceptionTable := #[], attributes := #[] }
def k24m0 : Method := { name := "<init>", desc := "()V", sig := { parameters := [], returnType := none }, accessFlags := 0, code := some k24c0 }
/-- java/util/ImmutableCollections$AbstractImmutableCollection -/
def k24 : Class := { plain "java/util/ImmutableCollections$AbstractImmutableCollection" (some 15) with
  accessFlags := 1056
  interfaces := #[]
  cf := some (fileOf pool24 13 #[.nestHost 8] #[{ accessFlags := 0, nameIndex := 5, descriptorIndex := 6, attributes := #[] }] 1056 2 #[] #[])
  fields := #[]
  methods := #[k24m0]
  instanceTypes := #[]
  staticTypes := #[]
  resolved := Array.replicate 56 none
  statics := none }

def pool25 : Array CpInfo := pool [(1, .methodref 2 3), (0, .class_ 4), (0, .nameAndType 5 6), (0, u "java/util/ImmutableCollections$AbstractImmutableCollection"), (0, u "<init>"), (0, u "()V"), (1, .class_ 10), (1, u "java/util/ImmutableCollections"), (3, .class_ 16), (1, u "java/util/ImmutableCollections$AbstractImmutableList"), (60, .class_ 78), (0, u "java/util/List"), (45, .class_ 125), (0, u "java/util/RandomAccess")] 70

def k25c0 : Code := { maxStack := 1, maxLocals := 1, code := jdk_46_method_1_code, exceptionTable := #[], attributes := #[] }
def k25m0 : Method := { name := "<init>", desc := "()V", sig := { parameters := [], returnType := none }, accessFlags := 0, code := some k25c0 }
/-- java/util/ImmutableCollections$AbstractImmutableList -/
def k25 : Class := { plain "java/util/ImmutableCollections$AbstractImmutableList" (some 24) with
  accessFlags := 1056
  interfaces := #[17, 19]
  cf := some (fileOf pool25 14 #[.nestHost 8] #[{ accessFlags := 0, nameIndex := 5, descriptorIndex := 6, attributes := #[] }] 1056 2 #[77, 124] #[])
  fields := #[]
  methods := #[k25m0]
  instanceTypes := #[]
  staticTypes := #[]
  resolved := Array.replicate 196 none
  statics := none }

def pool26 : Array CpInfo := pool [(1, .methodref 2 3), (0, .class_ 4), (0, .nameAndType 5 6), (0, u "java/util/ImmutableCollections$AbstractImmutableList"), (0, u "<init>"), (0, u "()V"), (0, .methodref 8 9), (0, .class_ 10), (0, .nameAndType 11 12), (0, u "java/util/Objects"), (0, u "requireNonNull"), (0, u "(Ljava/lang/Object;)Ljava/lang/Object;"), (0, .fieldref 14 15), (0, .class_ 16), (0, .nameAndType 17 18), (0, u "java/util/ImmutableCollections$List12"), (0, u "e0"), (0, u "Ljava/lang/Object;"), (0, .fieldref 20 21), (0, .class_ 22), (0, .nameAndType 23 18), (0, u "java/util/ImmutableCollections"), (0, u "EMPTY"), (0, .fieldref 14 25), (0, .nameAndType 26 18), (0, u "e1"), (24, u "size"), (0, u "()I"), (17, .class_ 71), (0, u "java/io/Serializable"), (4, u "(Ljava/lang/Object;)V"), (13, u "get"), (0, u "(I)Ljava/lang/Object;")] 33

def k26c0 : Code := { maxStack := 2, maxLocals := 2, code := jdk_44_method_1_code, exceptionTable := #[], attributes := #[] }
def k26m0 : Method := { name := "<init>", desc := "(Ljava/lang/Object;)V", sig := { parameters := [(.object "java/lang/Object")], returnType := none }, accessFlags := 0, code := some k26c0 }
def k26c1 : Code := { maxStack := 2, maxLocals := 1, code := jdk_44_method_3_code, exceptionTable := #[], attributes := #[] }
def k26m1 : Method := { name := "size", desc := "()I", sig := { parameters := [], returnType := some .int }, accessFlags := 1, code := some k26c1 }
def k26c2 : Code := { maxStack := 2, maxLocals := 2, code := jdk_44_method_5_code, exceptionTable := #[], attributes := #[] }
def k26m2 : Method := { name := "get", desc := "(I)Ljava/lang/Object;", sig := { parameters := [.int], returnType := some (.object "java/lang/Object") }, accessFlags := 1, code := some k26c2 }
/-- java/util/ImmutableCollections$List12 -/
def k26 : Class := { plain "java/util/ImmutableCollections$List12" (some 25) with
  accessFlags := 48
  interfaces := #[2]
  cf := some (fileOf pool26 14 #[.nestHost 20] #[{ accessFlags := 0, nameIndex := 5, descriptorIndex := 76, attributes := #[] }, { accessFlags := 1, nameIndex := 51, descriptorIndex := 52, attributes := #[] }, { accessFlags := 1, nameIndex := 90, descriptorIndex := 91, attributes := #[] }] 48 2 #[70] #[{ accessFlags := 18, nameIndex := 17, descriptorIndex := 18, attributes := #[] }, { accessFlags := 18, nameIndex := 26, descriptorIndex := 18, attributes := #[] }])
  fields := #[{ name := "e0", type := (.object "java/lang/Object"), accessFlags := 18, slot := 0, constantValue := 0 }, { name := "e1", type := (.object "java/lang/Object"), accessFlags := 18, slot := 1, constantValue := 0 }]
  methods := #[k26m0, k26m1, k26m2]
  instanceTypes := #[(.object "java/lang/Object"), (.object "java/lang/Object")]
  staticTypes := #[]
  resolved := Array.replicate 125 none
  statics := none }

def pool27 : Array CpInfo := pool [(2, .class_ 4), (1, u "java/util/ImmutableCollections$AbstractImmutableList"), (2, .fieldref 8 9), (0, .class_ 10), (0, .nameAndType 11 12), (0, u "java/util/ImmutableCollections$ListN"), (0, u "elements"), (0, u "[Ljava/lang/Object;"), (2, u "allowNulls"), (0, u "Z"), (42, .class_ 60), (0, u "java/io/Serializable"), (16, u "size"), (0, u "()I"), (35, .class_ 115), (0, u "java/util/ImmutableCollections")] 3

def k27c0 : Code := { maxStack := 1, maxLocals := 1, code := jdk_45_method_3_code, exceptionTable := #[], attributes := #[] }
def k27m0 : Method := { name := "size", desc := "()I", sig := { parameters := [], returnType := some .int }, accessFlags := 1, code := some k27c0 }
/-- java/util/ImmutableCollections$ListN -/
def k27 : Class := { plain "java/util/ImmutableCollections$ListN" (some 25) with
  accessFlags := 48
  interfaces := #[2]
  cf := some (fileOf pool27 8 #[.nestHost 114] #[{ accessFlags := 1, nameIndex := 77, descriptorIndex := 78, attributes := #[] }] 48 2 #[59] #[{ accessFlags := 18, nameIndex := 11, descriptorIndex := 12, attributes := #[] }, { accessFlags := 18, nameIndex := 15, descriptorIndex := 16, attributes := #[] }])
  fields := #[{ name := "elements", type := (.array (.object "java/lang/Object")), accessFlags := 18, slot := 0, constantValue := 0 }, { name := "allowNulls", type := .boolean, accessFlags := 18, slot := 1, constantValue := 0 }]
  methods := #[k27m0]
  instanceTypes := #[(.array (.object "java/lang/Object")), .boolean]
  staticTypes := #[]
  resolved := Array.replicate 119 none
  statics := none }

def pool28 : Array CpInfo := pool [(8, .class_ 10), (1, u "com/example/intentio/intentio/hddl/Formula"), (35, .class_ 47), (0, u "com/example/intentio/intentio/hddl/Formula$And"), (18, .class_ 67), (0, u "com/example/intentio/intentio/hddl/Formula$Or"), (1, .class_ 70), (0, u "com/example/intentio/intentio/hddl/Formula$Imply"), (7, .class_ 79), (0, u "com/example/intentio/intentio/hddl/Formula$Forall"), (3, .class_ 84), (0, u "com/example/intentio/intentio/hddl/Formula$Exists"), (128, .class_ 214), (0, u "java/lang/Object")] 55

/-- com/example/intentio/intentio/hddl/Formula -/
def k28 : Class := { plain "com/example/intentio/intentio/hddl/Formula" (some 0) with
  accessFlags := 1537
  interfaces := #[]
  cf := some (fileOf pool28 8 #[.nestMembers #[83, 78, 69, 66, 46]] #[] 1537 213 #[] #[])
  fields := #[]
  methods := #[]
  instanceTypes := #[]
  staticTypes := #[]
  resolved := Array.replicate 270 none
  statics := none }

def pool29 : Array CpInfo := pool [(1, .methodref 2 3), (0, .class_ 4), (0, .nameAndType 5 6), (0, u "java/lang/Record"), (0, u "<init>"), (0, u "()V"), (0, .fieldref 8 9), (0, .class_ 10), (0, .nameAndType 11 12), (0, u "com/example/intentio/intentio/hddl/Literal"), (0, u "atom"), (0, u "Lcom/example/intentio/intentio/hddl/Atom;"), (0, .fieldref 8 14), (0, .nameAndType 15 16), (0, u "positive"), (0, u "Z"), (0, .methodref 8 18), (0, .nameAndType 5 19), (0, u "(Lcom/example/intentio/intentio/hddl/Atom;Z)V"), (26, u "()Z"), (33, .class_ 81), (0, u "com/example/intentio/intentio/hddl/Formula"), (3, u "complement"), (0, u "()Lcom/example/intentio/intentio/hddl/Literal;"), (5, u "()Lcom/example/intentio/intentio/hddl/Atom;")] 30

def k29c0 : Code := { maxStack := 2, maxLocals := 3, code := prog_63_method_1_code, exceptionTable := #[], attributes := #[] }
def k29m0 : Method := { name := "<init>", desc := "(Lcom/example/intentio/intentio/hddl/Atom;Z)V", sig := { parameters := [(.object "com/example/intentio/intentio/hddl/Atom"), .boolean], returnType := none }, accessFlags := 1, code := some k29c0 }
def k29c1 : Code := { maxStack := 4, maxLocals := 1, code := prog_63_method_2_code, exceptionTable := #[], attributes := #[] }
def k29m1 : Method := { name := "complement", desc := "()Lcom/example/intentio/intentio/hddl/Literal;", sig := { parameters := [], returnType := some (.object "com/example/intentio/intentio/hddl/Literal") }, accessFlags := 1, code := some k29c1 }
def k29c2 : Code := { maxStack := 1, maxLocals := 1, code := prog_63_method_8_code, exceptionTable := #[], attributes := #[] }
def k29m2 : Method := { name := "atom", desc := "()Lcom/example/intentio/intentio/hddl/Atom;", sig := { parameters := [], returnType := some (.object "com/example/intentio/intentio/hddl/Atom") }, accessFlags := 1, code := some k29c2 }
def k29c3 : Code := { maxStack := 1, maxLocals := 1, code := prog_63_method_9_code, exceptionTable := #[], attributes := #[] }
def k29m3 : Method := { name := "positive", desc := "()Z", sig := { parameters := [], returnType := some .boolean }, accessFlags := 1, code := some k29c3 }
/-- com/example/intentio/intentio/hddl/Literal -/
def k29 : Class := { plain "com/example/intentio/intentio/hddl/Literal" (some 9) with
  accessFlags := 49
  interfaces := #[28]
  cf := some (fileOf pool29 8 #[] #[{ accessFlags := 1, nameIndex := 5, descriptorIndex := 19, attributes := #[] }, { accessFlags := 1, nameIndex := 85, descriptorIndex := 86, attributes := #[] }, { accessFlags := 1, nameIndex := 11, descriptorIndex := 92, attributes := #[] }, { accessFlags := 1, nameIndex := 15, descriptorIndex := 46, attributes := #[] }] 49 2 #[80] #[{ accessFlags := 18, nameIndex := 11, descriptorIndex := 12, attributes := #[] }, { accessFlags := 18, nameIndex := 15, descriptorIndex := 16, attributes := #[] }])
  fields := #[{ name := "atom", type := (.object "com/example/intentio/intentio/hddl/Atom"), accessFlags := 18, slot := 0, constantValue := 0 }, { name := "positive", type := .boolean, accessFlags := 18, slot := 1, constantValue := 0 }]
  methods := #[k29m0, k29m1, k29m2, k29m3]
  instanceTypes := #[(.object "com/example/intentio/intentio/hddl/Atom"), .boolean]
  staticTypes := #[]
  resolved := Array.replicate 123 none
  statics := none }

def pool30 : Array CpInfo := pool [(1, .class_ 2), (0, u "java/lang/Math"), (1, .class_ 6), (1, u "java/lang/Object"), (0, u "<init>"), (0, u "()V"), (89, .class_ 100), (1, u "java/lang/Math$RandomNumberGeneratorHolder"), (71, u "negativeZeroFloatBits"), (0, u "J"), (2, u "negativeZeroDoubleBits"), (21, u "max"), (2, u "min"), (43, u "$assertionsDisabled"), (0, u "Z"), (88, u "(II)I"), (2, u "twoToTheDoubleScaleDown"), (0, u "D"), (4, u "twoToTheDoubleScaleUp"), (9, u "E"), (3, u "PI"), (2, u "TAU"), (2, u "DEGREES_TO_RADIANS"), (0, u "RADIANS_TO_DEGREES")] 94

def k30m0 : Method := { name := "<init>", desc := "()V", sig := { parameters := [], returnType := none }, accessFlags := 2, code := none }
def k30c1 : Code := { maxStack := 2, maxLocals := 2, code := jdk_29_method_65_code, exceptionTable := #[], attributes := #[] }
def k30m1 : Method := { name := "max", desc := "(II)I", sig := { parameters := [.int, .int], returnType := some .int }, accessFlags := 9, code := some k30c1 }
def k30c2 : Code := { maxStack := 2, maxLocals := 2, code := jdk_29_method_69_code, exceptionTable := #[], attributes := #[] }
def k30m2 : Method := { name := "min", desc := "(II)I", sig := { parameters := [.int, .int], returnType := some .int }, accessFlags := 9, code := some k30c2 }
/-- java/lang/Math -/
def k30 : Class := { plain "java/lang/Math" (some 0) with
  accessFlags := 49
  interfaces := #[]
  cf := some (fileOf pool30 1 #[.nestMembers #[98]] #[{ accessFlags := 2, nameIndex := 7, descriptorIndex := 8, attributes := #[] }, { accessFlags := 9, nameIndex := 198, descriptorIndex := 335, attributes := #[] }, { accessFlags := 9, nameIndex := 201, descriptorIndex := 335, attributes := #[] }] 49 4 #[] #[{ accessFlags := 25, nameIndex := 354, descriptorIndex := 339, attributes := #[] }, { accessFlags := 25, nameIndex := 358, descriptorIndex := 339, attributes := #[] }, { accessFlags := 25, nameIndex := 361, descriptorIndex := 339, attributes := #[] }, { accessFlags := 26, nameIndex := 364, descriptorIndex := 339, attributes := #[] }, { accessFlags := 26, nameIndex := 365, descriptorIndex := 339, attributes := #[] }, { accessFlags := 26, nameIndex := 172, descriptorIndex := 173, attributes := #[] }, { accessFlags := 26, nameIndex := 176, descriptorIndex := 173, attributes := #[] }, { accessFlags := 8, nameIndex := 344, descriptorIndex := 339, attributes := #[] }, { accessFlags := 8, nameIndex := 338, descriptorIndex := 339, attributes := #[] }, { accessFlags := 4120, nameIndex := 245, descriptorIndex := 246, attributes := #[] }])
  fields := #[{ name := "E", type := .double, accessFlags := 25, slot := 0, constantValue := 0 }, { name := "PI", type := .double, accessFlags := 25, slot := 1, constantValue := 0 }, { name := "TAU", type := .double, accessFlags := 25, slot := 2, constantValue := 0 }, { name := "DEGREES_TO_RADIANS", type := .double, accessFlags := 26, slot := 3, constantValue := 0 }, { name := "RADIANS_TO_DEGREES", type := .double, accessFlags := 26, slot := 4, constantValue := 0 }, { name := "negativeZeroFloatBits", type := .long, accessFlags := 26, slot := 5, constantValue := 0 }, { name := "negativeZeroDoubleBits", type := .long, accessFlags := 26, slot := 6, constantValue := 0 }, { name := "twoToTheDoubleScaleUp", type := .double, accessFlags := 8, slot := 7, constantValue := 0 }, { name := "twoToTheDoubleScaleDown", type := .double, accessFlags := 8, slot := 8, constantValue := 0 }, { name := "$assertionsDisabled", type := .boolean, accessFlags := 4120, slot := 9, constantValue := 0 }]
  methods := #[k30m0, k30m1, k30m2]
  instanceTypes := #[]
  staticTypes := #[.double, .double, .double, .double, .double, .long, .long, .double, .double, .boolean]
  resolved := Array.replicate 460 none
  statics := none }

def pool31 : Array CpInfo := pool [(2, .class_ 4), (1, u "java/lang/Object"), (0, u "<init>"), (0, u "()V"), (7, .class_ 16), (1, u "java/util/Arrays"), (57, .class_ 76), (1, u "java/util/Arrays$NaturalOrder"), (9, .methodref 2 87), (0, .nameAndType 88 89), (0, u "getClass"), (0, u "()Ljava/lang/Class;"), (20, .class_ 111), (0, u "[Ljava/lang/Object;"), (1, .class_ 115), (1, u "java/util/Arrays$LegacyMergeSort"), (1, u "Z"), (32, .methodref 151 152), (0, .class_ 153), (0, .nameAndType 154 155), (0, u "java/lang/System"), (0, u "arraycopy"), (0, u "(Ljava/lang/Object;ILjava/lang/Object;II)V"), (144, .methodref 14 301), (0, .nameAndType 302 303), (0, u "copyOf"), (0, u "([Ljava/lang/Object;ILjava/lang/Class;)[Ljava/lang/Object;"), (0, .methodref 305 306), (0, .class_ 307), (0, .nameAndType 308 309), (0, u "java/lang/Math"), (0, u "min"), (0, u "(II)I"), (65, .class_ 376), (0, u "java/util/Arrays$ArrayList"), (68, u "$assertionsDisabled"), (269, u "MIN_ARRAY_SORT_GRAN"), (0, u "I"), (2, u "INSERTIONSORT_THRESHOLD"), (140, u "([Ljava/lang/Object;I)[Ljava/lang/Object;"), (114, .class_ 976), (0, u "java/util/Arrays$ArrayItr")] 52

def k31m0 : Method := { name := "<init>", desc := "()V", sig := { parameters := [], returnType := none }, accessFlags := 2, code := none }
def k31c1 : Code := { maxStack := 3, maxLocals := 2, code := jdk_65_method_119_code, exceptionTable := #[], attributes := #[] }
def k31m1 : Method := { name := "copyOf", desc := "([Ljava/lang/Object;I)[Ljava/lang/Object;", sig := { parameters := [(.array (.object "java/lang/Object")), .int], returnType := some (.array (.object "java/lang/Object")) }, accessFlags := 9, code := some k31c1 }
def k31c2 : Code := { maxStack := 6, maxLocals := 4, code := jdk_65_method_120_code, exceptionTable := #[], attributes := #[] }
def k31m2 : Method := { name := "copyOf", desc := "([Ljava/lang/Object;ILjava/lang/Class;)[Ljava/lang/Object;", sig := { parameters := [(.array (.object "java/lang/Object")), .int, (.object "java/lang/Class")], returnType := some (.array (.object "java/lang/Object")) }, accessFlags := 9, code := some k31c2 }
/-- java/util/Arrays -/
def k31 : Class := { plain "java/util/Arrays" (some 0) with
  accessFlags := 49
  interfaces := #[]
  cf := some (fileOf pool31 14 #[.nestMembers #[975, 375, 113, 74]] #[{ accessFlags := 2, nameIndex := 5, descriptorIndex := 6, attributes := #[] }, { accessFlags := 9, nameIndex := 302, descriptorIndex := 860, attributes := #[] }, { accessFlags := 9, nameIndex := 302, descriptorIndex := 303, attributes := #[] }] 49 2 #[] #[{ accessFlags := 26, nameIndex := 715, descriptorIndex := 716, attributes := #[] }, { accessFlags := 26, nameIndex := 719, descriptorIndex := 716, attributes := #[] }, { accessFlags := 4120, nameIndex := 445, descriptorIndex := 117, attributes := #[] }])
  fields := #[{ name := "MIN_ARRAY_SORT_GRAN", type := .int, accessFlags := 26, slot := 0, constantValue := 0 }, { name := "INSERTIONSORT_THRESHOLD", type := .int, accessFlags := 26, slot := 1, constantValue := 0 }, { name := "$assertionsDisabled", type := .boolean, accessFlags := 4120, slot := 2, constantValue := 0 }]
  methods := #[k31m0, k31m1, k31m2]
  instanceTypes := #[]
  staticTypes := #[.int, .int, .boolean]
  resolved := Array.replicate 1029 none
  statics := none }

def pool32 : Array CpInfo := pool [(2, .class_ 4), (1, u "java/lang/Object"), (0, u "<init>"), (0, u "()V"), (1, .class_ 10), (1, u "java/lang/System"), (0, u "allowSecurityManager"), (0, u "I"), (16, u "cons"), (0, u "Ljava/io/Console;"), (77, .class_ 110), (1, u "java/lang/System$CallersHolder"), (43, u "initialErrStream"), (0, u "Ljava/io/PrintStream;"), (19, u "security"), (0, u "Ljava/lang/SecurityManager;"), (31, .class_ 209), (0, u "java/lang/System$1"), (7, u "props"), (0, u "Ljava/util/Properties;"), (2, u "lineSeparator"), (0, u "Ljava/lang/String;"), (96, .class_ 321), (1, u "java/lang/System$LoggerFinder"), (5, .class_ 328), (0, u "java/lang/System$Logger"), (67, u "err"), (2, u "out"), (91, u "notSupportedJnuEncoding"), (15, u "in"), (17, u "initialIn"), (0, u "Ljava/io/InputStream;"), (35, u "bootLayer"), (0, u "Ljava/lang/ModuleLayer;"), (99, .class_ 664), (0, u "java/lang/System$2"), (9, u "NEVER"), (2, u "MAYBE"), (49, u "arraycopy"), (0, u "(Ljava/lang/Object;ILjava/lang/Object;II)V"), (72, .class_ 802), (0, u "java/lang/System$Logger$Level")] 31

def k32m0 : Method := { name := "<init>", desc := "()V", sig := { parameters := [], returnType := none }, accessFlags := 2, code := none }
def k32m1 : Method := { name := "arraycopy", desc := "(Ljava/lang/Object;ILjava/lang/Object;II)V", sig := { parameters := [(.object "java/lang/Object"), .int, (.object "java/lang/Object"), .int, .int], returnType := none }, accessFlags := 265, code := none }
/-- java/lang/System -/
def k32 : Class := { plain "java/lang/System" (some 0) with
  accessFlags := 49
  interfaces := #[]
  cf := some (fileOf pool32 8 #[.nestMembers #[319, 327, 801, 108, 663, 208]] #[{ accessFlags := 2, nameIndex := 5, descriptorIndex := 6, attributes := #[] }, { accessFlags := 265, nameIndex := 727, descriptorIndex := 728, attributes := #[] }] 49 2 #[] #[{ accessFlags := 25, nameIndex := 507, descriptorIndex := 526, attributes := #[] }, { accessFlags := 25, nameIndex := 399, descriptorIndex := 155, attributes := #[] }, { accessFlags := 25, nameIndex := 396, descriptorIndex := 155, attributes := #[] }, { accessFlags := 10, nameIndex := 525, descriptorIndex := 526, attributes := #[] }, { accessFlags := 26, nameIndex := 674, descriptorIndex := 12, attributes := #[] }, { accessFlags := 26, nameIndex := 677, descriptorIndex := 12, attributes := #[] }, { accessFlags := 10, nameIndex := 11, descriptorIndex := 12, attributes := #[] }, { accessFlags := 74, nameIndex := 175, descriptorIndex := 176, attributes := #[] }, { accessFlags := 10, nameIndex := 491, descriptorIndex := 222, attributes := #[] }, { accessFlags := 74, nameIndex := 29, descriptorIndex := 30, attributes := #[] }, { accessFlags := 74, nameIndex := 154, descriptorIndex := 155, attributes := #[] }, { accessFlags := 10, nameIndex := 217, descriptorIndex := 218, attributes := #[] }, { accessFlags := 10, nameIndex := 221, descriptorIndex := 222, attributes := #[] }, { accessFlags := 8, nameIndex := 562, descriptorIndex := 563, attributes := #[] }])
  fields := #[{ name := "in", type := (.object "java/io/InputStream"), accessFlags := 25, slot := 0, constantValue := 0 }, { name := "out", type := (.object "java/io/PrintStream"), accessFlags := 25, slot := 1, constantValue := 0 }, { name := "err", type := (.object "java/io/PrintStream"), accessFlags := 25, slot := 2, constantValue := 0 }, { name := "initialIn", type := (.object "java/io/InputStream"), accessFlags := 10, slot := 3, constantValue := 0 }, { name := "NEVER", type := .int, accessFlags := 26, slot := 4, constantValue := 0 }, { name := "MAYBE", type := .int, accessFlags := 26, slot := 5, constantValue := 0 }, { name := "allowSecurityManager", type := .int, accessFlags := 10, slot := 6, constantValue := 0 }, { name := "security", type := (.object "java/lang/SecurityManager"), accessFlags := 74, slot := 7, constantValue := 0 }, { name := "notSupportedJnuEncoding", type := (.object "java/lang/String"), accessFlags := 10, slot := 8, constantValue := 0 }, { name := "cons", type := (.object "java/io/Console"), accessFlags := 74, slot := 9, constantValue := 0 }, { name := "initialErrStream", type := (.object "java/io/PrintStream"), accessFlags := 74, slot := 10, constantValue := 0 }, { name := "props", type := (.object "java/util/Properties"), accessFlags := 10, slot := 11, constantValue := 0 }, { name := "lineSeparator", type := (.object "java/lang/String"), accessFlags := 10, slot := 12, constantValue := 0 }, { name := "bootLayer", type := (.object "java/lang/ModuleLayer"), accessFlags := 8, slot := 13, constantValue := 0 }]
  methods := #[k32m0, k32m1]
  instanceTypes := #[]
  staticTypes := #[(.object "java/io/InputStream"), (.object "java/io/PrintStream"), (.object "java/io/PrintStream"), (.object "java/io/InputStream"), .int, .int, .int, (.object "java/lang/SecurityManager"), (.object "java/lang/String"), (.object "java/io/Console"), (.object "java/io/PrintStream"), (.object "java/util/Properties"), (.object "java/lang/String"), (.object "java/lang/ModuleLayer")]
  resolved := Array.replicate 834 none
  statics := none }

def pool33 : Array CpInfo := pool [(2, .class_ 4), (1, u "java/lang/Object"), (0, u "<init>"), (0, u "()V"), (35, .class_ 44), (1, u "java/util/Objects"), (0, u "requireNonNull"), (0, u "(Ljava/lang/Object;)Ljava/lang/Object;")] 137

def k33m0 : Method := { name := "<init>", desc := "()V", sig := { parameters := [], returnType := none }, accessFlags := 2, code := none }
def k33c1 : Code := { maxStack := 2, maxLocals := 1, code := jdk_31_method_10_code, exceptionTable := #[], attributes := #[] }
def k33m1 : Method := { name := "requireNonNull", desc := "(Ljava/lang/Object;)Ljava/lang/Object;", sig := { parameters := [(.object "java/lang/Object")], returnType := some (.object "java/lang/Object") }, accessFlags := 9, code := some k33c1 }
/-- java/util/Objects -/
def k33 : Class := { plain "java/util/Objects" (some 0) with
  accessFlags := 49
  interfaces := #[]
  cf := some (fileOf pool33 42 #[] #[{ accessFlags := 2, nameIndex := 5, descriptorIndex := 6, attributes := #[] }, { accessFlags := 9, nameIndex := 45, descriptorIndex := 46, attributes := #[] }] 49 2 #[] #[])
  fields := #[]
  methods := #[k33m0, k33m1]
  instanceTypes := #[]
  staticTypes := #[]
  resolved := Array.replicate 184 none
  statics := none }

def pool34 : Array CpInfo := pool [(2, .class_ 4), (1, u "java/lang/Object"), (0, u "<init>"), (0, u "()V"), (17, .class_ 26), (1, u "jdk/internal/util/Preconditions"), (28, .class_ 56), (0, u "jdk/internal/util/Preconditions$4"), (57, .class_ 115), (0, u "jdk/internal/util/Preconditions$1"), (7, u "SIOOBE_FORMATTER"), (0, u "Ljava/util/function/BiFunction;"), (0, .class_ 126), (0, u "jdk/internal/util/Preconditions$2"), (3, u "AIOOBE_FORMATTER"), (0, .class_ 132), (0, u "jdk/internal/util/Preconditions$3"), (3, u "IOOBE_FORMATTER")] 57

def k34m0 : Method := { name := "<init>", desc := "()V", sig := { parameters := [], returnType := none }, accessFlags := 1, code := none }
/-- jdk/internal/util/Preconditions -/
def k34 : Class := { plain "jdk/internal/util/Preconditions" (some 0) with
  accessFlags := 33
  interfaces := #[]
  cf := some (fileOf pool34 24 #[.nestMembers #[55, 131, 125, 114]] #[{ accessFlags := 1, nameIndex := 5, descriptorIndex := 6, attributes := #[] }] 33 2 #[] #[{ accessFlags := 25, nameIndex := 123, descriptorIndex := 124, attributes := #[] }, { accessFlags := 25, nameIndex := 130, descriptorIndex := 124, attributes := #[] }, { accessFlags := 25, nameIndex := 136, descriptorIndex := 124, attributes := #[] }])
  fields := #[{ name := "SIOOBE_FORMATTER", type := (.object "java/util/function/BiFunction"), accessFlags := 25, slot := 0, constantValue := 0 }, { name := "AIOOBE_FORMATTER", type := (.object "java/util/function/BiFunction"), accessFlags := 25, slot := 1, constantValue := 0 }, { name := "IOOBE_FORMATTER", type := (.object "java/util/function/BiFunction"), accessFlags := 25, slot := 2, constantValue := 0 }]
  methods := #[k34m0]
  instanceTypes := #[]
  staticTypes := #[(.object "java/util/function/BiFunction"), (.object "java/util/function/BiFunction"), (.object "java/util/function/BiFunction")]
  resolved := Array.replicate 194 none
  statics := some 3 }

def pool35 : Array CpInfo := pool [(9, u "<init>"), (6, .class_ 18), (1, u "java/lang/Object"), (0, u "()V"), (1, .class_ 23), (1, u "jdk/internal/util/ArraysSupport"), (0, u "LOG2_ARRAY_LONG_INDEX_SCALE"), (0, u "I"), (2, u "U"), (0, u "Ljdk/internal/misc/Unsafe;"), (8, u "BIG_ENDIAN"), (0, u "Z"), (8, u "LOG2_BYTE_BIT_SIZE"), (4, u "LOG2_ARRAY_INT_INDEX_SCALE"), (54, u "JLA"), (0, u "Ljdk/internal/access/JavaLangAccess;"), (11, u "LOG2_ARRAY_BOOLEAN_INDEX_SCALE"), (9, u "LOG2_ARRAY_BYTE_INDEX_SCALE"), (5, u "LOG2_ARRAY_CHAR_INDEX_SCALE"), (5, u "LOG2_ARRAY_SHORT_INDEX_SCALE"), (18, u "LOG2_ARRAY_FLOAT_INDEX_SCALE"), (24, u "LOG2_ARRAY_DOUBLE_INDEX_SCALE"), (89, u "T_BOOLEAN"), (2, u "T_CHAR"), (1, u "T_FLOAT"), (1, u "T_DOUBLE"), (1, u "T_BYTE"), (1, u "T_SHORT"), (1, u "T_INT"), (1, u "T_LONG"), (1, u "SOFT_MAX_ARRAY_LENGTH")] 83

def k35m0 : Method := { name := "<init>", desc := "()V", sig := { parameters := [], returnType := none }, accessFlags := 2, code := none }
/-- jdk/internal/util/ArraysSupport -/
def k35 : Class := { plain "jdk/internal/util/ArraysSupport" (some 0) with
  accessFlags := 33
  interfaces := #[]
  cf := some (fileOf pool35 21 #[] #[{ accessFlags := 2, nameIndex := 9, descriptorIndex := 19, attributes := #[] }] 33 16 #[] #[{ accessFlags := 24, nameIndex := 28, descriptorIndex := 29, attributes := #[] }, { accessFlags := 26, nameIndex := 38, descriptorIndex := 39, attributes := #[] }, { accessFlags := 25, nameIndex := 121, descriptorIndex := 25, attributes := #[] }, { accessFlags := 25, nameIndex := 131, descriptorIndex := 25, attributes := #[] }, { accessFlags := 25, nameIndex := 137, descriptorIndex := 25, attributes := #[] }, { accessFlags := 25, nameIndex := 143, descriptorIndex := 25, attributes := #[] }, { accessFlags := 25, nameIndex := 53, descriptorIndex := 25, attributes := #[] }, { accessFlags := 25, nameIndex := 24, descriptorIndex := 25, attributes := #[] }, { accessFlags := 25, nameIndex := 162, descriptorIndex := 25, attributes := #[] }, { accessFlags := 25, nameIndex := 187, descriptorIndex := 25, attributes := #[] }, { accessFlags := 26, nameIndex := 48, descriptorIndex := 25, attributes := #[] }, { accessFlags := 25, nameIndex := 277, descriptorIndex := 25, attributes := #[] }, { accessFlags := 25, nameIndex := 280, descriptorIndex := 25, attributes := #[] }, { accessFlags := 25, nameIndex := 282, descriptorIndex := 25, attributes := #[] }, { accessFlags := 25, nameIndex := 284, descriptorIndex := 25, attributes := #[] }, { accessFlags := 25, nameIndex := 286, descriptorIndex := 25, attributes := #[] }, { accessFlags := 25, nameIndex := 288, descriptorIndex := 25, attributes := #[] }, { accessFlags := 25, nameIndex := 290, descriptorIndex := 25, attributes := #[] }, { accessFlags := 25, nameIndex := 292, descriptorIndex := 25, attributes := #[] }, { accessFlags := 26, nameIndex := 108, descriptorIndex := 109, attributes := #[] }, { accessFlags := 25, nameIndex := 294, descriptorIndex := 25, attributes := #[] }])
  fields := #[{ name := "U", type := (.object "jdk/internal/misc/Unsafe"), accessFlags := 24, slot := 0, constantValue := 0 }, { name := "BIG_ENDIAN", type := .boolean, accessFlags := 26, slot := 1, constantValue := 0 }, { name := "LOG2_ARRAY_BOOLEAN_INDEX_SCALE", type := .int, accessFlags := 25, slot := 2, constantValue := 0 }, { name := "LOG2_ARRAY_BYTE_INDEX_SCALE", type := .int, accessFlags := 25, slot := 3, constantValue := 0 }, { name := "LOG2_ARRAY_CHAR_INDEX_SCALE", type := .int, accessFlags := 25, slot := 4, constantValue := 0 }, { name := "LOG2_ARRAY_SHORT_INDEX_SCALE", type := .int, accessFlags := 25, slot := 5, constantValue := 0 }, { name := "LOG2_ARRAY_INT_INDEX_SCALE", type := .int, accessFlags := 25, slot := 6, constantValue := 0 }, { name := "LOG2_ARRAY_LONG_INDEX_SCALE", type := .int, accessFlags := 25, slot := 7, constantValue := 0 }, { name := "LOG2_ARRAY_FLOAT_INDEX_SCALE", type := .int, accessFlags := 25, slot := 8, constantValue := 0 }, { name := "LOG2_ARRAY_DOUBLE_INDEX_SCALE", type := .int, accessFlags := 25, slot := 9, constantValue := 0 }, { name := "LOG2_BYTE_BIT_SIZE", type := .int, accessFlags := 26, slot := 10, constantValue := 0 }, { name := "T_BOOLEAN", type := .int, accessFlags := 25, slot := 11, constantValue := 0 }, { name := "T_CHAR", type := .int, accessFlags := 25, slot := 12, constantValue := 0 }, { name := "T_FLOAT", type := .int, accessFlags := 25, slot := 13, constantValue := 0 }, { name := "T_DOUBLE", type := .int, accessFlags := 25, slot := 14, constantValue := 0 }, { name := "T_BYTE", type := .int, accessFlags := 25, slot := 15, constantValue := 0 }, { name := "T_SHORT", type := .int, accessFlags := 25, slot := 16, constantValue := 0 }, { name := "T_INT", type := .int, accessFlags := 25, slot := 17, constantValue := 0 }, { name := "T_LONG", type := .int, accessFlags := 25, slot := 18, constantValue := 0 }, { name := "JLA", type := (.object "jdk/internal/access/JavaLangAccess"), accessFlags := 26, slot := 19, constantValue := 0 }, { name := "SOFT_MAX_ARRAY_LENGTH", type := .int, accessFlags := 25, slot := 20, constantValue := 0 }]
  methods := #[k35m0]
  instanceTypes := #[]
  staticTypes := #[(.object "jdk/internal/misc/Unsafe"), .boolean, .int, .int, .int, .int, .int, .int, .int, .int, .int, .int, .int, .int, .int, .int, .int, .int, .int, (.object "jdk/internal/access/JavaLangAccess"), .int]
  resolved := Array.replicate 378 none
  statics := none }

def pool36 : Array CpInfo := pool [(1, u "java/lang/Class"), (0, .class_ 1), (0, u "java/lang/Object"), (0, .class_ 3)] 0

/-- java/lang/Class -/
def k36 : Class := { plain "java/lang/Class" (some 0) with
  accessFlags := 49
  interfaces := #[]
  cf := some (fileOf pool36 2 #[] #[] 49 4 #[] #[])
  fields := #[]
  methods := #[]
  instanceTypes := #[]
  staticTypes := #[]
  resolved := Array.replicate 5 none
  statics := none }

/-- the primitive byte -/
def k37 : Class := { plain "byte" none with kind := .primitive 'B', accessFlags := 0x411 }
/-- [B -/
def k38 : Class := { plain "[B" (some 0) with kind := .array 37 .byte, interfaces := #[20, 2], accessFlags := 1041 }

/-- the primitive char -/
def k39 : Class := { plain "char" none with kind := .primitive 'C', accessFlags := 0x411 }
/-- [C -/
def k40 : Class := { plain "[C" (some 0) with kind := .array 39 .char, interfaces := #[20, 2], accessFlags := 1041 }

/-- [Ljava/lang/Object; -/
def k41 : Class := { plain "[Ljava/lang/Object;" (some 0) with kind := .array 0 (.object "java/lang/Object"), interfaces := #[20, 2], accessFlags := 1041, mirror := some 4 }

def heap : Heap := #[{ cls := 7, slots := #[.long 0, .int 1, .null, .int 0, .null, .int 0, .int 0], vm := .statics 7 },
  { cls := 21, slots := #[.long 0, .int 0, .ref 7, .ref 8], vm := .statics 21 },
  { cls := 23, slots := #[.long 0, .int 0, .null, .ref 9, .ref 6, .null, .null, .null, .int 0, .int 1], vm := .statics 23 },
  { cls := 34, slots := #[.null, .null, .null], vm := .statics 34 },
  { cls := 36, slots := #[], vm := .mirror 41 },
  { cls := 41, slots := #[], vm := .none },
  { cls := 27, slots := #[.ref 5, .int 0], vm := .none },
  { cls := 41, slots := #[], vm := .none },
  { cls := 41, slots := #[], vm := .none },
  { cls := 0, slots := #[], vm := .none }]
def classes : Array Class := #[k0, k1, k2, k3, k4, k5, k6, k7, k8, k9, k10, k11, k12, k13, k14, k15, k16, k17, k18, k19, k20, k21, k22, k23, k24, k25, k26, k27, k28, k29, k30, k31, k32, k33, k34, k35, k36, k37, k38, k39, k40, k41]
def interned : List (Array UInt16 × Addr) := []
def slotsUsed : Nat := 26
def theMethod : MethodId := ⟨1, 1⟩
def args0 : Array Value := #[.int 3, .int 65, .int 66, .int 67]
def aboutOver (below : List Frame) : State where
  vm := { classes := classes, interned := interned.toArray }
  heap := heap
  slotsUsed := slotsUsed
  threads := #[{ frames := .invoking theMethod args0 :: below }]
def below0 : List Frame := [.native { method := ⟨0, 0⟩, args := #[] }]
def about1 : State := aboutOver below0
def p0 : Program := .bare "" "" ""
def e0 : Env := launch0.env 0 0 0
theorem w_frames : about1.frames = Frame.invoking theMethod args0 :: below0 := rfl
set_option maxRecDepth 65536 in
theorem w_args : argsFit about1.vm theMethod args0 = true := by decide +kernel
set_option maxRecDepth 65536 in
theorem w_heap : heapFits about1 = true := by decide +kernel
set_option maxRecDepth 65536 in
theorem w_runnable : about1.curStatus? = some .runnable := by decide +kernel
set_option maxRecDepth 65536 in
theorem w_alone : about1.alone = true := by decide +kernel
set_option maxRecDepth 65536 in
theorem w_named : about1.methodNamed? x = some theMethod := by decide +kernel
set_option maxRecDepth 65536 in
theorem w_hears : about1.hears theMethod below0 = true := by decide +kernel
set_option maxRecDepth 65536 in
theorem w_ripe : about1.ripe theMethod args0 below0 = true := by decide +kernel
theorem w_running : about1.status = .running := rfl
set_option maxRecDepth 65536 in
theorem w_room : about1.hasRoom e0.platform room_1 = true :=
  launch0.hasRoom_least _ room_1 (by decide +kernel) (by decide +kernel) (by decide +kernel) (by decide +kernel) (by decide +kernel) (by decide +kernel)
theorem allAtoms_all (ts : List Jvm.Cond) (a : Array Jvm.Value) (st : Jvm.State) : (allAtoms ts).before a st = ts.all (fun c => c.before a st) := by
  induction ts with
  | nil => rfl
  | cons c t ih =>
    show (Jvm.Cond.and c (allAtoms t)).before a st = _
    rw [Jvm.Cond.before_and, ih, List.all_cons]
def words1 : List Jvm.Cond := Jvm.Cond.code x code maxLocals ret :: tables_1
/-- a 'code' word, met by the world's own term for the bytes: nothing is compared byte by byte -/
theorem code_word {y : MethodName} {bytes : ByteArray} {mx : Nat} {rt : Option FieldType} {a : Array Value} {s : State} {m : MethodId} {meth : Method} {c : Code} (h1 : s.methodNamed? y = some m) (h2 : s.vm.method? m = some meth) (h3 : meth.code = some c) (h4 : c.code = bytes)
    (h5 : (c.maxLocals == mx && c.exceptionTable.isEmpty && decide (c.maxStack ≤ mostOperands) && decide (meth.sig.returnType = rt) && !meth.locks && decide (parseMethodDescriptor y.desc = some meth.sig)) = true) : (Jvm.Cond.code y bytes mx rt).before a s = true := by
  simp only [Bool.and_eq_true, beq_iff_eq, Bool.not_eq_true', decide_eq_true_eq] at h5
  obtain ⟨⟨⟨⟨⟨g1, g2⟩, g3⟩, g4⟩, g5⟩, g6⟩ := h5
  simp [Cond.before, Cond.holds, Cond.value, h1, h2, h3, h4, g1, g2, g3, g4, g5, g6]
def isCode : Jvm.Cond → Bool
  | .code _ _ _ _ => true
  | _ => false
theorem all_split {L : List Jvm.Cond} {P : Jvm.Cond → Bool} (h1 : L.all (fun c => isCode c || P c) = true) (h2 : ∀ c ∈ L.filter isCode, P c = true) : L.all P = true := by
  refine List.all_eq_true.mpr fun c hc => ?_
  have h := List.all_eq_true.mp h1 c hc
  rcases Bool.eq_false_or_eq_true (isCode c) with hi | hi
  · exact h2 c (List.mem_filter.mpr ⟨hc, hi⟩)
  · simpa [hi] using h
set_option maxRecDepth 65536 in
theorem w_c0 : (Jvm.Cond.code x code maxLocals ret).before args0 about1 = true := code_word (m := ⟨1, 1⟩) (meth := k1m1) (c := k1c1) (by decide +kernel) rfl rfl rfl (by decide +kernel)
set_option maxRecDepth 65536 in
theorem w_c1 : (Jvm.Cond.code ({ cls := "java/lang/String", name := "<init>", desc := "([C)V" } : Jvm.MethodName) jdk_42_method_3_code (2 : Nat) (Option.none : Option Jvm.ClassFile.FieldType)).before args0 about1 = true := code_word (m := ⟨7, 1⟩) (meth := k7m1) (c := k7c1) (by decide +kernel) rfl rfl rfl (by decide +kernel)
set_option maxRecDepth 65536 in
theorem w_c2 : (Jvm.Cond.code ({ cls := "java/lang/String", name := "<init>", desc := "([CIILjava/lang/Void;)V" } : Jvm.MethodName) jdk_42_method_149_code (6 : Nat) (Option.none : Option Jvm.ClassFile.FieldType)).before args0 about1 = true := code_word (m := ⟨7, 4⟩) (meth := k7m4) (c := k7c4) (by decide +kernel) rfl rfl rfl (by decide +kernel)
set_option maxRecDepth 65536 in
theorem w_c3 : (Jvm.Cond.code ({ cls := "java/lang/Object", name := "<init>", desc := "()V" } : Jvm.MethodName) object_method_1_code (1 : Nat) (Option.none : Option Jvm.ClassFile.FieldType)).before args0 about1 = true := code_word (m := ⟨0, 0⟩) (meth := k0m0) (c := k0c0) (by decide +kernel) rfl rfl rfl (by decide +kernel)
set_option maxRecDepth 65536 in
theorem w_c4 : (Jvm.Cond.code ({ cls := "java/lang/StringUTF16", name := "compress", desc := "([CII)[B" } : Jvm.MethodName) jdk_52_method_16_code (6 : Nat) (Option.some (Jvm.ClassFile.FieldType.array Jvm.ClassFile.FieldType.byte))).before args0 about1 = true := code_word (m := ⟨8, 2⟩) (meth := k8m2) (c := k8c2) (by decide +kernel) rfl rfl rfl (by decide +kernel)
set_option maxRecDepth 65536 in
theorem w_c5 : (Jvm.Cond.code ({ cls := "java/lang/StringUTF16", name := "compress", desc := "([CI[BII)I" } : Jvm.MethodName) jdk_52_method_21_code (7 : Nat) (Option.some Jvm.ClassFile.FieldType.int)).before args0 about1 = true := code_word (m := ⟨8, 3⟩) (meth := k8m3) (c := k8c3) (by decide +kernel) rfl rfl rfl (by decide +kernel)
set_option maxRecDepth 65536 in
theorem w_c6 : (Jvm.Cond.code ({ cls := "java/lang/StringUTF16", name := "coderFromArrayLen", desc := "([BI)B" } : Jvm.MethodName) jdk_52_method_15_code (2 : Nat) (Option.some Jvm.ClassFile.FieldType.byte)).before args0 about1 = true := code_word (m := ⟨8, 1⟩) (meth := k8m1) (c := k8c1) (by decide +kernel) rfl rfl rfl (by decide +kernel)
set_option maxRecDepth 65536 in
theorem w_c7 : (Jvm.Cond.code ({ cls := "java/lang/String", name := "valueOf", desc := "(C)Ljava/lang/String;" } : Jvm.MethodName) jdk_42_method_139_code (1 : Nat) (Option.some (Jvm.ClassFile.FieldType.object "java/lang/String"))).before args0 about1 = true := code_word (m := ⟨7, 3⟩) (meth := k7m3) (c := k7c3) (by decide +kernel) rfl rfl rfl (by decide +kernel)
set_option maxRecDepth 65536 in
theorem w_c8 : (Jvm.Cond.code ({ cls := "java/lang/StringLatin1", name := "canEncode", desc := "(C)Z" } : Jvm.MethodName) jdk_43_method_3_code (1 : Nat) (Option.some Jvm.ClassFile.FieldType.boolean)).before args0 about1 = true := code_word (m := ⟨12, 1⟩) (meth := k12m1) (c := k12c1) (by decide +kernel) rfl rfl rfl (by decide +kernel)
set_option maxRecDepth 65536 in
theorem w_c9 : (Jvm.Cond.code ({ cls := "java/lang/StringLatin1", name := "toBytes", desc := "(C)[B" } : Jvm.MethodName) jdk_43_method_46_code (1 : Nat) (Option.some (Jvm.ClassFile.FieldType.array Jvm.ClassFile.FieldType.byte))).before args0 about1 = true := code_word (m := ⟨12, 2⟩) (meth := k12m2) (c := k12c2) (by decide +kernel) rfl rfl rfl (by decide +kernel)
set_option maxRecDepth 65536 in
theorem w_c10 : (Jvm.Cond.code ({ cls := "java/lang/String", name := "<init>", desc := "([BB)V" } : Jvm.MethodName) jdk_42_method_151_code (3 : Nat) (Option.none : Option Jvm.ClassFile.FieldType)).before args0 about1 = true := code_word (m := ⟨7, 5⟩) (meth := k7m5) (c := k7c5) (by decide +kernel) rfl rfl rfl (by decide +kernel)
set_option maxRecDepth 65536 in
theorem w_c11 : (Jvm.Cond.code ({ cls := "com/example/intentio/intentio/hddl/Term$Variable", name := "<init>", desc := "(Ljava/lang/String;Lcom/example/intentio/intentio/hddl/Type;)V" } : Jvm.MethodName) prog_78_method_1_code (3 : Nat) (Option.none : Option Jvm.ClassFile.FieldType)).before args0 about1 = true := code_word (m := ⟨11, 0⟩) (meth := k11m0) (c := k11c0) (by decide +kernel) rfl rfl rfl (by decide +kernel)
set_option maxRecDepth 65536 in
theorem w_c12 : (Jvm.Cond.code ({ cls := "java/lang/Record", name := "<init>", desc := "()V" } : Jvm.MethodName) jdk_30_method_1_code (1 : Nat) (Option.none : Option Jvm.ClassFile.FieldType)).before args0 about1 = true := code_word (m := ⟨9, 0⟩) (meth := k9m0) (c := k9c0) (by decide +kernel) rfl rfl rfl (by decide +kernel)
set_option maxRecDepth 65536 in
theorem w_c13 : (Jvm.Cond.code ({ cls := "java/util/ArrayList", name := "<init>", desc := "()V" } : Jvm.MethodName) jdk_38_method_2_code (1 : Nat) (Option.none : Option Jvm.ClassFile.FieldType)).before args0 about1 = true := code_word (m := ⟨21, 0⟩) (meth := k21m0) (c := k21c0) (by decide +kernel) rfl rfl rfl (by decide +kernel)
set_option maxRecDepth 65536 in
theorem w_c14 : (Jvm.Cond.code ({ cls := "java/util/AbstractList", name := "<init>", desc := "()V" } : Jvm.MethodName) jdk_39_method_1_code (1 : Nat) (Option.none : Option Jvm.ClassFile.FieldType)).before args0 about1 = true := code_word (m := ⟨18, 0⟩) (meth := k18m0) (c := k18c0) (by decide +kernel) rfl rfl rfl (by decide +kernel)
set_option maxRecDepth 65536 in
theorem w_c15 : (Jvm.Cond.code ({ cls := "java/util/AbstractCollection", name := "<init>", desc := "()V" } : Jvm.MethodName) jdk_22_method_1_code (1 : Nat) (Option.none : Option Jvm.ClassFile.FieldType)).before args0 about1 = true := code_word (m := ⟨15, 0⟩) (meth := k15m0) (c := k15c0) (by decide +kernel) rfl rfl rfl (by decide +kernel)
set_option maxRecDepth 65536 in
theorem w_c16 : (Jvm.Cond.code ({ cls := "com/example/intentio/intentio/hddl/Atom", name := "<init>", desc := "(Ljava/lang/String;Ljava/util/List;)V" } : Jvm.MethodName) prog_44_method_1_code (3 : Nat) (Option.none : Option Jvm.ClassFile.FieldType)).before args0 about1 = true := code_word (m := ⟨22, 0⟩) (meth := k22m0) (c := k22c0) (by decide +kernel) rfl rfl rfl (by decide +kernel)
set_option maxRecDepth 65536 in
theorem w_c17 : (Jvm.Cond.code ({ cls := "java/util/List", name := "copyOf", desc := "(Ljava/util/Collection;)Ljava/util/List;" } : Jvm.MethodName) jdk_40_method_48_code (1 : Nat) (Option.some (Jvm.ClassFile.FieldType.object "java/util/List"))).before args0 about1 = true := code_word (m := ⟨17, 4⟩) (meth := k17m4) (c := k17c4) (by decide +kernel) rfl rfl rfl (by decide +kernel)
set_option maxRecDepth 65536 in
theorem w_c18 : (Jvm.Cond.code ({ cls := "java/util/ImmutableCollections", name := "listCopy", desc := "(Ljava/util/Collection;)Ljava/util/List;" } : Jvm.MethodName) jdk_56_method_3_code (2 : Nat) (Option.some (Jvm.ClassFile.FieldType.object "java/util/List"))).before args0 about1 = true := code_word (m := ⟨23, 1⟩) (meth := k23m1) (c := k23c1) (by decide +kernel) rfl rfl rfl (by decide +kernel)
set_option maxRecDepth 65536 in
theorem w_c19 : (Jvm.Cond.code ({ cls := "java/util/ArrayList", name := "isEmpty", desc := "()Z" } : Jvm.MethodName) jdk_38_method_9_code (1 : Nat) (Option.some Jvm.ClassFile.FieldType.boolean)).before args0 about1 = true := code_word (m := ⟨21, 3⟩) (meth := k21m3) (c := k21c3) (by decide +kernel) rfl rfl rfl (by decide +kernel)
set_option maxRecDepth 65536 in
theorem w_c20 : (Jvm.Cond.code ({ cls := "java/util/List", name := "of", desc := "()Ljava/util/List;" } : Jvm.MethodName) jdk_40_method_36_code (0 : Nat) (Option.some (Jvm.ClassFile.FieldType.object "java/util/List"))).before args0 about1 = true := code_word (m := ⟨17, 2⟩) (meth := k17m2) (c := k17c2) (by decide +kernel) rfl rfl rfl (by decide +kernel)
set_option maxRecDepth 65536 in
theorem w_c21 : (Jvm.Cond.code ({ cls := "com/example/intentio/intentio/hddl/Literal", name := "<init>", desc := "(Lcom/example/intentio/intentio/hddl/Atom;Z)V" } : Jvm.MethodName) prog_63_method_1_code (3 : Nat) (Option.none : Option Jvm.ClassFile.FieldType)).before args0 about1 = true := code_word (m := ⟨29, 0⟩) (meth := k29m0) (c := k29c0) (by decide +kernel) rfl rfl rfl (by decide +kernel)
set_option maxRecDepth 65536 in
theorem w_c22 : (Jvm.Cond.code ({ cls := "com/example/intentio/intentio/hddl/Literal", name := "complement", desc := "()Lcom/example/intentio/intentio/hddl/Literal;" } : Jvm.MethodName) prog_63_method_2_code (1 : Nat) (Option.some (Jvm.ClassFile.FieldType.object "com/example/intentio/intentio/hddl/Literal"))).before args0 about1 = true := code_word (m := ⟨29, 1⟩) (meth := k29m1) (c := k29c1) (by decide +kernel) rfl rfl rfl (by decide +kernel)
set_option maxRecDepth 65536 in
theorem w_c23 : (Jvm.Cond.code ({ cls := "com/example/intentio/intentio/hddl/Literal", name := "positive", desc := "()Z" } : Jvm.MethodName) prog_63_method_9_code (1 : Nat) (Option.some Jvm.ClassFile.FieldType.boolean)).before args0 about1 = true := code_word (m := ⟨29, 3⟩) (meth := k29m3) (c := k29c3) (by decide +kernel) rfl rfl rfl (by decide +kernel)
set_option maxRecDepth 65536 in
theorem w_c24 : (Jvm.Cond.code ({ cls := "com/example/intentio/intentio/hddl/Literal", name := "atom", desc := "()Lcom/example/intentio/intentio/hddl/Atom;" } : Jvm.MethodName) prog_63_method_8_code (1 : Nat) (Option.some (Jvm.ClassFile.FieldType.object "com/example/intentio/intentio/hddl/Atom"))).before args0 about1 = true := code_word (m := ⟨29, 2⟩) (meth := k29m2) (c := k29c2) (by decide +kernel) rfl rfl rfl (by decide +kernel)
set_option maxRecDepth 65536 in
theorem w_c25 : (Jvm.Cond.code ({ cls := "com/example/intentio/intentio/hddl/Atom", name := "predicate", desc := "()Ljava/lang/String;" } : Jvm.MethodName) prog_44_method_7_code (1 : Nat) (Option.some (Jvm.ClassFile.FieldType.object "java/lang/String"))).before args0 about1 = true := code_word (m := ⟨22, 1⟩) (meth := k22m1) (c := k22c1) (by decide +kernel) rfl rfl rfl (by decide +kernel)
set_option maxRecDepth 65536 in
theorem w_c26 : (Jvm.Cond.code ({ cls := "java/lang/String", name := "equals", desc := "(Ljava/lang/Object;)Z" } : Jvm.MethodName) jdk_42_method_66_code (3 : Nat) (Option.some Jvm.ClassFile.FieldType.boolean)).before args0 about1 = true := code_word (m := ⟨7, 2⟩) (meth := k7m2) (c := k7c2) (by decide +kernel) rfl rfl rfl (by decide +kernel)
set_option maxRecDepth 65536 in
theorem w_c27 : (Jvm.Cond.code ({ cls := "com/example/intentio/intentio/hddl/Atom", name := "arguments", desc := "()Ljava/util/List;" } : Jvm.MethodName) prog_44_method_8_code (1 : Nat) (Option.some (Jvm.ClassFile.FieldType.object "java/util/List"))).before args0 about1 = true := code_word (m := ⟨22, 2⟩) (meth := k22m2) (c := k22c2) (by decide +kernel) rfl rfl rfl (by decide +kernel)
set_option maxRecDepth 65536 in
theorem w_c28 : (Jvm.Cond.code ({ cls := "java/util/ImmutableCollections$ListN", name := "size", desc := "()I" } : Jvm.MethodName) jdk_45_method_3_code (1 : Nat) (Option.some Jvm.ClassFile.FieldType.int)).before args0 about1 = true := code_word (m := ⟨27, 0⟩) (meth := k27m0) (c := k27c0) (by decide +kernel) rfl rfl rfl (by decide +kernel)
set_option maxRecDepth 65536 in
theorem w_c29 : (Jvm.Cond.code ({ cls := "java/util/ArrayList", name := "add", desc := "(Ljava/lang/Object;)Z" } : Jvm.MethodName) jdk_38_method_25_code (2 : Nat) (Option.some Jvm.ClassFile.FieldType.boolean)).before args0 about1 = true := code_word (m := ⟨21, 6⟩) (meth := k21m6) (c := k21c6) (by decide +kernel) rfl rfl rfl (by decide +kernel)
set_option maxRecDepth 65536 in
theorem w_c30 : (Jvm.Cond.code ({ cls := "java/util/ArrayList", name := "add", desc := "(Ljava/lang/Object;[Ljava/lang/Object;I)V" } : Jvm.MethodName) jdk_38_method_24_code (4 : Nat) (Option.none : Option Jvm.ClassFile.FieldType)).before args0 about1 = true := code_word (m := ⟨21, 5⟩) (meth := k21m5) (c := k21c5) (by decide +kernel) rfl rfl rfl (by decide +kernel)
set_option maxRecDepth 65536 in
theorem w_c31 : (Jvm.Cond.code ({ cls := "java/util/ArrayList", name := "grow", desc := "()[Ljava/lang/Object;" } : Jvm.MethodName) jdk_38_method_7_code (1 : Nat) (Option.some (Jvm.ClassFile.FieldType.array (Jvm.ClassFile.FieldType.object "java/lang/Object")))).before args0 about1 = true := code_word (m := ⟨21, 2⟩) (meth := k21m2) (c := k21c2) (by decide +kernel) rfl rfl rfl (by decide +kernel)
set_option maxRecDepth 65536 in
theorem w_c32 : (Jvm.Cond.code ({ cls := "java/util/ArrayList", name := "grow", desc := "(I)[Ljava/lang/Object;" } : Jvm.MethodName) jdk_38_method_6_code (4 : Nat) (Option.some (Jvm.ClassFile.FieldType.array (Jvm.ClassFile.FieldType.object "java/lang/Object")))).before args0 about1 = true := code_word (m := ⟨21, 1⟩) (meth := k21m1) (c := k21c1) (by decide +kernel) rfl rfl rfl (by decide +kernel)
set_option maxRecDepth 65536 in
theorem w_c33 : (Jvm.Cond.code ({ cls := "java/lang/Math", name := "max", desc := "(II)I" } : Jvm.MethodName) jdk_29_method_65_code (2 : Nat) (Option.some Jvm.ClassFile.FieldType.int)).before args0 about1 = true := code_word (m := ⟨30, 1⟩) (meth := k30m1) (c := k30c1) (by decide +kernel) rfl rfl rfl (by decide +kernel)
set_option maxRecDepth 65536 in
theorem w_c34 : (Jvm.Cond.code ({ cls := "java/util/ArrayList", name := "toArray", desc := "()[Ljava/lang/Object;" } : Jvm.MethodName) jdk_38_method_16_code (1 : Nat) (Option.some (Jvm.ClassFile.FieldType.array (Jvm.ClassFile.FieldType.object "java/lang/Object")))).before args0 about1 = true := code_word (m := ⟨21, 4⟩) (meth := k21m4) (c := k21c4) (by decide +kernel) rfl rfl rfl (by decide +kernel)
set_option maxRecDepth 65536 in
theorem w_c35 : (Jvm.Cond.code ({ cls := "java/util/Arrays", name := "copyOf", desc := "([Ljava/lang/Object;I)[Ljava/lang/Object;" } : Jvm.MethodName) jdk_65_method_119_code (2 : Nat) (Option.some (Jvm.ClassFile.FieldType.array (Jvm.ClassFile.FieldType.object "java/lang/Object")))).before args0 about1 = true := code_word (m := ⟨31, 1⟩) (meth := k31m1) (c := k31c1) (by decide +kernel) rfl rfl rfl (by decide +kernel)
set_option maxRecDepth 65536 in
theorem w_c36 : (Jvm.Cond.code ({ cls := "java/util/Arrays", name := "copyOf", desc := "([Ljava/lang/Object;ILjava/lang/Class;)[Ljava/lang/Object;" } : Jvm.MethodName) jdk_65_method_120_code (4 : Nat) (Option.some (Jvm.ClassFile.FieldType.array (Jvm.ClassFile.FieldType.object "java/lang/Object")))).before args0 about1 = true := code_word (m := ⟨31, 2⟩) (meth := k31m2) (c := k31c2) (by decide +kernel) rfl rfl rfl (by decide +kernel)
set_option maxRecDepth 65536 in
theorem w_c37 : (Jvm.Cond.code ({ cls := "java/lang/Math", name := "min", desc := "(II)I" } : Jvm.MethodName) jdk_29_method_69_code (2 : Nat) (Option.some Jvm.ClassFile.FieldType.int)).before args0 about1 = true := code_word (m := ⟨30, 2⟩) (meth := k30m2) (c := k30c2) (by decide +kernel) rfl rfl rfl (by decide +kernel)
set_option maxRecDepth 65536 in
theorem w_c38 : (Jvm.Cond.code ({ cls := "java/util/List", name := "of", desc := "([Ljava/lang/Object;)Ljava/util/List;" } : Jvm.MethodName) jdk_40_method_47_code (2 : Nat) (Option.some (Jvm.ClassFile.FieldType.object "java/util/List"))).before args0 about1 = true := code_word (m := ⟨17, 3⟩) (meth := k17m3) (c := k17c3) (by decide +kernel) rfl rfl rfl (by decide +kernel)
set_option maxRecDepth 65536 in
theorem w_c39 : (Jvm.Cond.code ({ cls := "java/util/ImmutableCollections$List12", name := "<init>", desc := "(Ljava/lang/Object;)V" } : Jvm.MethodName) jdk_44_method_1_code (2 : Nat) (Option.none : Option Jvm.ClassFile.FieldType)).before args0 about1 = true := code_word (m := ⟨26, 0⟩) (meth := k26m0) (c := k26c0) (by decide +kernel) rfl rfl rfl (by decide +kernel)
set_option maxRecDepth 65536 in
theorem w_c40 : (Jvm.Cond.code ({ cls := "java/util/ImmutableCollections$AbstractImmutableList", name := "<init>", desc := "()V" } : Jvm.MethodName) jdk_46_method_1_code (1 : Nat) (Option.none : Option Jvm.ClassFile.FieldType)).before args0 about1 = true := code_word (m := ⟨25, 0⟩) (meth := k25m0) (c := k25c0) (by decide +kernel) rfl rfl rfl (by decide +kernel)
set_option maxRecDepth 65536 in
theorem w_c41 : (Jvm.Cond.code ({ cls := "java/util/ImmutableCollections$AbstractImmutableCollection", name := "<init>", desc := "()V" } : Jvm.MethodName) jdk_47_method_1_code (1 : Nat) (Option.none : Option Jvm.ClassFile.FieldType)).before args0 about1 = true := code_word (m := ⟨24, 0⟩) (meth := k24m0) (c := k24c0) (by decide +kernel) rfl rfl rfl (by decide +kernel)
set_option maxRecDepth 65536 in
theorem w_c42 : (Jvm.Cond.code ({ cls := "java/util/Objects", name := "requireNonNull", desc := "(Ljava/lang/Object;)Ljava/lang/Object;" } : Jvm.MethodName) jdk_31_method_10_code (1 : Nat) (Option.some (Jvm.ClassFile.FieldType.object "java/lang/Object"))).before args0 about1 = true := code_word (m := ⟨33, 1⟩) (meth := k33m1) (c := k33c1) (by decide +kernel) rfl rfl rfl (by decide +kernel)
set_option maxRecDepth 65536 in
theorem w_c43 : (Jvm.Cond.code ({ cls := "java/util/ImmutableCollections$List12", name := "size", desc := "()I" } : Jvm.MethodName) jdk_44_method_3_code (1 : Nat) (Option.some Jvm.ClassFile.FieldType.int)).before args0 about1 = true := code_word (m := ⟨26, 1⟩) (meth := k26m1) (c := k26c1) (by decide +kernel) rfl rfl rfl (by decide +kernel)
set_option maxRecDepth 65536 in
theorem w_c44 : (Jvm.Cond.code ({ cls := "java/util/ImmutableCollections$List12", name := "get", desc := "(I)Ljava/lang/Object;" } : Jvm.MethodName) jdk_44_method_5_code (2 : Nat) (Option.some (Jvm.ClassFile.FieldType.object "java/lang/Object"))).before args0 about1 = true := code_word (m := ⟨26, 2⟩) (meth := k26m2) (c := k26c2) (by decide +kernel) rfl rfl rfl (by decide +kernel)
def codes1 : List Jvm.Cond := [Jvm.Cond.code x code maxLocals ret, Jvm.Cond.code ({ cls := "java/lang/String", name := "<init>", desc := "([C)V" } : Jvm.MethodName) jdk_42_method_3_code (2 : Nat) (Option.none : Option Jvm.ClassFile.FieldType), Jvm.Cond.code ({ cls := "java/lang/String", name := "<init>", desc := "([CIILjava/lang/Void;)V" } : Jvm.MethodName) jdk_42_method_149_code (6 : Nat) (Option.none : Option Jvm.ClassFile.FieldType), Jvm.Cond.code ({ cls := "java/lang/Object", name := "<init>", desc := "()V" } : Jvm.MethodName) object_method_1_code (1 : Nat) (Option.none : Option Jvm.ClassFile.FieldType), Jvm.Cond.code ({ cls := "java/lang/StringUTF16", name := "compress", desc := "([CII)[B" } : Jvm.MethodName) jdk_52_method_16_code (6 : Nat) (Option.some (Jvm.ClassFile.FieldType.array Jvm.ClassFile.FieldType.byte)), Jvm.Cond.code ({ cls := "java/lang/StringUTF16", name := "compress", desc := "([CI[BII)I" } : Jvm.MethodName) jdk_52_method_21_code (7 : Nat) (Option.some Jvm.ClassFile.FieldType.int), Jvm.Cond.code ({ cls := "java/lang/StringUTF16", name := "coderFromArrayLen", desc := "([BI)B" } : Jvm.MethodName) jdk_52_method_15_code (2 : Nat) (Option.some Jvm.ClassFile.FieldType.byte), Jvm.Cond.code ({ cls := "java/lang/String", name := "valueOf", desc := "(C)Ljava/lang/String;" } : Jvm.MethodName) jdk_42_method_139_code (1 : Nat) (Option.some (Jvm.ClassFile.FieldType.object "java/lang/String")), Jvm.Cond.code ({ cls := "java/lang/StringLatin1", name := "canEncode", desc := "(C)Z" } : Jvm.MethodName) jdk_43_method_3_code (1 : Nat) (Option.some Jvm.ClassFile.FieldType.boolean), Jvm.Cond.code ({ cls := "java/lang/StringLatin1", name := "toBytes", desc := "(C)[B" } : Jvm.MethodName) jdk_43_method_46_code (1 : Nat) (Option.some (Jvm.ClassFile.FieldType.array Jvm.ClassFile.FieldType.byte)), Jvm.Cond.code ({ cls := "java/lang/String", name := "<init>", desc := "([BB)V" } : Jvm.MethodName) jdk_42_method_151_code (3 : Nat) (Option.none : Option Jvm.ClassFile.FieldType), Jvm.Cond.code ({ cls := "com/example/intentio/intentio/hddl/Term$Variable", name := "<init>", desc := "(Ljava/lang/String;Lcom/example/intentio/intentio/hddl/Type;)V" } : Jvm.MethodName) prog_78_method_1_code (3 : Nat) (Option.none : Option Jvm.ClassFile.FieldType), Jvm.Cond.code ({ cls := "java/lang/Record", name := "<init>", desc := "()V" } : Jvm.MethodName) jdk_30_method_1_code (1 : Nat) (Option.none : Option Jvm.ClassFile.FieldType), Jvm.Cond.code ({ cls := "java/util/ArrayList", name := "<init>", desc := "()V" } : Jvm.MethodName) jdk_38_method_2_code (1 : Nat) (Option.none : Option Jvm.ClassFile.FieldType), Jvm.Cond.code ({ cls := "java/util/AbstractList", name := "<init>", desc := "()V" } : Jvm.MethodName) jdk_39_method_1_code (1 : Nat) (Option.none : Option Jvm.ClassFile.FieldType), Jvm.Cond.code ({ cls := "java/util/AbstractCollection", name := "<init>", desc := "()V" } : Jvm.MethodName) jdk_22_method_1_code (1 : Nat) (Option.none : Option Jvm.ClassFile.FieldType), Jvm.Cond.code ({ cls := "com/example/intentio/intentio/hddl/Atom", name := "<init>", desc := "(Ljava/lang/String;Ljava/util/List;)V" } : Jvm.MethodName) prog_44_method_1_code (3 : Nat) (Option.none : Option Jvm.ClassFile.FieldType), Jvm.Cond.code ({ cls := "java/util/List", name := "copyOf", desc := "(Ljava/util/Collection;)Ljava/util/List;" } : Jvm.MethodName) jdk_40_method_48_code (1 : Nat) (Option.some (Jvm.ClassFile.FieldType.object "java/util/List")), Jvm.Cond.code ({ cls := "java/util/ImmutableCollections", name := "listCopy", desc := "(Ljava/util/Collection;)Ljava/util/List;" } : Jvm.MethodName) jdk_56_method_3_code (2 : Nat) (Option.some (Jvm.ClassFile.FieldType.object "java/util/List")), Jvm.Cond.code ({ cls := "java/util/ArrayList", name := "isEmpty", desc := "()Z" } : Jvm.MethodName) jdk_38_method_9_code (1 : Nat) (Option.some Jvm.ClassFile.FieldType.boolean), Jvm.Cond.code ({ cls := "java/util/List", name := "of", desc := "()Ljava/util/List;" } : Jvm.MethodName) jdk_40_method_36_code (0 : Nat) (Option.some (Jvm.ClassFile.FieldType.object "java/util/List")), Jvm.Cond.code ({ cls := "com/example/intentio/intentio/hddl/Literal", name := "<init>", desc := "(Lcom/example/intentio/intentio/hddl/Atom;Z)V" } : Jvm.MethodName) prog_63_method_1_code (3 : Nat) (Option.none : Option Jvm.ClassFile.FieldType), Jvm.Cond.code ({ cls := "com/example/intentio/intentio/hddl/Literal", name := "complement", desc := "()Lcom/example/intentio/intentio/hddl/Literal;" } : Jvm.MethodName) prog_63_method_2_code (1 : Nat) (Option.some (Jvm.ClassFile.FieldType.object "com/example/intentio/intentio/hddl/Literal")), Jvm.Cond.code ({ cls := "com/example/intentio/intentio/hddl/Literal", name := "positive", desc := "()Z" } : Jvm.MethodName) prog_63_method_9_code (1 : Nat) (Option.some Jvm.ClassFile.FieldType.boolean), Jvm.Cond.code ({ cls := "com/example/intentio/intentio/hddl/Literal", name := "atom", desc := "()Lcom/example/intentio/intentio/hddl/Atom;" } : Jvm.MethodName) prog_63_method_8_code (1 : Nat) (Option.some (Jvm.ClassFile.FieldType.object "com/example/intentio/intentio/hddl/Atom")), Jvm.Cond.code ({ cls := "com/example/intentio/intentio/hddl/Atom", name := "predicate", desc := "()Ljava/lang/String;" } : Jvm.MethodName) prog_44_method_7_code (1 : Nat) (Option.some (Jvm.ClassFile.FieldType.object "java/lang/String")), Jvm.Cond.code ({ cls := "java/lang/String", name := "equals", desc := "(Ljava/lang/Object;)Z" } : Jvm.MethodName) jdk_42_method_66_code (3 : Nat) (Option.some Jvm.ClassFile.FieldType.boolean), Jvm.Cond.code ({ cls := "com/example/intentio/intentio/hddl/Atom", name := "arguments", desc := "()Ljava/util/List;" } : Jvm.MethodName) prog_44_method_8_code (1 : Nat) (Option.some (Jvm.ClassFile.FieldType.object "java/util/List")), Jvm.Cond.code ({ cls := "java/util/ImmutableCollections$ListN", name := "size", desc := "()I" } : Jvm.MethodName) jdk_45_method_3_code (1 : Nat) (Option.some Jvm.ClassFile.FieldType.int), Jvm.Cond.code ({ cls := "java/util/ArrayList", name := "add", desc := "(Ljava/lang/Object;)Z" } : Jvm.MethodName) jdk_38_method_25_code (2 : Nat) (Option.some Jvm.ClassFile.FieldType.boolean), Jvm.Cond.code ({ cls := "java/util/ArrayList", name := "add", desc := "(Ljava/lang/Object;[Ljava/lang/Object;I)V" } : Jvm.MethodName) jdk_38_method_24_code (4 : Nat) (Option.none : Option Jvm.ClassFile.FieldType), Jvm.Cond.code ({ cls := "java/util/ArrayList", name := "grow", desc := "()[Ljava/lang/Object;" } : Jvm.MethodName) jdk_38_method_7_code (1 : Nat) (Option.some (Jvm.ClassFile.FieldType.array (Jvm.ClassFile.FieldType.object "java/lang/Object"))), Jvm.Cond.code ({ cls := "java/util/ArrayList", name := "grow", desc := "(I)[Ljava/lang/Object;" } : Jvm.MethodName) jdk_38_method_6_code (4 : Nat) (Option.some (Jvm.ClassFile.FieldType.array (Jvm.ClassFile.FieldType.object "java/lang/Object"))), Jvm.Cond.code ({ cls := "java/lang/Math", name := "max", desc := "(II)I" } : Jvm.MethodName) jdk_29_method_65_code (2 : Nat) (Option.some Jvm.ClassFile.FieldType.int), Jvm.Cond.code ({ cls := "java/util/ArrayList", name := "toArray", desc := "()[Ljava/lang/Object;" } : Jvm.MethodName) jdk_38_method_16_code (1 : Nat) (Option.some (Jvm.ClassFile.FieldType.array (Jvm.ClassFile.FieldType.object "java/lang/Object"))), Jvm.Cond.code ({ cls := "java/util/Arrays", name := "copyOf", desc := "([Ljava/lang/Object;I)[Ljava/lang/Object;" } : Jvm.MethodName) jdk_65_method_119_code (2 : Nat) (Option.some (Jvm.ClassFile.FieldType.array (Jvm.ClassFile.FieldType.object "java/lang/Object"))), Jvm.Cond.code ({ cls := "java/util/Arrays", name := "copyOf", desc := "([Ljava/lang/Object;ILjava/lang/Class;)[Ljava/lang/Object;" } : Jvm.MethodName) jdk_65_method_120_code (4 : Nat) (Option.some (Jvm.ClassFile.FieldType.array (Jvm.ClassFile.FieldType.object "java/lang/Object"))), Jvm.Cond.code ({ cls := "java/lang/Math", name := "min", desc := "(II)I" } : Jvm.MethodName) jdk_29_method_69_code (2 : Nat) (Option.some Jvm.ClassFile.FieldType.int), Jvm.Cond.code ({ cls := "java/util/List", name := "of", desc := "([Ljava/lang/Object;)Ljava/util/List;" } : Jvm.MethodName) jdk_40_method_47_code (2 : Nat) (Option.some (Jvm.ClassFile.FieldType.object "java/util/List")), Jvm.Cond.code ({ cls := "java/util/ImmutableCollections$List12", name := "<init>", desc := "(Ljava/lang/Object;)V" } : Jvm.MethodName) jdk_44_method_1_code (2 : Nat) (Option.none : Option Jvm.ClassFile.FieldType), Jvm.Cond.code ({ cls := "java/util/ImmutableCollections$AbstractImmutableList", name := "<init>", desc := "()V" } : Jvm.MethodName) jdk_46_method_1_code (1 : Nat) (Option.none : Option Jvm.ClassFile.FieldType), Jvm.Cond.code ({ cls := "java/util/ImmutableCollections$AbstractImmutableCollection", name := "<init>", desc := "()V" } : Jvm.MethodName) jdk_47_method_1_code (1 : Nat) (Option.none : Option Jvm.ClassFile.FieldType), Jvm.Cond.code ({ cls := "java/util/Objects", name := "requireNonNull", desc := "(Ljava/lang/Object;)Ljava/lang/Object;" } : Jvm.MethodName) jdk_31_method_10_code (1 : Nat) (Option.some (Jvm.ClassFile.FieldType.object "java/lang/Object")), Jvm.Cond.code ({ cls := "java/util/ImmutableCollections$List12", name := "size", desc := "()I" } : Jvm.MethodName) jdk_44_method_3_code (1 : Nat) (Option.some Jvm.ClassFile.FieldType.int), Jvm.Cond.code ({ cls := "java/util/ImmutableCollections$List12", name := "get", desc := "(I)Ljava/lang/Object;" } : Jvm.MethodName) jdk_44_method_5_code (2 : Nat) (Option.some (Jvm.ClassFile.FieldType.object "java/lang/Object"))]
set_option maxRecDepth 65536 in
theorem codes_eq : words1.filter isCode = codes1 := rfl
theorem w_codes : ∀ c ∈ words1.filter isCode, c.before args0 about1 = true := by
  rw [codes_eq]
  intro c hc
  simp only [codes1, List.mem_cons, List.not_mem_nil, or_false] at hc
  rcases hc with rfl | rfl | rfl | rfl | rfl | rfl | rfl | rfl | rfl | rfl | rfl | rfl | rfl | rfl | rfl | rfl | rfl | rfl | rfl | rfl | rfl | rfl | rfl | rfl | rfl | rfl | rfl | rfl | rfl | rfl | rfl | rfl | rfl | rfl | rfl | rfl | rfl | rfl | rfl | rfl | rfl | rfl | rfl | rfl | rfl
  · exact w_c0
  · exact w_c1
  · exact w_c2
  · exact w_c3
  · exact w_c4
  · exact w_c5
  · exact w_c6
  · exact w_c7
  · exact w_c8
  · exact w_c9
  · exact w_c10
  · exact w_c11
  · exact w_c12
  · exact w_c13
  · exact w_c14
  · exact w_c15
  · exact w_c16
  · exact w_c17
  · exact w_c18
  · exact w_c19
  · exact w_c20
  · exact w_c21
  · exact w_c22
  · exact w_c23
  · exact w_c24
  · exact w_c25
  · exact w_c26
  · exact w_c27
  · exact w_c28
  · exact w_c29
  · exact w_c30
  · exact w_c31
  · exact w_c32
  · exact w_c33
  · exact w_c34
  · exact w_c35
  · exact w_c36
  · exact w_c37
  · exact w_c38
  · exact w_c39
  · exact w_c40
  · exact w_c41
  · exact w_c42
  · exact w_c43
  · exact w_c44
set_option maxRecDepth 65536 in
theorem w_t1 : (words1.take 24).all (fun c => isCode c || c.before args0 about1) = true := by decide +kernel
set_option maxRecDepth 65536 in
theorem w_t2 : ((words1.drop 24).take 24).all (fun c => isCode c || c.before args0 about1) = true := by decide +kernel
set_option maxRecDepth 65536 in
theorem w_t3 : (((words1.drop 24).drop 24).take 24).all (fun c => isCode c || c.before args0 about1) = true := by decide +kernel
set_option maxRecDepth 65536 in
theorem w_t4 : ((((words1.drop 24).drop 24).drop 24).take 24).all (fun c => isCode c || c.before args0 about1) = true := by decide +kernel
set_option maxRecDepth 65536 in
theorem w_t5 : (((((words1.drop 24).drop 24).drop 24).drop 24).take 24).all (fun c => isCode c || c.before args0 about1) = true := by decide +kernel
set_option maxRecDepth 65536 in
theorem w_t6 : ((((((words1.drop 24).drop 24).drop 24).drop 24).drop 24).take 24).all (fun c => isCode c || c.before args0 about1) = true := by decide +kernel
set_option maxRecDepth 65536 in
theorem w_t7 : (((((((words1.drop 24).drop 24).drop 24).drop 24).drop 24).drop 24).take 24).all (fun c => isCode c || c.before args0 about1) = true := by decide +kernel
set_option maxRecDepth 65536 in
theorem w_t8 : ((((((((words1.drop 24).drop 24).drop 24).drop 24).drop 24).drop 24).drop 24).take 24).all (fun c => isCode c || c.before args0 about1) = true := by decide +kernel
set_option maxRecDepth 65536 in
theorem w_t9 : (((((((((words1.drop 24).drop 24).drop 24).drop 24).drop 24).drop 24).drop 24).drop 24).take 24).all (fun c => isCode c || c.before args0 about1) = true := by decide +kernel
set_option maxRecDepth 65536 in
theorem w_t10 : ((((((((((words1.drop 24).drop 24).drop 24).drop 24).drop 24).drop 24).drop 24).drop 24).drop 24).take 24).all (fun c => isCode c || c.before args0 about1) = true := by decide +kernel
set_option maxRecDepth 65536 in
theorem w_t11 : (((((((((((words1.drop 24).drop 24).drop 24).drop 24).drop 24).drop 24).drop 24).drop 24).drop 24).drop 24).take 24).all (fun c => isCode c || c.before args0 about1) = true := by decide +kernel
set_option maxRecDepth 65536 in
theorem w_t12 : (((((((((((words1.drop 24).drop 24).drop 24).drop 24).drop 24).drop 24).drop 24).drop 24).drop 24).drop 24).drop 24).all (fun c => isCode c || c.before args0 about1) = true := by decide +kernel
theorem w_tables : (allAtoms (Jvm.Cond.code x code maxLocals ret :: tables_1)).before args0 about1 = true := by
  rw [allAtoms_all]
  show words1.all (fun c => c.before args0 about1) = true
  refine all_split ?_ w_codes
  rw [← List.take_append_drop 24 words1, List.all_append, w_t1, ← List.take_append_drop 24 (words1.drop 24), List.all_append, w_t2, ← List.take_append_drop 24 ((words1.drop 24).drop 24), List.all_append, w_t3, ← List.take_append_drop 24 (((words1.drop 24).drop 24).drop 24), List.all_append, w_t4, ← List.take_append_drop 24 ((((words1.drop 24).drop 24).drop 24).drop 24), List.all_append, w_t5, ← List.take_append_drop 24 (((((words1.drop 24).drop 24).drop 24).drop 24).drop 24), List.all_append, w_t6, ← List.take_append_drop 24 ((((((words1.drop 24).drop 24).drop 24).drop 24).drop 24).drop 24), List.all_append, w_t7, ← List.take_append_drop 24 (((((((words1.drop 24).drop 24).drop 24).drop 24).drop 24).drop 24).drop 24), List.all_append, w_t8, ← List.take_append_drop 24 ((((((((words1.drop 24).drop 24).drop 24).drop 24).drop 24).drop 24).drop 24).drop 24), List.all_append, w_t9, ← List.take_append_drop 24 (((((((((words1.drop 24).drop 24).drop 24).drop 24).drop 24).drop 24).drop 24).drop 24).drop 24), List.all_append, w_t10, ← List.take_append_drop 24 ((((((((((words1.drop 24).drop 24).drop 24).drop 24).drop 24).drop 24).drop 24).drop 24).drop 24).drop 24), List.all_append, w_t11, w_t12]
  rfl
set_option maxRecDepth 65536 in
theorem w_rest : rest_1_c.before args0 about1 = true := by decide +kernel
set_option maxRecDepth 65536 in
theorem w_case : (Jvm.Cond.and given_1 narrow_1).before args0 about1 = true := by decide +kernel
theorem w_applies : (headSpec (Jvm.Cond.code x code maxLocals ret :: tables_1) room_1).applies x e0.platform about1 = true :=
  (Spec.applies_iff w_frames).mpr ⟨w_running, w_runnable, w_alone, w_named, w_hears, w_ripe, w_room, w_tables⟩
theorem atStart : AtStart classFile x code maxLocals ret World_1 tables_1 room_1 Calls_1 rest_1 Pre_1 launch0 p0 e0 about1 theMethod args0 below0 :=
  ⟨lists_1, trivial, launch0.admits_env _ _ _, launch0.least_env, fairChoices_fair.cas, fairChoices_fair.clock, w_frames, w_args, w_heap, w_applies, ⟨⟨41, k41, 4, by decide +kernel, rfl, rfl, _, rfl, rfl⟩, trivial⟩, w_rest, w_case⟩
end start1
theorem witness_1 : WitnessClaimed_1 := ⟨start1.p0, start1.e0, start1.about1, start1.theMethod, start1.args0, start1.below0, start1.atStart⟩
end Jvm.Pilot.@@N@@
