import JvmDerived
import JvmDerived.Pilot.@@N@@Statement
import JvmDerived.Pilot.@@N@@Code
set_option linter.unusedVariables false
set_option linter.unusedSimpArgs false
/- laws to paste: Road.backV, Road.codOf (cut by pick.py; bodies as the Statement names them) -/
namespace Jvm.Pilot.@@N@@
namespace StrChars
open Jvm Sem ClassFile Op Lib Jvm.Stand Jvm.Free.XT Jvm.Free.ALB Jvm.Free.JM Jvm.Free
open Jvm.Lib.Cold (StaticIs)
/-- a char array whose places are chars -/
def Ch (a : Addr) (A : Cell) (U : State) : Prop := Arr .char a A U ∧ Typed .char A
theorem Ch.mv {a : Addr} {A : Cell} {U U' : State} (h : Ch a A U) (hal : U.vm.Alike U'.vm) (hh : U'.heap = U.heap) : Ch a A U' := ⟨h.1.mv hal hh, h.2⟩
theorem Ch.keep {a : Addr} {A : Cell} {U U' : State} (h : Ch a A U) (hal : U.vm.Alike U'.vm) (hk : U'.heap[a]? = some A) : Ch a A U' := ⟨h.1.keep hal hk, h.2⟩
/-- what place i of a char[]'s cell holds -/
def cv (A : Cell) (i : Nat) : Int32 := match A.slots[i]? with | some (.int x) => x | _ => 0
theorem Ch.get {a : Addr} {A : Cell} {U : State} (h : Ch a A U) {i : Nat} (hi : i < A.slots.size) : A.slots[i]? = some (.int (cv A i)) := by
  have e := Array.getElem?_eq_getElem hi
  have f := h.2 i _ e
  unfold cv; rw [e]
  generalize A.slots[i] = v at f
  cases v <;> simp [fits] at f ⊢
/-- the byte that i2b leaves of a char -/
def lo8 (x : Int32) : Int32 := x.toInt8.toInt32
theorem fits_lo8 (y : Int32) : fits .byte (.int (lo8 y)) = true := by
  have h1 := y.toInt8.le_toInt
  have h2 := y.toInt8.toInt_lt
  simp only [lo8, fits, Bool.and_eq_true, decide_eq_true_eq, Int32.le_iff_toInt_le, Int8.toInt_toInt32, show (-128 : Int32).toInt = -128 from by decide, show (127 : Int32).toInt = 127 from by decide]
  omega
/-- A' is A but that each place j of lo .. hi - 1 holds f j -/
def Laid (A A' : Cell) (lo hi : Nat) (f : Nat → Value) : Prop := A'.cls = A.cls ∧ A'.vm = A.vm ∧ A'.slots.size = A.slots.size ∧ ∀ i, A'.slots[i]? = if lo ≤ i ∧ i < hi then some (f i) else A.slots[i]?
theorem Laid.zero (A : Cell) (lo : Nat) (f : Nat → Value) : Laid A A lo (lo + 0) f := ⟨rfl, rfl, rfl, fun i => by rw [if_neg (by omega)]⟩
theorem Laid.step {A Ak : Cell} {lo k : Nat} {f : Nat → Value} {v : Value} (h : Laid A Ak lo k f) (hlo : lo ≤ k) (hk : k < Ak.slots.size) (hv : v = f k) : Laid A (Ak.setSlot k v) lo (k + 1) f := by
  refine ⟨h.1, h.2.1, by simpa [Cell.setSlot] using h.2.2.1, fun i => ?_⟩
  by_cases e : k = i
  · subst e; rw [Cell.slots_setSlot_self v hk, if_pos (by omega), hv]
  · rw [Cell.slots_setSlot_ne v e, h.2.2.2 i]
    by_cases q : lo ≤ i ∧ i < k
    · rw [if_pos q, if_pos (by omega)]
    · rw [if_neg q, if_neg (by omega)]
def U16 : String := "java/lang/StringUTF16"
namespace Cmp5
def yN : MethodName := ⟨"java/lang/StringUTF16", "compress", "([CI[BII)I"⟩
abbrev yB : ByteArray := jdk_52_method_21_code
theorem d0 : decode yB 0 = .ok (.iconst 0, 1) := by decide +kernel
theorem d1 : decode yB 1 = .ok (.istore 5, 2) := by decide +kernel
theorem d3 : decode yB 3 = .ok (.iload 5, 2) := by decide +kernel
theorem d5 : decode yB 5 = .ok (.iload 4, 2) := by decide +kernel
theorem d7 : decode yB 7 = .ok (.if_icmp (.ge) 37, 3) := by decide +kernel
theorem d10 : decode yB 10 = .ok (.aload_n 0, 1) := by decide +kernel
theorem d11 : decode yB 11 = .ok (.iload_n 1, 1) := by decide +kernel
theorem d12 : decode yB 12 = .ok (.caload, 1) := by decide +kernel
theorem d13 : decode yB 13 = .ok (.istore 6, 2) := by decide +kernel
theorem d15 : decode yB 15 = .ok (.iload 6, 2) := by decide +kernel
theorem d17 : decode yB 17 = .ok (.sipush 255, 3) := by decide +kernel
theorem d20 : decode yB 20 = .ok (.if_icmp (.le) 6, 3) := by decide +kernel
theorem d26 : decode yB 26 = .ok (.aload_n 2, 1) := by decide +kernel
theorem d27 : decode yB 27 = .ok (.iload_n 3, 1) := by decide +kernel
theorem d28 : decode yB 28 = .ok (.iload 6, 2) := by decide +kernel
theorem d30 : decode yB 30 = .ok (.i2b, 1) := by decide +kernel
theorem d31 : decode yB 31 = .ok (.bastore, 1) := by decide +kernel
theorem d32 : decode yB 32 = .ok (.iinc 1 1, 3) := by decide +kernel
theorem d35 : decode yB 35 = .ok (.iinc 3 1, 3) := by decide +kernel
theorem d38 : decode yB 38 = .ok (.iinc 5 1, 3) := by decide +kernel
theorem d41 : decode yB 41 = .ok (.goto (-38), 3) := by decide +kernel
theorem d44 : decode yB 44 = .ok (.iload 4, 2) := by decide +kernel
theorem d46 : decode yB 46 = .ok (.ireturn, 1) := by decide +kernel
def site : List Cond := []
def tab : Cond := tabOf yN yB 7 (some .int) site
def P (b : Addr) (A : Cell) (d : Addr) (B : Cell) (o q len : Nat) (args : Array Value) (s : State) : Prop := args = #[.ref b, .int (Int32.ofNat o), .ref d, .int (Int32.ofNat q), .int (Int32.ofNat len)] ∧ Ch b A s ∧ Arr .byte d B s ∧ b ≠ d ∧ o + len ≤ A.slots.size ∧ q + len ≤ B.slots.size ∧ ∀ i, i < len → ¬ 255 < cv A (o + i)
def E (b : Addr) (A : Cell) (d : Addr) (B : Cell) (o q len : Nat) (r : Option Value) (s u : State) : Prop := r = some (.int (Int32.ofNat len)) ∧ ∃ B', Put d B' s u ∧ Laid B B' q (q + len) (fun j => Value.int (lo8 (cv A (o + (j - q)))))
/-- no char of the range above 255: len; the places written hold each char's low byte -/
theorem law (l : Launch) (b : Addr) (A : Cell) (d : Addr) (B : Cell) (o q len : Nat) : Law l yN 5 5 0 0 yB 7 (some .int) site (P b A d B o q len) (E b A d B o q len) (copyLocs d q len) 0 0 := by
  refine Law.of_walk (plainFor_of_name (by decide +kernel)) (by decide +kernel) (by decide +kernel) (by decide) (fun _ _ h => by rw [h.1]; rfl) (fun _ U U' hal hh h => ⟨h.1, h.2.1.mv hal hh, h.2.2.1.mv hal hh, h.2.2.2⟩) (fun r U U' V V' h1 hal h2 h => ⟨h.1, h.2.elim fun B' q => ⟨B', q.1.mv h1 h2, q.2⟩⟩) ?_
  intro p e s m args below meth c s₁ X0 hexec hbytes hml hret hlk hnm hown hh0 W hP
  obtain ⟨rfl, hA, hB, hne, l1, l2, hp⟩ := hP
  have c1 : Steps p.tables e below (s₁.setTop (entryFrame m #[.ref b, .int (Int32.ofNat o), .ref d, .int (Int32.ofNat q), .int (Int32.ofNat len)] 7)) (s₁.setTop (mkF m 0 #[.val (.ref b), .val (.int (Int32.ofNat o)), .val (.ref d), .val (.int (Int32.ofNat q)), .val (.int (Int32.ofNat len)), .unset, .unset] [])) := entry rfl
  have hA0 := hA.1.mv X0.warmed.alike hh0
  have hB0 := hB.mv X0.warmed.alike hh0
  have a31 := hA.1.2.2.2
  have c2 : Steps p.tables e below (s₁.setTop (entryFrame m #[.ref b, .int (Int32.ofNat o), .ref d, .int (Int32.ofNat q), .int (Int32.ofNat len)] 7)) (s₁.setTop (mkF m 3 #[.val (.ref b), .val (.int (Int32.ofNat o)), .val (.ref d), .val (.int (Int32.ofNat q)), .val (.int (Int32.ofNat len)), .val (.int 0), .unset] [])) := c1.trans (by
    refine iconstV X0.here hexec rfl 0 (hb hbytes d0) (by decide) ?_
    refine XS.istore X0.here hexec rfl (hb hbytes d1) rfl rfl ?_
    exact Steps.refl _)
  have loop : ∀ (r i : Nat), i + r = len → ∀ (z : Slot), (z = .unset ∨ ∃ w, z = .val w ∧ w.category = 1) → ∀ (Tl : State) (Bk : Cell), Stand p l e { frames := 0, locals := 0, cells := 0, slots := 0 } s m #[.ref b, .int (Int32.ofNat o), .ref d, .int (Int32.ofNat q), .int (Int32.ofNat len)] below meth c Tl ([] ++ copyLocs d q i) 0 0 → Put d Bk s₁ Tl → Laid B Bk q (q + i) (fun j => Value.int (lo8 (cv A (o + (j - q))))) →
      Steps p.tables e below (s₁.setTop (entryFrame m #[.ref b, .int (Int32.ofNat o), .ref d, .int (Int32.ofNat q), .int (Int32.ofNat len)] 7)) (Tl.setTop (mkF m 3 #[.val (.ref b), .val (.int (Int32.ofNat (o + i))), .val (.ref d), .val (.int (Int32.ofNat (q + i))), .val (.int (Int32.ofNat len)), .val (.int (Int32.ofNat i)), z] [])) → ∃ (T' : State) (B' : Cell) (z' : Slot), Stand p l e { frames := 0, locals := 0, cells := 0, slots := 0 } s m #[.ref b, .int (Int32.ofNat o), .ref d, .int (Int32.ofNat q), .int (Int32.ofNat len)] below meth c T' ([] ++ copyLocs d q len) 0 0 ∧ Put d B' s₁ T' ∧ Laid B B' q (q + len) (fun j => Value.int (lo8 (cv A (o + (j - q))))) ∧
      Steps p.tables e below (s₁.setTop (entryFrame m #[.ref b, .int (Int32.ofNat o), .ref d, .int (Int32.ofNat q), .int (Int32.ofNat len)] 7)) (T'.setTop (mkF m 3 #[.val (.ref b), .val (.int (Int32.ofNat (o + len))), .val (.ref d), .val (.int (Int32.ofNat (q + len))), .val (.int (Int32.ofNat len)), .val (.int (Int32.ofNat len)), z'] [])) := by
    intro r
    induction r with
    | zero =>
      intro i hi z hz Tl Bk Xl pl fl cl
      have hil : i = len := by omega
      rw [hil] at Xl fl cl
      exact ⟨Tl, Bk, z, Xl, pl, fl, cl⟩
    | succ r ih =>
      intro i hi z hz Tl Bk Xl pl fl cl
      have all := X0.warmed.alike.symm.trans Xl.warmed.alike
      have hAl := hA0.keep all (pl.other hne hA0.1)
      have hBk := hB0.like all pl.1 fl.1 fl.2.1 fl.2.2.1
      have hlt : q + i < Bk.slots.size := by rw [fl.2.2.1]; omega
      have c3 : Steps p.tables e below (s₁.setTop (entryFrame m #[.ref b, .int (Int32.ofNat o), .ref d, .int (Int32.ofNat q), .int (Int32.ofNat len)] 7)) (Tl.setTop (mkF m 12 #[.val (.ref b), .val (.int (Int32.ofNat (o + i))), .val (.ref d), .val (.int (Int32.ofNat (q + i))), .val (.int (Int32.ofNat len)), .val (.int (Int32.ofNat i)), z] [.int (Int32.ofNat (o + i)), .ref b])) := cl.trans (by
        refine XS.iload Xl.here hexec rfl (hb hbytes d3) rfl ?_
        refine XS.iload Xl.here hexec rfl (hb hbytes d5) rfl ?_
        refine XS.icmpNo Xl.here hexec rfl (hb hbytes d7) rfl (ii_ge_f (lt32 (by omega) (by omega))) ?_
        refine XS.aloadN Xl.here hexec rfl (hb hbytes d10) rfl rfl ?_
        refine XS.iloadN Xl.here hexec rfl (hb hbytes d11) rfl ?_
        exact Steps.refl _)
      have c4 : Steps p.tables e below (s₁.setTop (entryFrame m #[.ref b, .int (Int32.ofNat o), .ref d, .int (Int32.ofNat q), .int (Int32.ofNat len)] 7)) (Tl.setTop (mkF m 13 #[.val (.ref b), .val (.int (Int32.ofNat (o + i))), .val (.ref d), .val (.int (Int32.ofNat (q + i))), .val (.int (Int32.ofNat len)), .val (.int (Int32.ofNat i)), z] [.int (cv A (o + i))])) := c3.trans (by
        refine Xl.aget hexec hAl rfl (hA.get (i := o + i) (by omega)) rfl rfl (hb hbytes d12) ?_
        exact Steps.refl _)
      have c5 : Steps p.tables e below (s₁.setTop (entryFrame m #[.ref b, .int (Int32.ofNat o), .ref d, .int (Int32.ofNat q), .int (Int32.ofNat len)] 7)) (Tl.setTop (mkF m 15 #[.val (.ref b), .val (.int (Int32.ofNat (o + i))), .val (.ref d), .val (.int (Int32.ofNat (q + i))), .val (.int (Int32.ofNat len)), .val (.int (Int32.ofNat i)), .val (.int (cv A (o + i)))] [])) := c4.trans (by
        refine XS.istoreS Xl.here hexec rfl (hb hbytes d13) rfl rfl hz ?_
        exact Steps.refl _)
      have c6 : Steps p.tables e below (s₁.setTop (entryFrame m #[.ref b, .int (Int32.ofNat o), .ref d, .int (Int32.ofNat q), .int (Int32.ofNat len)] 7)) (Tl.setTop (mkF m 31 #[.val (.ref b), .val (.int (Int32.ofNat (o + i))), .val (.ref d), .val (.int (Int32.ofNat (q + i))), .val (.int (Int32.ofNat len)), .val (.int (Int32.ofNat i)), .val (.int (cv A (o + i)))] [.int (lo8 (cv A (o + i))), .int (Int32.ofNat (q + i)), .ref d])) := c5.trans (by
        refine XS.iload Xl.here hexec rfl (hb hbytes d15) rfl ?_
        refine sipushV Xl.here hexec rfl 255 (hb hbytes d17) (by decide) ?_
        refine XS.icmpYes Xl.here hexec rfl (pc0 := 20) rfl (hb hbytes d20) rfl (ii_le_t (hp i (by omega))) (by decide) rfl ?_
        refine XS.aloadN Xl.here hexec rfl (hb hbytes d26) rfl rfl ?_
        refine XS.iloadN Xl.here hexec rfl (hb hbytes d27) rfl ?_
        refine XS.iload Xl.here hexec rfl (hb hbytes d28) rfl ?_
        refine i2b Xl.here hexec rfl (hb hbytes d30) rfl ?_
        exact Steps.refl _)
      obtain ⟨T7, X7, p7, st7⟩ := Xl.aput hexec hBk rfl hlt rfl (fits_lo8 (cv A (o + i))) (g := (mkF m 31 #[.val (.ref b), .val (.int (Int32.ofNat (o + i))), .val (.ref d), .val (.int (Int32.ofNat (q + i))), .val (.int (Int32.ofNat len)), .val (.int (Int32.ofNat i)), .val (.int (cv A (o + i)))] [.int (lo8 (cv A (o + i))), .int (Int32.ofNat (q + i)), .ref d])) rfl (rest := []) rfl (hb hbytes d31)
      have c8 : Steps p.tables e below (s₁.setTop (entryFrame m #[.ref b, .int (Int32.ofNat o), .ref d, .int (Int32.ofNat q), .int (Int32.ofNat len)] 7)) (T7.setTop (mkF m 32 #[.val (.ref b), .val (.int (Int32.ofNat (o + i))), .val (.ref d), .val (.int (Int32.ofNat (q + i))), .val (.int (Int32.ofNat len)), .val (.int (Int32.ofNat i)), .val (.int (cv A (o + i)))] [])) := c6.trans (st7 _ (Steps.refl _))
      have c9 : Steps p.tables e below (s₁.setTop (entryFrame m #[.ref b, .int (Int32.ofNat o), .ref d, .int (Int32.ofNat q), .int (Int32.ofNat len)] 7)) (T7.setTop (mkF m 3 #[.val (.ref b), .val (.int (Int32.ofNat (o + i) + 1)), .val (.ref d), .val (.int (Int32.ofNat (q + i) + 1)), .val (.int (Int32.ofNat len)), .val (.int (Int32.ofNat i + 1)), .val (.int (cv A (o + i)))] [])) := c8.trans (by
        refine iincV X7.here hexec rfl 1 (hb hbytes d32) (by decide) rfl rfl ?_
        refine iincV X7.here hexec rfl 1 (hb hbytes d35) (by decide) rfl rfl ?_
        refine iincV X7.here hexec rfl 1 (hb hbytes d38) (by decide) rfl rfl ?_
        refine XS.goto X7.here hexec rfl (pc0 := 41) rfl (hb hbytes d41) (by decide) rfl ?_
        exact Steps.refl _)
      have c10 : Steps p.tables e below (s₁.setTop (entryFrame m #[.ref b, .int (Int32.ofNat o), .ref d, .int (Int32.ofNat q), .int (Int32.ofNat len)] 7)) (T7.setTop (mkF m 3 #[.val (.ref b), .val (.int (Int32.ofNat (o + (i + 1)))), .val (.ref d), .val (.int (Int32.ofNat (q + (i + 1)))), .val (.int (Int32.ofNat len)), .val (.int (Int32.ofNat (i + 1))), .val (.int (cv A (o + i)))] [])) := by
        have := c9
        rw [succ32, succ32, succ32] at this
        exact this
      exact ih (i + 1) (by omega) _ (Or.inr ⟨_, rfl, rfl⟩) T7 _ (by rw [copyLocs_step, ← List.append_assoc]; exact X7) (pl.trans p7) (fl.step (by omega) hlt (by simp)) c10
  obtain ⟨T9, B9, z9, X9, p9, f9, g9⟩ := loop len 0 (by omega) .unset (Or.inl rfl) s₁ B (by simpa [copyLocs] using X0) ⟨hB0.1, fun _ _ => rfl, rfl⟩ (Laid.zero _ _ _) c2
  have c11 : Steps p.tables e below (s₁.setTop (entryFrame m #[.ref b, .int (Int32.ofNat o), .ref d, .int (Int32.ofNat q), .int (Int32.ofNat len)] 7)) (T9.setTop (mkF m 46 #[.val (.ref b), .val (.int (Int32.ofNat (o + len))), .val (.ref d), .val (.int (Int32.ofNat (q + len))), .val (.int (Int32.ofNat len)), .val (.int (Int32.ofNat len)), z9] [.int (Int32.ofNat len)])) := g9.trans (by
    refine XS.iload X9.here hexec rfl (hb hbytes d3) rfl ?_
    refine XS.iload X9.here hexec rfl (hb hbytes d5) rfl ?_
    refine XS.icmpYes X9.here hexec rfl (pc0 := 7) rfl (hb hbytes d7) rfl (ii_ge_t (nlt32 (by omega) (Nat.le_refl _))) (by decide) rfl ?_
    refine XS.iload X9.here hexec rfl (hb hbytes d44) rfl ?_
    exact Steps.refl _)
  exact ⟨T9, some (.int (Int32.ofNat len)), _, _, _, X9, by simp, rfl, rfl, (fun h => by cases h), ⟨rfl, B9, p9.from hh0, f9⟩, fun fs hl => c11.trans (X9.ireturnOut hexec hret rfl (Or.inl rfl) (hb hbytes d46) hl)⟩
end Cmp5
namespace Cmp3
def yN : MethodName := ⟨"java/lang/StringUTF16", "compress", "([CII)[B"⟩
abbrev yB : ByteArray := jdk_52_method_16_code
theorem d0 : decode yB 0 = .ok (.iload_n 2, 1) := by decide +kernel
theorem d1 : decode yB 1 = .ok (.newarray .byte, 2) := by decide +kernel
theorem d3 : decode yB 3 = .ok (.astore_n 3, 1) := by decide +kernel
theorem d4 : decode yB 4 = .ok (.aload_n 0, 1) := by decide +kernel
theorem d5 : decode yB 5 = .ok (.iload_n 1, 1) := by decide +kernel
theorem d6 : decode yB 6 = .ok (.aload_n 3, 1) := by decide +kernel
theorem d7 : decode yB 7 = .ok (.iconst 0, 1) := by decide +kernel
theorem d8 : decode yB 8 = .ok (.iload_n 2, 1) := by decide +kernel
theorem d9 : decode yB 9 = .ok (.invokestatic 115, 3) := by decide +kernel
theorem d12 : decode yB 12 = .ok (.istore 4, 2) := by decide +kernel
theorem d14 : decode yB 14 = .ok (.iload 4, 2) := by decide +kernel
theorem d16 : decode yB 16 = .ok (.iload_n 2, 1) := by decide +kernel
theorem d17 : decode yB 17 = .ok (.if_icmp (.eq) 40, 3) := by decide +kernel
theorem d57 : decode yB 57 = .ok (.aload_n 3, 1) := by decide +kernel
theorem d58 : decode yB 58 = .ok (.areturn, 1) := by decide +kernel
def site : List Cond := [.arrayClass .byte, Cmp5.tab] ++ staticW U16 115 Cmp5.yN
def tab : Cond := tabOf yN yB 6 (some (.array .byte)) site
def P (b : Addr) (A : Cell) (o len : Nat) (args : Array Value) (s : State) : Prop := args = #[.ref b, .int (Int32.ofNat o), .int (Int32.ofNat len)] ∧ Ch b A s ∧ o + len ≤ A.slots.size ∧ len ≤ 536870912 ∧ ∀ i, i < len → ¬ 255 < cv A (o + i)
def E (b : Addr) (A : Cell) (o len : Nat) (r : Option Value) (s u : State) : Prop := NewArr .byte "[B" len (fun j => .int (lo8 (cv A (o + j)))) r s u ∧ u.heap.size = s.heap.size + 1
/-- no char of the range above 255: a new byte[] of their low bytes -/
theorem law (l : Launch) (b : Addr) (A : Cell) (o len : Nat) : Law l yN 3 3 1 18 yB 6 (some (.array .byte)) site (P b A o len) (E b A o len) [] 1 len := by
  refine Law.of_walk (plainFor_of_name (by decide +kernel)) (by decide +kernel) (by decide +kernel) (by decide) (fun _ _ h => by rw [h.1]; rfl) (fun _ U U' hal hh h => ⟨h.1, h.2.1.mv hal hh, h.2.2⟩) (fun r U U' V V' h1 hal h2 h => ⟨NewArr.mv r U U' V V' h1 hal h2 h.1, by rw [h1, h2]; exact h.2⟩) ?_
  intro p e s m args below meth c s₁ X0 hexec hbytes hml hret hlk hnm hown hh0 W hP
  obtain ⟨rfl, hA, l1, l2, hp⟩ := hP
  have a31 := hA.1.2.2.2
  have c1 : Steps p.tables e below (s₁.setTop (entryFrame m #[.ref b, .int (Int32.ofNat o), .int (Int32.ofNat len)] 6)) (s₁.setTop (mkF m 0 #[.val (.ref b), .val (.int (Int32.ofNat o)), .val (.int (Int32.ofNat len)), .unset, .unset, .unset] [])) := entry rfl
  have c2 : Steps p.tables e below (s₁.setTop (entryFrame m #[.ref b, .int (Int32.ofNat o), .int (Int32.ofNat len)] 6)) (s₁.setTop (mkF m 1 #[.val (.ref b), .val (.int (Int32.ofNat o)), .val (.int (Int32.ofNat len)), .unset, .unset, .unset] [.int (Int32.ofNat len)])) := c1.trans (by
    refine XS.iloadN X0.here hexec rfl (hb hbytes d0) rfl ?_
    exact Steps.refl _)
  obtain ⟨T3, B3, X3, ba3, bs3, bv3, bh3, bf3, st3⟩ := X0.anew hexec (atype := .byte) (wk W (.arrayClass .byte)) rfl (by show len * 1 ≤ _; omega) (by omega) (g := (mkF m 1 #[.val (.ref b), .val (.int (Int32.ofNat o)), .val (.int (Int32.ofNat len)), .unset, .unset, .unset] [.int (Int32.ofNat len)])) rfl (hb hbytes d1) (rest := []) rfl (Nat.le_refl _) (by show 0 + len ≤ len; omega)
  rw [hh0] at ba3 st3
  have kp3 : XT.Kept s T3 := (XT.Kept.of_eq hh0).push bh3
  have hA3 := hA.keep X3.warmed.alike (kp3 _ _ hA.1.1)
  have hne : b ≠ s.heap.size := hA.1.ne
  have c4 : Steps p.tables e below (s₁.setTop (entryFrame m #[.ref b, .int (Int32.ofNat o), .int (Int32.ofNat len)] 6)) (T3.setTop (mkF m 3 #[.val (.ref b), .val (.int (Int32.ofNat o)), .val (.int (Int32.ofNat len)), .unset, .unset, .unset] [.ref s.heap.size])) := c2.trans (st3 _ (Steps.refl _))
  have c5 : Steps p.tables e below (s₁.setTop (entryFrame m #[.ref b, .int (Int32.ofNat o), .int (Int32.ofNat len)] 6)) (T3.setTop (mkF m 9 #[.val (.ref b), .val (.int (Int32.ofNat o)), .val (.int (Int32.ofNat len)), .val (.ref s.heap.size), .unset, .unset] [.int (Int32.ofNat len), .int 0, .ref s.heap.size, .int (Int32.ofNat o), .ref b])) := c4.trans (by
    refine XS.astoreN X3.here hexec rfl (hb hbytes d3) rfl rfl rfl ?_
    refine XS.aloadN X3.here hexec rfl (hb hbytes d4) rfl rfl ?_
    refine XS.iloadN X3.here hexec rfl (hb hbytes d5) rfl ?_
    refine XS.aloadN X3.here hexec rfl (hb hbytes d6) rfl rfl ?_
    refine iconstV X3.here hexec rfl 0 (hb hbytes d7) (by decide) ?_
    refine XS.iloadN X3.here hexec rfl (hb hbytes d8) rfl ?_
    exact Steps.refl _)
  obtain ⟨v6, T6, X6, E6, g6⟩ := X3.callS hexec (Cmp5.law l b A s.heap.size B3 o 0 len) hown (wks W (staticW U16 115 Cmp5.yN)) (wk W Cmp5.tab) (W := 0) (Nat.le_of_ble_eq_true rfl) (Nat.le_of_ble_eq_true rfl) (Nat.le_refl _) (by show 0 + len + 0 ≤ len; omega) (g := (mkF m 9 #[.val (.ref b), .val (.int (Int32.ofNat o)), .val (.int (Int32.ofNat len)), .val (.ref s.heap.size), .unset, .unset] [.int (Int32.ofNat len), .int (Int32.ofNat 0), .ref s.heap.size, .int (Int32.ofNat o), .ref b])) rfl (by rw [hml]; rfl) c5 (argsL := [.ref b, .int (Int32.ofNat o), .ref s.heap.size, .int (Int32.ofNat 0), .int (Int32.ofNat len)]) (rest := []) rfl rfl (by show 2 * 0 + 0 ≤ _; decide) (hb hbytes d9) (⟨rfl, hA3, ba3, hne, l1, by rw [bs3]; simp, hp⟩)
  obtain ⟨rfl, B6, p6, f6⟩ := E6
  have c7 : Steps p.tables e below (s₁.setTop (entryFrame m #[.ref b, .int (Int32.ofNat o), .int (Int32.ofNat len)] 6)) (T6.setTop (mkF m 12 #[.val (.ref b), .val (.int (Int32.ofNat o)), .val (.int (Int32.ofNat len)), .val (.ref s.heap.size), .unset, .unset] [.int (Int32.ofNat len)])) := g6
  have c8 : Steps p.tables e below (s₁.setTop (entryFrame m #[.ref b, .int (Int32.ofNat o), .int (Int32.ofNat len)] 6)) (T6.setTop (mkF m 58 #[.val (.ref b), .val (.int (Int32.ofNat o)), .val (.int (Int32.ofNat len)), .val (.ref s.heap.size), .val (.int (Int32.ofNat len)), .unset] [.ref s.heap.size])) := c7.trans (by
    refine XS.istore X6.here hexec rfl (hb hbytes d12) rfl rfl ?_
    refine XS.iload X6.here hexec rfl (hb hbytes d14) rfl ?_
    refine XS.iloadN X6.here hexec rfl (hb hbytes d16) rfl ?_
    refine XS.icmpYes X6.here hexec rfl (pc0 := 17) rfl (hb hbytes d17) rfl (ii_eq_t rfl) (by decide) rfl ?_
    refine XS.aloadN X6.here hexec rfl (hb hbytes d57) rfl rfl ?_
    exact Steps.refl _)
  have X8 := X6.wide (L' := []) (cells' := 1) (slots' := len) (fun x hx hlt => by
    simp only [List.nil_append, copyLocs, List.mem_map, List.mem_range] at hx
    obtain ⟨i, -, rfl⟩ := hx
    exact absurd hlt (Nat.lt_irrefl _)) (Nat.le_refl _) (by omega)
  exact ⟨T6, some (.ref s.heap.size), _, _, _, X8, rfl, rfl, rfl, (fun h => by cases h), ⟨⟨rfl, B6, ba3.like (X3.warmed.alike.symm.trans X6.warmed.alike) p6.1 f6.1 f6.2.1 f6.2.2.1, f6.2.1.trans bv3, by rw [X6.warmed.alike.findClass, f6.1]; exact bf3, by rw [f6.2.2.1, bs3]; simp, fun j hj => by rw [f6.2.2.2 j, if_pos (by omega)]; rfl, kp3.put p6 (Nat.le_refl _)⟩, by rw [p6.2.2, bh3, hh0]; simp⟩, fun fs hl => c8.trans (X8.areturnOut hexec rfl hret rfl (hb hbytes d58) hl)⟩
end Cmp3
namespace CodL
def yN : MethodName := ⟨"java/lang/StringUTF16", "coderFromArrayLen", "([BI)B"⟩
abbrev yB : ByteArray := jdk_52_method_15_code
theorem d0 : decode yB 0 = .ok (.iload_n 1, 1) := by decide +kernel
theorem d1 : decode yB 1 = .ok (.aload_n 0, 1) := by decide +kernel
theorem d2 : decode yB 2 = .ok (.arraylength, 1) := by decide +kernel
theorem d3 : decode yB 3 = .ok (.isub, 1) := by decide +kernel
theorem d4 : decode yB 4 = .ok (.bipush 31, 2) := by decide +kernel
theorem d6 : decode yB 6 = .ok (.iushr, 1) := by decide +kernel
theorem d7 : decode yB 7 = .ok (.i2b, 1) := by decide +kernel
theorem d8 : decode yB 8 = .ok (.ireturn, 1) := by decide +kernel
def site : List Cond := []
def tab : Cond := tabOf yN yB 2 (some .byte) site
def P (d : Addr) (B : Cell) (args : Array Value) (s : State) : Prop := args = #[.ref d, .int (Int32.ofNat B.slots.size)] ∧ Arr .byte d B s
def E (r : Option Value) (s u : State) : Prop := XT.PureE (some (.int 0)) r s u
/-- an array as long as the number of chars: LATIN1 -/
theorem law (l : Launch) (d : Addr) (B : Cell) : Law l yN 2 2 0 0 yB 2 (some .byte) site (P d B) E [] 0 0 := by
  refine Law.of_walk (plainFor_of_name (by decide +kernel)) (by decide +kernel) (by decide +kernel) (by decide) (fun _ _ h => by rw [h.1]; rfl) (fun _ U U' hal hh h => ⟨h.1, h.2.mv hal hh⟩) (fun r U U' V V' h1 hal h2 h => XT.PureE.mv r U U' V V' h1 hal h2 h) ?_
  intro p e s m args below meth c s₁ X0 hexec hbytes hml hret hlk hnm hown hh0 W hP
  obtain ⟨rfl, hB⟩ := hP
  have hB0 := hB.mv X0.warmed.alike hh0
  have c1 : Steps p.tables e below (s₁.setTop (entryFrame m #[.ref d, .int (Int32.ofNat B.slots.size)] 2)) (s₁.setTop (mkF m 0 #[.val (.ref d), .val (.int (Int32.ofNat B.slots.size))] [])) := entry rfl
  have c2 : Steps p.tables e below (s₁.setTop (entryFrame m #[.ref d, .int (Int32.ofNat B.slots.size)] 2)) (s₁.setTop (mkF m 2 #[.val (.ref d), .val (.int (Int32.ofNat B.slots.size))] [.ref d, .int (Int32.ofNat B.slots.size)])) := c1.trans (by
    refine XS.iloadN X0.here hexec rfl (hb hbytes d0) rfl ?_
    refine XS.aloadN X0.here hexec rfl (hb hbytes d1) rfl rfl ?_
    exact Steps.refl _)
  have c3 : Steps p.tables e below (s₁.setTop (entryFrame m #[.ref d, .int (Int32.ofNat B.slots.size)] 2)) (s₁.setTop (mkF m 8 #[.val (.ref d), .val (.int (Int32.ofNat B.slots.size))] [.int (lo8 (ushr (Int32.ofNat B.slots.size - Int32.ofNat B.slots.size) 31))])) := c2.trans (by
    refine X0.alen hexec hB0 rfl rfl (hb hbytes d2) ?_
    refine XS.isub X0.here hexec rfl (hb hbytes d3) rfl ?_
    refine bipushV X0.here hexec rfl 31 (hb hbytes d4) (by decide) ?_
    refine iushr X0.here hexec rfl (hb hbytes d6) rfl ?_
    refine i2b X0.here hexec rfl (hb hbytes d7) rfl ?_
    exact Steps.refl _)
  have e0 : lo8 (ushr (Int32.ofNat B.slots.size - Int32.ofNat B.slots.size) 31) = 0 := by rw [Int32.sub_self]; decide
  rw [e0] at c3
  exact ⟨s₁, some (.int 0), _, _, _, X0, rfl, rfl, rfl, (fun h => by cases h), ⟨rfl, hh0⟩, fun fs hl => c3.trans (X0.ireturnOut hexec hret rfl (Or.inr (Or.inr (Or.inl rfl))) (hb hbytes d8) hl)⟩
end CodL
/-- the String at a is Latin-1 over a new byte[] (the heap's one new cell): the low bytes of the len chars of A from o on; every cell but a is kept -/
def Got (a : Addr) (D : Cell) (fV fC : Field) (A : Cell) (o len : Nat) (r : Option Value) (s u : State) : Prop := r = none ∧ ∃ D' V : Cell, Blank "java/lang/String" a D' u ∧ Same D D' [fV.slot, fC.slot] ∧ D'.slots[fV.slot]? = some (.ref s.heap.size) ∧ D'.slots[fC.slot]? = some (.int 0) ∧ Arr .byte s.heap.size V u ∧ V.vm = .none ∧ u.vm.findClass "[B" = some V.cls ∧ V.slots.size = len ∧ (∀ j, j < len → V.slots[j]? = some (.int (lo8 (cv A (o + j))))) ∧ (∀ (y : Addr) (c : Cell), y ≠ a → s.heap[y]? = some c → u.heap[y]? = some c) ∧ u.heap.size = s.heap.size + 1
theorem Got.mv {a : Addr} {D A : Cell} {fV fC : Field} {o len : Nat} : ∀ r (U U' V V' : State), U'.heap = U.heap → V.vm.Alike V'.vm → V'.heap = V.heap → Got a D fV fC A o len r U V → Got a D fV fC A o len r U' V' :=
  fun r U U' V V' h1 hal h2 ⟨e0, D', X, a1, a2, a3, a4, a5, a6, a7, a8, a9, a10, a11⟩ => ⟨e0, D', X, a1.mv hal h2, a2, by rw [h1]; exact a3, a4, by rw [h1]; exact a5.mv hal h2, a6, by rw [hal.findClass]; exact a7, a8, a9, by rw [h1, h2]; exact a10, by rw [h1, h2]; exact a11⟩
namespace New4
def yN : MethodName := ⟨"java/lang/String", "<init>", "([CIILjava/lang/Void;)V"⟩
abbrev yB : ByteArray := jdk_42_method_149_code
theorem d0 : decode yB 0 = .ok (.aload_n 0, 1) := by decide +kernel
theorem d1 : decode yB 1 = .ok (.invokespecial 1, 3) := by decide +kernel
theorem d4 : decode yB 4 = .ok (.iload_n 3, 1) := by decide +kernel
theorem d5 : decode yB 5 = .ok (.ifCond (.ne) 22, 3) := by decide +kernel
theorem d27 : decode yB 27 = .ok (.getstatic 38, 3) := by decide +kernel
theorem d30 : decode yB 30 = .ok (.ifCond (.eq) 28, 3) := by decide +kernel
theorem d33 : decode yB 33 = .ok (.aload_n 1, 1) := by decide +kernel
theorem d34 : decode yB 34 = .ok (.iload_n 2, 1) := by decide +kernel
theorem d35 : decode yB 35 = .ok (.iload_n 3, 1) := by decide +kernel
theorem d36 : decode yB 36 = .ok (.invokestatic 177, 3) := by decide +kernel
theorem d39 : decode yB 39 = .ok (.astore 5, 2) := by decide +kernel
theorem d41 : decode yB 41 = .ok (.aload_n 0, 1) := by decide +kernel
theorem d42 : decode yB 42 = .ok (.aload 5, 2) := by decide +kernel
theorem d44 : decode yB 44 = .ok (.iload_n 3, 1) := by decide +kernel
theorem d45 : decode yB 45 = .ok (.invokestatic 47, 3) := by decide +kernel
theorem d48 : decode yB 48 = .ok (.putfield 15, 3) := by decide +kernel
theorem d51 : decode yB 51 = .ok (.aload_n 0, 1) := by decide +kernel
theorem d52 : decode yB 52 = .ok (.aload 5, 2) := by decide +kernel
theorem d54 : decode yB 54 = .ok (.putfield 9, 3) := by decide +kernel
theorem d57 : decode yB 57 = .ok (.return_, 1) := by decide +kernel
def site : List Cond := [.fieldLink "java/lang/String" 38 "java/lang/String" "COMPACT_STRINGS" "Z", Cmp3.tab, CodL.tab, .laysFinal "java/lang/String" "java/lang/String" "value" "[B", .fieldLink "java/lang/String" 9 "java/lang/String" "value" "[B", .laysFinal "java/lang/String" "java/lang/String" "coder" "B", .fieldLink "java/lang/String" 15 "java/lang/String" "coder" "B"] ++ objW "java/lang/String" 1 ++ staticW "java/lang/String" 177 Cmp3.yN ++ staticW "java/lang/String" 47 CodL.yN
def tab : Cond := tabOf yN yB 6 none site
def P (a : Addr) (D : Cell) (fV fC : Field) (b : Addr) (A : Cell) (z : Int32) (o len : Nat) (args : Array Value) (s : State) : Prop := args = #[.ref a, .ref b, .int (Int32.ofNat o), .int (Int32.ofNat len), .null] ∧ Blank "java/lang/String" a D s ∧ Found "java/lang/String" "value" "[B" fV s ∧ Found "java/lang/String" "coder" "B" fC s ∧ Ch b A s ∧ StaticIs s "java/lang/String" "COMPACT_STRINGS" "Z" (.int z) ∧ ¬ z = 0 ∧ 0 < len ∧ o + len ≤ A.slots.size ∧ len ≤ 536870912 ∧ ∀ i, i < len → ¬ 255 < cv A (o + i)
def E (a : Addr) (D : Cell) (fV fC : Field) (A : Cell) (o len : Nat) (r : Option Value) (s u : State) : Prop := Got a D fV fC A o len r s u
/-- len > 0, no char of the range above 255: a Latin-1 String of their low bytes -/
theorem law (l : Launch) (a : Addr) (D : Cell) (fV fC : Field) (b : Addr) (A : Cell) (z : Int32) (o len : Nat) : Law l yN 5 4 2 35 yB 6 none site (P a D fV fC b A z o len) (E a D fV fC A o len) [⟨a, fC.slot⟩, ⟨a, fV.slot⟩] 1 len := by
  refine Law.of_walk (plainFor_of_name (by decide +kernel)) (by decide +kernel) (by decide +kernel) (by decide) (fun _ _ h => by rw [h.1]; rfl) (fun _ U U' hal hh h => ⟨h.1, h.2.1.mv hal hh, h.2.2.1.al hal, h.2.2.2.1.al hal, h.2.2.2.2.1.mv hal hh, h.2.2.2.2.2.1.there hal hh, h.2.2.2.2.2.2⟩) (fun r U U' V V' h1 hal h2 h => Got.mv r U U' V V' h1 hal h2 h) ?_
  intro p e s m args below meth c s₁ X0 hexec hbytes hml hret hlk hnm hown hh0 W hP
  obtain ⟨rfl, hB, f1, f2, hA, s1, hz, l0, l1, l2, hp⟩ := hP
  have a31 := hA.1.2.2.2
  have c1 : Steps p.tables e below (s₁.setTop (entryFrame m #[.ref a, .ref b, .int (Int32.ofNat o), .int (Int32.ofNat len), .null] 6)) (s₁.setTop (mkF m 0 #[.val (.ref a), .val (.ref b), .val (.int (Int32.ofNat o)), .val (.int (Int32.ofNat len)), .val .null, .unset] [])) := entry rfl
  have c2 : Steps p.tables e below (s₁.setTop (entryFrame m #[.ref a, .ref b, .int (Int32.ofNat o), .int (Int32.ofNat len), .null] 6)) (s₁.setTop (mkF m 1 #[.val (.ref a), .val (.ref b), .val (.int (Int32.ofNat o)), .val (.int (Int32.ofNat len)), .val .null, .unset] [.ref a])) := c1.trans (by
    refine XS.aloadN X0.here hexec rfl (hb hbytes d0) rfl rfl ?_
    exact Steps.refl _)
  obtain ⟨T3, X3, q3, st3⟩ := X0.oinit hexec hown (wks W (objW "java/lang/String" 1)) (g := (mkF m 1 #[.val (.ref a), .val (.ref b), .val (.int (Int32.ofNat o)), .val (.int (Int32.ofNat len)), .val .null, .unset] [.ref a])) rfl (by rw [hml]; rfl) (rest := []) rfl (hb hbytes d1) (W := 0) (by show 2 * 0 + 0 ≤ _; decide) (Nat.le_of_ble_eq_true rfl) (Nat.le_of_ble_eq_true rfl)
  have hh3 := q3.trans hh0
  have c4 : Steps p.tables e below (s₁.setTop (entryFrame m #[.ref a, .ref b, .int (Int32.ofNat o), .int (Int32.ofNat len), .null] 6)) (T3.setTop (mkF m 27 #[.val (.ref a), .val (.ref b), .val (.int (Int32.ofNat o)), .val (.int (Int32.ofNat len)), .val .null, .unset] [])) := (c2.trans (st3 _ (Steps.refl _))).trans (by
    refine XS.iloadN X3.here hexec rfl (hb hbytes d4) rfl ?_
    refine XS.ifYes X3.here hexec rfl (pc0 := 5) rfl (hb hbytes d5) rfl (i0_ne_t (nz32 (by omega) l0)) (by decide) rfl ?_
    exact Steps.refl _)
  obtain ⟨T5, X5, q5, st5⟩ := X3.sget hexec hown (wk W (.fieldLink "java/lang/String" 38 "java/lang/String" "COMPACT_STRINGS" "Z")) s1 (fun _ _ h => by rw [hh3]; exact h) (g := (mkF m 27 #[.val (.ref a), .val (.ref b), .val (.int (Int32.ofNat o)), .val (.int (Int32.ofNat len)), .val .null, .unset] [])) rfl (hb hbytes d27)
  have hh5 := q5.trans hh3
  have c6 : Steps p.tables e below (s₁.setTop (entryFrame m #[.ref a, .ref b, .int (Int32.ofNat o), .int (Int32.ofNat len), .null] 6)) (T5.setTop (mkF m 30 #[.val (.ref a), .val (.ref b), .val (.int (Int32.ofNat o)), .val (.int (Int32.ofNat len)), .val .null, .unset] [.int z])) := c4.trans (st5 _ (Steps.refl _))
  have c7 : Steps p.tables e below (s₁.setTop (entryFrame m #[.ref a, .ref b, .int (Int32.ofNat o), .int (Int32.ofNat len), .null] 6)) (T5.setTop (mkF m 36 #[.val (.ref a), .val (.ref b), .val (.int (Int32.ofNat o)), .val (.int (Int32.ofNat len)), .val .null, .unset] [.int (Int32.ofNat len), .int (Int32.ofNat o), .ref b])) := c6.trans (by
    refine XS.ifNo X5.here hexec rfl (hb hbytes d30) rfl (i0_eq_f hz) ?_
    refine XS.aloadN X5.here hexec rfl (hb hbytes d33) rfl rfl ?_
    refine XS.iloadN X5.here hexec rfl (hb hbytes d34) rfl ?_
    refine XS.iloadN X5.here hexec rfl (hb hbytes d35) rfl ?_
    exact Steps.refl _)
  obtain ⟨v8, T8, X8, E8, g8⟩ := X5.callS hexec (Cmp3.law l b A o len) hown (wks W (staticW "java/lang/String" 177 Cmp3.yN)) (wk W Cmp3.tab) (W := 0) (Nat.le_of_ble_eq_true rfl) (Nat.le_of_ble_eq_true rfl) (Nat.le_refl _) (by show 0 + len ≤ len; omega) (g := (mkF m 36 #[.val (.ref a), .val (.ref b), .val (.int (Int32.ofNat o)), .val (.int (Int32.ofNat len)), .val .null, .unset] [.int (Int32.ofNat len), .int (Int32.ofNat o), .ref b])) rfl (by rw [hml]; rfl) c7 (argsL := [.ref b, .int (Int32.ofNat o), .int (Int32.ofNat len)]) (rest := []) rfl rfl (by show 2 * 0 + 0 ≤ _; decide) (hb hbytes d36) (⟨rfl, hA.mv X5.warmed.alike hh5, l1, l2, hp⟩)
  obtain ⟨e8, z8⟩ := E8
  obtain ⟨rfl, N, n1, n2, n3, n4, n5, n6⟩ := NewArr.mv _ T5 s _ _ hh5.symm (Vm.Alike.refl _) rfl e8
  rw [hh5] at z8
  have hB1 := hB.keep X8.warmed.alike (n6 _ _ hB.1)
  have hne : s.heap.size ≠ a := (Nat.ne_of_lt (Array.getElem?_eq_some_iff.mp hB.1).1).symm
  have c9 : Steps p.tables e below (s₁.setTop (entryFrame m #[.ref a, .ref b, .int (Int32.ofNat o), .int (Int32.ofNat len), .null] 6)) (T8.setTop (mkF m 39 #[.val (.ref a), .val (.ref b), .val (.int (Int32.ofNat o)), .val (.int (Int32.ofNat len)), .val .null, .unset] [.ref s.heap.size])) := g8
  have c10 : Steps p.tables e below (s₁.setTop (entryFrame m #[.ref a, .ref b, .int (Int32.ofNat o), .int (Int32.ofNat len), .null] 6)) (T8.setTop (mkF m 45 #[.val (.ref a), .val (.ref b), .val (.int (Int32.ofNat o)), .val (.int (Int32.ofNat len)), .val .null, .val (.ref s.heap.size)] [.int (Int32.ofNat N.slots.size), .ref s.heap.size, .ref a])) := by
    have hc : Steps p.tables e below (s₁.setTop (entryFrame m #[.ref a, .ref b, .int (Int32.ofNat o), .int (Int32.ofNat len), .null] 6)) (T8.setTop (mkF m 45 #[.val (.ref a), .val (.ref b), .val (.int (Int32.ofNat o)), .val (.int (Int32.ofNat len)), .val .null, .val (.ref s.heap.size)] [.int (Int32.ofNat len), .ref s.heap.size, .ref a])) := c9.trans (by
      refine XS.astore X8.here hexec rfl (hb hbytes d39) rfl rfl rfl ?_
      refine XS.aloadN X8.here hexec rfl (hb hbytes d41) rfl rfl ?_
      refine XS.aload X8.here hexec rfl (hb hbytes d42) rfl rfl ?_
      refine XS.iloadN X8.here hexec rfl (hb hbytes d44) rfl ?_
      exact Steps.refl _)
    rw [n4]; exact hc
  obtain ⟨v11, T11, X11, E11, g11⟩ := X8.callS hexec (CodL.law l s.heap.size N) hown (wks W (staticW "java/lang/String" 47 CodL.yN)) (wk W CodL.tab) (W := 1) (Nat.le_of_ble_eq_true rfl) (Nat.le_of_ble_eq_true rfl) (Nat.le_refl _) (by show 0 + len + 0 ≤ len; omega) (g := (mkF m 45 #[.val (.ref a), .val (.ref b), .val (.int (Int32.ofNat o)), .val (.int (Int32.ofNat len)), .val .null, .val (.ref s.heap.size)] [.int (Int32.ofNat N.slots.size), .ref s.heap.size, .ref a])) rfl (by rw [hml]; rfl) c10 (argsL := [.ref s.heap.size, .int (Int32.ofNat N.slots.size)]) (rest := [.ref a]) rfl rfl (by show 2 * 0 + (1 + 0) ≤ _; decide) (hb hbytes d45) (⟨rfl, n1⟩)
  obtain ⟨rfl, q11⟩ := E11
  have hB11 := hB1.mv (X8.warmed.alike.symm.trans X11.warmed.alike) q11
  have c12 : Steps p.tables e below (s₁.setTop (entryFrame m #[.ref a, .ref b, .int (Int32.ofNat o), .int (Int32.ofNat len), .null] 6)) (T11.setTop (mkF m 48 #[.val (.ref a), .val (.ref b), .val (.int (Int32.ofNat o)), .val (.int (Int32.ofNat len)), .val .null, .val (.ref s.heap.size)] [.int 0, .ref a])) := g11
  obtain ⟨T13, X13, p13, bl13, sl13, st13⟩ := X11.finit hexec hown (wk W (.fieldLink "java/lang/String" 15 "java/lang/String" "coder" "B")) (Or.inr ⟨_, (wk W (.laysFinal "java/lang/String" "java/lang/String" "coder" "B"))⟩) (Or.inl ⟨rfl, hnm⟩) f2 (Or.inl rfl) hB11 (t := .byte) (by decide +kernel) rfl (g := (mkF m 48 #[.val (.ref a), .val (.ref b), .val (.int (Int32.ofNat o)), .val (.int (Int32.ofNat len)), .val .null, .val (.ref s.heap.size)] [.int 0, .ref a])) rfl (rest := []) rfl (hb hbytes d48)
  have c14 : Steps p.tables e below (s₁.setTop (entryFrame m #[.ref a, .ref b, .int (Int32.ofNat o), .int (Int32.ofNat len), .null] 6)) (T13.setTop (mkF m 54 #[.val (.ref a), .val (.ref b), .val (.int (Int32.ofNat o)), .val (.int (Int32.ofNat len)), .val .null, .val (.ref s.heap.size)] [.ref s.heap.size, .ref a])) := (c12.trans (st13 _ (Steps.refl _))).trans (by
    refine XS.aloadN X13.here hexec rfl (hb hbytes d51) rfl rfl ?_
    refine XS.aload X13.here hexec rfl (hb hbytes d52) rfl rfl ?_
    exact Steps.refl _)
  obtain ⟨T15, X15, p15, bl15, sl15, st15⟩ := X13.finit hexec hown (wk W (.fieldLink "java/lang/String" 9 "java/lang/String" "value" "[B")) (Or.inr ⟨_, (wk W (.laysFinal "java/lang/String" "java/lang/String" "value" "[B"))⟩) (Or.inl ⟨rfl, hnm⟩) f1 (Or.inl rfl) bl13 (t := (.array .byte)) (by decide +kernel) rfl (g := (mkF m 54 #[.val (.ref a), .val (.ref b), .val (.int (Int32.ofNat o)), .val (.int (Int32.ofNat len)), .val .null, .val (.ref s.heap.size)] [.ref s.heap.size, .ref a])) rfl (rest := []) rfl (hb hbytes d54)
  have c16 : Steps p.tables e below (s₁.setTop (entryFrame m #[.ref a, .ref b, .int (Int32.ofNat o), .int (Int32.ofNat len), .null] 6)) (T15.setTop (mkF m 57 #[.val (.ref a), .val (.ref b), .val (.int (Int32.ofNat o)), .val (.int (Int32.ofNat len)), .val .null, .val (.ref s.heap.size)] [])) := c14.trans (st15 _ (Steps.refl _))
  have ap := apart (Or.inr ⟨_, (wk W (.laysFinal "java/lang/String" "java/lang/String" "value" "[B"))⟩) (Or.inr ⟨_, (wk W (.laysFinal "java/lang/String" "java/lang/String" "coder" "B"))⟩) f1 f2 (t₁ := .array .byte) (t₂ := .byte) (by decide +kernel) (by decide +kernel) (by decide)
  have al := X8.warmed.alike.symm.trans X15.warmed.alike
  have n7 : T11.heap[s.heap.size]? = some N := by rw [q11]; exact n1.1
  exact ⟨T15, none, _, _, _, X15, by simp, rfl, by omega, (fun _ => rfl), ⟨rfl, _, N, bl15, ((Same.refl D _).set _ (by simp)).set _ (by simp), sl15, (Cell.slots_setSlot_ne _ ap).trans sl13, n1.keep al (p15.other hne (p13.other hne n7)), n2, by rw [al.findClass]; exact n3, n4, n5, fun y c h1 h2 => p15.other h1 (p13.other h1 (by rw [q11]; exact n6 y c h2)), by rw [p15.2.2, p13.2.2, q11]; exact z8⟩, fun fs hl => c16.trans (X15.returnOut hexec hret (hb hbytes d57) hl)⟩
end New4
namespace New1
def yN : MethodName := ⟨"java/lang/String", "<init>", "([C)V"⟩
abbrev yB : ByteArray := jdk_42_method_3_code
theorem d0 : decode yB 0 = .ok (.aload_n 0, 1) := by decide +kernel
theorem d1 : decode yB 1 = .ok (.aload_n 1, 1) := by decide +kernel
theorem d2 : decode yB 2 = .ok (.iconst 0, 1) := by decide +kernel
theorem d3 : decode yB 3 = .ok (.aload_n 1, 1) := by decide +kernel
theorem d4 : decode yB 4 = .ok (.arraylength, 1) := by decide +kernel
theorem d5 : decode yB 5 = .ok (.aconst_null, 1) := by decide +kernel
theorem d6 : decode yB 6 = .ok (.invokespecial 27, 3) := by decide +kernel
theorem d9 : decode yB 9 = .ok (.return_, 1) := by decide +kernel
def site : List Cond := [New4.tab] ++ initW "java/lang/String" 27 New4.yN
def tab : Cond := tabOf yN yB 2 none site
def P (a : Addr) (D : Cell) (fV fC : Field) (b : Addr) (A : Cell) (z : Int32) (args : Array Value) (s : State) : Prop := args = #[.ref a, .ref b] ∧ Blank "java/lang/String" a D s ∧ Found "java/lang/String" "value" "[B" fV s ∧ Found "java/lang/String" "coder" "B" fC s ∧ Ch b A s ∧ StaticIs s "java/lang/String" "COMPACT_STRINGS" "Z" (.int z) ∧ ¬ z = 0 ∧ 0 < A.slots.size ∧ A.slots.size ≤ 536870912 ∧ ∀ i, i < A.slots.size → ¬ 255 < cv A i
def E (a : Addr) (D : Cell) (fV fC : Field) (A : Cell) (r : Option Value) (s u : State) : Prop := Got a D fV fC A 0 A.slots.size r s u
/-- new String(chars), not empty, no char above 255: a Latin-1 String of their low bytes -/
theorem law (l : Launch) (a : Addr) (D : Cell) (fV fC : Field) (b : Addr) (A : Cell) (z : Int32) : Law l yN 2 1 3 52 yB 2 none site (P a D fV fC b A z) (E a D fV fC A) [⟨a, fC.slot⟩, ⟨a, fV.slot⟩] 1 A.slots.size := by
  refine Law.of_walk (plainFor_of_name (by decide +kernel)) (by decide +kernel) (by decide +kernel) (by decide) (fun _ _ h => by rw [h.1]; rfl) (fun _ U U' hal hh h => ⟨h.1, h.2.1.mv hal hh, h.2.2.1.al hal, h.2.2.2.1.al hal, h.2.2.2.2.1.mv hal hh, h.2.2.2.2.2.1.there hal hh, h.2.2.2.2.2.2⟩) (fun r U U' V V' h1 hal h2 h => Got.mv r U U' V V' h1 hal h2 h) ?_
  intro p e s m args below meth c s₁ X0 hexec hbytes hml hret hlk hnm hown hh0 W hP
  obtain ⟨rfl, hB, f1, f2, hA, s1, hz, l0, l2, hp⟩ := hP
  have c1 : Steps p.tables e below (s₁.setTop (entryFrame m #[.ref a, .ref b] 2)) (s₁.setTop (mkF m 0 #[.val (.ref a), .val (.ref b)] [])) := entry rfl
  have c2 : Steps p.tables e below (s₁.setTop (entryFrame m #[.ref a, .ref b] 2)) (s₁.setTop (mkF m 6 #[.val (.ref a), .val (.ref b)] [.null, .int (Int32.ofNat A.slots.size), .int 0, .ref b, .ref a])) := c1.trans (by
    refine XS.aloadN X0.here hexec rfl (hb hbytes d0) rfl rfl ?_
    refine XS.aloadN X0.here hexec rfl (hb hbytes d1) rfl rfl ?_
    refine iconstV X0.here hexec rfl 0 (hb hbytes d2) (by decide) ?_
    refine XS.aloadN X0.here hexec rfl (hb hbytes d3) rfl rfl ?_
    refine X0.alen hexec (hA.1.mv X0.warmed.alike hh0) rfl rfl (hb hbytes d4) ?_
    refine XS.aconstNull X0.here hexec rfl (hb hbytes d5) ?_
    exact Steps.refl _)
  obtain ⟨v3, T3, X3, E3, g3⟩ := X0.callN hexec (New4.law l a D fV fC b A z 0 A.slots.size) rfl hown (wks W (initW "java/lang/String" 27 New4.yN)) (W New4.tab (by simp only [site, List.mem_cons, List.mem_append, true_or, or_true])) (W := 0) (Nat.le_of_ble_eq_true rfl) (Nat.le_of_ble_eq_true rfl) (Nat.le_refl _) (by show 0 + A.slots.size ≤ A.slots.size; omega) (g := (mkF m 6 #[.val (.ref a), .val (.ref b)] [.null, .int (Int32.ofNat A.slots.size), .int (Int32.ofNat 0), .ref b, .ref a])) rfl (by rw [hml]; rfl) c2 (argsL := [.ref b, .int (Int32.ofNat 0), .int (Int32.ofNat A.slots.size), .null]) (rest := []) rfl rfl (by show 2 * 0 + 0 ≤ _; decide) (hb hbytes d6) (⟨rfl, hB.mv X0.warmed.alike hh0, f1.al X0.warmed.alike, f2.al X0.warmed.alike, hA.mv X0.warmed.alike hh0, s1.there X0.warmed.alike hh0, hz, l0, by omega, l2, fun i hi => by rw [Nat.zero_add]; exact hp i hi⟩)
  have e0 := Got.mv _ s₁ s _ _ hh0.symm (Vm.Alike.refl _) rfl E3
  obtain rfl := e0.1
  have c4 : Steps p.tables e below (s₁.setTop (entryFrame m #[.ref a, .ref b] 2)) (T3.setTop (mkF m 9 #[.val (.ref a), .val (.ref b)] [])) := g3
  exact ⟨T3, none, _, _, _, X3, by simp, rfl, by omega, (fun _ => rfl), e0, fun fs hl => c4.trans (X3.returnOut hexec hret (hb hbytes d9) hl)⟩
theorem pays {l : Launch} {R : Room} {p : Program} {e : Env} {below : List Frame} {s : State} {sargs : Array Value} {len W : Nat} (a : Addr) (D : Cell) (fV fC : Field) (b : Addr) (A : Cell) (z : Int32) (htab : tab.before sargs s = true) (hfr : 4 ≤ R.frames) (hlo : W + 65 ≤ R.locals) :
    Back l R p e below s sargs yN len W (fun A₁ a₁ => A₁.cells + 1 ≤ R.cells ∧ A₁.slots + A.slots.size ≤ R.slots ∧ P a D fV fC b A z a₁ A₁.U) (fun A₁ _ v₁ B₁ => E a D fV fC A v₁ A₁.U B₁.U ∧ B₁.locs = A₁.locs ++ [⟨a, fC.slot⟩, ⟨a, fV.slot⟩] ∧ B₁.cells = A₁.cells + 1 ∧ B₁.slots = A₁.slots + A.slots.size) :=
  (law l a D fV fC b A z).pays htab hfr (by omega)
end New1
end StrChars
namespace StrChars.Road
open Jvm Sem ClassFile Op Lib Jvm.Stand Jvm.Free Jvm.Free.XT
open Jvm.Lib.Cold (StaticIs)
abbrev ST : String := "java/lang/String"
/-- every table word that New1's law asks, flat -/
abbrev words : List Jvm.Cond := [.code New1.yN New1.yB 2 none, .initialized ST, .methodLink ST 27 New4.yN, .instanceMethod New4.yN,
  .code New4.yN New4.yB 6 none, .fieldLink ST 38 ST "COMPACT_STRINGS" "Z", .laysFinal ST ST "value" "[B", .fieldLink ST 9 ST "value" "[B", .laysFinal ST ST "coder" "B", .fieldLink ST 15 ST "coder" "B",
  .methodLink ST 1 Lib.objectInit, .instanceMethod Lib.objectInit, .code Lib.objectInit ⟨#[0xb1]⟩ 1 none, .methodLink ST 177 Cmp3.yN, .static Cmp3.yN, .methodLink ST 47 CodL.yN, .static CodL.yN,
  .code Cmp3.yN Cmp3.yB 6 (some (.array .byte)), .initialized U16, .arrayClass .byte, .methodLink U16 115 Cmp5.yN, .static Cmp5.yN, .code Cmp5.yN Cmp5.yB 7 (some .int), .code CodL.yN CodL.yB 2 (some .byte)]
theorem tab_of {a : Array Value} {s : State} (h : ∀ w ∈ words, w.before a s = true) : New1.tab.before a s = true := by
  have h5 : Cmp5.tab.before a s = true := unparts (wk h (.code Cmp5.yN Cmp5.yB 7 (some .int))) (wks h (.initialized Cmp5.yN.cls :: Cmp5.site))
  have hc : CodL.tab.before a s = true := unparts (wk h (.code CodL.yN CodL.yB 2 (some .byte))) (wks h (.initialized CodL.yN.cls :: CodL.site))
  have q5 : ∀ w ∈ Cmp5.tab :: words, w.before a s = true := fun w hw => (List.mem_cons.mp hw).elim (fun e => e ▸ h5) (h w)
  have h3 : Cmp3.tab.before a s = true := unparts (wk q5 (.code Cmp3.yN Cmp3.yB 6 (some (.array .byte)))) (wks q5 (.initialized Cmp3.yN.cls :: Cmp3.site))
  have q3 : ∀ w ∈ Cmp3.tab :: CodL.tab :: words, w.before a s = true := fun w hw => (List.mem_cons.mp hw).elim (fun e => e ▸ h3) fun hw => (List.mem_cons.mp hw).elim (fun e => e ▸ hc) (h w)
  have h4 : New4.tab.before a s = true := unparts (wk q3 (.code New4.yN New4.yB 6 none)) (wks q3 (.initialized New4.yN.cls :: New4.site))
  have q4 : ∀ w ∈ New4.tab :: words, w.before a s = true := fun w hw => (List.mem_cons.mp hw).elim (fun e => e ▸ h4) (h w)
  exact unparts (wk q4 (.code New1.yN New1.yB 2 none)) (wks q4 (.initialized New1.yN.cls :: New1.site))
/-- the words ride from the start Z to the walk's own state -/
theorem moved {Z s : State} {a0 args : Array Value} (hZ : Z.Warmed39 s.vm) (hw : ∀ d ∈ words, d.before a0 Z = true) : ∀ d ∈ words, d.before args s = true := fun d hd => by
  have q := hw d hd
  have t : ∀ d ∈ words, d = .arrayClass .byte ∨ (d.onTables && d.keepsFace) = true := by decide +kernel
  rcases t d hd with rfl | t
  · exact RoadKit.mvA hZ q
  · exact RoadKit.mv hZ q t
/-- WHAT COMES BACK, over the tables of the start Z: h the heap at the call, h' behind it -/
def Q (Z : State) (x : Addr) (A : Cell) (h : Heap) (v : Option Value) (h' : Heap) (L : List Loc) : Prop := v = none ∧ (∀ y ∈ L, y.base = x) ∧ RoadKit.Keep h h' [x] ∧ h'.size = h.size + 1 ∧ RoadKit.Exa Z h' x ST ∧ RoadKit.Fld Z h' x ST "value" "[B" (.ref h.size) ∧ RoadKit.Fld Z h' x ST "coder" "B" (.int 0) ∧
  (∃ V : Cell, RoadKit.Arr Z h' h.size V .byte ∧ V.vm = .none ∧ Z.vm.findClass "[B" = some V.cls ∧ V.slots.size = A.slots.size ∧ ∀ j, j < A.slots.size → V.slots[j]? = some (.int (lo8 (cv A j)))) ∧
  ∀ (O n d : String) (w : Value), RoadKit.Fld Z h x O n d w → RoadKit.slotOf Z O n d ≠ RoadKit.slotOf Z ST "value" "[B" → RoadKit.slotOf Z O n d ≠ RoadKit.slotOf Z ST "coder" "B" → RoadKit.Fld Z h' x O n d w
/-- **new String(chars) AT A CALL, IN THE ROAD'S FORM**: for specialBack behind newO: x the fresh String, b the char[] with the cell A -/
theorem back {p : Program} {l : Launch} {e : Env} {R : Room} {s : State} {args : Array Value} {below : List Frame} {len W : Nat} {Z : State} {a0 : Array Value} {h : Heap} (hZ : Z.Warmed39 s.vm) (hw : ∀ d ∈ words, d.before a0 Z = true) {kI : Nat} (wi : (Jvm.Cond.instantiable ST kI).before a0 Z = true)
    {x b : Addr} {A : Cell} {z : Int32} {v0 c0 : Value} (E : RoadKit.Exa Z h x ST) (V : RoadKit.Fld Z h x ST "value" "[B" v0) (C : RoadKit.Fld Z h x ST "coder" "B" c0) (K : RoadKit.Arr Z h b A .char) (hty : Typed .char A) (S : RoadKit.Sta Z h ST "COMPACT_STRINGS" "Z" (.int z)) (hz : ¬ z = 0)
    (l0 : 0 < A.slots.size) (l2 : A.slots.size ≤ 536870912) (hp : ∀ i, i < A.slots.size → ¬ 255 < cv A i) (hfr : 4 ≤ R.frames) (hlo : W + 65 ≤ R.locals) :
    Back l R p e below s args New1.yN len W (fun P a => a = #[.ref x, .ref b] ∧ P.U.heap = h ∧ P.cells + 1 ≤ R.cells ∧ P.slots + A.slots.size ≤ R.slots)
      (fun P _ v B => ∃ L, Q Z x A h v B.U.heap L ∧ B.locs = P.locs ++ L ∧ B.cells = P.cells + 1 ∧ B.slots = P.slots + A.slots.size) := by
  intro m meth c P g ig mk a X hg hsize hdg hW hn hp'
  obtain ⟨rfl, rfl, r1, r2⟩ := hp'
  have al : Z.vm.Alike P.U.vm := hZ.alike.trans X.warmed.alike
  obtain ⟨D, cfV, kV, iV, fV, hD, gV, stV, knV, obV, asV, slV⟩ := id V
  obtain ⟨D', cfC, kC, iC, fC, hD', gC, stC, -, -, asC, slC⟩ := id C
  cases hD.symm.trans hD'
  obtain ⟨D2, kD, e1, e2, e3, e4, e5⟩ := id E
  cases hD.symm.trans e1
  obtain ⟨c2, k2, i1, i2, i3, -⟩ := Cond.instantiable_spec wi
  cases e2.symm.trans i1
  cases e3.symm.trans i2
  obtain ⟨kU, u1, u2⟩ := al.2.2 _ _ e3
  have hB : Blank ST x D P.U := ⟨hD, ⟨knV, fun q hq => by rw [hq] at obV; cases obV⟩, by rw [al.findClass]; exact e2, kU, u1, by rw [u2]; exact i3, by rw [u2]; exact e5 i3⟩
  have F1 : Found ST "value" "[B" fV P.U := ⟨SBG.found_only al ⟨cfV, kV, iV, gV⟩, stV⟩
  have F2 : Found ST "coder" "B" fC P.U := ⟨SBG.found_only al ⟨cfC, kC, iC, gC⟩, stC⟩
  have hA : Ch b A P.U := ⟨⟨K.1, State.isArrayOf_alike al K.2.1, K.2.2, by omega⟩, hty⟩
  have hS : StaticIs P.U ST "COMPACT_STRINGS" "Z" (.int z) := by
    obtain ⟨cfS, iS, kS, fS, st, cS, t1, t2, t3, t4, t5, t6, t7⟩ := S
    exact StaticIs.there (s := { Z with heap := P.U.heap }) ⟨cfS, iS, kS, fS, st, cS, t1, t2, t3, t4, t5, (fun q => by rw [q] at t6; cases t6), t7⟩ al rfl
  obtain ⟨v, B, X', ⟨⟨hv, E', V', q1, q2, q3, q4, q5, q6, q7, q8, q9, q10, q11⟩, hl, hc, hs⟩, st⟩ := New1.pays x D fV fC b A z (tab_of (moved hZ hw)) hfr hlo m meth c P g ig mk _ X hg hsize hdg hW hn ⟨r1, r2, rfl, hB, F1, F2, hA, hS, hz, l0, l2, hp⟩
  have al' : Z.vm.Alike B.U.vm := hZ.alike.trans X'.warmed.alike
  have hsz : E'.slots.size = D.slots.size := by
    obtain ⟨-, -, -, kB, w1, w2, w3⟩ := q1
    obtain ⟨kB', y1, y2⟩ := al'.2.2 _ _ e3
    rw [q2.2.1] at w1
    cases w1.symm.trans y1
    rw [w3, e5 i3, y2]
  refine ⟨v, B, X', ⟨_, ⟨hv, ?_, ⟨by omega, fun y cy hy hn' => q10 y cy (by simpa using hn') hy, fun y cy hy => ?_⟩, q11, ⟨E', _, q1.1, by rw [q2.2.1]; exact e2, by rw [q2.2.1]; exact e3, by rw [q2.1]; exact obV, fun _ => by rw [hsz]; exact e5 i3⟩,
    ⟨E', cfV, kV, iV, fV, q1.1, gV, stV, by rw [q2.1]; exact knV, by rw [q2.1]; exact obV, by rw [q2.2.1]; exact asV, q3⟩, ⟨E', cfC, kC, iC, fC, q1.1, gC, stC, by rw [q2.1]; exact knV, by rw [q2.1]; exact obV, by rw [q2.2.1]; exact asC, q4⟩,
    ⟨V', ⟨q5.1, State.isArrayOf_alike al'.symm q5.2.1, q5.2.2.1⟩, q6, by rw [← al'.findClass]; exact q7, q8, fun j hj => by have := q9 j hj; rwa [Nat.zero_add] at this⟩, fun O n d w F n1 n2 => ?_⟩, hl, hc, hs⟩, st⟩
  · intro y hy
    simp only [List.mem_cons, List.not_mem_nil, or_false] at hy
    rcases hy with rfl | rfl <;> rfl
  · by_cases q : y = x
    · subst q
      cases hD.symm.trans hy
      exact ⟨E', q1.1, q2.2.1, q2.1, hsz⟩
    · exact ⟨cy, q10 y cy q hy, rfl, rfl, rfl⟩
  · obtain ⟨D3, cf, k, i, f, g1, g2, g3, g4, g5, g6, g7⟩ := F
    cases hD.symm.trans g1
    simp only [RoadKit.slotOf, g2, gV, gC, Option.map_some, Option.getD_some] at n1 n2
    exact ⟨E', cf, k, i, f, q1.1, g2, g3, by rw [q2.1]; exact g4, by rw [q2.1]; exact g5, by rw [q2.2.1]; exact g6, by rw [q2.2.2 f.slot (by simp [n1, n2])]; exact g7⟩
end StrChars.Road
namespace StrChars.Road
open Jvm Sem ClassFile Op Lib Jvm.Stand Jvm.Free Jvm.Free.XT
/-- WHAT COMES BACK, the byte[] as a list of values -/
def QA (Z : State) (x : Addr) (zn : Int32) (cs : List Int32) (h : Heap) (v : Option Value) (h' : Heap) (L : List Loc) : Prop := v = none ∧ (∀ y ∈ L, y.base = x) ∧ RoadKit.Keep h h' [x] ∧ h'.size = h.size + 1 ∧ RoadKit.Exa Z h' x ST ∧ RoadKit.Fld Z h' x ST "value" "[B" (.ref h.size) ∧ RoadKit.Fld Z h' x ST "coder" "B" (.int 0) ∧
  (∃ kb, Z.vm.findClass "[B" = some kb ∧ RoadKit.Arv Z h' h.size kb .byte zn (cs.map fun c => .int (lo8 c)) (.int 0)) ∧
  ∀ (O n d : String) (w : Value), RoadKit.Fld Z h x O n d w → RoadKit.slotOf Z O n d ≠ RoadKit.slotOf Z ST "value" "[B" → RoadKit.slotOf Z O n d ≠ RoadKit.slotOf Z ST "coder" "B" → RoadKit.Fld Z h' x O n d w
/-- **new String(chars) AT A CALL, THE ARRAYS AS LISTS**: the char[] at b holds cs, not empty, no char above 255 -/
theorem backArv {p : Program} {l : Launch} {e : Env} {R : Room} {s : State} {args : Array Value} {below : List Frame} {len W : Nat} {Z : State} {a0 : Array Value} {h : Heap} (hZ : Z.Warmed39 s.vm) (hw : ∀ d ∈ words, d.before a0 Z = true) {kI : Nat} (wi : (Jvm.Cond.instantiable ST kI).before a0 Z = true)
    {x b : Addr} {k : ClassId} {zn z : Int32} {cs : List Int32} {dv v0 c0 : Value} (E : RoadKit.Exa Z h x ST) (V : RoadKit.Fld Z h x ST "value" "[B" v0) (C : RoadKit.Fld Z h x ST "coder" "B" c0) (K : RoadKit.Arv Z h b k .char zn (cs.map Value.int) dv) (S : RoadKit.Sta Z h ST "COMPACT_STRINGS" "Z" (.int z)) (hz : ¬ z = 0)
    (hlen : zn.toNatClampNeg = cs.length) (h0 : 0 < cs.length) (hbig : cs.length ≤ 536870912) (hall : ∀ c ∈ cs, ¬ 255 < c) (hfr : 4 ≤ R.frames) (hlo : W + 65 ≤ R.locals) :
    Back l R p e below s args New1.yN len W (fun P a => a = #[.ref x, .ref b] ∧ P.U.heap = h ∧ P.cells + 1 ≤ R.cells ∧ P.slots + cs.length ≤ R.slots)
      (fun P _ v B => ∃ L, QA Z x zn cs h v B.U.heap L ∧ B.locs = P.locs ++ L ∧ B.cells = P.cells + 1 ∧ B.slots = P.slots + cs.length) := by
  obtain ⟨A, K1, K2, K3, K4, K5, K6⟩ := K
  have e : A.slots.size = cs.length := K3.trans hlen
  have hat : ∀ (i : Nat) (hi : i < cs.length), A.slots[i]? = some (.int cs[i]) := fun i hi => by rw [K5 i (by omega)]; simp [List.getD_eq_getElem?_getD, hi]
  have hcv : ∀ (i : Nat) (hi : i < cs.length), cv A i = cs[i] := fun i hi => by unfold cv; rw [hat i hi]
  have hty : Typed .char A := fun i v hv => by
    have hi : i < A.slots.size := (Array.getElem?_eq_some_iff.mp hv).1
    have q := K5 i hi
    rw [hv] at q
    rw [Option.some.inj q]
    exact K6 i hi
  refine Back.mono (back hZ hw wi E V C K1 hty S hz (by omega) (by omega) (fun i hi => by rw [hcv i (by omega)]; exact hall _ (List.getElem_mem _)) hfr hlo) (fun P a hp => ⟨hp.1, hp.2.1, hp.2.2.1, by rw [e]; exact hp.2.2.2⟩) (fun P a v B hp hq => ?_)
  obtain ⟨L, ⟨q1, q2, q3, q4, q5, q6, q7, ⟨V', v1, v2, v3, v4, v5⟩, q9⟩, hl, hc, hs⟩ := hq
  refine ⟨L, ⟨q1, q2, q3, q4, q5, q6, q7, ⟨V'.cls, v3, V', v1, rfl, by rw [v4, e, hlen], K4, fun i hi => ?_, fun i hi => ?_⟩, q9⟩, hl, hc, by rw [hs, e]⟩
  · have hi' : i < cs.length := by omega
    rw [v5 i (by omega), hcv i hi']; simp [List.getD_eq_getElem?_getD, hi']
  · have hi' : i < cs.length := by omega
    simp only [List.getD_eq_getElem?_getD, List.getElem?_map, List.getElem?_eq_getElem hi', Option.map_some, Option.getD_some]
    exact fits_lo8 _
end StrChars.Road
namespace StrChars.Road
open Jvm Sem ClassFile Op Lib Jvm.Stand Jvm.Free Jvm.Free.XT
/-- WHAT COMES BACK, in the writer's own shape -/
def QV (Z : State) (x : Addr) (N : Int32) (bs : List Int32) (h : Heap) (n0 : Nat) (v : Option Value) (h' : Heap) (L : List Loc) : Prop := v = none ∧ RoadKit.Fr n0 L ∧ RoadKit.Keep h h' [x] ∧ RoadKit.Exa Z h' x ST ∧ RoadKit.Fld Z h' x ST "coder" "B" (.int 0) ∧
  ∃ (t : Addr) (kb : ClassId), n0 ≤ t ∧ h.size ≤ t ∧ ¬ t = x ∧ RoadKit.Fld Z h' x ST "value" "[B" (.ref t) ∧ RoadKit.Arv Z h' t kb .byte N (bs.map Value.int) (.int 0)
/-- **new String(chars) AT A CALL, FOR THE WRITER**: a char[] of n known ints, each 0 to 255 -/
theorem backV {p : Program} {l : Launch} {e : Env} {R : Room} {s : State} {args : Array Value} {below : List Frame} {len W : Nat} {Z : State} {a0 : Array Value} {h : Heap} (hZ : Z.Warmed39 s.vm) (hw : ∀ d ∈ words, d.before a0 Z = true) {kI : Nat} (wi : (Jvm.Cond.instantiable ST kI).before a0 Z = true)
    {x b : Addr} {kC : ClassId} {cs bs : List Int32} {d v0 c0 : Value} {z N : Int32} {n n0 : Nat} (hx0 : n0 ≤ x) (hh0 : n0 ≤ h.size) (E : RoadKit.Exa Z h x ST) (V : RoadKit.Fld Z h x ST "value" "[B" v0) (C : RoadKit.Fld Z h x ST "coder" "B" c0) (K : RoadKit.Arv Z h b kC .char N (cs.map Value.int) d) (S : RoadKit.Sta Z h ST "COMPACT_STRINGS" "Z" (.int z)) (hz : ¬ z = 0)
    (hn : cs.length = n) (hN : N = Int32.ofNat n) (l0 : 0 < n) (l2 : n ≤ 4000) (hp : ∀ c ∈ cs, ¬ c < 0 ∧ ¬ (255 : Int32) < c) (hb : bs = cs.map (fun c => c.toInt8.toInt32)) (hfr : 4 ≤ R.frames) (hlo : W + 65 ≤ R.locals) :
    Back l R p e below s args (⟨"java/lang/String", "<init>", "([C)V"⟩ : MethodName) len W (fun P a => a = #[.ref x, .ref b] ∧ P.U.heap = h ∧ P.cells + 1 ≤ R.cells ∧ P.slots + n ≤ R.slots)
      (fun P _ v B => ∃ L, QV Z x N bs h n0 v B.U.heap L ∧ B.locs = P.locs ++ L ∧ B.cells = P.cells + 1 ∧ B.slots = P.slots + n) := by
  subst hn hN hb
  refine Back.mono (backArv hZ hw wi E V C K S hz (n32 (by omega)) l0 (by omega) (fun c hc => (hp c hc).2) hfr hlo) (fun P a hp => hp) (fun P a v B hp hq => ?_)
  obtain ⟨L, ⟨q1, q2, q3, q4, q5, q6, q7, ⟨kb, v1, v2⟩, q9⟩, hl, hc, hs⟩ := hq
  exact ⟨L, ⟨q1, fun y hy => by rw [q2 y hy]; exact hx0, q3, q5, q7, h.size, kb, hh0, Nat.le_refl _, Nat.ne_of_gt E.lt, q6, by rw [List.map_map]; exact v2⟩, hl, hc, hs⟩
end StrChars.Road
namespace StrChars
open Jvm Sem ClassFile Op Lib Jvm.Stand Jvm.Free.XT Jvm.Free.ALB Jvm.Free.JM Jvm.Free
open Jvm.Lib.Cold (StaticIs)
def hi8 (x : Int32) : Int32 := lo8 (x >>> ((8 : Int32) &&& 31))
end StrChars
namespace StrChars.Road
open Jvm Sem ClassFile Op Lib Jvm.Stand Jvm.Free Jvm.Free.XT
open Jvm.Lib.Cold (StaticIs)
/-- the bytes of the chars cs, low before high -/
def wideBytes : List Int32 → List Value
  | [] => []
  | c :: cs => .int (lo8 c) :: .int (hi8 c) :: wideBytes cs
/-- an array of N2 bytes vs codes the chars cs by the coder cd -/
def CodA (cs : List Int32) (cd N2 : Int32) (vs : List Value) : Prop := (cd = 0 ∧ N2 = Int32.ofNat cs.length ∧ vs = (cs.map fun c => Value.int (lo8 c)) ∧ ∀ c ∈ cs, ¬ 255 < c) ∨ (cd = 1 ∧ N2 = Int32.ofNat (2 * cs.length) ∧ vs = wideBytes cs ∧ ∃ c ∈ cs, 255 < c)
end StrChars.Road
namespace StrChars.Road
open Jvm Sem ClassFile Op Lib Jvm.Stand Jvm.Free Jvm.Free.XT
open Jvm.Lib.Cold (StaticIs)
/-- what backV says of its String, as the contracts of this text ask it: cs's low bytes, coder 0 -/
theorem codOf {cs : List Int32} {n : Nat} (hn : cs.length = n) (hb : ∀ c ∈ cs, ¬ 255 < c) : CodA cs 0 (Int32.ofNat n) ((cs.map lo8).map Value.int) := Or.inl ⟨rfl, by rw [hn], by simp [List.map_map, Function.comp_def], hb⟩
end StrChars.Road
end Jvm.Pilot.@@N@@

namespace Jvm.Pilot.@@N@@
namespace Own
open Jvm Jvm.ClassFile Sem Op Lib Jvm.Free Jvm.Stand Jvm.LawKit Jvm.RoadKit
section Kit
variable {p : Program} {l : Launch} {e : Env} {R : Room} {s : State} {m : MethodId} {args : Array Value} {below : List Frame} {meth : Method} {c : Code} {T : State} {locs : List Loc} {cells slots : Nat} {Z : State} {a0 : Array Value} {h : Heap}
/-- what is left to show from a state S on: the run comes to the method's end, with Q of what it returned, the heap and the places written -/
def Gl (p : Program) (e : Env) (below : List Frame) (s : State) (rc rs : Nat) (Q : Option Value → Heap → List Loc → Prop) (S : State) : Prop :=
  ∃ s₂ o, Steps p.tables e below S s₂ ∧ s₂.status = .running ∧ Ended s₂ below o ∧ ∃ v L, o = .returned v ∧ Q v s₂.heap L ∧ FrameEnd s o s₂ L rc rs
variable {rc rs : Nat} {Q : Option Value → Heap → List Loc → Prop} {S S' : State}
theorem Gl.by (k : ∀ t, Steps p.tables e below S' t → Steps p.tables e below S t) (g : Gl p e below s rc rs Q S') : Gl p e below s rc rs Q S := by
  obtain ⟨t, o, h1, h2⟩ := g
  exact ⟨t, o, k t h1, h2⟩
theorem Gl.tr (k : Steps p.tables e below S S') (g : Gl p e below s rc rs Q S') : Gl p e below s rc rs Q S := Gl.by (fun _ q => k.trans q) g
theorem Gl.mono {Q' : Option Value → Heap → List Loc → Prop} (hq : ∀ v h L, Q v h L → Q' v h L) (g : Gl p e below s rc rs Q S) : Gl p e below s rc rs Q' S := by
  obtain ⟨t, o, h1, h2, h3, v, L, h4, h5, h6⟩ := g
  exact ⟨t, o, h1, h2, h3, v, L, h4, hq _ _ _ h5, h6⟩
theorem wider {c' n' : Nat} (X : Stand p l e R s m args below meth c T locs cells slots) (hc : cells ≤ c') (hn : slots ≤ n') : Stand p l e R s m args below meth c T locs c' n' :=
  { X with same := X.same.mono hc hn }
theorem Gl.retZ (X : Stand p l e R s m args below meth c T locs cells slots) (hx : p.tables.exec = Jvm.exec) (hlk : meth.locks = false) {t : FieldType} (hret : meth.sig.returnType = some t) (ht : t = .boolean ∨ t = .byte ∨ t = .char ∨ t = .short)
    {pc : Nat} {Ls : Array Slot} {z : Int32} {rest : List Value} (hd : decode c.code pc = .ok (.ireturn, 1)) (hc : cells ≤ rc) (hs : slots ≤ rs) (hq : Q (some (.int (nar t z))) T.heap locs) :
    Gl p e below s rc rs Q (T.setTop (mkF m pc Ls (.int z :: rest))) := by
  obtain ⟨fs, hr, hrun, hended, hW, hsame⟩ := X.leave (v := some (.int (nar t z))) (fun h => by rw [hret] at h; cases h) hlk
  exact ⟨_, _, retN X hx hret ht hd hr, hrun, hended, _, _, rfl, hq, ⟨_, rfl⟩, hW, hsame.mono hc hs⟩
theorem Gl.retI (X : Stand p l e R s m args below meth c T locs cells slots) (hx : p.tables.exec = Jvm.exec) (hlk : meth.locks = false) (hret : meth.sig.returnType = some .int)
    {pc : Nat} {Ls : Array Slot} {z : Int32} {rest : List Value} (hd : decode c.code pc = .ok (.ireturn, 1)) (hc : cells ≤ rc) (hs : slots ≤ rs) (hq : Q (some (.int z)) T.heap locs) :
    Gl p e below s rc rs Q (T.setTop (mkF m pc Ls (.int z :: rest))) := by
  obtain ⟨fs, hr, hrun, hended, hW, hsame⟩ := X.leave (v := some (.int z)) (fun h => by rw [hret] at h; cases h) hlk
  refine ⟨_, _, ?_, hrun, hended, _, _, rfl, hq, ⟨_, rfl⟩, hW, hsame.mono hc hs⟩
  have hm' : T.vm.method? m = some meth := X.method'
  have hn : narrow .int (.int z) = .int z := rfl
  show Steps p.tables e below (T.setTop { method := m, pc := pc, locals := Ls, stack := _ :: rest, locked := none }) _
  jvm_step X.here [X.here.top, hx, hd, hm', hret, hn]
  first | (intro acts; rw [hr _ acts rfl rfl rfl]) | rw [hr _ _ rfl rfl rfl]
  exact Steps.refl _
theorem Gl.retA (X : Stand p l e R s m args below meth c T locs cells slots) (hx : p.tables.exec = Jvm.exec) (hlk : meth.locks = false) {t : FieldType} (hret : meth.sig.returnType = some t) (ht : t.isReference = true)
    {pc : Nat} {Ls : Array Slot} {w : Value} {rest : List Value} (hv : w.isRef = true) (hd : decode c.code pc = .ok (.areturn, 1)) (hc : cells ≤ rc) (hs : slots ≤ rs) (hq : Q (some w) T.heap locs) :
    Gl p e below s rc rs Q (T.setTop (mkF m pc Ls (w :: rest))) := by
  obtain ⟨fs, hr, hrun, hended, hW, hsame⟩ := X.leave (v := some w) (fun h => by rw [hret] at h; cases h) hlk
  refine ⟨_, _, ?_, hrun, hended, _, _, rfl, hq, ⟨_, rfl⟩, hW, hsame.mono hc hs⟩
  have hm' : T.vm.method? m = some meth := X.method'
  show Steps p.tables e below (T.setTop { method := m, pc := pc, locals := Ls, stack := _ :: rest, locked := none }) _
  jvm_step X.here [X.here.top, hx, hd, hm', hret, hv, ht]
  first | (intro acts; rw [hr _ acts rfl rfl rfl]) | rw [hr _ _ rfl rfl rfl]
  exact Steps.refl _
theorem Gl.retJ (X : Stand p l e R s m args below meth c T locs cells slots) (hx : p.tables.exec = Jvm.exec) (hlk : meth.locks = false) (hret : meth.sig.returnType = some .long)
    {pc : Nat} {Ls : Array Slot} {z : Int64} (hd : decode c.code pc = .ok (.lreturn, 1)) (hc : cells ≤ rc) (hs : slots ≤ rs) (hq : Q (some (.long z)) T.heap locs) :
    Gl p e below s rc rs Q (T.setTop (mkF m pc Ls [.long z])) := by
  obtain ⟨fs, hr, hrun, hended, hW, hsame⟩ := X.leave (v := some (.long z)) (fun h => by rw [hret] at h; cases h) hlk
  exact ⟨_, _, X.lreturnOut hx hret hd hr, hrun, hended, _, _, rfl, hq, ⟨_, rfl⟩, hW, hsame.mono hc hs⟩
theorem Gl.retV (X : Stand p l e R s m args below meth c T locs cells slots) (hx : p.tables.exec = Jvm.exec) (hlk : meth.locks = false) (hret : meth.sig.returnType = none)
    {pc : Nat} {Ls : Array Slot} (hd : decode c.code pc = .ok (.return_, 1)) (hc : cells ≤ rc) (hs : slots ≤ rs) (hq : Q none T.heap locs) :
    Gl p e below s rc rs Q (T.setTop (mkF m pc Ls [])) := by
  obtain ⟨fs, hr, hrun, hended, hW, hsame⟩ := X.leave (v := none) (fun _ => rfl) hlk
  exact ⟨_, _, X.returnOut hx hret hd hr, hrun, hended, _, _, rfl, hq, ⟨_, rfl⟩, hW, hsame.mono hc hs⟩
/-- a body's contract -/
abbrev Ctr (l : Launch) (Z : State) (y : MethodName) (bytes : ByteArray) (maxL : Nat) (ret : Option FieldType) (ws : List Jvm.Cond) (rm : Room) (as' : Array Value) (h : Heap) (Q : Option Value → Heap → List Loc → Prop) : Prop :=
  MetFree l y (head1 (Jvm.Cond.code y bytes maxL ret :: ws) rm) (fun a U => a = as' ∧ Z.Warmed39 U.vm ∧ U.heap = h) (fun _ _ _ _ _ => True) (fun _ U o U' => ∃ v L, o = .returned v ∧ Q v U'.heap L ∧ FrameEnd U o U' L rm.cells rm.slots)
theorem Ctr.intro {y : MethodName} {bytes : ByteArray} {maxL : Nat} {ret : Option FieldType} {ws : List Jvm.Cond} {rm : Room} {as' : Array Value} (hpn : plainFor y = true) (Ls : Array Slot) (hef : ∀ m, entryFrame m as' maxL = mkF m 0 Ls [])
    (body : ∀ (p : Program) (e : Env) (s : State) (m : MethodId) (below : List Frame) (meth : Method) (c : Code) (T : State), p.tables.exec = Jvm.exec → c.code = bytes → c.maxLocals = maxL → s.vm.findClass y.cls = some m.cls → meth.name = y.name → meth.sig.returnType = ret → meth.locks = false → Z.Warmed39 s.vm → s.methodNamed? y = some m →
      Stand p l e rm s m as' below meth c T [] 0 0 → T.heap = h → Gl p e below s rm.cells rm.slots Q (T.setTop (mkF m 0 Ls []))) : Ctr l Z y bytes maxL ret ws rm as' h Q := by
  refine MetFree.of_bodySF hpn hisR ?_
  intro p e s m args below meth c s₁ Bd hml0 hP hK
  obtain ⟨rfl, hZ, hh⟩ := hP
  have g := body p e s m below meth c s₁ Bd.exec Bd.bytes hml0 (findClass_of_methodNamed Bd.named) (name_of_methodNamed Bd.named Bd.method).1 Bd.returns (BodyLoose.notSynchronized Bd) hZ Bd.named (Stand.of_body Bd) (by rw [← hh, Bd.state]; rfl)
  rw [← hef m] at g
  exact g
/-- a call's payer, by what it leaves -/
abbrev BackQ (l : Launch) (R : Room) (p : Program) (e : Env) (below : List Frame) (s : State) (args : Array Value) (y : MethodName) (len W : Nat) (as' : Array Value) (h : Heap) (kc ks : Nat) (Qc : Option Value → Heap → List Loc → Prop) : Prop :=
  Back l R p e below s args y len W (fun A a => a = as' ∧ A.U.heap = h ∧ A.cells + kc ≤ R.cells ∧ A.slots + ks ≤ R.slots) (fun A _ v B => ∃ L, Qc v B.U.heap L ∧ B.locs = A.locs ++ L ∧ B.cells = A.cells + kc ∧ B.slots = A.slots + ks)
theorem backC {y : MethodName} {bytes : ByteArray} {maxL : Nat} {ret : Option FieldType} {rm : Room} {len W : Nat} {as' : Array Value} {Qc : Option Value → Heap → List Loc → Prop} (hM : Ctr l Z y bytes maxL ret [] rm as' h Qc)
    (hZ : Z.Warmed39 s.vm) (wc : (Jvm.Cond.code y bytes maxL ret).before a0 Z = true) (wz : (Jvm.Cond.initialized y.cls).before a0 Z = true) (hf : rm.frames + 1 ≤ R.frames) (hl : W + (maxL + 11) + rm.locals ≤ R.locals) :
    BackQ l R p e below s args y len W as' h rm.cells rm.slots Qc := backOf hM hZ wc wz hf hl
variable {W kc ks : Nat} {as' : Array Value} {Qc : Option Value → Heap → List Loc → Prop}
theorem Gl.stat (X : Stand p l e R s m args below meth c T locs cells slots) (hx : p.tables.exec = Jvm.exec) (hZ : Z.Warmed39 s.vm) {own : String} {index : Nat} {y : MethodName} {bytes : ByteArray} {maxL : Nat} {ret : Option FieldType}
    (hown : s.vm.findClass own = some m.cls) (w1 : (Jvm.Cond.methodLink own index y).before a0 Z = true) (w2 : (Jvm.Cond.static y).before a0 Z = true) (w3 : (Jvm.Cond.initialized y.cls).before a0 Z = true)
    (w4 : (Jvm.Cond.code y bytes maxL ret).before a0 Z = true) (hy : y.cls ≠ "java/lang/invoke/MethodHandle" ∧ y.cls ≠ "java/lang/invoke/VarHandle")
    (hK : BackQ l R p e below s args y 3 W as' h kc ks Qc) (eT : T.heap = h) {pc : Nat} {Ls : Array Slot} {st : List Value} (hd : decode c.code pc = .ok (.invokestatic index, 3)) (hsz : Ls.size = c.maxLocals) (argsL rest : List Value)
    (hlen : ∀ sig, parseMethodDescriptor y.desc = some sig → argsL.length = sig.parameters.length) (hst : st = argsL.reverse ++ rest) (has : argsL.toArray = as') (hW : (rest.map fun v => v.category).sum ≤ W) (hc : cells + kc ≤ R.cells) (hs : slots + ks ≤ R.slots)
    (k : ∀ v T' L, Stand p l e R s m args below meth c T' (locs ++ L) (cells + kc) (slots + ks) → Qc v T'.heap L → Gl p e below s rc rs Q (T'.setTop (mkF m (pc + 3) Ls (v.toList ++ rest)))) :
    Gl p e below s rc rs Q (T.setTop (mkF m pc Ls st)) := by
  obtain ⟨v, vm₁, ⟨U', ls, cc, sl⟩, hW₁, X', ⟨L, q1, q2, q3, q4⟩, stp⟩ := Jvm.LawKit.callS X hx hown (mvT hZ w1) (mvT hZ w2) (mvT hZ w3) (mvT hZ w4) hy hK (g := mkF m pc Ls st) rfl hsz hlen hst (by show 2 * 0 + _ ≤ _; omega) hd (fun _ _ => ⟨has, eT, hc, hs⟩)
  dsimp only [Pt.U, Pt.locs, Pt.cells, Pt.slots] at X' q1 q2 q3 q4 stp
  subst q2 q3 q4
  exact Gl.by stp (k v U' L X' q1)
theorem Gl.spec (X : Stand p l e R s m args below meth c T locs cells slots) (hx : p.tables.exec = Jvm.exec) (hZ : Z.Warmed39 s.vm) {own : String} {index : Nat} {y : MethodName} {bytes : ByteArray} {maxL : Nat} (hy1 : y.name = "<init>")
    (hown : s.vm.findClass own = some m.cls) (w1 : (Jvm.Cond.methodLink own index y).before a0 Z = true) (w2 : (Jvm.Cond.instanceMethod y).before a0 Z = true)
    (w4 : (Jvm.Cond.code y bytes maxL none).before a0 Z = true) (hy : y.cls ≠ "java/lang/invoke/MethodHandle" ∧ y.cls ≠ "java/lang/invoke/VarHandle")
    (hK : BackQ l R p e below s args y 3 W as' h kc ks Qc) (eT : T.heap = h) {pc : Nat} {Ls : Array Slot} {st : List Value} (hd : decode c.code pc = .ok (.invokespecial index, 3)) (hsz : Ls.size = c.maxLocals) (a : Addr) (argsL rest : List Value)
    (hlen : ∀ sig, parseMethodDescriptor y.desc = some sig → argsL.length = sig.parameters.length) (hst : st = argsL.reverse ++ .ref a :: rest) (has : (.ref a :: argsL).toArray = as') (hW : (rest.map fun v => v.category).sum ≤ W) (hc : cells + kc ≤ R.cells) (hs : slots + ks ≤ R.slots)
    (k : ∀ v T' L, Stand p l e R s m args below meth c T' (locs ++ L) (cells + kc) (slots + ks) → Qc v T'.heap L → Gl p e below s rc rs Q (T'.setTop (mkF m (pc + 3) Ls (v.toList ++ rest)))) :
    Gl p e below s rc rs Q (T.setTop (mkF m pc Ls st)) := by
  obtain ⟨v, vm₁, ⟨U', ls, cc, sl⟩, hW₁, X', ⟨L, q1, q2, q3, q4⟩, stp⟩ := X.specialBack hx hy1 hown (mvT hZ w1) (mvT hZ w2) (mvT hZ w4) hy hK (g := mkF m pc Ls st) rfl hsz (Steps.refl _) hlen hst (by show 2 * 0 + _ ≤ _; omega) hd (fun _ _ => ⟨has, eT, hc, hs⟩)
  dsimp only [Pt.U, Pt.locs, Pt.cells, Pt.slots] at X' q1 q2 q3 q4 stp
  subst q2 q3 q4
  exact Gl.tr stp (k v U' L X' q1)
theorem Gl.specN (X : Stand p l e R s m args below meth c T locs cells slots) (hx : p.tables.exec = Jvm.exec) (hZ : Z.Warmed39 s.vm) {own host : String} {index : Nat} {y : MethodName} {bytes : ByteArray} {maxL : Nat} (hy1 : y.name = "<init>")
    (hown : s.vm.findClass own = some m.cls) (w1 : (Jvm.Cond.methodLinkNest own index y host).before a0 Z = true) (w2 : (Jvm.Cond.instanceMethod y).before a0 Z = true)
    (w4 : (Jvm.Cond.code y bytes maxL none).before a0 Z = true) (hy : y.cls ≠ "java/lang/invoke/MethodHandle" ∧ y.cls ≠ "java/lang/invoke/VarHandle")
    (hK : BackQ l R p e below s args y 3 W as' h kc ks Qc) (eT : T.heap = h) {pc : Nat} {Ls : Array Slot} {st : List Value} (hd : decode c.code pc = .ok (.invokespecial index, 3)) (hsz : Ls.size = c.maxLocals) (a : Addr) (argsL rest : List Value)
    (hlen : ∀ sig, parseMethodDescriptor y.desc = some sig → argsL.length = sig.parameters.length) (hst : st = argsL.reverse ++ .ref a :: rest) (has : (.ref a :: argsL).toArray = as') (hW : (rest.map fun v => v.category).sum ≤ W) (hc : cells + kc ≤ R.cells) (hs : slots + ks ≤ R.slots)
    (k : ∀ v T' L, Stand p l e R s m args below meth c T' (locs ++ L) (cells + kc) (slots + ks) → Qc v T'.heap L → Gl p e below s rc rs Q (T'.setTop (mkF m (pc + 3) Ls (v.toList ++ rest)))) :
    Gl p e below s rc rs Q (T.setTop (mkF m pc Ls st)) := by
  obtain ⟨v, vm₁, ⟨U', ls, cc, sl⟩, hW₁, X', ⟨L, q1, q2, q3, q4⟩, stp⟩ := X.specialBackNest hx hy1 hown (Cond.methodLinkNest_wide hZ w1 :) (mvT hZ w2) (mvT hZ w4) hy hK (g := mkF m pc Ls st) rfl hsz (Steps.refl _) hlen hst (by show 2 * 0 + _ ≤ _; omega) hd (fun _ _ => ⟨has, eT, hc, hs⟩)
  dsimp only [Pt.U, Pt.locs, Pt.cells, Pt.slots] at X' q1 q2 q3 q4 stp
  subst q2 q3 q4
  exact Gl.tr stp (k v U' L X' q1)
theorem Gl.virt (X : Stand p l e R s m args below meth c T locs cells slots) (hx : p.tables.exec = Jvm.exec) (hZ : Z.Warmed39 s.vm) {own C : String} {index : Nat} {y z : MethodName}
    (hown : s.vm.findClass own = some m.cls) (w1 : (Jvm.Cond.methodLink own index y).before a0 Z = true) (w2 : (Jvm.Cond.declares y).before a0 Z = true) (w3 : (Jvm.Cond.selects C y z).before a0 Z = true) (w4 : (Jvm.Cond.instanceMethod z).before a0 Z = true) (nf : NotFace s y)
    (hy : y.cls ≠ "java/lang/invoke/MethodHandle" ∧ y.cls ≠ "java/lang/invoke/VarHandle") {a : Addr} (E : Exa Z h a C)
    (hK : BackQ l R p e below s args z 3 W as' h kc ks Qc) (eT : T.heap = h) {pc : Nat} {Ls : Array Slot} {st : List Value} (hd : decode c.code pc = .ok (.invokevirtual index, 3)) (hsz : Ls.size = c.maxLocals) (argsL rest : List Value)
    (hlen : ∀ sig, parseMethodDescriptor y.desc = some sig → argsL.length = sig.parameters.length) (hst : st = argsL.reverse ++ .ref a :: rest) (has : (.ref a :: argsL).toArray = as') (hW : (rest.map fun v => v.category).sum ≤ W) (hc : cells + kc ≤ R.cells) (hs : slots + ks ≤ R.slots)
    (k : ∀ v T' L, Stand p l e R s m args below meth c T' (locs ++ L) (cells + kc) (slots + ks) → Qc v T'.heap L → Gl p e below s rc rs Q (T'.setTop (mkF m (pc + 3) Ls (v.toList ++ rest)))) :
    Gl p e below s rc rs Q (T.setTop (mkF m pc Ls st)) := by
  obtain ⟨cq, kq, i1, i2, i3⟩ := isOf hZ eT E
  obtain ⟨v, vm₁, ⟨U', ls, cc, sl⟩, hW₁, X', ⟨L, q1, q2, q3, q4⟩, stp⟩ := X.virtualBack hx hown (mvT hZ w1) (mvT hZ w2) nf (mvT hZ w3) (mvT hZ w4) hy hK i1 i3 (g := mkF m pc Ls st) rfl hsz (Steps.refl _) hlen hst (by show 2 * 0 + _ ≤ _; omega) hd (fun _ _ => ⟨has, eT, hc, hs⟩)
  dsimp only [Pt.U, Pt.locs, Pt.cells, Pt.slots] at X' q1 q2 q3 q4 stp
  subst q2 q3 q4
  exact Gl.tr stp (k v U' L X' q1)
theorem Gl.face (X : Stand p l e R s m args below meth c T locs cells slots) (hx : p.tables.exec = Jvm.exec) (hZ : Z.Warmed39 s.vm) {own C : String} {index count : Nat} {y z : MethodName}
    (hown : s.vm.findClass own = some m.cls) (w1 : (Jvm.Cond.methodLink own index y).before a0 Z = true) (w2 : (Jvm.Cond.declares y).before a0 Z = true) (w3 : (Jvm.Cond.interfaceMethod y.cls y.cls y.name y.desc).before args s = true) (w4 : (Jvm.Cond.selects C y z).before a0 Z = true) (w5 : (Jvm.Cond.instanceMethod z).before a0 Z = true)
    (w6 : (Jvm.Cond.publicMethod z).before a0 Z = true) (w7 : (Jvm.Cond.unhidden C y.name y.desc).before a0 Z = true) (w8 : (Jvm.Cond.castable C y.cls).before a0 Z = true)
    (hy : y.cls ≠ "java/lang/invoke/MethodHandle" ∧ y.cls ≠ "java/lang/invoke/VarHandle") {a : Addr} (E : Exa Z h a C)
    (hK : BackQ l R p e below s args z 5 W as' h kc ks Qc) (eT : T.heap = h) {pc : Nat} {Ls : Array Slot} {st : List Value} (hd : decode c.code pc = .ok (.invokeinterface index count, 5)) (hsz : Ls.size = c.maxLocals) (argsL rest : List Value)
    (hlen : ∀ sig, parseMethodDescriptor y.desc = some sig → argsL.length = sig.parameters.length) (hst : st = argsL.reverse ++ .ref a :: rest) (has : (.ref a :: argsL).toArray = as') (hW : (rest.map fun v => v.category).sum ≤ W) (hc : cells + kc ≤ R.cells) (hs : slots + ks ≤ R.slots)
    (k : ∀ v T' L, Stand p l e R s m args below meth c T' (locs ++ L) (cells + kc) (slots + ks) → Qc v T'.heap L → Gl p e below s rc rs Q (T'.setTop (mkF m (pc + 5) Ls (v.toList ++ rest)))) :
    Gl p e below s rc rs Q (T.setTop (mkF m pc Ls st)) := by
  obtain ⟨cq, kq, i1, i2, i3⟩ := isOf hZ eT E
  obtain ⟨v, vm₁, ⟨U', ls, cc, sl⟩, hW₁, X', ⟨L, q1, q2, q3, q4⟩, stp⟩ := X.interfaceBack hx (xi := y) (y := z) hown (mvT hZ w1) (mvT hZ w2) w3 (mvT hZ w4) (mvT hZ w5) (mvT hZ w6) (mvT hZ w7) (mvT hZ w8) hy hK i1 i2 i3 (g := mkF m pc Ls st) rfl hsz (Steps.refl _) hlen hst (by show 2 * 0 + _ ≤ _; omega) hd (fun _ _ => ⟨has, eT, hc, hs⟩)
  dsimp only [Pt.U, Pt.locs, Pt.cells, Pt.slots] at X' q1 q2 q3 q4 stp
  subst q2 q3 q4
  exact Gl.tr stp (k v U' L X' q1)
theorem Gl.priv (X : Stand p l e R s m args below meth c T locs cells slots) (hx : p.tables.exec = Jvm.exec) (hZ : Z.Warmed39 s.vm) {own C : String} {index : Nat} {y : MethodName} {bytes : ByteArray} {maxL : Nat} {ret : Option FieldType}
    (hown : s.vm.findClass own = some m.cls) (w1 : (Jvm.Cond.methodLink own index y).before a0 Z = true) (w2 : (Jvm.Cond.instanceMethod y).before a0 Z = true) (w3 : (Jvm.Cond.selects y.cls y y).before a0 Z = true) (w4 : (Jvm.Cond.privateMethod y).before a0 Z = true) (w5 : (Jvm.Cond.code y bytes maxL ret).before a0 Z = true)
    (hy : y.cls ≠ "java/lang/invoke/MethodHandle" ∧ y.cls ≠ "java/lang/invoke/VarHandle") {a : Addr} (E : Exa Z h a C)
    (hK : BackQ l R p e below s args y 3 W as' h kc ks Qc) (eT : T.heap = h) {pc : Nat} {Ls : Array Slot} {st : List Value} (hd : decode c.code pc = .ok (.invokevirtual index, 3)) (hsz : Ls.size = c.maxLocals) (argsL rest : List Value)
    (hlen : ∀ sig, parseMethodDescriptor y.desc = some sig → argsL.length = sig.parameters.length) (hst : st = argsL.reverse ++ .ref a :: rest) (has : (.ref a :: argsL).toArray = as') (hW : (rest.map fun v => v.category).sum ≤ W) (hc : cells + kc ≤ R.cells) (hs : slots + ks ≤ R.slots)
    (k : ∀ v T' L, Stand p l e R s m args below meth c T' (locs ++ L) (cells + kc) (slots + ks) → Qc v T'.heap L → Gl p e below s rc rs Q (T'.setTop (mkF m (pc + 3) Ls (v.toList ++ rest)))) :
    Gl p e below s rc rs Q (T.setTop (mkF m pc Ls st)) := by
  obtain ⟨cq, i1, i2⟩ := E.cell
  obtain ⟨v, vm₁, ⟨U', ls, cc, sl⟩, hW₁, X', ⟨L, q1, q2, q3, q4⟩, stp⟩ := X.privateBack hx hown (mvT hZ w1) (mvT hZ w2) (mvT hZ w3) (Cond.privateMethod_at (mvP hZ w4 (args := #[]))) (mvT hZ w5) hy hK (g := mkF m pc Ls st) rfl hsz (Steps.refl _) (by rw [eT]; exact i1) i2 hlen hst (by show 2 * 0 + _ ≤ _; omega) hd (fun _ _ => ⟨has, eT, hc, hs⟩)
  dsimp only [Pt.U, Pt.locs, Pt.cells, Pt.slots] at X' q1 q2 q3 q4 stp
  subst q2 q3 q4
  exact Gl.tr stp (k v U' L X' q1)
theorem sameOf {C : String} {y z yy : MethodName} (w3 : (Jvm.Cond.instanceMethod y).before a0 Z = true) (ws : (Jvm.Cond.selects C yy z).before a0 Z = true) (hc : z.cls = y.cls) (hy : y.cls ≠ "java/lang/invoke/MethodHandle" ∧ y.cls ≠ "java/lang/invoke/VarHandle") :
    (Jvm.Cond.sameMethod y.cls y.cls y.name y.desc).before a0 Z = true := by
  obtain ⟨mk, methM, hnamed, -, -, -⟩ := Cond.instanceMethod_spec w3
  obtain ⟨c2, r2, m2, q1, q2, q3, q4, kP, hkP, hkPi⟩ := Cond.selects_spec ws
  have f := State.methodFound?_of_named hnamed hy
  have a := findClass_of_methodNamed hnamed
  have b := findClass_of_methodNamed q3
  rw [hc] at b
  have e : mk.cls = m2.cls := Option.some.inj (a.symm.trans b)
  have hnamed' : Z.methodNamed? ⟨y.cls, y.name, y.desc⟩ = some mk := hnamed
  simp [Cond.before, Cond.holds, Cond.value, a, f, hnamed', e, hkP, hkPi]
theorem declOf {y : MethodName} {bytes : ByteArray} {maxL : Nat} {ret : Option FieldType} (w3 : (Jvm.Cond.instanceMethod y).before a0 Z = true) (wc : (Jvm.Cond.code y bytes maxL ret).before a0 Z = true) : (Jvm.Cond.declares y).before a0 Z = true := by
  obtain ⟨mk, methM, hnamed, hmethM, hstM, -⟩ := Cond.instanceMethod_spec w3
  obtain ⟨m2, cM, q1, -, -, -, -, -, -, hsig⟩ := Cond.code_spec hnamed wc
  cases hmethM.symm.trans q1
  simp [Cond.before, Cond.holds, Cond.value, hnamed, hmethM, hstM, hsig]
theorem Gl.supr (X : Stand p l e R s m args below meth c T locs cells slots) (hx : p.tables.exec = Jvm.exec) (hZ : Z.Warmed39 s.vm) {own K : String} {index : Nat} {y : MethodName} {bytes : ByteArray} {maxL : Nat} {ret : Option FieldType} (hn : y.name ≠ "<init>")
    (hown : s.vm.findClass own = some m.cls) (w1 : (Jvm.Cond.methodLink own index y).before a0 Z = true) (w2 : (Jvm.Cond.sameMethod y.cls y.cls y.name y.desc).before a0 Z = true) (w3 : (Jvm.Cond.instanceMethod y).before a0 Z = true) (w4 : (Jvm.Cond.superclass own y.cls).before a0 Z = true) (wc : (Jvm.Cond.code y bytes maxL ret).before a0 Z = true)
    {a : Addr} (F : Ins Z h a K true)
    (hK : BackQ l R p e below s args y 3 W as' h kc ks Qc) (eT : T.heap = h) {pc : Nat} {Ls : Array Slot} {st : List Value} (hd : decode c.code pc = .ok (.invokespecial index, 3)) (hsz : Ls.size = c.maxLocals) (argsL rest : List Value)
    (hlen : ∀ sig, parseMethodDescriptor y.desc = some sig → argsL.length = sig.parameters.length) (hst : st = argsL.reverse ++ .ref a :: rest) (has : (.ref a :: argsL).toArray = as') (hW : (rest.map fun v => v.category).sum ≤ W) (hc : cells + kc ≤ R.cells) (hs : slots + ks ≤ R.slots)
    (k : ∀ v T' L, Stand p l e R s m args below meth c T' (locs ++ L) (cells + kc) (slots + ks) → Qc v T'.heap L → Gl p e below s rc rs Q (T'.setTop (mkF m (pc + 3) Ls (v.toList ++ rest)))) :
    Gl p e below s rc rs Q (T.setTop (mkF m pc Ls st)) := by
  obtain ⟨v, vm₁, ⟨U', ls, cc, sl⟩, hW₁, X', ⟨L, q1, q2, q3, q4⟩, stp⟩ := superBack X hx hZ hown w1 w2 w3 w4 hn hK eT F (g := mkF m pc Ls st) rfl hsz wc hlen hst (by show 2 * 0 + _ ≤ _; omega) hd (fun _ _ => ⟨has, eT, hc, hs⟩)
  dsimp only [Pt.U, Pt.locs, Pt.cells, Pt.slots] at X' q1 q2 q3 q4 stp
  subst q2 q3 q4
  exact Gl.tr stp (k v U' L X' q1)
theorem nf_of_sel {C : String} {y z y' : MethodName} (hsel : (Jvm.Cond.selects C y z).before args s = true) (hc : z.cls = y'.cls) : NotFace s y' := fun r0 h0 => by
  obtain ⟨c2, r2, m2, q1, q2, q3, q4, kP, hkP, hkPi⟩ := Cond.selects_spec hsel
  have a := findClass_of_methodNamed h0
  have b := findClass_of_methodNamed q3
  rw [hc] at b
  have e : r0.cls = m2.cls := Option.some.inj (a.symm.trans b)
  exact ⟨kP, by rw [e]; exact hkP, hkPi⟩
theorem nea {a b : Nat} (h : a < b ∨ b < a) : a ≠ b := by omega
theorem fitsR {C : String} {v : Value} (h : v.isRef = true) : fits (.object C) v = true := by cases v <;> first | rfl | (simp [Value.isRef] at h)
theorem narR {C : String} {v : Value} : narrow (.object C) v = v := by cases v <;> rfl
theorem isref_cat {v : Value} (h : v.isRef = true) : v.category = 1 := by cases v <;> first | rfl | (simp [Value.isRef] at h)
theorem notAssign {C O K : String} {n : Nat} (w0 : (Jvm.Cond.noSuperclass O).before a0 Z = true) (w1 : (Jvm.Cond.superclass C O).before a0 Z = true) (wi : (Jvm.Cond.instantiable K n).before a0 Z = true) (hn : C ≠ K) (hn' : O ≠ K) :
    ∃ c t, Z.vm.findClass C = some c ∧ Z.vm.findClass K = some t ∧ Z.vm.assignable c t = false := by
  obtain ⟨t, kt, t1, t2, t3, t4, -⟩ := Cond.instantiable_spec wi
  obtain ⟨o, ko, o1, o2, o3, -, -⟩ := Cond.noSuperclass_spec w0
  obtain ⟨c, h0⟩ := found_sup w1
  obtain ⟨p, k, kp, h1, h2, h3, h4, h5, -, h7⟩ := Cond.superclass_spec h0 w1
  cases o1.symm.trans h1
  have ne1 : c ≠ t := ids_ne h0 t1 hn
  have ne2 : o ≠ t := ids_ne o1 t1 hn'
  have t5 : kt.isInterface = false := by
    cases q : kt.isInterface with
    | false => rfl
    | true => rw [q] at t4; cases t4
  have n2 : ∀ fuel, Z.vm.isSubclassAux fuel o t = false := fun fuel => by
    cases fuel with
    | zero => rfl
    | succ f => simp [Vm.isSubclassAux, ne2, o2, o3]
  have n3 : ∀ fuel, Z.vm.isSubclassAux fuel c t = false := fun fuel => by
    cases fuel with
    | zero => rfl
    | succ f => simp [Vm.isSubclassAux, ne1, h2, h4, n2]
  refine ⟨c, t, h0, t1, ?_⟩
  show Z.vm.assignableAux (255 + 1) c t = false
  simp [Vm.assignableAux, ne1, h2, t2, h5, t3, t5, Vm.isSubclass, n3]
end Kit
end Own
end Jvm.Pilot.@@N@@

namespace Jvm.Pilot.@@N@@
namespace Own
open Jvm Jvm.ClassFile Sem Op Lib Jvm.Free Jvm.Stand Jvm.LawKit Jvm.RoadKit
section StrKit
variable {p : Program} {l : Launch} {e : Env} {R : Room} {s : State} {m : MethodId} {args : Array Value} {below : List Frame} {Z : State} {a0 : Array Value} {h h' : Heap} {W n0 : Nat}
/-- a Latin-1 String whose chars are cs -/
def Str (Z : State) (h : Heap) (x : Addr) (cs : List Int32) : Prop :=
  Exa Z h x "java/lang/String" ∧ (∀ c ∈ cs, ¬ c < 0 ∧ ¬ (255 : Int32) < c) ∧ cs.length ≤ 4000 ∧ Fld Z h x "java/lang/String" "coder" "B" (.int 0) ∧
  ∃ (t : Addr) (kb : ClassId), Fld Z h x "java/lang/String" "value" "[B" (.ref t) ∧ Arv Z h t kb .byte (Int32.ofNat cs.length) ((cs.map (fun c => c.toInt8.toInt32)).map Value.int) (.int 0)
theorem Str.exa {x : Addr} {cs : List Int32} (F : Str Z h x cs) : Exa Z h x "java/lang/String" := F.1
theorem Str.lt {x : Addr} {cs : List Int32} (F : Str Z h x cs) : x < h.size := F.1.lt
theorem Str.ext {x : Addr} {cs : List Int32} (F : Str Z h x cs) (E : Ext h h') : Str Z h' x cs := by
  obtain ⟨h1, h2, h3, h4, t, kb, h5, h6⟩ := F
  exact ⟨h1.ext E, h2, h3, h4.ext E, t, kb, h5.ext E, h6.ext E⟩
/-- over a Keep whose written objects are new, or objects of another class -/
theorem Str.keep {x : Addr} {cs : List Int32} {ws : List Addr} (F : Str Z h x cs) (K : Keep h h' ws) (q : ∀ b ∈ ws, h.size ≤ b ∨ ∃ C k, C ≠ "java/lang/String" ∧ Exa Z h b C ∧ (Jvm.Cond.instantiable C k).before a0 Z = true) : Str Z h' x cs := by
  obtain ⟨h1, h2, h3, h4, t, kb, h5, h6⟩ := F
  have n1 : x ∉ ws := fun hx => by
    rcases q x hx with q | ⟨C, k, q1, q2, q3⟩
    · exact absurd h1.lt (Nat.not_lt.mpr q)
    · exact ne_exa q2 h1 q1 rfl
  have n2 : t ∉ ws := fun hx => by
    rcases q t hx with q | ⟨C, k, q1, q2, q3⟩
    · exact absurd h6.lt (Nat.not_lt.mpr q)
    · obtain ⟨c, A, -⟩ := h6
      exact ne_arr q2 q3 A rfl
  exact ⟨h1.keep K, h2, h3, h4.keep K n1, t, kb, h5.keep K n1, h6.keep K n2⟩
theorem Str.keep0 {x : Addr} {cs : List Int32} (F : Str Z h x cs) (K : Keep h h' []) : Str Z h' x cs := F.keep (a0 := #[]) K (fun b hb => nomatch hb)
theorem up255 (cs : List Int32) (h : ∀ c ∈ cs, ¬ c < 0 ∧ ¬ (255 : Int32) < c) : ∀ c ∈ cs, ¬ c < 0 ∧ ¬ (65535 : Int32) < c := fun c hc => ⟨(h c hc).1, fun q => (h c hc).2 (by rw [Int32.lt_iff_toInt_lt] at q ⊢; have e1 : (65535 : Int32).toInt = 65535 := rfl; have e2 : (255 : Int32).toInt = 255 := rfl; omega)⟩
theorem and255_fin (x : Int32) : (x &&& 255) = Int32.ofNat (x &&& 255).toBitVec.toNat ∧ (x &&& 255).toBitVec.toNat < 256 := by
  constructor
  · apply Int32.toBitVec_inj.mp
    show _ = BitVec.ofNat 32 _
    rw [BitVec.ofNat_toNat]; simp
  · simp only [Int32.toBitVec_and, BitVec.toNat_and]
    exact Nat.lt_succ_of_le Nat.and_le_right
theorem and255_char (x : Int32) : (x &&& (255 : Int32)).toUInt32.toUInt16.toUInt32.toInt32 = x &&& 255 ∧ nar .char (x &&& 255) = x &&& 255 ∧ ¬ (x &&& 255) < 0 ∧ ¬ (255 : Int32) < (x &&& 255) := by
  have t : ∀ k : Fin 256, (Int32.ofNat k.val).toUInt32.toUInt16.toUInt32.toInt32 = Int32.ofNat k.val ∧ nar .char (Int32.ofNat k.val) = Int32.ofNat k.val ∧ ¬ (Int32.ofNat k.val) < 0 ∧ ¬ (255 : Int32) < (Int32.ofNat k.val) := by decide +kernel
  obtain ⟨e, hl⟩ := and255_fin x
  rw [e]
  exact t ⟨_, hl⟩
end StrKit
end Own
end Jvm.Pilot.@@N@@

namespace Jvm.Pilot.@@N@@
namespace Own
open Jvm Jvm.ClassFile Sem Op Lib Jvm.Free Jvm.Stand Jvm.LawKit Jvm.RoadKit
theorem payNew {p : Program} {l : Launch} {e : Env} {R : Room} {s : State} {args : Array Value} {below : List Frame} {Z : State} {a0 : Array Value} {h : Heap} {len W n0 n : Nat} (hZ : Z.Warmed39 s.vm) (hw : ∀ d ∈ StrChars.Road.words, d.before a0 Z = true) {kI : Nat} (wi : (Jvm.Cond.instantiable "java/lang/String" kI).before a0 Z = true)
    {x b : Addr} {kC : ClassId} {d v0 c0 : Value} {z N : Int32} (cs : List Int32) (hx0 : n0 ≤ x) (hh0 : n0 ≤ h.size) (E : Exa Z h x "java/lang/String") (V : Fld Z h x "java/lang/String" "value" "[B" v0) (C : Fld Z h x "java/lang/String" "coder" "B" c0) (K : Arv Z h b kC .char N (cs.map Value.int) d)
    (S : Sta Z Z.heap "java/lang/String" "COMPACT_STRINGS" "Z" (.int z)) (hz : ¬ z = 0) (X : Old Z n0 h) (hn : cs.length = n) (hN : N = Int32.ofNat n) (l0 : 0 < n) (l2 : n ≤ 4000) (hp : ∀ c ∈ cs, ¬ c < 0 ∧ ¬ (255 : Int32) < c) (hfr : 4 ≤ R.frames) (hlo : W + 65 ≤ R.locals) :
    BackQ l R p e below s args (⟨"java/lang/String", "<init>", "([C)V"⟩ : MethodName) len W #[.ref x, .ref b] h 1 n (fun v h' L => v = none ∧ Fr n0 L ∧ Keep h h' [x] ∧ Str Z h' x cs) := by
  subst hn hN
  refine Back.mono (StrChars.Road.backV (W := W) hZ hw wi (cs := cs) (bs := cs.map (fun c => c.toInt8.toInt32)) (n := cs.length) hx0 hh0 E V C K (S.ext X.2) hz rfl rfl l0 l2 hp rfl hfr hlo) (fun P a hp => hp) (fun P a v B _ hq => ?_)
  obtain ⟨L, ⟨q1, q2, q3, q4, q5, t, kb, -, -, -, q6, q7⟩, hl, hc, hs⟩ := hq
  exact ⟨L, ⟨q1, q2, q3, q4, hp, l2, q5, t, kb, q6, q7⟩, hl, hc, hs⟩
end Own
end Jvm.Pilot.@@N@@
namespace Jvm.Pilot.@@N@@
namespace Own
open Jvm Jvm.ClassFile Sem Op Lib Jvm.Free Jvm.Stand Jvm.LawKit Jvm.RoadKit
section KitH
variable {p : Program} {l : Launch} {e : Env} {R : Room} {s sT : State} {m : MethodId} {args : Array Value} {below : List Frame} {meth : Method} {c : Code} {T : State} {locs : List Loc} {cells slots : Nat} {Z : State} {a0 : Array Value} {h h' h0 : Heap} {EL : List (String × Nat)}
/-- as Gl, where String constants may be interned on the way and what is booked stays readable -/
def GlH (p : Program) (e : Env) (below : List Frame) (Z : State) (EL : List (String × Nat)) (sT : State) (h0 : Heap) (rc rs : Nat) (Q : Option Value → Heap → List Loc → Prop) (S : State) : Prop :=
  ∃ s₂ o, Steps p.tables e below S s₂ ∧ s₂.status = .running ∧ Ended s₂ below o ∧ ∃ v L, o = .returned v ∧ Q v s₂.heap L ∧ CHr Z EL sT.vm h0 s₂.vm s₂.heap ∧ ReturnedEndW sT o s₂ L rc rs
/-- the base at hand: the true start sT with later tables; the heap at hand -/
def Hs (Z : State) (EL : List (String × Nat)) (sT : State) (h0 : Heap) (s : State) (h : Heap) : Prop := (∃ vm n, s = sT.setVm vm ∧ sT.Since vm n ∧ n ≤ h.size) ∧ CHr Z EL sT.vm h0 s.vm h
theorem Hs.start (s : State) (H : CHv Z EL s.vm h) : Hs Z EL s h s h := ⟨⟨s.vm, 0, rfl, (State.WarmedH.refl s).since 0, Nat.zero_le _⟩, CHr.refl H⟩
theorem Hs.ext (B : Hs Z EL sT h0 s h) (E : Ext h h') : Hs Z EL sT h0 s h' := by
  obtain ⟨⟨vm, n, a, b, d⟩, q⟩ := B
  exact ⟨⟨vm, n, a, b, Nat.le_trans d E.1⟩, q.trans (CHr.ext E q.1)⟩
theorem Hs.keep {ws : List Addr} (B : Hs Z EL sT h0 s h) (K : Keep h h' ws) (hs : ∀ x ∈ ws, Safe Z EL s.vm h x) : Hs Z EL sT h0 s h' := by
  obtain ⟨⟨vm, n, a, b, d⟩, q⟩ := B
  exact ⟨⟨vm, n, a, b, Nat.le_trans d K.1⟩, q.trans (CHr.keep K hs q.1)⟩
theorem Hs.wr {a : Addr} {sl : Nat} {v : Value} (B : Hs Z EL sT h0 s h) (W : Wr h h' a sl v) (S : Safe Z EL s.vm h a) : Hs Z EL sT h0 s h' := by
  obtain ⟨⟨vm, n, a, b, d⟩, q⟩ := B
  have k := CHr.wr W S q.1
  exact ⟨⟨vm, n, a, b, Nat.le_trans d k.2.1⟩, q.trans k⟩
theorem SafeX.ext {x : Addr} (S : Safe Z EL s.vm h x) (B : Hs Z EL sT h0 s h) (E : Ext h h') : Safe Z EL s.vm h' x := Safe.ext E B.2.1 S
theorem SafeX.keep {x : Addr} {ws : List Addr} (S : Safe Z EL s.vm h x) (B : Hs Z EL sT h0 s h) (K : Keep h h' ws) (hs : ∀ x ∈ ws, Safe Z EL s.vm h x) : Safe Z EL s.vm h' x := Safe.keep K hs B.2.1 S
theorem SafeX.wr {a x : Addr} {sl : Nat} {v : Value} (Sx : Safe Z EL s.vm h x) (B : Hs Z EL sT h0 s h) (W : Wr h h' a sl v) (S : Safe Z EL s.vm h a) : Safe Z EL s.vm h' x := Safe.wr W S B.2.1 Sx
theorem ltA {a b : Nat} (q : a < b) : @LT.lt Addr _ a b := q
theorem safe_arv {x : Addr} {k : ClassId} {ty : FieldType} {n : Int32} {vs : List Value} {d : Value} (hZ : Z.Warmed39 s.vm) (V : Arv Z h x k ty n vs d) (ht : ty ≠ .byte) : Safe Z EL s.vm h x := by
  obtain ⟨c, A, -⟩ := V
  exact Safe.arr hZ.alike A ht
variable {rc rs : Nat} {Q : Option Value → Heap → List Loc → Prop} {S S' : State}
theorem GlH.by (k : ∀ t, Steps p.tables e below S' t → Steps p.tables e below S t) (g : GlH p e below Z EL sT h0 rc rs Q S') : GlH p e below Z EL sT h0 rc rs Q S := by
  obtain ⟨t, o, h1, h2⟩ := g
  exact ⟨t, o, k t h1, h2⟩
theorem GlH.tr (k : Steps p.tables e below S S') (g : GlH p e below Z EL sT h0 rc rs Q S') : GlH p e below Z EL sT h0 rc rs Q S := GlH.by (fun _ q => k.trans q) g
theorem endH_mono {s t : State} {o : Outcome} {L : List Loc} {k n k' n' : Nat} (h : ReturnedEndW s o t L k n) (hk : k ≤ k') (hn : n ≤ n') : ReturnedEndW s o t L k' n' := ⟨h.1, h.2.1, h.2.2.1, h.2.2.2.mono hk hn⟩
theorem leaveH (X : Stand p l e R s m args below meth c T locs cells slots) (B : Hs Z EL sT h0 s h) (eT : T.heap = h) (hZ : Z.Warmed39 s.vm) (hEL : EW Z a0 EL) {v : Option Value} (hv : meth.sig.returnType = none → v = none) (hlk : meth.locks = false) :
    ∃ fs, (∀ (f : JFrame) (acts : List Action), f.method = m → f.locked = none → f.entered = [] → (doReturn e (T.setTop f) acts v).1 = T.setFrames fs) ∧
      (T.setFrames fs).status = .running ∧ Ended (T.setFrames fs) below (.returned v) ∧ ReturnedEndW sT (.returned v) (T.setFrames fs) locs cells slots ∧ CHr Z EL sT.vm h0 (T.setFrames fs).vm (T.setFrames fs).heap := by
  obtain ⟨⟨vm, n, rfl, h2, h3⟩, q⟩ := B
  subst eT
  obtain ⟨fs, k1, k2, k3, k4⟩ := X.leaveW h2 h3 hv hlk
  have r : CHr Z EL vm T.heap T.vm T.heap := CHv.at (s := sT) (vm0 := vm) X hZ hEL q.1
  exact ⟨fs, k1, k2, k3, k4, q.trans r⟩
theorem GlH.retZ (X : Stand p l e R s m args below meth c T locs cells slots) (B : Hs Z EL sT h0 s h) (eT : T.heap = h) (hZ : Z.Warmed39 s.vm) (hEL : EW Z a0 EL) (hx : p.tables.exec = Jvm.exec) (hlk : meth.locks = false) {t : FieldType} (hret : meth.sig.returnType = some t) (ht : t = .boolean ∨ t = .byte ∨ t = .char ∨ t = .short) {pc : Nat} {Ls : Array Slot} {z : Int32} {rest : List Value} (hd : decode c.code pc = .ok (.ireturn, 1)) (hc : cells ≤ rc) (hs : slots ≤ rs) (hq : Q (some (.int (nar t z))) T.heap locs) :
    GlH p e below Z EL sT h0 rc rs Q (T.setTop (mkF m pc Ls (.int z :: rest))) := by
  obtain ⟨fs, hr, hrun, hended, hW, hC⟩ := leaveH X B eT hZ hEL (v := some (.int (nar t z))) (fun h => by rw [hret] at h; cases h) hlk
  exact ⟨_, _, retN X hx hret ht hd hr, hrun, hended, _, _, rfl, hq, hC, endH_mono hW hc hs⟩
theorem GlH.retI (X : Stand p l e R s m args below meth c T locs cells slots) (B : Hs Z EL sT h0 s h) (eT : T.heap = h) (hZ : Z.Warmed39 s.vm) (hEL : EW Z a0 EL) (hx : p.tables.exec = Jvm.exec) (hlk : meth.locks = false) (hret : meth.sig.returnType = some .int) {pc : Nat} {Ls : Array Slot} {z : Int32} {rest : List Value} (hd : decode c.code pc = .ok (.ireturn, 1)) (hc : cells ≤ rc) (hs : slots ≤ rs) (hq : Q (some (.int z)) T.heap locs) :
    GlH p e below Z EL sT h0 rc rs Q (T.setTop (mkF m pc Ls (.int z :: rest))) := by
  obtain ⟨fs, hr, hrun, hended, hW, hC⟩ := leaveH X B eT hZ hEL (v := some (.int z)) (fun h => by rw [hret] at h; cases h) hlk
  refine ⟨_, _, ?_, hrun, hended, _, _, rfl, hq, hC, endH_mono hW hc hs⟩
  have hm' : T.vm.method? m = some meth := X.method'
  have hn : narrow .int (.int z) = .int z := rfl
  show Steps p.tables e below (T.setTop { method := m, pc := pc, locals := Ls, stack := _ :: rest, locked := none }) _
  jvm_step X.here [X.here.top, hx, hd, hm', hret, hn]
  first | (intro acts; rw [hr _ acts rfl rfl rfl]) | rw [hr _ _ rfl rfl rfl]
  exact Steps.refl _
theorem GlH.retA (X : Stand p l e R s m args below meth c T locs cells slots) (B : Hs Z EL sT h0 s h) (eT : T.heap = h) (hZ : Z.Warmed39 s.vm) (hEL : EW Z a0 EL) (hx : p.tables.exec = Jvm.exec) (hlk : meth.locks = false) {t : FieldType} (hret : meth.sig.returnType = some t) (ht : t.isReference = true) {pc : Nat} {Ls : Array Slot} {w : Value} {rest : List Value} (hv : w.isRef = true) (hd : decode c.code pc = .ok (.areturn, 1)) (hc : cells ≤ rc) (hs : slots ≤ rs) (hq : Q (some w) T.heap locs) :
    GlH p e below Z EL sT h0 rc rs Q (T.setTop (mkF m pc Ls (w :: rest))) := by
  obtain ⟨fs, hr, hrun, hended, hW, hC⟩ := leaveH X B eT hZ hEL (v := some w) (fun h => by rw [hret] at h; cases h) hlk
  refine ⟨_, _, ?_, hrun, hended, _, _, rfl, hq, hC, endH_mono hW hc hs⟩
  have hm' : T.vm.method? m = some meth := X.method'
  show Steps p.tables e below (T.setTop { method := m, pc := pc, locals := Ls, stack := _ :: rest, locked := none }) _
  jvm_step X.here [X.here.top, hx, hd, hm', hret, hv, ht]
  first | (intro acts; rw [hr _ acts rfl rfl rfl]) | rw [hr _ _ rfl rfl rfl]
  exact Steps.refl _
theorem GlH.retV (X : Stand p l e R s m args below meth c T locs cells slots) (B : Hs Z EL sT h0 s h) (eT : T.heap = h) (hZ : Z.Warmed39 s.vm) (hEL : EW Z a0 EL) (hx : p.tables.exec = Jvm.exec) (hlk : meth.locks = false) (hret : meth.sig.returnType = none) {pc : Nat} {Ls : Array Slot} (hd : decode c.code pc = .ok (.return_, 1)) (hc : cells ≤ rc) (hs : slots ≤ rs) (hq : Q none T.heap locs) :
    GlH p e below Z EL sT h0 rc rs Q (T.setTop (mkF m pc Ls [])) := by
  obtain ⟨fs, hr, hrun, hended, hW, hC⟩ := leaveH X B eT hZ hEL (v := none) (fun _ => rfl) hlk
  exact ⟨_, _, X.returnOut hx hret hd hr, hrun, hended, _, _, rfl, hq, hC, endH_mono hW hc hs⟩
variable {W kc ks : Nat} {as' : Array Value} {Qc : Option Value → Heap → List Loc → Prop}
theorem GlH.stat (X : Stand p l e R s m args below meth c T locs cells slots) (hx : p.tables.exec = Jvm.exec) (hZ : Z.Warmed39 s.vm) {own : String} {index : Nat} {y : MethodName} {bytes : ByteArray} {maxL : Nat} {ret : Option FieldType}
    (hown : s.vm.findClass own = some m.cls) (w1 : (Jvm.Cond.methodLink own index y).before a0 Z = true) (w2 : (Jvm.Cond.static y).before a0 Z = true) (w3 : (Jvm.Cond.initialized y.cls).before a0 Z = true)
    (w4 : (Jvm.Cond.code y bytes maxL ret).before a0 Z = true) (hy : y.cls ≠ "java/lang/invoke/MethodHandle" ∧ y.cls ≠ "java/lang/invoke/VarHandle")
    (hK : BackQ l R p e below s args y 3 W as' h kc ks Qc) (eT : T.heap = h) {pc : Nat} {Ls : Array Slot} {st : List Value} (hd : decode c.code pc = .ok (.invokestatic index, 3)) (hsz : Ls.size = c.maxLocals) (argsL rest : List Value)
    (hlen : ∀ sig, parseMethodDescriptor y.desc = some sig → argsL.length = sig.parameters.length) (hst : st = argsL.reverse ++ rest) (has : argsL.toArray = as') (hW : (rest.map fun v => v.category).sum ≤ W) (hc : cells + kc ≤ R.cells) (hs : slots + ks ≤ R.slots)
    (k : ∀ v T' L, Stand p l e R s m args below meth c T' (locs ++ L) (cells + kc) (slots + ks) → Qc v T'.heap L → GlH p e below Z EL sT h0 rc rs Q (T'.setTop (mkF m (pc + 3) Ls (v.toList ++ rest)))) :
    GlH p e below Z EL sT h0 rc rs Q (T.setTop (mkF m pc Ls st)) := by
  obtain ⟨v, vm₁, ⟨U', ls, cc, sl⟩, hW₁, X', ⟨L, q1, q2, q3, q4⟩, stp⟩ := Jvm.LawKit.callS X hx hown (mvT hZ w1) (mvT hZ w2) (mvT hZ w3) (mvT hZ w4) hy hK (g := mkF m pc Ls st) rfl hsz hlen hst (by show 2 * 0 + _ ≤ _; omega) hd (fun _ _ => ⟨has, eT, hc, hs⟩)
  dsimp only [Pt.U, Pt.locs, Pt.cells, Pt.slots] at X' q1 q2 q3 q4 stp
  subst q2 q3 q4
  exact GlH.by stp (k v U' L X' q1)
theorem GlH.spec (X : Stand p l e R s m args below meth c T locs cells slots) (hx : p.tables.exec = Jvm.exec) (hZ : Z.Warmed39 s.vm) {own : String} {index : Nat} {y : MethodName} {bytes : ByteArray} {maxL : Nat} (hy1 : y.name = "<init>")
    (hown : s.vm.findClass own = some m.cls) (w1 : (Jvm.Cond.methodLink own index y).before a0 Z = true) (w2 : (Jvm.Cond.instanceMethod y).before a0 Z = true)
    (w4 : (Jvm.Cond.code y bytes maxL none).before a0 Z = true) (hy : y.cls ≠ "java/lang/invoke/MethodHandle" ∧ y.cls ≠ "java/lang/invoke/VarHandle")
    (hK : BackQ l R p e below s args y 3 W as' h kc ks Qc) (eT : T.heap = h) {pc : Nat} {Ls : Array Slot} {st : List Value} (hd : decode c.code pc = .ok (.invokespecial index, 3)) (hsz : Ls.size = c.maxLocals) (a : Addr) (argsL rest : List Value)
    (hlen : ∀ sig, parseMethodDescriptor y.desc = some sig → argsL.length = sig.parameters.length) (hst : st = argsL.reverse ++ .ref a :: rest) (has : (.ref a :: argsL).toArray = as') (hW : (rest.map fun v => v.category).sum ≤ W) (hc : cells + kc ≤ R.cells) (hs : slots + ks ≤ R.slots)
    (k : ∀ v T' L, Stand p l e R s m args below meth c T' (locs ++ L) (cells + kc) (slots + ks) → Qc v T'.heap L → GlH p e below Z EL sT h0 rc rs Q (T'.setTop (mkF m (pc + 3) Ls (v.toList ++ rest)))) :
    GlH p e below Z EL sT h0 rc rs Q (T.setTop (mkF m pc Ls st)) := by
  obtain ⟨v, vm₁, ⟨U', ls, cc, sl⟩, hW₁, X', ⟨L, q1, q2, q3, q4⟩, stp⟩ := X.specialBack hx hy1 hown (mvT hZ w1) (mvT hZ w2) (mvT hZ w4) hy hK (g := mkF m pc Ls st) rfl hsz (Steps.refl _) hlen hst (by show 2 * 0 + _ ≤ _; omega) hd (fun _ _ => ⟨has, eT, hc, hs⟩)
  dsimp only [Pt.U, Pt.locs, Pt.cells, Pt.slots] at X' q1 q2 q3 q4 stp
  subst q2 q3 q4
  exact GlH.tr stp (k v U' L X' q1)
theorem GlH.virt (X : Stand p l e R s m args below meth c T locs cells slots) (hx : p.tables.exec = Jvm.exec) (hZ : Z.Warmed39 s.vm) {own C : String} {index : Nat} {y z : MethodName}
    (hown : s.vm.findClass own = some m.cls) (w1 : (Jvm.Cond.methodLink own index y).before a0 Z = true) (w2 : (Jvm.Cond.declares y).before a0 Z = true) (w3 : (Jvm.Cond.selects C y z).before a0 Z = true) (w4 : (Jvm.Cond.instanceMethod z).before a0 Z = true) (nf : NotFace s y)
    (hy : y.cls ≠ "java/lang/invoke/MethodHandle" ∧ y.cls ≠ "java/lang/invoke/VarHandle") {a : Addr} (E : Exa Z h a C)
    (hK : BackQ l R p e below s args z 3 W as' h kc ks Qc) (eT : T.heap = h) {pc : Nat} {Ls : Array Slot} {st : List Value} (hd : decode c.code pc = .ok (.invokevirtual index, 3)) (hsz : Ls.size = c.maxLocals) (argsL rest : List Value)
    (hlen : ∀ sig, parseMethodDescriptor y.desc = some sig → argsL.length = sig.parameters.length) (hst : st = argsL.reverse ++ .ref a :: rest) (has : (.ref a :: argsL).toArray = as') (hW : (rest.map fun v => v.category).sum ≤ W) (hc : cells + kc ≤ R.cells) (hs : slots + ks ≤ R.slots)
    (k : ∀ v T' L, Stand p l e R s m args below meth c T' (locs ++ L) (cells + kc) (slots + ks) → Qc v T'.heap L → GlH p e below Z EL sT h0 rc rs Q (T'.setTop (mkF m (pc + 3) Ls (v.toList ++ rest)))) :
    GlH p e below Z EL sT h0 rc rs Q (T.setTop (mkF m pc Ls st)) := by
  obtain ⟨cq, kq, i1, i2, i3⟩ := isOf hZ eT E
  obtain ⟨v, vm₁, ⟨U', ls, cc, sl⟩, hW₁, X', ⟨L, q1, q2, q3, q4⟩, stp⟩ := X.virtualBack hx hown (mvT hZ w1) (mvT hZ w2) nf (mvT hZ w3) (mvT hZ w4) hy hK i1 i3 (g := mkF m pc Ls st) rfl hsz (Steps.refl _) hlen hst (by show 2 * 0 + _ ≤ _; omega) hd (fun _ _ => ⟨has, eT, hc, hs⟩)
  dsimp only [Pt.U, Pt.locs, Pt.cells, Pt.slots] at X' q1 q2 q3 q4 stp
  subst q2 q3 q4
  exact GlH.tr stp (k v U' L X' q1)
theorem GlH.face (X : Stand p l e R s m args below meth c T locs cells slots) (hx : p.tables.exec = Jvm.exec) (hZ : Z.Warmed39 s.vm) {own C : String} {index count : Nat} {y z : MethodName}
    (hown : s.vm.findClass own = some m.cls) (w1 : (Jvm.Cond.methodLink own index y).before a0 Z = true) (w2 : (Jvm.Cond.declares y).before a0 Z = true) (w3 : (Jvm.Cond.interfaceMethod y.cls y.cls y.name y.desc).before args s = true) (w4 : (Jvm.Cond.selects C y z).before a0 Z = true) (w5 : (Jvm.Cond.instanceMethod z).before a0 Z = true)
    (w6 : (Jvm.Cond.publicMethod z).before a0 Z = true) (w7 : (Jvm.Cond.unhidden C y.name y.desc).before a0 Z = true) (w8 : (Jvm.Cond.castable C y.cls).before a0 Z = true)
    (hy : y.cls ≠ "java/lang/invoke/MethodHandle" ∧ y.cls ≠ "java/lang/invoke/VarHandle") {a : Addr} (E : Exa Z h a C)
    (hK : BackQ l R p e below s args z 5 W as' h kc ks Qc) (eT : T.heap = h) {pc : Nat} {Ls : Array Slot} {st : List Value} (hd : decode c.code pc = .ok (.invokeinterface index count, 5)) (hsz : Ls.size = c.maxLocals) (argsL rest : List Value)
    (hlen : ∀ sig, parseMethodDescriptor y.desc = some sig → argsL.length = sig.parameters.length) (hst : st = argsL.reverse ++ .ref a :: rest) (has : (.ref a :: argsL).toArray = as') (hW : (rest.map fun v => v.category).sum ≤ W) (hc : cells + kc ≤ R.cells) (hs : slots + ks ≤ R.slots)
    (k : ∀ v T' L, Stand p l e R s m args below meth c T' (locs ++ L) (cells + kc) (slots + ks) → Qc v T'.heap L → GlH p e below Z EL sT h0 rc rs Q (T'.setTop (mkF m (pc + 5) Ls (v.toList ++ rest)))) :
    GlH p e below Z EL sT h0 rc rs Q (T.setTop (mkF m pc Ls st)) := by
  obtain ⟨cq, kq, i1, i2, i3⟩ := isOf hZ eT E
  obtain ⟨v, vm₁, ⟨U', ls, cc, sl⟩, hW₁, X', ⟨L, q1, q2, q3, q4⟩, stp⟩ := X.interfaceBack hx (xi := y) (y := z) hown (mvT hZ w1) (mvT hZ w2) w3 (mvT hZ w4) (mvT hZ w5) (mvT hZ w6) (mvT hZ w7) (mvT hZ w8) hy hK i1 i2 i3 (g := mkF m pc Ls st) rfl hsz (Steps.refl _) hlen hst (by show 2 * 0 + _ ≤ _; omega) hd (fun _ _ => ⟨has, eT, hc, hs⟩)
  dsimp only [Pt.U, Pt.locs, Pt.cells, Pt.slots] at X' q1 q2 q3 q4 stp
  subst q2 q3 q4
  exact GlH.tr stp (k v U' L X' q1)
theorem GlH.priv (X : Stand p l e R s m args below meth c T locs cells slots) (hx : p.tables.exec = Jvm.exec) (hZ : Z.Warmed39 s.vm) {own C : String} {index : Nat} {y : MethodName} {bytes : ByteArray} {maxL : Nat} {ret : Option FieldType}
    (hown : s.vm.findClass own = some m.cls) (w1 : (Jvm.Cond.methodLink own index y).before a0 Z = true) (w2 : (Jvm.Cond.instanceMethod y).before a0 Z = true) (w3 : (Jvm.Cond.selects y.cls y y).before a0 Z = true) (w4 : (Jvm.Cond.privateMethod y).before a0 Z = true) (w5 : (Jvm.Cond.code y bytes maxL ret).before a0 Z = true)
    (hy : y.cls ≠ "java/lang/invoke/MethodHandle" ∧ y.cls ≠ "java/lang/invoke/VarHandle") {a : Addr} (E : Exa Z h a C)
    (hK : BackQ l R p e below s args y 3 W as' h kc ks Qc) (eT : T.heap = h) {pc : Nat} {Ls : Array Slot} {st : List Value} (hd : decode c.code pc = .ok (.invokevirtual index, 3)) (hsz : Ls.size = c.maxLocals) (argsL rest : List Value)
    (hlen : ∀ sig, parseMethodDescriptor y.desc = some sig → argsL.length = sig.parameters.length) (hst : st = argsL.reverse ++ .ref a :: rest) (has : (.ref a :: argsL).toArray = as') (hW : (rest.map fun v => v.category).sum ≤ W) (hc : cells + kc ≤ R.cells) (hs : slots + ks ≤ R.slots)
    (k : ∀ v T' L, Stand p l e R s m args below meth c T' (locs ++ L) (cells + kc) (slots + ks) → Qc v T'.heap L → GlH p e below Z EL sT h0 rc rs Q (T'.setTop (mkF m (pc + 3) Ls (v.toList ++ rest)))) :
    GlH p e below Z EL sT h0 rc rs Q (T.setTop (mkF m pc Ls st)) := by
  obtain ⟨cq, i1, i2⟩ := E.cell
  obtain ⟨v, vm₁, ⟨U', ls, cc, sl⟩, hW₁, X', ⟨L, q1, q2, q3, q4⟩, stp⟩ := X.privateBack hx hown (mvT hZ w1) (mvT hZ w2) (mvT hZ w3) (Cond.privateMethod_at (mvP hZ w4 (args := #[]))) (mvT hZ w5) hy hK (g := mkF m pc Ls st) rfl hsz (Steps.refl _) (by rw [eT]; exact i1) i2 hlen hst (by show 2 * 0 + _ ≤ _; omega) hd (fun _ _ => ⟨has, eT, hc, hs⟩)
  dsimp only [Pt.U, Pt.locs, Pt.cells, Pt.slots] at X' q1 q2 q3 q4 stp
  subst q2 q3 q4
  exact GlH.tr stp (k v U' L X' q1)
theorem GlH.supr (X : Stand p l e R s m args below meth c T locs cells slots) (hx : p.tables.exec = Jvm.exec) (hZ : Z.Warmed39 s.vm) {own K : String} {index : Nat} {y : MethodName} {bytes : ByteArray} {maxL : Nat} {ret : Option FieldType} (hn : y.name ≠ "<init>")
    (hown : s.vm.findClass own = some m.cls) (w1 : (Jvm.Cond.methodLink own index y).before a0 Z = true) (w2 : (Jvm.Cond.sameMethod y.cls y.cls y.name y.desc).before a0 Z = true) (w3 : (Jvm.Cond.instanceMethod y).before a0 Z = true) (w4 : (Jvm.Cond.superclass own y.cls).before a0 Z = true) (wc : (Jvm.Cond.code y bytes maxL ret).before a0 Z = true)
    {a : Addr} (F : Ins Z h a K true)
    (hK : BackQ l R p e below s args y 3 W as' h kc ks Qc) (eT : T.heap = h) {pc : Nat} {Ls : Array Slot} {st : List Value} (hd : decode c.code pc = .ok (.invokespecial index, 3)) (hsz : Ls.size = c.maxLocals) (argsL rest : List Value)
    (hlen : ∀ sig, parseMethodDescriptor y.desc = some sig → argsL.length = sig.parameters.length) (hst : st = argsL.reverse ++ .ref a :: rest) (has : (.ref a :: argsL).toArray = as') (hW : (rest.map fun v => v.category).sum ≤ W) (hc : cells + kc ≤ R.cells) (hs : slots + ks ≤ R.slots)
    (k : ∀ v T' L, Stand p l e R s m args below meth c T' (locs ++ L) (cells + kc) (slots + ks) → Qc v T'.heap L → GlH p e below Z EL sT h0 rc rs Q (T'.setTop (mkF m (pc + 3) Ls (v.toList ++ rest)))) :
    GlH p e below Z EL sT h0 rc rs Q (T.setTop (mkF m pc Ls st)) := by
  obtain ⟨v, vm₁, ⟨U', ls, cc, sl⟩, hW₁, X', ⟨L, q1, q2, q3, q4⟩, stp⟩ := superBack X hx hZ hown w1 w2 w3 w4 hn hK eT F (g := mkF m pc Ls st) rfl hsz wc hlen hst (by show 2 * 0 + _ ≤ _; omega) hd (fun _ _ => ⟨has, eT, hc, hs⟩)
  dsimp only [Pt.U, Pt.locs, Pt.cells, Pt.slots] at X' q1 q2 q3 q4 stp
  subst q2 q3 q4
  exact GlH.tr stp (k v U' L X' q1)
theorem GlH.specN (X : Stand p l e R s m args below meth c T locs cells slots) (hx : p.tables.exec = Jvm.exec) (hZ : Z.Warmed39 s.vm) {own host : String} {index : Nat} {y : MethodName} {bytes : ByteArray} {maxL : Nat} (hy1 : y.name = "<init>")
    (hown : s.vm.findClass own = some m.cls) (w1 : (Jvm.Cond.methodLinkNest own index y host).before a0 Z = true) (w2 : (Jvm.Cond.instanceMethod y).before a0 Z = true)
    (w4 : (Jvm.Cond.code y bytes maxL none).before a0 Z = true) (hy : y.cls ≠ "java/lang/invoke/MethodHandle" ∧ y.cls ≠ "java/lang/invoke/VarHandle")
    (hK : BackQ l R p e below s args y 3 W as' h kc ks Qc) (eT : T.heap = h) {pc : Nat} {Ls : Array Slot} {st : List Value} (hd : decode c.code pc = .ok (.invokespecial index, 3)) (hsz : Ls.size = c.maxLocals) (a : Addr) (argsL rest : List Value)
    (hlen : ∀ sig, parseMethodDescriptor y.desc = some sig → argsL.length = sig.parameters.length) (hst : st = argsL.reverse ++ .ref a :: rest) (has : (.ref a :: argsL).toArray = as') (hW : (rest.map fun v => v.category).sum ≤ W) (hc : cells + kc ≤ R.cells) (hs : slots + ks ≤ R.slots)
    (k : ∀ v T' L, Stand p l e R s m args below meth c T' (locs ++ L) (cells + kc) (slots + ks) → Qc v T'.heap L → GlH p e below Z EL sT h0 rc rs Q (T'.setTop (mkF m (pc + 3) Ls (v.toList ++ rest)))) :
    GlH p e below Z EL sT h0 rc rs Q (T.setTop (mkF m pc Ls st)) := by
  obtain ⟨v, vm₁, ⟨U', ls, cc, sl⟩, hW₁, X', ⟨L, q1, q2, q3, q4⟩, stp⟩ := X.specialBackNest hx hy1 hown (Cond.methodLinkNest_wide hZ w1 :) (mvT hZ w2) (mvT hZ w4) hy hK (g := mkF m pc Ls st) rfl hsz (Steps.refl _) hlen hst (by show 2 * 0 + _ ≤ _; omega) hd (fun _ _ => ⟨has, eT, hc, hs⟩)
  dsimp only [Pt.U, Pt.locs, Pt.cells, Pt.slots] at X' q1 q2 q3 q4 stp
  subst q2 q3 q4
  exact GlH.tr stp (k v U' L X' q1)
abbrev CtrH (l : Launch) (Z : State) (EL : List (String × Nat)) (sf : List Addr) (y : MethodName) (bytes : ByteArray) (maxL : Nat) (ret : Option FieldType) (ws : List Jvm.Cond) (rm : Room) (as' : Array Value) (h : Heap) (Q : Option Value → Heap → List Loc → Prop) : Prop :=
  MetFree l y (head1 (Jvm.Cond.code y bytes maxL ret :: ws) rm) (fun a U => a = as' ∧ Z.Warmed39 U.vm ∧ U.heap = h ∧ CHv Z EL U.vm h ∧ ∀ x ∈ sf, x < h.size ∧ Safe Z EL U.vm h x) (fun _ _ _ _ _ => True) (fun _ U o U' => ∃ v L, o = .returned v ∧ Q v U'.heap L ∧ CHr Z EL U.vm U.heap U'.vm U'.heap ∧ ReturnedEndW U o U' L rm.cells rm.slots)
theorem CtrH.intro {sf : List Addr} {y : MethodName} {bytes : ByteArray} {maxL : Nat} {ret : Option FieldType} {ws : List Jvm.Cond} {rm : Room} {as' : Array Value} (hpn : plainFor y = true) (Ls : Array Slot) (hef : ∀ m, entryFrame m as' maxL = mkF m 0 Ls [])
    (body : ∀ (p : Program) (e : Env) (sT : State) (m : MethodId) (below : List Frame) (meth : Method) (c : Code) (s : State) (T : State), p.tables.exec = Jvm.exec → c.code = bytes → c.maxLocals = maxL → s.vm.findClass y.cls = some m.cls → meth.name = y.name → meth.sig.returnType = ret → meth.locks = false → Z.Warmed39 s.vm → s.methodNamed? y = some m →
      Stand p l e rm s m as' below meth c T [] 0 0 → T.heap = h → Hs Z EL sT h s h → (∀ x ∈ sf, x < h.size ∧ Safe Z EL s.vm h x) → GlH p e below Z EL sT h rm.cells rm.slots Q (T.setTop (mkF m 0 Ls []))) : CtrH l Z EL sf y bytes maxL ret ws rm as' h Q := by
  refine MetFree.of_bodySF hpn hisR ?_
  intro p e s m args below meth c s₁ Bd hml0 hP hK
  obtain ⟨rfl, hZ, hh, hC, hsf⟩ := hP
  have g := body p e s m below meth c s s₁ Bd.exec Bd.bytes hml0 (findClass_of_methodNamed Bd.named) (name_of_methodNamed Bd.named Bd.method).1 Bd.returns (BodyLoose.notSynchronized Bd) hZ Bd.named (Stand.of_body Bd) (by rw [← hh, Bd.state]; rfl) (Hs.start s hC) hsf
  rw [← hef m] at g
  rw [hh]
  exact g
/-- a payer that may intern and keeps what is booked -/
abbrev BackH (l : Launch) (R : Room) (p : Program) (e : Env) (below : List Frame) (Z : State) (EL : List (String × Nat)) (s : State) (args : Array Value) (y : MethodName) (len W : Nat) (as' : Array Value) (h : Heap) (kc ks : Nat) (Qc : Option Value → Heap → List Loc → Prop) : Prop :=
  BackS l R p e below s args y len W (fun A a => a = as' ∧ A.U.heap = h ∧ A.cells + kc ≤ R.cells ∧ A.slots + ks ≤ R.slots) (fun A _ v B => ∃ L, Qc v B.U.heap L ∧ B.locs = A.locs ++ L ∧ B.cells = A.cells + kc ∧ B.slots = A.slots + ks ∧ CHr Z EL s.vm h B.U.vm B.U.heap)
theorem backH {sf : List Addr} {y : MethodName} {bytes : ByteArray} {maxL : Nat} {ret : Option FieldType} {rm : Room} {len W : Nat} {as' : Array Value} {Qc : Option Value → Heap → List Loc → Prop} (hM : CtrH l Z EL sf y bytes maxL ret [] rm as' h Qc)
    (B : Hs Z EL sT h0 s h) (hEL : EW Z a0 EL) (hsf : ∀ x ∈ sf, x < h.size ∧ Safe Z EL s.vm h x) (hZ : Z.Warmed39 s.vm) (wc : (Jvm.Cond.code y bytes maxL ret).before a0 Z = true) (wz : (Jvm.Cond.initialized y.cls).before a0 Z = true) (hf : rm.frames + 1 ≤ R.frames) (hl : W + (maxL + 11) + rm.locals ≤ R.locals) :
    BackH l R p e below Z EL s args y len W as' h rm.cells rm.slots Qc := by
  obtain ⟨⟨vm, n, rfl, h2, h3⟩, q⟩ := B
  have at_ : ∀ {m : MethodId} {meth : Method} {c : Code} {U : State} {L : List Loc} {k j : Nat}, Stand p l e R (sT.setVm vm) m args below meth c U L k j → CHr Z EL vm h U.vm h := fun Y => CHv.at Y hZ hEL q.1
  refine BackS.of_freeW (bytes := bytes) (maxL := maxL) (ret := ret) (E := fun _ first o t L k n => (k = rm.cells ∧ n = rm.slots) ∧ (∃ v, o = .returned v ∧ Qc v t.heap L) ∧ CHr Z EL first.vm first.heap t.vm t.heap) hM hf hl ?_ ?_ (fun _ _ _ _ _ _ _ _ _ => trivial) ?_ ?_
  · intro m meth c A a Y hp
    have hU : Z.Warmed39 A.U.vm := wtrans (s := sT.setVm vm) hZ Y.warmed
    exact ⟨by show (Jvm.Cond.and _ .tt).before a A.U = true; rw [Cond.before_and, mv hU wc]; rfl, mv hU wc, mv hU wz, hp.2.2.1, hp.2.2.2⟩
  · intro m meth c A a g mk Y hp
    exact ⟨hp.1, wtrans (s := sT.setVm vm) hZ Y.warmed, hp.2.1, (at_ Y).1, fun x hx => ⟨(hsf x hx).1, (at_ Y).safe (hsf x hx).1 (hsf x hx).2⟩⟩
  · intro _ _ _ _ ⟨v, L, q1, q2, q3, q4⟩
    exact ⟨L, _, _, q4, ⟨rfl, rfl⟩, ⟨v, q1, q2⟩, q3⟩
  · intro m meth c A a g mk v t L k n Y hp _ _ ⟨⟨e1, e2⟩, ⟨v', e3, e4⟩, e5⟩
    cases e3; subst e1 e2
    refine ⟨L, e4, rfl, rfl, rfl, (at_ Y).trans ?_⟩
    rw [← hp.2.1]; exact e5
/-- the words of a base carry to the next one -/
theorem nextH (B : Hs Z EL sT h0 s h) (hZ : Z.Warmed39 s.vm) {U : State} (eT : T.heap = h) (hS : s.Since U.vm U.heap.size) (hg : T.heap.size ≤ U.heap.size) (hC : CHr Z EL s.vm h U.vm U.heap) :
    Hs Z EL sT h0 (s.setVm U.vm) U.heap ∧ Z.Warmed39 (s.setVm U.vm).vm ∧ ∀ (own : String) (k : ClassId), s.vm.findClass own = some k → (s.setVm U.vm).vm.findClass own = some k := by
  obtain ⟨⟨vm, n, rfl, h2, h3⟩, q⟩ := B
  refine ⟨⟨⟨U.vm, U.heap.size, rfl, h2.trans hS (Nat.le_trans h3 (by rw [← eT]; exact hg)), Nat.le_refl _⟩, q.trans hC⟩, State.Warmed39.trans (t := sT.setVm vm) hZ hS.1, fun own k hk => ?_⟩
  rw [show ((sT.setVm vm).setVm U.vm).vm = U.vm from rfl, hS.1.alike.findClass]; exact hk
theorem GlH.statS (X : Stand p l e R s m args below meth c T locs cells slots) (hx : p.tables.exec = Jvm.exec) (hZ : Z.Warmed39 s.vm) {own : String} {index : Nat} {y : MethodName} {bytes : ByteArray} {maxL : Nat} {ret : Option FieldType}
    (hown : s.vm.findClass own = some m.cls) (w1 : (Jvm.Cond.methodLink own index y).before a0 Z = true) (w2 : (Jvm.Cond.static y).before a0 Z = true) (w3 : (Jvm.Cond.initialized y.cls).before a0 Z = true)
    (w4 : (Jvm.Cond.code y bytes maxL ret).before a0 Z = true) (hy : y.cls ≠ "java/lang/invoke/MethodHandle" ∧ y.cls ≠ "java/lang/invoke/VarHandle")
    (B : Hs Z EL sT h0 s h) (hK : BackH l R p e below Z EL s args y 3 W as' h kc ks Qc) (eT : T.heap = h) {pc : Nat} {Ls : Array Slot} {st : List Value} (hd : decode c.code pc = .ok (.invokestatic index, 3)) (hsz : Ls.size = c.maxLocals) (argsL rest : List Value)
    (hlen : ∀ sig, parseMethodDescriptor y.desc = some sig → argsL.length = sig.parameters.length) (hst : st = argsL.reverse ++ rest) (has : argsL.toArray = as') (hW : (rest.map fun v => v.category).sum ≤ W) (hc : cells + kc ≤ R.cells) (hs : slots + ks ≤ R.slots)
    (k : ∀ v T' L s', Stand p l e R s' m args below meth c T' (locs ++ L) (cells + kc) (slots + ks) → Hs Z EL sT h0 s' T'.heap → Z.Warmed39 s'.vm → s'.vm.findClass own = some m.cls → CHr Z EL s.vm h s'.vm T'.heap → Qc v T'.heap L → GlH p e below Z EL sT h0 rc rs Q (T'.setTop (mkF m (pc + 3) Ls (v.toList ++ rest)))) :
    GlH p e below Z EL sT h0 rc rs Q (T.setTop (mkF m pc Ls st)) := by
  obtain ⟨v, vm₁, ⟨U', ls, cc, sl⟩, hW₁, X', hS, hg, ⟨L, q1, q2, q3, q4, q5⟩, stp⟩ := callSS X hx hown (mvT hZ w1) (mvT hZ w2) (mvT hZ w3) (mvT hZ w4) hy hK (g := mkF m pc Ls st) rfl hsz hlen hst (by show 2 * 0 + _ ≤ _; omega) hd (fun _ _ => ⟨has, eT, hc, hs⟩)
  dsimp only [Pt.U, Pt.locs, Pt.cells, Pt.slots] at X' hS hg q1 q2 q3 q4 q5 stp
  subst q2 q3 q4
  obtain ⟨n1, n2, n3⟩ := nextH B hZ eT hS hg q5
  exact GlH.tr stp (k v U' L _ X' n1 n2 (n3 _ _ hown) q5 q1)
theorem GlH.specS (X : Stand p l e R s m args below meth c T locs cells slots) (hx : p.tables.exec = Jvm.exec) (hZ : Z.Warmed39 s.vm) {own : String} {index : Nat} {y : MethodName} {bytes : ByteArray} {maxL : Nat} (hy1 : y.name = "<init>")
    (hown : s.vm.findClass own = some m.cls) (w1 : (Jvm.Cond.methodLink own index y).before a0 Z = true) (w2 : (Jvm.Cond.instanceMethod y).before a0 Z = true)
    (w4 : (Jvm.Cond.code y bytes maxL none).before a0 Z = true) (hy : y.cls ≠ "java/lang/invoke/MethodHandle" ∧ y.cls ≠ "java/lang/invoke/VarHandle")
    (B : Hs Z EL sT h0 s h) (hK : BackH l R p e below Z EL s args y 3 W as' h kc ks Qc) (eT : T.heap = h) {pc : Nat} {Ls : Array Slot} {st : List Value} (hd : decode c.code pc = .ok (.invokespecial index, 3)) (hsz : Ls.size = c.maxLocals) (a : Addr) (argsL rest : List Value)
    (hlen : ∀ sig, parseMethodDescriptor y.desc = some sig → argsL.length = sig.parameters.length) (hst : st = argsL.reverse ++ .ref a :: rest) (has : (.ref a :: argsL).toArray = as') (hW : (rest.map fun v => v.category).sum ≤ W) (hc : cells + kc ≤ R.cells) (hs : slots + ks ≤ R.slots)
    (k : ∀ v T' L s', Stand p l e R s' m args below meth c T' (locs ++ L) (cells + kc) (slots + ks) → Hs Z EL sT h0 s' T'.heap → Z.Warmed39 s'.vm → s'.vm.findClass own = some m.cls → CHr Z EL s.vm h s'.vm T'.heap → Qc v T'.heap L → GlH p e below Z EL sT h0 rc rs Q (T'.setTop (mkF m (pc + 3) Ls (v.toList ++ rest)))) :
    GlH p e below Z EL sT h0 rc rs Q (T.setTop (mkF m pc Ls st)) := by
  obtain ⟨v, vm₁, ⟨U', ls, cc, sl⟩, hW₁, X', hS, hg, ⟨L, q1, q2, q3, q4, q5⟩, stp⟩ := X.specialBackS hx hy1 hown (mvT hZ w1) (mvT hZ w2) (mvT hZ w4) hy hK (g := mkF m pc Ls st) rfl hsz (Steps.refl _) hlen hst (by show 2 * 0 + _ ≤ _; omega) hd (fun _ _ => ⟨has, eT, hc, hs⟩)
  dsimp only [Pt.U, Pt.locs, Pt.cells, Pt.slots] at X' hS hg q1 q2 q3 q4 q5 stp
  subst q2 q3 q4
  obtain ⟨n1, n2, n3⟩ := nextH B hZ eT hS hg q5
  exact GlH.tr stp (k v U' L _ X' n1 n2 (n3 _ _ hown) q5 q1)
theorem GlH.virtS (X : Stand p l e R s m args below meth c T locs cells slots) (hx : p.tables.exec = Jvm.exec) (hZ : Z.Warmed39 s.vm) {own C : String} {index : Nat} {y z : MethodName}
    (hown : s.vm.findClass own = some m.cls) (w1 : (Jvm.Cond.methodLink own index y).before a0 Z = true) (w2 : (Jvm.Cond.declares y).before a0 Z = true) (w3 : (Jvm.Cond.selects C y z).before a0 Z = true) (w4 : (Jvm.Cond.instanceMethod z).before a0 Z = true) (nf : NotFace s y)
    (hy : y.cls ≠ "java/lang/invoke/MethodHandle" ∧ y.cls ≠ "java/lang/invoke/VarHandle") {a : Addr} (E : Exa Z h a C)
    (B : Hs Z EL sT h0 s h) (hK : BackH l R p e below Z EL s args z 3 W as' h kc ks Qc) (eT : T.heap = h) {pc : Nat} {Ls : Array Slot} {st : List Value} (hd : decode c.code pc = .ok (.invokevirtual index, 3)) (hsz : Ls.size = c.maxLocals) (argsL rest : List Value)
    (hlen : ∀ sig, parseMethodDescriptor y.desc = some sig → argsL.length = sig.parameters.length) (hst : st = argsL.reverse ++ .ref a :: rest) (has : (.ref a :: argsL).toArray = as') (hW : (rest.map fun v => v.category).sum ≤ W) (hc : cells + kc ≤ R.cells) (hs : slots + ks ≤ R.slots)
    (k : ∀ v T' L s', Stand p l e R s' m args below meth c T' (locs ++ L) (cells + kc) (slots + ks) → Hs Z EL sT h0 s' T'.heap → Z.Warmed39 s'.vm → s'.vm.findClass own = some m.cls → CHr Z EL s.vm h s'.vm T'.heap → Qc v T'.heap L → GlH p e below Z EL sT h0 rc rs Q (T'.setTop (mkF m (pc + 3) Ls (v.toList ++ rest)))) :
    GlH p e below Z EL sT h0 rc rs Q (T.setTop (mkF m pc Ls st)) := by
  obtain ⟨cq, kq, i1, i2, i3⟩ := isOf hZ eT E
  obtain ⟨v, vm₁, ⟨U', ls, cc, sl⟩, hW₁, X', hS, hg, ⟨L, q1, q2, q3, q4, q5⟩, stp⟩ := X.virtualBackS hx hown (mvT hZ w1) (mvT hZ w2) nf (mvT hZ w3) (mvT hZ w4) hy hK i1 i3 (g := mkF m pc Ls st) rfl hsz (Steps.refl _) hlen hst (by show 2 * 0 + _ ≤ _; omega) hd (fun _ _ => ⟨has, eT, hc, hs⟩)
  dsimp only [Pt.U, Pt.locs, Pt.cells, Pt.slots] at X' hS hg q1 q2 q3 q4 q5 stp
  subst q2 q3 q4
  obtain ⟨n1, n2, n3⟩ := nextH B hZ eT hS hg q5
  exact GlH.tr stp (k v U' L _ X' n1 n2 (n3 _ _ hown) q5 q1)
/-- ldc of a String constant, its text read -/
theorem ldcH (X : Stand p l e R s m args below meth c T locs cells slots) (hx : p.tables.exec = Jvm.exec) (hZ : Z.Warmed39 s.vm) {own text : String} {index : Nat} (hown : s.vm.findClass own = some m.cls) (w : (Jvm.Cond.stringLink own index text).before a0 Z = true) (wS : ∀ a ∈ Bundle.stringAtoms, a.before a0 Z = true) (eT : T.heap = h)
    (B : Hs Z EL sT h0 s h) (hEL : EW Z a0 EL) (hmem : (own, index) ∈ EL) {vs : List Value} {z : Int32} (ht : (∀ c ∈ text.toList, c.toNat < 256) ∧ text.toList.map (fun c => Value.int (Jvm.Lit.byteI c.toNat.toUInt16)) = vs) (hz : ¬ z < 0) (hl : z.toNatClampNeg = vs.length)
    {g : JFrame} (hg : g.method = m) (hd : decode c.code g.pc = .ok (.ldc index, 2)) {n : Nat} (hn : 4 * text.toList.length ≤ n) (hbig : n ≤ 536870912) (hc : cells + 2 ≤ R.cells) (hl' : slots + (n + 4) ≤ R.slots) :
    ∃ (a b : Nat) (k : ClassId) (T' s' : State) (h' : Heap), Stand p l e R s' m args below meth c T' locs (cells + 2) (slots + (n + 4)) ∧ T'.heap = h' ∧ Ext h h' ∧ Hs Z EL sT h0 s' h' ∧ Z.Warmed39 s'.vm ∧ s'.vm.findClass own = some m.cls ∧ CHr Z EL s.vm h s'.vm h' ∧
      Exa Z h' a "java/lang/String" ∧ Fld Z h' a "java/lang/String" "coder" "B" (.int 0) ∧ Fld Z h' a "java/lang/String" "value" "[B" (.ref b) ∧ Arv Z h' b k .byte z vs (.int 0) ∧ (∀ x, Safe Z EL s'.vm h' x → x ≠ a ∧ x ≠ b) ∧
      ∀ target, Steps p.tables e below (T'.setTop { g with pc := g.pc + 2, stack := .ref a :: g.stack }) target → Steps p.tables e below (T.setTop g) target := by
  obtain ⟨⟨vm, n, rfl, h2, h3⟩, q⟩ := B
  obtain ⟨a, T', h', k1, b, k, X', e1, e2, e3, e4, e5, e6, f1, f2, f3, f4, -, -, f5, -, f6, st⟩ := ldcCH X hx hZ hown w wS eT h2 h3 hEL hmem q.1 ht hz hl hg hd hn hbig hc hl'
  exact ⟨a, b, k, T', _, h', X', e1, e2, ⟨⟨_, k1, rfl, e3, e4⟩, q.trans f5⟩, e5, e6, f5, f1, f2, f3, f4, f6, st⟩
end KitH
end Own
end Jvm.Pilot.@@N@@

namespace Jvm.Pilot.@@N@@
open Jvm Jvm.ClassFile Sem Op Lib Jvm.Free Jvm.Stand Jvm.LawKit Jvm.RoadKit Bundle Jvm.Pilot.@@N@@.Jvm.D Jvm.Pilot.@@N@@.Own
theorem pd_0 : parseMethodDescriptor "(C)Z" = some ⟨[.char], some .boolean⟩ := by decide +kernel
theorem pd_1 : parseMethodDescriptor "(C)[B" = some ⟨[.char], some (.array .byte)⟩ := by decide +kernel
theorem pd_2 : parseMethodDescriptor "([BB)V" = some ⟨[(.array .byte), .byte], none⟩ := by decide +kernel
theorem pd_3 : parseMethodDescriptor "([CIILjava/lang/Void;)V" = some ⟨[(.array .char), .int, .int, (.object "java/lang/Void")], none⟩ := by decide +kernel
theorem pd_4 : parseMethodDescriptor "([C)V" = some ⟨[(.array .char)], none⟩ := by decide +kernel
theorem pd_5 : parseMethodDescriptor "(C)Ljava/lang/String;" = some ⟨[.char], some (.object "java/lang/String")⟩ := by decide +kernel
theorem pd_6 : parseMethodDescriptor "(II)Ljava/lang/String;" = some ⟨[.int, .int], some (.object "java/lang/String")⟩ := by decide +kernel
theorem pd_7 : parseMethodDescriptor "(ZLjava/lang/String;Ljava/lang/String;Ljava/lang/String;Ljava/lang/String;)V" = some ⟨[.boolean, (.object "java/lang/String"), (.object "java/lang/String"), (.object "java/lang/String"), (.object "java/lang/String")], none⟩ := by decide +kernel
theorem pd_8 : parseMethodDescriptor "()Lcom/example/gather/gather/model/FeedState$Condition;" = some ⟨[], some (.object "com/example/gather/gather/model/FeedState$Condition")⟩ := by decide +kernel
theorem pn_0 : plainName "java/lang/StringLatin1" = true := by first | (simp [plainName, overriddenIn]; done) | decide +kernel
theorem pn_1 : plainName "java/lang/String" = true := by first | (simp [plainName, overriddenIn]; done) | decide +kernel
theorem pn_2 : plainName "com/example/gather/gather/model/FeedStateGetConditionPinLaw" = true := by first | (simp [plainName, overriddenIn]; done) | decide +kernel
theorem pn_3 : plainName "com/example/gather/gather/model/FeedState" = true := by first | (simp [plainName, overriddenIn]; done) | decide +kernel
theorem d1_0 : decode method_2_code 0 = .ok (.iload_n 0, 1) := by decide +kernel
theorem d1_1 : decode method_2_code 1 = .ok (.iconst 3, 1) := by decide +kernel
theorem d1_2 : decode method_2_code 2 = .ok (.iand, 1) := by decide +kernel
theorem d1_3 : decode method_2_code 3 = .ok (.istore_n 2, 1) := by decide +kernel
theorem d1_4 : decode method_2_code 4 = .ok (.iload_n 2, 1) := by decide +kernel
theorem d1_5 : decode method_2_code 5 = .ok (.ifCond .ne 5, 3) := by decide +kernel
theorem d1_8 : decode method_2_code 8 = .ok (.aconst_null, 1) := by decide +kernel
theorem d1_9 : decode method_2_code 9 = .ok (.areturn, 1) := by decide +kernel
theorem d1_10 : decode method_2_code 10 = .ok (.iload_n 2, 1) := by decide +kernel
theorem d1_11 : decode method_2_code 11 = .ok (.iconst 1, 1) := by decide +kernel
theorem d1_12 : decode method_2_code 12 = .ok (.if_icmp .ne 14, 3) := by decide +kernel
theorem d1_15 : decode method_2_code 15 = .ok (.new 7, 3) := by decide +kernel
theorem d1_18 : decode method_2_code 18 = .ok (.dup, 1) := by decide +kernel
theorem d1_19 : decode method_2_code 19 = .ok (.iconst 0, 1) := by decide +kernel
theorem d1_20 : decode method_2_code 20 = .ok (.newarray .char, 2) := by decide +kernel
theorem d1_22 : decode method_2_code 22 = .ok (.invokespecial 9, 3) := by decide +kernel
theorem d1_25 : decode method_2_code 25 = .ok (.areturn, 1) := by decide +kernel
theorem d1_26 : decode method_2_code 26 = .ok (.iload_n 2, 1) := by decide +kernel
theorem d1_27 : decode method_2_code 27 = .ok (.iconst 2, 1) := by decide +kernel
theorem d1_28 : decode method_2_code 28 = .ok (.if_icmp .ne 13, 3) := by decide +kernel
theorem d1_31 : decode method_2_code 31 = .ok (.iload_n 1, 1) := by decide +kernel
theorem d1_32 : decode method_2_code 32 = .ok (.sipush 255, 3) := by decide +kernel
theorem d1_35 : decode method_2_code 35 = .ok (.iand, 1) := by decide +kernel
theorem d1_36 : decode method_2_code 36 = .ok (.i2c, 1) := by decide +kernel
theorem d1_37 : decode method_2_code 37 = .ok (.invokestatic 12, 3) := by decide +kernel
theorem d1_40 : decode method_2_code 40 = .ok (.areturn, 1) := by decide +kernel
theorem d1_41 : decode method_2_code 41 = .ok (.iconst 2, 1) := by decide +kernel
theorem d1_42 : decode method_2_code 42 = .ok (.newarray .char, 2) := by decide +kernel
theorem d1_44 : decode method_2_code 44 = .ok (.astore_n 3, 1) := by decide +kernel
theorem d1_45 : decode method_2_code 45 = .ok (.aload_n 3, 1) := by decide +kernel
theorem d1_46 : decode method_2_code 46 = .ok (.iconst 0, 1) := by decide +kernel
theorem d1_47 : decode method_2_code 47 = .ok (.iload_n 1, 1) := by decide +kernel
theorem d1_48 : decode method_2_code 48 = .ok (.sipush 255, 3) := by decide +kernel
theorem d1_51 : decode method_2_code 51 = .ok (.iand, 1) := by decide +kernel
theorem d1_52 : decode method_2_code 52 = .ok (.i2c, 1) := by decide +kernel
theorem d1_53 : decode method_2_code 53 = .ok (.castore, 1) := by decide +kernel
theorem d1_54 : decode method_2_code 54 = .ok (.aload_n 3, 1) := by decide +kernel
theorem d1_55 : decode method_2_code 55 = .ok (.iconst 1, 1) := by decide +kernel
theorem d1_56 : decode method_2_code 56 = .ok (.iload_n 1, 1) := by decide +kernel
theorem d1_57 : decode method_2_code 57 = .ok (.bipush 8, 2) := by decide +kernel
theorem d1_59 : decode method_2_code 59 = .ok (.iushr, 1) := by decide +kernel
theorem d1_60 : decode method_2_code 60 = .ok (.sipush 255, 3) := by decide +kernel
theorem d1_63 : decode method_2_code 63 = .ok (.iand, 1) := by decide +kernel
theorem d1_64 : decode method_2_code 64 = .ok (.i2c, 1) := by decide +kernel
theorem d1_65 : decode method_2_code 65 = .ok (.castore, 1) := by decide +kernel
theorem d1_66 : decode method_2_code 66 = .ok (.new 7, 3) := by decide +kernel
theorem d1_69 : decode method_2_code 69 = .ok (.dup, 1) := by decide +kernel
theorem d1_70 : decode method_2_code 70 = .ok (.aload_n 3, 1) := by decide +kernel
theorem d1_71 : decode method_2_code 71 = .ok (.invokespecial 9, 3) := by decide +kernel
theorem d1_74 : decode method_2_code 74 = .ok (.areturn, 1) := by decide +kernel
theorem d2_0 : decode prog_41_method_1_code 0 = .ok (.aload_n 0, 1) := by decide +kernel
theorem d2_1 : decode prog_41_method_1_code 1 = .ok (.invokespecial 1, 3) := by decide +kernel
theorem d2_4 : decode prog_41_method_1_code 4 = .ok (.aload_n 0, 1) := by decide +kernel
theorem d2_5 : decode prog_41_method_1_code 5 = .ok (.iload_n 1, 1) := by decide +kernel
theorem d2_6 : decode prog_41_method_1_code 6 = .ok (.putfield 7, 3) := by decide +kernel
theorem d2_9 : decode prog_41_method_1_code 9 = .ok (.aload_n 0, 1) := by decide +kernel
theorem d2_10 : decode prog_41_method_1_code 10 = .ok (.aload_n 2, 1) := by decide +kernel
theorem d2_11 : decode prog_41_method_1_code 11 = .ok (.putfield 13, 3) := by decide +kernel
theorem d2_14 : decode prog_41_method_1_code 14 = .ok (.aload_n 0, 1) := by decide +kernel
theorem d2_15 : decode prog_41_method_1_code 15 = .ok (.aload_n 3, 1) := by decide +kernel
theorem d2_16 : decode prog_41_method_1_code 16 = .ok (.putfield 17, 3) := by decide +kernel
theorem d2_19 : decode prog_41_method_1_code 19 = .ok (.aload_n 0, 1) := by decide +kernel
theorem d2_20 : decode prog_41_method_1_code 20 = .ok (.aload 4, 2) := by decide +kernel
theorem d2_22 : decode prog_41_method_1_code 22 = .ok (.putfield 20, 3) := by decide +kernel
theorem d2_25 : decode prog_41_method_1_code 25 = .ok (.aload_n 0, 1) := by decide +kernel
theorem d2_26 : decode prog_41_method_1_code 26 = .ok (.aload 5, 2) := by decide +kernel
theorem d2_28 : decode prog_41_method_1_code 28 = .ok (.putfield 23, 3) := by decide +kernel
theorem d2_31 : decode prog_41_method_1_code 31 = .ok (.return_, 1) := by decide +kernel
theorem d4_0 : decode prog_41_method_2_code 0 = .ok (.aload_n 0, 1) := by decide +kernel
theorem d4_1 : decode prog_41_method_2_code 1 = .ok (.getfield 20, 3) := by decide +kernel
theorem d4_4 : decode prog_41_method_2_code 4 = .ok (.ifnull 7, 3) := by decide +kernel
theorem d4_7 : decode prog_41_method_2_code 7 = .ok (.getstatic 26, 3) := by decide +kernel
theorem d4_10 : decode prog_41_method_2_code 10 = .ok (.areturn, 1) := by decide +kernel
theorem d4_11 : decode prog_41_method_2_code 11 = .ok (.aload_n 0, 1) := by decide +kernel
theorem d4_12 : decode prog_41_method_2_code 12 = .ok (.getfield 7, 3) := by decide +kernel
theorem d4_15 : decode prog_41_method_2_code 15 = .ok (.ifCond .eq 9, 3) := by decide +kernel
theorem d4_18 : decode prog_41_method_2_code 18 = .ok (.getstatic 32, 3) := by decide +kernel
theorem d4_21 : decode prog_41_method_2_code 21 = .ok (.goto 6, 3) := by decide +kernel
theorem d4_24 : decode prog_41_method_2_code 24 = .ok (.getstatic 35, 3) := by decide +kernel
theorem d4_27 : decode prog_41_method_2_code 27 = .ok (.areturn, 1) := by decide +kernel
theorem d5_0 : decode jdk_42_method_3_code 0 = .ok (.aload_n 0, 1) := by decide +kernel
theorem d5_1 : decode jdk_42_method_3_code 1 = .ok (.aload_n 1, 1) := by decide +kernel
theorem d5_2 : decode jdk_42_method_3_code 2 = .ok (.iconst 0, 1) := by decide +kernel
theorem d5_3 : decode jdk_42_method_3_code 3 = .ok (.aload_n 1, 1) := by decide +kernel
theorem d5_4 : decode jdk_42_method_3_code 4 = .ok (.arraylength, 1) := by decide +kernel
theorem d5_5 : decode jdk_42_method_3_code 5 = .ok (.aconst_null, 1) := by decide +kernel
theorem d5_6 : decode jdk_42_method_3_code 6 = .ok (.invokespecial 27, 3) := by decide +kernel
theorem d5_9 : decode jdk_42_method_3_code 9 = .ok (.return_, 1) := by decide +kernel
theorem d6_0 : decode jdk_42_method_149_code 0 = .ok (.aload_n 0, 1) := by decide +kernel
theorem d6_1 : decode jdk_42_method_149_code 1 = .ok (.invokespecial 1, 3) := by decide +kernel
theorem d6_4 : decode jdk_42_method_149_code 4 = .ok (.iload_n 3, 1) := by decide +kernel
theorem d6_5 : decode jdk_42_method_149_code 5 = .ok (.ifCond .ne 22, 3) := by decide +kernel
theorem d6_8 : decode jdk_42_method_149_code 8 = .ok (.aload_n 0, 1) := by decide +kernel
theorem d6_9 : decode jdk_42_method_149_code 9 = .ok (.ldc 7, 2) := by decide +kernel
theorem d6_11 : decode jdk_42_method_149_code 11 = .ok (.getfield 9, 3) := by decide +kernel
theorem d6_14 : decode jdk_42_method_149_code 14 = .ok (.putfield 9, 3) := by decide +kernel
theorem d6_17 : decode jdk_42_method_149_code 17 = .ok (.aload_n 0, 1) := by decide +kernel
theorem d6_18 : decode jdk_42_method_149_code 18 = .ok (.ldc 7, 2) := by decide +kernel
theorem d6_20 : decode jdk_42_method_149_code 20 = .ok (.getfield 15, 3) := by decide +kernel
theorem d6_23 : decode jdk_42_method_149_code 23 = .ok (.putfield 15, 3) := by decide +kernel
theorem d6_26 : decode jdk_42_method_149_code 26 = .ok (.return_, 1) := by decide +kernel
theorem d10_0 : decode jdk_42_method_139_code 0 = .ok (.getstatic 38, 3) := by decide +kernel
theorem d10_3 : decode jdk_42_method_139_code 3 = .ok (.ifCond .eq 23, 3) := by decide +kernel
theorem d10_6 : decode jdk_42_method_139_code 6 = .ok (.iload_n 0, 1) := by decide +kernel
theorem d10_7 : decode jdk_42_method_139_code 7 = .ok (.invokestatic 1015, 3) := by decide +kernel
theorem d10_10 : decode jdk_42_method_139_code 10 = .ok (.ifCond .eq 16, 3) := by decide +kernel
theorem d10_13 : decode jdk_42_method_139_code 13 = .ok (.new 10, 3) := by decide +kernel
theorem d10_16 : decode jdk_42_method_139_code 16 = .ok (.dup, 1) := by decide +kernel
theorem d10_17 : decode jdk_42_method_139_code 17 = .ok (.iload_n 0, 1) := by decide +kernel
theorem d10_18 : decode jdk_42_method_139_code 18 = .ok (.invokestatic 1018, 3) := by decide +kernel
theorem d10_21 : decode jdk_42_method_139_code 21 = .ok (.iconst 0, 1) := by decide +kernel
theorem d10_22 : decode jdk_42_method_139_code 22 = .ok (.invokespecial 209, 3) := by decide +kernel
theorem d10_25 : decode jdk_42_method_139_code 25 = .ok (.areturn, 1) := by decide +kernel
theorem d11_0 : decode jdk_43_method_3_code 0 = .ok (.iload_n 0, 1) := by decide +kernel
theorem d11_1 : decode jdk_43_method_3_code 1 = .ok (.sipush 255, 3) := by decide +kernel
theorem d11_4 : decode jdk_43_method_3_code 4 = .ok (.if_icmp .gt 7, 3) := by decide +kernel
theorem d11_7 : decode jdk_43_method_3_code 7 = .ok (.iconst 1, 1) := by decide +kernel
theorem d11_8 : decode jdk_43_method_3_code 8 = .ok (.goto 4, 3) := by decide +kernel
theorem d11_12 : decode jdk_43_method_3_code 12 = .ok (.ireturn, 1) := by decide +kernel
theorem d12_0 : decode jdk_43_method_46_code 0 = .ok (.iconst 1, 1) := by decide +kernel
theorem d12_1 : decode jdk_43_method_46_code 1 = .ok (.newarray .byte, 2) := by decide +kernel
theorem d12_3 : decode jdk_43_method_46_code 3 = .ok (.dup, 1) := by decide +kernel
theorem d12_4 : decode jdk_43_method_46_code 4 = .ok (.iconst 0, 1) := by decide +kernel
theorem d12_5 : decode jdk_43_method_46_code 5 = .ok (.iload_n 0, 1) := by decide +kernel
theorem d12_6 : decode jdk_43_method_46_code 6 = .ok (.i2b, 1) := by decide +kernel
theorem d12_7 : decode jdk_43_method_46_code 7 = .ok (.bastore, 1) := by decide +kernel
theorem d12_8 : decode jdk_43_method_46_code 8 = .ok (.areturn, 1) := by decide +kernel
theorem d13_0 : decode jdk_42_method_151_code 0 = .ok (.aload_n 0, 1) := by decide +kernel
theorem d13_1 : decode jdk_42_method_151_code 1 = .ok (.invokespecial 1, 3) := by decide +kernel
theorem d13_4 : decode jdk_42_method_151_code 4 = .ok (.aload_n 0, 1) := by decide +kernel
theorem d13_5 : decode jdk_42_method_151_code 5 = .ok (.aload_n 1, 1) := by decide +kernel
theorem d13_6 : decode jdk_42_method_151_code 6 = .ok (.putfield 9, 3) := by decide +kernel
theorem d13_9 : decode jdk_42_method_151_code 9 = .ok (.aload_n 0, 1) := by decide +kernel
theorem d13_10 : decode jdk_42_method_151_code 10 = .ok (.iload_n 2, 1) := by decide +kernel
theorem d13_11 : decode jdk_42_method_151_code 11 = .ok (.putfield 15, 3) := by decide +kernel
theorem d13_14 : decode jdk_42_method_151_code 14 = .ok (.return_, 1) := by decide +kernel
abbrev own_rN : Room := { frames := 1, cells := 0, slots := 0, locals := 12 }
abbrev own_r0 : Room := { frames := 0, cells := 0, slots := 0, locals := 0 }
set_option maxRecDepth 65536 in
set_option maxHeartbeats 40000000 in
theorem own_cenc (l : Launch) (Z : State) (a0 : Array Value) (hw : ∀ d ∈ tables_1, d.before a0 Z = true) (ch : Int32) (h0 : Heap) (n0 : Nat) (hc2 : ¬ (255 : Int32) < ch) :
    Ctr l Z (⟨"java/lang/StringLatin1", "canEncode", "(C)Z"⟩ : MethodName) jdk_43_method_3_code 1 (some .boolean) [] own_r0 #[(.int ch)] h0 (fun v h L => v = some (.int 1) ∧ L = [] ∧ h = h0) := by
  refine Ctr.intro (plainFor_of_name pn_0) #[.val (.int ch)] (fun m => by first | (simp [entryFrame, mkF, argsToLocals, Value.category]; done) | rfl) ?_
  intro p e s m below meth c T hx hby hml hown hnm hret hlk hZ hnamed X eT
  have hown : s.vm.findClass "java/lang/StringLatin1" = some m.cls := hown
  have N := Fr.nil n0
  show Gl p e below s _ _ _ (T.setTop (mkF m 0 #[.val (.int ch)] []))
  refine Gl.by (fun t_ k_ => XS.iloadN X.here hx rfl (hb hby d11_0) rfl k_) ?_
  show Gl p e below s _ _ _ (T.setTop (mkF m 1 #[.val (.int ch)] [(.int ch)]))
  refine Gl.by (fun t_ k_ => XS.sipush X.here hx rfl (hb hby d11_1) k_) ?_
  show Gl p e below s _ _ _ (T.setTop (mkF m 4 #[.val (.int ch)] [(.int (255 : Int32)), (.int ch)]))
  refine Gl.by (fun t_ k_ => XS.icmpNo X.here hx rfl (hb hby d11_4) rfl (flt hc2).2.2.1 k_) ?_
  show Gl p e below s _ _ _ (T.setTop (mkF m 7 #[.val (.int ch)] []))
  refine Gl.by (fun t_ k_ => XS.iconst X.here hx rfl (hb hby d11_7) k_) ?_
  show Gl p e below s _ _ _ (T.setTop (mkF m 8 #[.val (.int ch)] [(.int (1 : Int32))]))
  refine Gl.by (fun t_ k_ => XS.goto X.here hx rfl (pc0 := 8) (pc' := 12) rfl (hb hby d11_8) (by decide) (by decide) k_) ?_
  show Gl p e below s _ _ _ (T.setTop (mkF m 12 #[.val (.int ch)] [(.int (1 : Int32))]))
  exact Gl.retZ X hx hlk hret (by simp) (hb hby d11_12) (by decide) (by decide) ⟨rfl, rfl, eT⟩
abbrev own_rTB : Room := { frames := 0, cells := 1, slots := 1, locals := 0 }
abbrev own_rVO : Room := { frames := 2, cells := 2, slots := 5, locals := 44 }
set_option maxRecDepth 65536 in
set_option maxHeartbeats 40000000 in
theorem own_tob (l : Launch) (Z : State) (a0 : Array Value) (hw : ∀ d ∈ tables_1, d.before a0 Z = true) (ch : Int32) (h0 : Heap) (n0 : Nat) (Z0 : n0 ≤ h0.size) :
    Ctr l Z (⟨"java/lang/StringLatin1", "toBytes", "(C)[B"⟩ : MethodName) jdk_43_method_46_code 1 (some (.array .byte)) [] own_rTB #[(.int ch)] h0 (fun v h L => Fr n0 L ∧ Keep h0 h [] ∧ ∃ bb : Nat, v = some (.ref bb) ∧ h0.size ≤ bb) := by
  refine Ctr.intro (plainFor_of_name pn_0) #[.val (.int ch)] (fun m => by first | (simp [entryFrame, mkF, argsToLocals, Value.category]; done) | rfl) ?_
  intro p e s m below meth c T hx hby hml hown hnm hret hlk hZ hnamed X eT
  have hown : s.vm.findClass "java/lang/StringLatin1" = some m.cls := hown
  have N := Fr.nil n0
  show Gl p e below s _ _ _ (T.setTop (mkF m 0 #[.val (.int ch)] []))
  refine Gl.by (fun t_ k_ => XS.iconst X.here hx rfl (hb hby d12_0) k_) ?_
  show Gl p e below s _ _ _ (T.setTop (mkF m 1 #[.val (.int ch)] [(.int (1 : Int32))]))
  obtain ⟨T, h1, k1, X, eT, E1, A1, st⟩ := newP X hx hZ (hw _ (List.mem_of_getElem? (i := 49) rfl)) eT (g := (mkF m 1 #[.val (.int ch)] [(.int (1 : Int32))])) rfl (hb hby d12_1) rfl (by decide) (cap := 1) (by decide) (by decide) (by decide) (by decide)
  obtain ⟨bb, g1⟩ : ∃ z, z = h0.size := ⟨_, rfl⟩
  rw [← g1] at A1 st
  have sz1 := E1.1
  have lt1 : bb < h1.size := A1.lt
  have V1 : Arv Z h1 bb k1 .byte (1 : Int32) [(.int (0 : Int32))] (.int (0 : Int32)) := (Arv.new A1 (by decide)).pad (pad_rep [] (.int (0 : Int32)) 1)
  refine Gl.by st ?_
  show Gl p e below s _ _ _ (T.setTop (mkF m 3 #[.val (.int ch)] [(.ref bb)]))
  refine Gl.by (fun t_ k_ => XS.dup X.here hx rfl (hb hby d12_3) rfl rfl k_) ?_
  show Gl p e below s _ _ _ (T.setTop (mkF m 4 #[.val (.int ch)] [(.ref bb), (.ref bb)]))
  refine Gl.by (fun t_ k_ => XS.iconst X.here hx rfl (hb hby d12_4) k_) ?_
  show Gl p e below s _ _ _ (T.setTop (mkF m 5 #[.val (.int ch)] [(.int (0 : Int32)), (.ref bb), (.ref bb)]))
  refine Gl.by (fun t_ k_ => XS.iloadN X.here hx rfl (hb hby d12_5) rfl k_) ?_
  show Gl p e below s _ _ _ (T.setTop (mkF m 6 #[.val (.int ch)] [(.int ch), (.int (0 : Int32)), (.ref bb), (.ref bb)]))
  refine Gl.by (fun t_ k_ => XS.i2b X.here hx rfl (hb hby d12_6) rfl k_) ?_
  show Gl p e below s _ _ _ (T.setTop (mkF m 7 #[.val (.int ch)] [(.int (ch.toInt8.toInt32)), (.int (0 : Int32)), (.ref bb), (.ref bb)]))
  obtain ⟨cl2, Ar2, q2, S2, M2, H2, G2⟩ := (id (V1) : Arv Z h1 bb k1 .byte (1 : Int32) [(.int (0 : Int32))] (.int (0 : Int32)))
  obtain ⟨T, h2, X, eT, W2, st⟩ := stB X hx hZ eT Ar2 (j := (0 : Int32)) (inb_of S2 ⟨by decide, by decide⟩) (g := (mkF m 7 #[.val (.int ch)] [(.int (ch.toInt8.toInt32)), (.int (0 : Int32)), (.ref bb), (.ref bb)])) rfl rfl (hb hby d12_7)
  have V2 : Arv Z h2 bb k1 .byte (1 : Int32) [(.int (nar .byte (ch.toInt8.toInt32)))] (.int (0 : Int32)) := Arv.set Ar2 q2 S2 M2 H2 G2 (fits_nar_byte _) W2 0 rfl (Nat.le_of_ble_eq_true rfl)
  have sz2 := (Keep.of_wr W2).1
  have N := Fr.snoc X N (by omega)
  refine Gl.by st ?_
  show Gl p e below s _ _ _ (T.setTop (mkF m 8 #[.val (.int ch)] [(.ref bb)]))
  refine Gl.retA X hx hlk hret rfl rfl (hb hby d12_8) (by decide) (by decide) ?_
  rw [eT]
  exact ⟨N, (((Keep.refl h0 []).ext E1).wr W2 (Or.inr (by omega))), bb, rfl, by omega⟩
set_option maxRecDepth 65536 in
set_option maxHeartbeats 40000000 in
theorem own_sbb (l : Launch) (Z : State) (a0 : Array Value) (hw : ∀ d ∈ tables_1, d.before a0 Z = true) (sx bb : Nat) (h0 : Heap) (n0 : Nat) (Z0 : n0 ≤ sx) (E : Exa Z h0 sx "java/lang/String") (F_value : Fld Z h0 sx "java/lang/String" "value" "[B" .null) (F_coder : Fld Z h0 sx "java/lang/String" "coder" "B" (.int (0 : Int32)))  :
    Ctr l Z (⟨"java/lang/String", "<init>", "([BB)V"⟩ : MethodName) jdk_42_method_151_code 3 none [] own_rN #[(.ref sx), (.ref bb), (.int (0 : Int32))] h0 (fun v h L => v = none ∧ Fr n0 L ∧ Keep h0 h [sx] ∧ Exa Z h sx "java/lang/String" ∧ Fld Z h sx "java/lang/String" "value" "[B" (.ref bb) ∧ Fld Z h sx "java/lang/String" "coder" "B" (.int 0)) := by
  refine Ctr.intro (plainFor_of_name pn_1) #[.val (.ref sx), .val (.ref bb), .val (.int (0 : Int32))] (fun m => by first | (simp [entryFrame, mkF, argsToLocals, Value.category]; done) | rfl) ?_
  intro p e s m below meth c T hx hby hml hown hnm hret hlk hZ hnamed X eT
  have hown : s.vm.findClass "java/lang/String" = some m.cls := hown
  have N := Fr.nil n0
  show Gl p e below s _ _ _ (T.setTop (mkF m 0 #[.val (.ref sx), .val (.ref bb), .val (.int (0 : Int32))] []))
  refine Gl.by (fun t_ k_ => XS.aloadN X.here hx rfl (hb hby d13_0) rfl rfl k_) ?_
  show Gl p e below s _ _ _ (T.setTop (mkF m 1 #[.val (.ref sx), .val (.ref bb), .val (.int (0 : Int32))] [(.ref sx)]))
  obtain ⟨T, X, eT, st⟩ := initO X hx hZ hown (hw _ (List.mem_of_getElem? (i := 43) rfl)) (hw _ (List.mem_of_getElem? (i := 11) rfl)) (hw _ (List.mem_of_getElem? (i := 12) rfl)) eT (g := (mkF m 1 #[.val (.ref sx), .val (.ref bb), .val (.int (0 : Int32))] [(.ref sx)])) rfl (by rw [hml]; rfl) rfl (hb hby d13_1) (by decide) (W := 0) (by show 2 * 0 + _ ≤ _; exact Nat.le_of_eq rfl) (by decide)
  refine Gl.by st ?_
  show Gl p e below s _ _ _ (T.setTop (mkF m 4 #[.val (.ref sx), .val (.ref bb), .val (.int (0 : Int32))] []))
  refine Gl.by (fun t_ k_ => XS.aloadN X.here hx rfl (hb hby d13_4) rfl rfl k_) ?_
  show Gl p e below s _ _ _ (T.setTop (mkF m 5 #[.val (.ref sx), .val (.ref bb), .val (.int (0 : Int32))] [(.ref sx)]))
  refine Gl.by (fun t_ k_ => XS.aloadN X.here hx rfl (hb hby d13_5) rfl rfl k_) ?_
  show Gl p e below s _ _ _ (T.setTop (mkF m 6 #[.val (.ref sx), .val (.ref bb), .val (.int (0 : Int32))] [(.ref bb), (.ref sx)]))
  obtain ⟨T, h1, X, eT, W1, st⟩ := putF X hx hZ hown (host := "") (Or.inl (hw _ (List.mem_of_getElem? (i := 58) rfl))) Via.refl eT F_value E (Or.inr ⟨(hw _ (List.mem_of_getElem? (i := 59) rfl)), rfl, hnm⟩) (hw _ (List.mem_of_getElem? (i := 34) rfl)) (ty := (.array .byte)) (by decide) rfl rfl (g := (mkF m 6 #[.val (.ref sx), .val (.ref bb), .val (.int (0 : Int32))] [(.ref bb), (.ref sx)])) rfl rfl (hb hby d13_6)
  have F1_value : Fld Z h1 sx "java/lang/String" "value" "[B" (.ref bb) := Fld.same W1 F_value
  have sz1 := (Keep.of_wr W1).1
  have N := Fr.snoc X N (by omega)
  refine Gl.by st ?_
  show Gl p e below s _ _ _ (T.setTop (mkF m 9 #[.val (.ref sx), .val (.ref bb), .val (.int (0 : Int32))] []))
  refine Gl.by (fun t_ k_ => XS.aloadN X.here hx rfl (hb hby d13_9) rfl rfl k_) ?_
  show Gl p e below s _ _ _ (T.setTop (mkF m 10 #[.val (.ref sx), .val (.ref bb), .val (.int (0 : Int32))] [(.ref sx)]))
  refine Gl.by (fun t_ k_ => XS.iloadN X.here hx rfl (hb hby d13_10) rfl k_) ?_
  show Gl p e below s _ _ _ (T.setTop (mkF m 11 #[.val (.ref sx), .val (.ref bb), .val (.int (0 : Int32))] [(.int (0 : Int32)), (.ref sx)]))
  obtain ⟨T, h2, X, eT, W2, st⟩ := putF X hx hZ hown (host := "") (Or.inl (hw _ (List.mem_of_getElem? (i := 56) rfl))) Via.refl eT (F_coder.other W1 (Or.inr (slot_ne (C := "java/lang/String") (Or.inr (hw _ (List.mem_of_getElem? (i := 57) rfl))) (Or.inr (hw _ (List.mem_of_getElem? (i := 59) rfl))) (by decide) (t := .byte) (t' := (.array .byte)) (by decide) (by decide)))) (E.wr W1) (Or.inr ⟨(hw _ (List.mem_of_getElem? (i := 57) rfl)), rfl, hnm⟩) (hw _ (List.mem_of_getElem? (i := 34) rfl)) (ty := .byte) (by decide) rfl rfl (g := (mkF m 11 #[.val (.ref sx), .val (.ref bb), .val (.int (0 : Int32))] [(.int (0 : Int32)), (.ref sx)])) rfl rfl (hb hby d13_11)
  have F2_coder : Fld Z h2 sx "java/lang/String" "coder" "B" (.int (0 : Int32)) := Fld.same W2 (F_coder.other W1 (Or.inr (slot_ne (C := "java/lang/String") (Or.inr (hw _ (List.mem_of_getElem? (i := 57) rfl))) (Or.inr (hw _ (List.mem_of_getElem? (i := 59) rfl))) (by decide) (t := .byte) (t' := (.array .byte)) (by decide) (by decide))))
  have sz2 := (Keep.of_wr W2).1
  have N := Fr.snoc X N (by omega)
  refine Gl.by st ?_
  show Gl p e below s _ _ _ (T.setTop (mkF m 14 #[.val (.ref sx), .val (.ref bb), .val (.int (0 : Int32))] []))
  refine Gl.retV X hx hlk hret (hb hby d13_14) (by decide) (by decide) ?_
  rw [eT]
  exact ⟨rfl, N, (((Keep.refl h0 [sx]).wr W1 (Or.inl (by simp))).wr W2 (Or.inl (by simp))), ((E.wr W1).wr W2), (F1_value.other W2 (Or.inr (slot_ne (C := "java/lang/String") (Or.inr (hw _ (List.mem_of_getElem? (i := 59) rfl))) (Or.inr (hw _ (List.mem_of_getElem? (i := 57) rfl))) (by decide) (t := (.array .byte)) (t' := .byte) (by decide) (by decide)))), F2_coder⟩
set_option maxRecDepth 65536 in
set_option maxHeartbeats 40000000 in
theorem own_vof (l : Launch) (Z : State) (a0 : Array Value) (hw : ∀ d ∈ tables_1, d.before a0 Z = true) (ch z : Int32) (h0 : Heap) (n0 : Nat) (Z0 : n0 ≤ h0.size) (hc2 : ¬ (255 : Int32) < ch) (S : Sta Z Z.heap "java/lang/String" "COMPACT_STRINGS" "Z" (.int z)) (hz : ¬ z = 0) (O : Old Z n0 h0) :
    Ctr l Z (⟨"java/lang/String", "valueOf", "(C)Ljava/lang/String;"⟩ : MethodName) jdk_42_method_139_code 1 (some (.object "java/lang/String")) [] own_rVO #[(.int ch)] h0 (fun v h L => Fr n0 L ∧ Keep h0 h [] ∧ ∃ sx : Nat, v = some (.ref sx) ∧ h0.size ≤ sx) := by
  refine Ctr.intro (plainFor_of_name pn_1) #[.val (.int ch)] (fun m => by first | (simp [entryFrame, mkF, argsToLocals, Value.category]; done) | rfl) ?_
  intro p e s m below meth c T hx hby hml hown hnm hret hlk hZ hnamed X eT
  have hown : s.vm.findClass "java/lang/String" = some m.cls := hown
  have N := Fr.nil n0
  show Gl p e below s _ _ _ (T.setTop (mkF m 0 #[.val (.int ch)] []))
  obtain ⟨T, X, eT, st⟩ := getS2 X hx hZ hown (host := "") (Or.inl (hw _ (List.mem_of_getElem? (i := 44) rfl))) Via.refl eT (S.ext O.2) (g := (mkF m 0 #[.val (.int ch)] [])) rfl (hb hby d10_0)
  refine Gl.by st ?_
  show Gl p e below s _ _ _ (T.setTop (mkF m 3 #[.val (.int ch)] [(.int z)]))
  refine Gl.by (fun t_ k_ => XS.ifNo X.here hx rfl (hb hby d10_3) rfl ((if0 _ _).trans (feq hz).1) k_) ?_
  show Gl p e below s _ _ _ (T.setTop (mkF m 6 #[.val (.int ch)] []))
  refine Gl.by (fun t_ k_ => XS.iloadN X.here hx rfl (hb hby d10_6) rfl k_) ?_
  show Gl p e below s _ _ _ (T.setTop (mkF m 7 #[.val (.int ch)] [(.int ch)]))
  refine Gl.stat X hx hZ hown (hw _ (List.mem_of_getElem? (i := 66) rfl)) (hw _ (List.mem_of_getElem? (i := 67) rfl)) (hw _ (List.mem_of_getElem? (i := 68) rfl)) (hw _ (List.mem_of_getElem? (i := 69) rfl)) (by decide) (W := 0) (backC (own_cenc l Z a0 hw ch h0 n0 hc2) hZ (hw _ (List.mem_of_getElem? (i := 69) rfl)) (hw _ (List.mem_of_getElem? (i := 68) rfl)) (by decide) (by decide)) eT (hb hby d10_7) (by rw [hml]; rfl) [(.int ch)] [] (lenOf pd_0 rfl) rfl rfl (Nat.le_of_eq rfl) (by decide) (by decide) ?_
  intro v T L X hq
  obtain ⟨rfl, rfl, eT⟩ := hq
  have N := Fr.app N (Fr.nil n0)
  show Gl p e below s _ _ _ (T.setTop (mkF m 10 #[.val (.int ch)] [(.int (1 : Int32))]))
  refine Gl.by (fun t_ k_ => XS.ifNo X.here hx rfl (hb hby d10_10) rfl ((if0 _ _).trans (feq (by decide : ¬ (1 : Int32) = 0)).1) k_) ?_
  show Gl p e below s _ _ _ (T.setTop (mkF m 13 #[.val (.int ch)] []))
  obtain ⟨T, h1, X, eT, E1, A1, D1, -, st⟩ := newO X hx hZ hown (hw _ (List.mem_of_getElem? (i := 70) rfl)) (hw _ (List.mem_of_getElem? (i := 34) rfl)) (hw _ (List.mem_of_getElem? (i := 35) rfl)) eT (g := (mkF m 13 #[.val (.int ch)] [])) rfl (hb hby d10_13) (by decide) (by decide)
  obtain ⟨sx, g1⟩ : ∃ z, z = h0.size := ⟨_, rfl⟩
  rw [← g1] at A1 D1 st
  have sz1 := E1.1
  have lt1 : sx < h1.size := A1.lt
  refine Gl.by st ?_
  have F1_coder : Fld Z h1 sx "java/lang/String" "coder" "B" (.int (0 : Int32)) := D1 (Or.inr (hw _ (List.mem_of_getElem? (i := 57) rfl))) (ty := .byte) (by decide)
  have F1_value : Fld Z h1 sx "java/lang/String" "value" "[B" .null := D1 (Or.inr (hw _ (List.mem_of_getElem? (i := 59) rfl))) (ty := (.array .byte)) (by decide)
  show Gl p e below s _ _ _ (T.setTop (mkF m 16 #[.val (.int ch)] [(.ref sx)]))
  refine Gl.by (fun t_ k_ => XS.dup X.here hx rfl (hb hby d10_16) rfl rfl k_) ?_
  show Gl p e below s _ _ _ (T.setTop (mkF m 17 #[.val (.int ch)] [(.ref sx), (.ref sx)]))
  refine Gl.by (fun t_ k_ => XS.iloadN X.here hx rfl (hb hby d10_17) rfl k_) ?_
  show Gl p e below s _ _ _ (T.setTop (mkF m 18 #[.val (.int ch)] [(.int ch), (.ref sx), (.ref sx)]))
  refine Gl.stat X hx hZ hown (hw _ (List.mem_of_getElem? (i := 71) rfl)) (hw _ (List.mem_of_getElem? (i := 72) rfl)) (hw _ (List.mem_of_getElem? (i := 68) rfl)) (hw _ (List.mem_of_getElem? (i := 73) rfl)) (by decide) (W := 2) (backC (own_tob l Z a0 hw ch h1 n0 (by omega)) hZ (hw _ (List.mem_of_getElem? (i := 73) rfl)) (hw _ (List.mem_of_getElem? (i := 68) rfl)) (by decide) (by decide)) eT (hb hby d10_18) (by rw [hml]; rfl) [(.int ch)] [(.ref sx), (.ref sx)] (lenOf pd_1 rfl) rfl rfl (Nat.le_of_eq rfl) (by decide) (by decide) ?_
  intro v T L X hq
  obtain ⟨NQ, K2, bb, rfl, ge⟩ := hq
  have N := Fr.app N NQ
  obtain ⟨h2, eT⟩ : ∃ z, T.heap = z := ⟨_, rfl⟩
  rw [eT] at K2
  have sz2 := K2.1
  show Gl p e below s _ _ _ (T.setTop (mkF m 21 #[.val (.int ch)] [(.ref bb), (.ref sx), (.ref sx)]))
  refine Gl.by (fun t_ k_ => XS.iconst X.here hx rfl (hb hby d10_21) k_) ?_
  show Gl p e below s _ _ _ (T.setTop (mkF m 22 #[.val (.int ch)] [(.int (0 : Int32)), (.ref bb), (.ref sx), (.ref sx)]))
  refine Gl.spec X hx hZ rfl hown (hw _ (List.mem_of_getElem? (i := 74) rfl)) (hw _ (List.mem_of_getElem? (i := 75) rfl)) (hw _ (List.mem_of_getElem? (i := 76) rfl)) (by decide) (W := 1) (backC (own_sbb l Z a0 hw sx bb h2 n0 (by omega) (A1.keep K2) (F1_value.keep K2 nin0) (F1_coder.keep K2 nin0)) hZ (hw _ (List.mem_of_getElem? (i := 76) rfl)) (hw _ (List.mem_of_getElem? (i := 35) rfl)) (by decide) (by decide)) eT (hb hby d10_22) (by rw [hml]; rfl) sx [(.ref bb), (.int (0 : Int32))] [(.ref sx)] (lenOf pd_2 rfl) rfl rfl (Nat.le_of_eq rfl) (by decide) (by decide) ?_
  intro v T L X hq
  obtain ⟨rfl, NQ, K3, Q3⟩ := hq
  have N := Fr.app N NQ
  obtain ⟨h3, eT⟩ : ∃ z, T.heap = z := ⟨_, rfl⟩
  rw [eT] at K3 Q3
  have sz3 := K3.1
  show Gl p e below s _ _ _ (T.setTop (mkF m 25 #[.val (.int ch)] [(.ref sx)]))
  refine Gl.retA X hx hlk hret rfl rfl (hb hby d10_25) (by decide) (by decide) ?_
  rw [eT]
  exact ⟨N, ((((Keep.refl h0 []).ext E1).trans K2 all0).trans K3 (allS (Or.inr (by omega)) all0)), sx, rfl, by omega⟩
abbrev own_EL : List (String × Nat) := [("java/lang/String", 7)]
theorem own_ew {Z : State} {a0 : Array Value} (hw : ∀ d ∈ tables_1, d.before a0 Z = true) : EW Z a0 own_EL := EW.cons (hw _ (List.mem_of_getElem? (i := 60) rfl)) (by decide +kernel) EW.nil
theorem own_wS {Z : State} {a0 : Array Value} (hw : ∀ d ∈ tables_1, d.before a0 Z = true) : ∀ a ∈ Bundle.stringAtoms, a.before a0 Z = true := fun d hd => hw d ((by decide +kernel : ∀ d ∈ Bundle.stringAtoms, d ∈ tables_1) d hd)
theorem own_words {Z : State} {a0 : Array Value} (hw : ∀ d ∈ tables_1, d.before a0 Z = true) : ∀ d ∈ StrChars.Road.words, d.before a0 Z = true := fun d hd => hw d ((by decide +kernel : ∀ d ∈ StrChars.Road.words, d ∈ tables_1) d hd)
abbrev own_rS4 : Room := { frames := 1, cells := 4, slots := 8, locals := 20 }
abbrev own_rSI : Room := { frames := 2, cells := 4, slots := 8, locals := 44 }
abbrev own_rDR : Room := { frames := 4, cells := 6, slots := 12, locals := 80 }
set_option maxRecDepth 65536 in
set_option maxHeartbeats 40000000 in
theorem own_si4 (l : Launch) (Z : State) (a0 : Array Value) (hw : ∀ d ∈ tables_1, d.before a0 Z = true) (sx ch : Nat) (h0 : Heap) (n0 : Nat) (Z0 : n0 ≤ sx) (E : Exa Z h0 sx "java/lang/String") (F_value : Fld Z h0 sx "java/lang/String" "value" "[B" .null) (F_coder : Fld Z h0 sx "java/lang/String" "coder" "B" (.int (0 : Int32))) :
    CtrH l Z own_EL [sx] (⟨"java/lang/String", "<init>", "([CIILjava/lang/Void;)V"⟩ : MethodName) jdk_42_method_149_code 6 none [] own_rS4 #[(.ref sx), (.ref ch), (.int (0 : Int32)), (.int (0 : Int32)), .null] h0 (fun v h L => v = none ∧ Fr n0 L ∧ Keep h0 h [sx] ∧ Exa Z h sx "java/lang/String") := by
  have hEL := own_ew hw
  refine CtrH.intro (plainFor_of_name pn_1) #[.val (.ref sx), .val (.ref ch), .val (.int (0 : Int32)), .val (.int (0 : Int32)), .val .null, .unset] (fun m => by first | (simp [entryFrame, mkF, argsToLocals, Value.category]; done) | rfl) ?_
  intro p e sT m below meth c s T hx hby hml hown hnm hret hlk hZ hnamed X eT B SF
  have hown : s.vm.findClass "java/lang/String" = some m.cls := hown
  have N := Fr.nil n0
  obtain ⟨lsx, SF_sx⟩ := SF sx (List.mem_singleton.mpr rfl)
  have lsx : (sx : Nat) < h0.size := lsx
  show GlH p e below _ _ sT _ _ _ _ (T.setTop (mkF m 0 #[.val (.ref sx), .val (.ref ch), .val (.int (0 : Int32)), .val (.int (0 : Int32)), .val .null, .unset] []))
  refine GlH.by (fun t_ k_ => XS.aloadN X.here hx rfl (hb hby d6_0) rfl rfl k_) ?_
  show GlH p e below _ _ sT _ _ _ _ (T.setTop (mkF m 1 #[.val (.ref sx), .val (.ref ch), .val (.int (0 : Int32)), .val (.int (0 : Int32)), .val .null, .unset] [(.ref sx)]))
  obtain ⟨T, X, eT, st⟩ := initO X hx hZ hown (hw _ (List.mem_of_getElem? (i := 43) rfl)) (hw _ (List.mem_of_getElem? (i := 11) rfl)) (hw _ (List.mem_of_getElem? (i := 12) rfl)) eT (g := (mkF m 1 #[.val (.ref sx), .val (.ref ch), .val (.int (0 : Int32)), .val (.int (0 : Int32)), .val .null, .unset] [(.ref sx)])) rfl (by rw [hml]; rfl) rfl (hb hby d6_1) (by decide) (W := 0) (by show 2 * 0 + _ ≤ _; exact Nat.le_of_eq rfl) (by decide)
  refine GlH.by st ?_
  show GlH p e below _ _ sT _ _ _ _ (T.setTop (mkF m 4 #[.val (.ref sx), .val (.ref ch), .val (.int (0 : Int32)), .val (.int (0 : Int32)), .val .null, .unset] []))
  refine GlH.by (fun t_ k_ => XS.iloadN X.here hx rfl (hb hby d6_4) rfl k_) ?_
  show GlH p e below _ _ sT _ _ _ _ (T.setTop (mkF m 5 #[.val (.ref sx), .val (.ref ch), .val (.int (0 : Int32)), .val (.int (0 : Int32)), .val .null, .unset] [(.int (0 : Int32))]))
  refine GlH.by (fun t_ k_ => XS.ifNo X.here hx rfl (hb hby d6_5) rfl ((if0 _ _).trans (teq (rfl : (0 : Int32) = 0)).2) k_) ?_
  show GlH p e below _ _ sT _ _ _ _ (T.setTop (mkF m 8 #[.val (.ref sx), .val (.ref ch), .val (.int (0 : Int32)), .val (.int (0 : Int32)), .val .null, .unset] []))
  refine GlH.by (fun t_ k_ => XS.aloadN X.here hx rfl (hb hby d6_8) rfl rfl k_) ?_
  show GlH p e below _ _ sT _ _ _ _ (T.setTop (mkF m 9 #[.val (.ref sx), .val (.ref ch), .val (.int (0 : Int32)), .val (.int (0 : Int32)), .val .null, .unset] [(.ref sx)]))
  obtain ⟨q1, b1, k1, T, s, h1, X, eT, E1, B, hZ, hown, CB, A1, Fc1, Fv1, V1, ne1, st⟩ := ldcH X hx hZ hown (hw _ (List.mem_of_getElem? (i := 60) rfl)) (own_wS hw) eT B hEL (by decide) (vs := []) (z := 0) ⟨by decide +kernel, by decide +kernel⟩ (by decide) (by decide) (g := (mkF m 9 #[.val (.ref sx), .val (.ref ch), .val (.int (0 : Int32)), .val (.int (0 : Int32)), .val .null, .unset] [(.ref sx)])) rfl (hb hby d6_9) (n := 0) (by decide +kernel) (by decide) (by decide) (by decide)
  have sz1 := E1.1
  have SF_sx := CB.safe (ltA (by omega)) SF_sx
  refine GlH.by st ?_
  show GlH p e below _ _ sT _ _ _ _ (T.setTop (mkF m 11 #[.val (.ref sx), .val (.ref ch), .val (.int (0 : Int32)), .val (.int (0 : Int32)), .val .null, .unset] [(.ref q1), (.ref sx)]))
  obtain ⟨T, X, eT, st⟩ := getF X hx hZ hown (host := "") (Or.inl (hw _ (List.mem_of_getElem? (i := 58) rfl))) Via.refl eT Fv1 (g := (mkF m 11 #[.val (.ref sx), .val (.ref ch), .val (.int (0 : Int32)), .val (.int (0 : Int32)), .val .null, .unset] [(.ref q1), (.ref sx)])) rfl rfl (hb hby d6_11)
  refine GlH.by st ?_
  show GlH p e below _ _ sT _ _ _ _ (T.setTop (mkF m 14 #[.val (.ref sx), .val (.ref ch), .val (.int (0 : Int32)), .val (.int (0 : Int32)), .val .null, .unset] [(.ref b1), (.ref sx)]))
  obtain ⟨T, h2, X, eT, W2, st⟩ := putF X hx hZ hown (host := "") (Or.inl (hw _ (List.mem_of_getElem? (i := 58) rfl))) Via.refl eT (F_value.ext E1) (E.ext E1) (Or.inr ⟨(hw _ (List.mem_of_getElem? (i := 59) rfl)), rfl, hnm⟩) (hw _ (List.mem_of_getElem? (i := 34) rfl)) (ty := (.array .byte)) (by decide) rfl rfl (g := (mkF m 14 #[.val (.ref sx), .val (.ref ch), .val (.int (0 : Int32)), .val (.int (0 : Int32)), .val .null, .unset] [(.ref b1), (.ref sx)])) rfl rfl (hb hby d6_14)
  have F2_value : Fld Z h2 sx "java/lang/String" "value" "[B" (.ref b1) := Fld.same W2 (F_value.ext E1)
  have sz2 := (Keep.of_wr W2).1
  have N := Fr.snoc X N (by omega)
  refine GlH.by st ?_
  have SG_sx := SafeX.wr SF_sx B W2 SF_sx
  have B := B.wr W2 SF_sx
  have SF_sx := SG_sx
  show GlH p e below _ _ sT _ _ _ _ (T.setTop (mkF m 17 #[.val (.ref sx), .val (.ref ch), .val (.int (0 : Int32)), .val (.int (0 : Int32)), .val .null, .unset] []))
  refine GlH.by (fun t_ k_ => XS.aloadN X.here hx rfl (hb hby d6_17) rfl rfl k_) ?_
  show GlH p e below _ _ sT _ _ _ _ (T.setTop (mkF m 18 #[.val (.ref sx), .val (.ref ch), .val (.int (0 : Int32)), .val (.int (0 : Int32)), .val .null, .unset] [(.ref sx)]))
  obtain ⟨q2, b2, k3, T, s, h3, X, eT, E3, B, hZ, hown, CB, A3, Fc3, Fv3, V3, ne3, st⟩ := ldcH X hx hZ hown (hw _ (List.mem_of_getElem? (i := 60) rfl)) (own_wS hw) eT B hEL (by decide) (vs := []) (z := 0) ⟨by decide +kernel, by decide +kernel⟩ (by decide) (by decide) (g := (mkF m 18 #[.val (.ref sx), .val (.ref ch), .val (.int (0 : Int32)), .val (.int (0 : Int32)), .val .null, .unset] [(.ref sx)])) rfl (hb hby d6_18) (n := 0) (by decide +kernel) (by decide) (by decide) (by decide)
  have sz3 := E3.1
  have SF_sx := CB.safe (ltA (by omega)) SF_sx
  refine GlH.by st ?_
  show GlH p e below _ _ sT _ _ _ _ (T.setTop (mkF m 20 #[.val (.ref sx), .val (.ref ch), .val (.int (0 : Int32)), .val (.int (0 : Int32)), .val .null, .unset] [(.ref q2), (.ref sx)]))
  obtain ⟨T, X, eT, st⟩ := getF X hx hZ hown (host := "") (Or.inl (hw _ (List.mem_of_getElem? (i := 56) rfl))) Via.refl eT Fc3 (g := (mkF m 20 #[.val (.ref sx), .val (.ref ch), .val (.int (0 : Int32)), .val (.int (0 : Int32)), .val .null, .unset] [(.ref q2), (.ref sx)])) rfl rfl (hb hby d6_20)
  refine GlH.by st ?_
  show GlH p e below _ _ sT _ _ _ _ (T.setTop (mkF m 23 #[.val (.ref sx), .val (.ref ch), .val (.int (0 : Int32)), .val (.int (0 : Int32)), .val .null, .unset] [(.int (0 : Int32)), (.ref sx)]))
  obtain ⟨T, h4, X, eT, W4, st⟩ := putF X hx hZ hown (host := "") (Or.inl (hw _ (List.mem_of_getElem? (i := 56) rfl))) Via.refl eT (((F_coder.ext E1).other W2 (Or.inr (slot_ne (C := "java/lang/String") (Or.inr (hw _ (List.mem_of_getElem? (i := 57) rfl))) (Or.inr (hw _ (List.mem_of_getElem? (i := 59) rfl))) (by decide) (t := .byte) (t' := (.array .byte)) (by decide) (by decide)))).ext E3) (((E.ext E1).wr W2).ext E3) (Or.inr ⟨(hw _ (List.mem_of_getElem? (i := 57) rfl)), rfl, hnm⟩) (hw _ (List.mem_of_getElem? (i := 34) rfl)) (ty := .byte) (by decide) rfl rfl (g := (mkF m 23 #[.val (.ref sx), .val (.ref ch), .val (.int (0 : Int32)), .val (.int (0 : Int32)), .val .null, .unset] [(.int (0 : Int32)), (.ref sx)])) rfl rfl (hb hby d6_23)
  have F4_coder : Fld Z h4 sx "java/lang/String" "coder" "B" (.int (0 : Int32)) := Fld.same W4 (((F_coder.ext E1).other W2 (Or.inr (slot_ne (C := "java/lang/String") (Or.inr (hw _ (List.mem_of_getElem? (i := 57) rfl))) (Or.inr (hw _ (List.mem_of_getElem? (i := 59) rfl))) (by decide) (t := .byte) (t' := (.array .byte)) (by decide) (by decide)))).ext E3)
  have sz4 := (Keep.of_wr W4).1
  have N := Fr.snoc X N (by omega)
  refine GlH.by st ?_
  have SG_sx := SafeX.wr SF_sx B W4 SF_sx
  have B := B.wr W4 SF_sx
  have SF_sx := SG_sx
  show GlH p e below _ _ sT _ _ _ _ (T.setTop (mkF m 26 #[.val (.ref sx), .val (.ref ch), .val (.int (0 : Int32)), .val (.int (0 : Int32)), .val .null, .unset] []))
  refine GlH.retV X B eT hZ hEL hx hlk hret (hb hby d6_26) (by decide) (by decide) ?_
  rw [eT]
  exact ⟨rfl, N, (((((Keep.refl h0 [sx]).ext E1).wr W2 (Or.inl (by simp))).ext E3).wr W4 (Or.inl (by simp))), ((((E.ext E1).wr W2).ext E3).wr W4)⟩
set_option maxRecDepth 65536 in
set_option maxHeartbeats 40000000 in
theorem own_si (l : Launch) (Z : State) (a0 : Array Value) (hw : ∀ d ∈ tables_1, d.before a0 Z = true) (sx ch : Nat) (k : ClassId) (h0 : Heap) (n0 : Nat) (Z0 : n0 ≤ sx) (E : Exa Z h0 sx "java/lang/String") (F_value : Fld Z h0 sx "java/lang/String" "value" "[B" .null) (F_coder : Fld Z h0 sx "java/lang/String" "coder" "B" (.int (0 : Int32))) (V : Arv Z h0 ch k .char 0 [] (.int (0 : Int32))) :
    CtrH l Z own_EL [sx] (⟨"java/lang/String", "<init>", "([C)V"⟩ : MethodName) jdk_42_method_3_code 2 none [] own_rSI #[(.ref sx), (.ref ch)] h0 (fun v h L => v = none ∧ Fr n0 L ∧ Keep h0 h [sx] ∧ Exa Z h sx "java/lang/String") := by
  have hEL := own_ew hw
  refine CtrH.intro (plainFor_of_name pn_1) #[.val (.ref sx), .val (.ref ch)] (fun m => by first | (simp [entryFrame, mkF, argsToLocals, Value.category]; done) | rfl) ?_
  intro p e sT m below meth c s T hx hby hml hown hnm hret hlk hZ hnamed X eT B SF
  have hown : s.vm.findClass "java/lang/String" = some m.cls := hown
  have N := Fr.nil n0
  obtain ⟨lsx, SF_sx⟩ := SF sx (List.mem_singleton.mpr rfl)
  have lsx : (sx : Nat) < h0.size := lsx
  show GlH p e below _ _ sT _ _ _ _ (T.setTop (mkF m 0 #[.val (.ref sx), .val (.ref ch)] []))
  refine GlH.by (fun t_ k_ => XS.aloadN X.here hx rfl (hb hby d5_0) rfl rfl k_) ?_
  show GlH p e below _ _ sT _ _ _ _ (T.setTop (mkF m 1 #[.val (.ref sx), .val (.ref ch)] [(.ref sx)]))
  refine GlH.by (fun t_ k_ => XS.aloadN X.here hx rfl (hb hby d5_1) rfl rfl k_) ?_
  show GlH p e below _ _ sT _ _ _ _ (T.setTop (mkF m 2 #[.val (.ref sx), .val (.ref ch)] [(.ref ch), (.ref sx)]))
  refine GlH.by (fun t_ k_ => XS.iconst X.here hx rfl (hb hby d5_2) k_) ?_
  show GlH p e below _ _ sT _ _ _ _ (T.setTop (mkF m 3 #[.val (.ref sx), .val (.ref ch)] [(.int (0 : Int32)), (.ref ch), (.ref sx)]))
  refine GlH.by (fun t_ k_ => XS.aloadN X.here hx rfl (hb hby d5_3) rfl rfl k_) ?_
  show GlH p e below _ _ sT _ _ _ _ (T.setTop (mkF m 4 #[.val (.ref sx), .val (.ref ch)] [(.ref ch), (.int (0 : Int32)), (.ref ch), (.ref sx)]))
  obtain ⟨cl1, Ar1, q1, S1, M1, H1, G1⟩ := (id (V) : Arv Z h0 ch k .char (0 : Int32) [] (.int (0 : Int32)))
  refine GlH.by (X.arraylength hx (by rw [eT]; exact Ar1.1) (State.isArrayOf_alike hZ.alike Ar1.2.1) (g := (mkF m 4 #[.val (.ref sx), .val (.ref ch)] [(.ref ch), (.int (0 : Int32)), (.ref ch), (.ref sx)])) rfl rfl (hb hby d5_4)) ?_
  rw [len_of S1 M1]
  show GlH p e below _ _ sT _ _ _ _ (T.setTop (mkF m 5 #[.val (.ref sx), .val (.ref ch)] [(.int (0 : Int32)), (.int (0 : Int32)), (.ref ch), (.ref sx)]))
  refine GlH.by (fun t_ k_ => XS.aconstNull X.here hx rfl (hb hby d5_5) k_) ?_
  show GlH p e below _ _ sT _ _ _ _ (T.setTop (mkF m 6 #[.val (.ref sx), .val (.ref ch)] [.null, (.int (0 : Int32)), (.int (0 : Int32)), (.ref ch), (.ref sx)]))
  refine GlH.specS X hx hZ rfl hown (hw _ (List.mem_of_getElem? (i := 39) rfl)) (hw _ (List.mem_of_getElem? (i := 40) rfl)) (hw _ (List.mem_of_getElem? (i := 42) rfl)) (by decide) (W := 0) B (backH (own_si4 l Z a0 hw sx ch h0 n0 Z0 E F_value F_coder) B hEL (fun x hx => by rw [List.mem_singleton.mp hx]; exact ⟨ltA (by omega), SF_sx⟩) hZ (hw _ (List.mem_of_getElem? (i := 42) rfl)) (hw _ (List.mem_of_getElem? (i := 35) rfl)) (by decide) (by decide)) eT (hb hby d5_6) (by rw [hml]; rfl) sx [(.ref ch), (.int (0 : Int32)), (.int (0 : Int32)), .null] [] (lenOf pd_3 rfl) rfl rfl (Nat.le_of_eq rfl) (by decide) (by decide) ?_
  intro v T L s X B hZ hown CB hq
  obtain ⟨rfl, NQ, K1, Q1⟩ := hq
  have N := Fr.app N NQ
  obtain ⟨h1, eT⟩ : ∃ z, T.heap = z := ⟨_, rfl⟩
  rw [eT] at K1 B CB Q1
  have sz1 := K1.1
  have SF_sx := CB.safe (ltA (by omega)) SF_sx
  show GlH p e below _ _ sT _ _ _ _ (T.setTop (mkF m 9 #[.val (.ref sx), .val (.ref ch)] []))
  refine GlH.retV X B eT hZ hEL hx hlk hret (hb hby d5_9) (by decide) (by decide) ?_
  rw [eT]
  exact ⟨rfl, N, K1, Q1⟩
set_option maxRecDepth 65536 in
set_option maxHeartbeats 40000000 in
theorem own_draw (l : Launch) (Z : State) (a0 : Array Value) (hw : ∀ d ∈ tables_1, d.before a0 Z = true) (sel q z : Int32) (h0 : Heap) (n0 : Nat) (Z0 : n0 ≤ h0.size) (S : Sta Z Z.heap "java/lang/String" "COMPACT_STRINGS" "Z" (.int z)) (hz : ¬ z = 0) (O : Old Z n0 h0) :
    CtrH l Z own_EL [] (⟨"com/example/gather/gather/model/FeedStateGetConditionPinLaw", "draw", "(II)Ljava/lang/String;"⟩ : MethodName) method_2_code 4 (some (.object "java/lang/String")) [] own_rDR #[(.int sel), (.int q)] h0 (fun v h L => Fr n0 L ∧ Keep h0 h [] ∧ ∃ w : Value, v = some w ∧ w.isRef = true) := by
  have hEL := own_ew hw
  refine CtrH.intro (plainFor_of_name pn_2) #[.val (.int sel), .val (.int q), .unset, .unset] (fun m => by first | (simp [entryFrame, mkF, argsToLocals, Value.category]; done) | rfl) ?_
  intro p e sT m below meth c s T hx hby hml hown hnm hret hlk hZ hnamed X eT B SF
  have hown : s.vm.findClass "com/example/gather/gather/model/FeedStateGetConditionPinLaw" = some m.cls := hown
  have N := Fr.nil n0
  obtain ⟨-, ra, sa⟩ := and255_char q
  obtain ⟨-, rb, sb⟩ := and255_char ((q.toUInt32 >>> ((8 : Int32) &&& 31).toUInt32).toInt32)
  have hp : ∀ c ∈ ([(q &&& (255 : Int32)), (((q.toUInt32 >>> ((8 : Int32) &&& 31).toUInt32).toInt32) &&& (255 : Int32))] : List Int32), ¬ c < 0 ∧ ¬ (255 : Int32) < c := by
    intro c hc
    simp only [List.mem_cons, List.not_mem_nil, or_false] at hc
    rcases hc with rfl | rfl
    · exact sa
    · exact sb
  show GlH p e below _ _ sT _ _ _ _ (T.setTop (mkF m 0 #[.val (.int sel), .val (.int q), .unset, .unset] []))
  refine GlH.by (fun t_ k_ => XS.iloadN X.here hx rfl (hb hby d1_0) rfl k_) ?_
  show GlH p e below _ _ sT _ _ _ _ (T.setTop (mkF m 1 #[.val (.int sel), .val (.int q), .unset, .unset] [(.int sel)]))
  refine GlH.by (fun t_ k_ => XS.iconst X.here hx rfl (hb hby d1_1) k_) ?_
  show GlH p e below _ _ sT _ _ _ _ (T.setTop (mkF m 2 #[.val (.int sel), .val (.int q), .unset, .unset] [(.int (3 : Int32)), (.int sel)]))
  refine GlH.by (fun t_ k_ => XS.iand X.here hx rfl (hb hby d1_2) rfl k_) ?_
  show GlH p e below _ _ sT _ _ _ _ (T.setTop (mkF m 3 #[.val (.int sel), .val (.int q), .unset, .unset] [(.int (sel &&& (3 : Int32)))]))
  refine GlH.by (fun t_ k_ => XS.istoreN X.here hx rfl (hb hby d1_3) rfl (l' := #[.val (.int sel), .val (.int q), .val (.int (sel &&& (3 : Int32))), .unset]) rfl k_) ?_
  show GlH p e below _ _ sT _ _ _ _ (T.setTop (mkF m 4 #[.val (.int sel), .val (.int q), .val (.int (sel &&& (3 : Int32))), .unset] []))
  refine GlH.by (fun t_ k_ => XS.iloadN X.here hx rfl (hb hby d1_4) rfl k_) ?_
  show GlH p e below _ _ sT _ _ _ _ (T.setTop (mkF m 5 #[.val (.int sel), .val (.int q), .val (.int (sel &&& (3 : Int32))), .unset] [(.int (sel &&& (3 : Int32)))]))
  by_cases c0 : (sel &&& (3 : Int32)) = (0 : Int32)
  · refine GlH.by (fun t_ k_ => XS.ifNo X.here hx rfl (hb hby d1_5) rfl ((if0 _ _).trans (teq c0).2) k_) ?_
    show GlH p e below _ _ sT _ _ _ _ (T.setTop (mkF m 8 #[.val (.int sel), .val (.int q), .val (.int (sel &&& (3 : Int32))), .unset] []))
    refine GlH.by (fun t_ k_ => XS.aconstNull X.here hx rfl (hb hby d1_8) k_) ?_
    show GlH p e below _ _ sT _ _ _ _ (T.setTop (mkF m 9 #[.val (.int sel), .val (.int q), .val (.int (sel &&& (3 : Int32))), .unset] [.null]))
    refine GlH.retA X B eT hZ hEL hx hlk hret rfl rfl (hb hby d1_9) (by decide) (by decide) ?_
    rw [eT]
    exact ⟨N, Keep.refl h0 [], .null, rfl, rfl⟩
  · refine GlH.by (fun t_ k_ => XS.ifYes X.here hx rfl (pc0 := 5) (pc' := 10) rfl (hb hby d1_5) rfl ((if0 _ _).trans (feq c0).2) (by decide) (by decide) k_) ?_
    show GlH p e below _ _ sT _ _ _ _ (T.setTop (mkF m 10 #[.val (.int sel), .val (.int q), .val (.int (sel &&& (3 : Int32))), .unset] []))
    refine GlH.by (fun t_ k_ => XS.iloadN X.here hx rfl (hb hby d1_10) rfl k_) ?_
    show GlH p e below _ _ sT _ _ _ _ (T.setTop (mkF m 11 #[.val (.int sel), .val (.int q), .val (.int (sel &&& (3 : Int32))), .unset] [(.int (sel &&& (3 : Int32)))]))
    refine GlH.by (fun t_ k_ => XS.iconst X.here hx rfl (hb hby d1_11) k_) ?_
    show GlH p e below _ _ sT _ _ _ _ (T.setTop (mkF m 12 #[.val (.int sel), .val (.int q), .val (.int (sel &&& (3 : Int32))), .unset] [(.int (1 : Int32)), (.int (sel &&& (3 : Int32)))]))
    by_cases c1 : (sel &&& (3 : Int32)) = (1 : Int32)
    · refine GlH.by (fun t_ k_ => XS.icmpNo X.here hx rfl (hb hby d1_12) rfl (teq c1).2 k_) ?_
      show GlH p e below _ _ sT _ _ _ _ (T.setTop (mkF m 15 #[.val (.int sel), .val (.int q), .val (.int (sel &&& (3 : Int32))), .unset] []))
      obtain ⟨T, h1, X, eT, E1, A1, D1, -, st⟩ := newO X hx hZ hown (hw _ (List.mem_of_getElem? (i := 33) rfl)) (hw _ (List.mem_of_getElem? (i := 34) rfl)) (hw _ (List.mem_of_getElem? (i := 35) rfl)) eT (g := (mkF m 15 #[.val (.int sel), .val (.int q), .val (.int (sel &&& (3 : Int32))), .unset] [])) rfl (hb hby d1_15) (by decide) (by decide)
      obtain ⟨sx, g1⟩ : ∃ z, z = h0.size := ⟨_, rfl⟩
      rw [← g1] at A1 D1 st
      have sz1 := E1.1
      have lt1 : sx < h1.size := A1.lt
      refine GlH.by st ?_
      have SF_sx := SafeX.ext (Safe.new (x := sx) (by omega)) B E1
      have B := B.ext E1
      have F1_coder : Fld Z h1 sx "java/lang/String" "coder" "B" (.int (0 : Int32)) := D1 (Or.inr (hw _ (List.mem_of_getElem? (i := 57) rfl))) (ty := .byte) (by decide)
      have F1_value : Fld Z h1 sx "java/lang/String" "value" "[B" .null := D1 (Or.inr (hw _ (List.mem_of_getElem? (i := 59) rfl))) (ty := (.array .byte)) (by decide)
      show GlH p e below _ _ sT _ _ _ _ (T.setTop (mkF m 18 #[.val (.int sel), .val (.int q), .val (.int (sel &&& (3 : Int32))), .unset] [(.ref sx)]))
      refine GlH.by (fun t_ k_ => XS.dup X.here hx rfl (hb hby d1_18) rfl rfl k_) ?_
      show GlH p e below _ _ sT _ _ _ _ (T.setTop (mkF m 19 #[.val (.int sel), .val (.int q), .val (.int (sel &&& (3 : Int32))), .unset] [(.ref sx), (.ref sx)]))
      refine GlH.by (fun t_ k_ => XS.iconst X.here hx rfl (hb hby d1_19) k_) ?_
      show GlH p e below _ _ sT _ _ _ _ (T.setTop (mkF m 20 #[.val (.int sel), .val (.int q), .val (.int (sel &&& (3 : Int32))), .unset] [(.int (0 : Int32)), (.ref sx), (.ref sx)]))
      obtain ⟨T, h2, k2, X, eT, E2, A2, st⟩ := newP X hx hZ (hw _ (List.mem_of_getElem? (i := 32) rfl)) eT (g := (mkF m 20 #[.val (.int sel), .val (.int q), .val (.int (sel &&& (3 : Int32))), .unset] [(.int (0 : Int32)), (.ref sx), (.ref sx)])) rfl (hb hby d1_20) rfl (by decide) (cap := 0) (by decide) (by decide) (by decide) (by decide)
      obtain ⟨ch, g2⟩ : ∃ z, z = h1.size := ⟨_, rfl⟩
      rw [← g2] at A2 st
      have sz2 := E2.1
      have lt2 : ch < h2.size := A2.lt
      have V2 : Arv Z h2 ch k2 .char (0 : Int32) [] (.int (0 : Int32)) := (Arv.new A2 (by decide)).pad (pad_rep [] (.int (0 : Int32)) 0)
      refine GlH.by st ?_
      have SG_sx := SafeX.ext SF_sx B E2
      have B := B.ext E2
      have SF_sx := SG_sx
      show GlH p e below _ _ sT _ _ _ _ (T.setTop (mkF m 22 #[.val (.int sel), .val (.int q), .val (.int (sel &&& (3 : Int32))), .unset] [(.ref ch), (.ref sx), (.ref sx)]))
      refine GlH.specS X hx hZ rfl hown (hw _ (List.mem_of_getElem? (i := 36) rfl)) (hw _ (List.mem_of_getElem? (i := 37) rfl)) (hw _ (List.mem_of_getElem? (i := 38) rfl)) (by decide) (W := 1) B (backH (own_si l Z a0 hw sx ch _ h2 n0 (by omega) (A1.ext E2) (F1_value.ext E2) (F1_coder.ext E2) V2) B hEL (fun x hx => by rw [List.mem_singleton.mp hx]; exact ⟨ltA (by omega), SF_sx⟩) hZ (hw _ (List.mem_of_getElem? (i := 38) rfl)) (hw _ (List.mem_of_getElem? (i := 35) rfl)) (by decide) (by decide)) eT (hb hby d1_22) (by rw [hml]; rfl) sx [(.ref ch)] [(.ref sx)] (lenOf pd_4 rfl) rfl rfl (Nat.le_of_eq rfl) (by decide) (by decide) ?_
      intro v T L s X B hZ hown CB hq
      obtain ⟨rfl, NQ, K3, Q3⟩ := hq
      have N := Fr.app N NQ
      obtain ⟨h3, eT⟩ : ∃ z, T.heap = z := ⟨_, rfl⟩
      rw [eT] at K3 B CB Q3
      have sz3 := K3.1
      have SF_sx := CB.safe (ltA (by omega)) SF_sx
      show GlH p e below _ _ sT _ _ _ _ (T.setTop (mkF m 25 #[.val (.int sel), .val (.int q), .val (.int (sel &&& (3 : Int32))), .unset] [(.ref sx)]))
      refine GlH.retA X B eT hZ hEL hx hlk hret rfl rfl (hb hby d1_25) (by decide) (by decide) ?_
      rw [eT]
      exact ⟨N, ((((Keep.refl h0 []).ext E1).ext E2).trans K3 (allS (Or.inr (by omega)) all0)), .ref sx, rfl, rfl⟩
    · refine GlH.by (fun t_ k_ => XS.icmpYes X.here hx rfl (pc0 := 12) (pc' := 26) rfl (hb hby d1_12) rfl (feq c1).2 (by decide) (by decide) k_) ?_
      show GlH p e below _ _ sT _ _ _ _ (T.setTop (mkF m 26 #[.val (.int sel), .val (.int q), .val (.int (sel &&& (3 : Int32))), .unset] []))
      refine GlH.by (fun t_ k_ => XS.iloadN X.here hx rfl (hb hby d1_26) rfl k_) ?_
      show GlH p e below _ _ sT _ _ _ _ (T.setTop (mkF m 27 #[.val (.int sel), .val (.int q), .val (.int (sel &&& (3 : Int32))), .unset] [(.int (sel &&& (3 : Int32)))]))
      refine GlH.by (fun t_ k_ => XS.iconst X.here hx rfl (hb hby d1_27) k_) ?_
      show GlH p e below _ _ sT _ _ _ _ (T.setTop (mkF m 28 #[.val (.int sel), .val (.int q), .val (.int (sel &&& (3 : Int32))), .unset] [(.int (2 : Int32)), (.int (sel &&& (3 : Int32)))]))
      by_cases c2 : (sel &&& (3 : Int32)) = (2 : Int32)
      · refine GlH.by (fun t_ k_ => XS.icmpNo X.here hx rfl (hb hby d1_28) rfl (teq c2).2 k_) ?_
        show GlH p e below _ _ sT _ _ _ _ (T.setTop (mkF m 31 #[.val (.int sel), .val (.int q), .val (.int (sel &&& (3 : Int32))), .unset] []))
        refine GlH.by (fun t_ k_ => XS.iloadN X.here hx rfl (hb hby d1_31) rfl k_) ?_
        show GlH p e below _ _ sT _ _ _ _ (T.setTop (mkF m 32 #[.val (.int sel), .val (.int q), .val (.int (sel &&& (3 : Int32))), .unset] [(.int q)]))
        refine GlH.by (fun t_ k_ => XS.sipush X.here hx rfl (hb hby d1_32) k_) ?_
        show GlH p e below _ _ sT _ _ _ _ (T.setTop (mkF m 35 #[.val (.int sel), .val (.int q), .val (.int (sel &&& (3 : Int32))), .unset] [(.int (255 : Int32)), (.int q)]))
        refine GlH.by (fun t_ k_ => XS.iand X.here hx rfl (hb hby d1_35) rfl k_) ?_
        show GlH p e below _ _ sT _ _ _ _ (T.setTop (mkF m 36 #[.val (.int sel), .val (.int q), .val (.int (sel &&& (3 : Int32))), .unset] [(.int (q &&& (255 : Int32)))]))
        refine GlH.by (fun t_ k_ => XS.i2c X.here hx rfl (hb hby d1_36) rfl k_) ?_
        show GlH p e below _ _ sT _ _ _ _ (T.setTop (mkF m 37 #[.val (.int sel), .val (.int q), .val (.int (sel &&& (3 : Int32))), .unset] [(.int ((q &&& (255 : Int32)).toUInt32.toUInt16.toUInt32.toInt32))]))
        rw [(and255_char q).1]
        show GlH p e below _ _ sT _ _ _ _ (T.setTop (mkF m 37 #[.val (.int sel), .val (.int q), .val (.int (sel &&& (3 : Int32))), .unset] [(.int ((q &&& (255 : Int32))))]))
        refine GlH.stat X hx hZ hown (hw _ (List.mem_of_getElem? (i := 63) rfl)) (hw _ (List.mem_of_getElem? (i := 64) rfl)) (hw _ (List.mem_of_getElem? (i := 35) rfl)) (hw _ (List.mem_of_getElem? (i := 65) rfl)) (by decide) (W := 0) (backC (own_vof l Z a0 hw (q &&& (255 : Int32)) z h0 n0 Z0 sa.2 S hz O) hZ (hw _ (List.mem_of_getElem? (i := 65) rfl)) (hw _ (List.mem_of_getElem? (i := 35) rfl)) (by decide) (by decide)) eT (hb hby d1_37) (by rw [hml]; rfl) [(.int ((q &&& (255 : Int32))))] [] (lenOf pd_5 rfl) rfl rfl (Nat.le_of_eq rfl) (by decide) (by decide) ?_
        intro v T L X hq
        obtain ⟨NQ, K4, sx, rfl, ge⟩ := hq
        have N := Fr.app N NQ
        obtain ⟨h4, eT⟩ : ∃ z, T.heap = z := ⟨_, rfl⟩
        rw [eT] at K4
        have sz4 := K4.1
        have B := B.keep K4 (fun _ q => by cases q)
        show GlH p e below _ _ sT _ _ _ _ (T.setTop (mkF m 40 #[.val (.int sel), .val (.int q), .val (.int (sel &&& (3 : Int32))), .unset] [(.ref sx)]))
        refine GlH.retA X B eT hZ hEL hx hlk hret rfl rfl (hb hby d1_40) (by decide) (by decide) ?_
        rw [eT]
        exact ⟨N, ((Keep.refl h0 []).trans K4 all0), .ref sx, rfl, rfl⟩
      · refine GlH.by (fun t_ k_ => XS.icmpYes X.here hx rfl (pc0 := 28) (pc' := 41) rfl (hb hby d1_28) rfl (feq c2).2 (by decide) (by decide) k_) ?_
        show GlH p e below _ _ sT _ _ _ _ (T.setTop (mkF m 41 #[.val (.int sel), .val (.int q), .val (.int (sel &&& (3 : Int32))), .unset] []))
        refine GlH.by (fun t_ k_ => XS.iconst X.here hx rfl (hb hby d1_41) k_) ?_
        show GlH p e below _ _ sT _ _ _ _ (T.setTop (mkF m 42 #[.val (.int sel), .val (.int q), .val (.int (sel &&& (3 : Int32))), .unset] [(.int (2 : Int32))]))
        obtain ⟨T, h5, k5, X, eT, E5, A5, st⟩ := newP X hx hZ (hw _ (List.mem_of_getElem? (i := 32) rfl)) eT (g := (mkF m 42 #[.val (.int sel), .val (.int q), .val (.int (sel &&& (3 : Int32))), .unset] [(.int (2 : Int32))])) rfl (hb hby d1_42) rfl (by decide) (cap := 2) (by decide) (by decide) (by decide) (by decide)
        obtain ⟨ch, g5⟩ : ∃ z, z = h0.size := ⟨_, rfl⟩
        rw [← g5] at A5 st
        have sz5 := E5.1
        have lt5 : ch < h5.size := A5.lt
        have V5 : Arv Z h5 ch k5 .char (2 : Int32) [(.int (0 : Int32)), (.int (0 : Int32))] (.int (0 : Int32)) := (Arv.new A5 (by decide)).pad (pad_rep [] (.int (0 : Int32)) 2)
        refine GlH.by st ?_
        have B := B.ext E5
        show GlH p e below _ _ sT _ _ _ _ (T.setTop (mkF m 44 #[.val (.int sel), .val (.int q), .val (.int (sel &&& (3 : Int32))), .unset] [(.ref ch)]))
        refine GlH.by (fun t_ k_ => XS.astoreN X.here hx rfl (hb hby d1_44) rfl rfl (l' := #[.val (.int sel), .val (.int q), .val (.int (sel &&& (3 : Int32))), .val (.ref ch)]) rfl k_) ?_
        show GlH p e below _ _ sT _ _ _ _ (T.setTop (mkF m 45 #[.val (.int sel), .val (.int q), .val (.int (sel &&& (3 : Int32))), .val (.ref ch)] []))
        refine GlH.by (fun t_ k_ => XS.aloadN X.here hx rfl (hb hby d1_45) rfl rfl k_) ?_
        show GlH p e below _ _ sT _ _ _ _ (T.setTop (mkF m 46 #[.val (.int sel), .val (.int q), .val (.int (sel &&& (3 : Int32))), .val (.ref ch)] [(.ref ch)]))
        refine GlH.by (fun t_ k_ => XS.iconst X.here hx rfl (hb hby d1_46) k_) ?_
        show GlH p e below _ _ sT _ _ _ _ (T.setTop (mkF m 47 #[.val (.int sel), .val (.int q), .val (.int (sel &&& (3 : Int32))), .val (.ref ch)] [(.int (0 : Int32)), (.ref ch)]))
        refine GlH.by (fun t_ k_ => XS.iloadN X.here hx rfl (hb hby d1_47) rfl k_) ?_
        show GlH p e below _ _ sT _ _ _ _ (T.setTop (mkF m 48 #[.val (.int sel), .val (.int q), .val (.int (sel &&& (3 : Int32))), .val (.ref ch)] [(.int q), (.int (0 : Int32)), (.ref ch)]))
        refine GlH.by (fun t_ k_ => XS.sipush X.here hx rfl (hb hby d1_48) k_) ?_
        show GlH p e below _ _ sT _ _ _ _ (T.setTop (mkF m 51 #[.val (.int sel), .val (.int q), .val (.int (sel &&& (3 : Int32))), .val (.ref ch)] [(.int (255 : Int32)), (.int q), (.int (0 : Int32)), (.ref ch)]))
        refine GlH.by (fun t_ k_ => XS.iand X.here hx rfl (hb hby d1_51) rfl k_) ?_
        show GlH p e below _ _ sT _ _ _ _ (T.setTop (mkF m 52 #[.val (.int sel), .val (.int q), .val (.int (sel &&& (3 : Int32))), .val (.ref ch)] [(.int (q &&& (255 : Int32))), (.int (0 : Int32)), (.ref ch)]))
        refine GlH.by (fun t_ k_ => XS.i2c X.here hx rfl (hb hby d1_52) rfl k_) ?_
        show GlH p e below _ _ sT _ _ _ _ (T.setTop (mkF m 53 #[.val (.int sel), .val (.int q), .val (.int (sel &&& (3 : Int32))), .val (.ref ch)] [(.int ((q &&& (255 : Int32)).toUInt32.toUInt16.toUInt32.toInt32)), (.int (0 : Int32)), (.ref ch)]))
        rw [(and255_char q).1]
        show GlH p e below _ _ sT _ _ _ _ (T.setTop (mkF m 53 #[.val (.int sel), .val (.int q), .val (.int (sel &&& (3 : Int32))), .val (.ref ch)] [(.int ((q &&& (255 : Int32)))), (.int (0 : Int32)), (.ref ch)]))
        obtain ⟨cl6, Ar6, q6, S6, M6, H6, G6⟩ := (id (V5) : Arv Z h5 ch k5 .char (2 : Int32) [(.int (0 : Int32)), (.int (0 : Int32))] (.int (0 : Int32)))
        obtain ⟨T, h6, X, eT, W6, st⟩ := stC X hx hZ eT Ar6 (j := (0 : Int32)) (inb_of S6 ⟨by decide, by decide⟩) (g := (mkF m 53 #[.val (.int sel), .val (.int q), .val (.int (sel &&& (3 : Int32))), .val (.ref ch)] [(.int ((q &&& (255 : Int32)))), (.int (0 : Int32)), (.ref ch)])) rfl rfl (hb hby d1_53)
        have V6 : Arv Z h6 ch k5 .char (2 : Int32) [(.int (nar .char ((q &&& (255 : Int32))))), (.int (0 : Int32))] (.int (0 : Int32)) := Arv.set Ar6 q6 S6 M6 H6 G6 (fits_nar_char _) W6 0 rfl (Nat.le_of_ble_eq_true rfl)
        have sz6 := (Keep.of_wr W6).1
        have N := Fr.snoc X N (by omega)
        refine GlH.by st ?_
        have B := B.wr W6 (safe_arv hZ V5 (by decide))
        show GlH p e below _ _ sT _ _ _ _ (T.setTop (mkF m 54 #[.val (.int sel), .val (.int q), .val (.int (sel &&& (3 : Int32))), .val (.ref ch)] []))
        refine GlH.by (fun t_ k_ => XS.aloadN X.here hx rfl (hb hby d1_54) rfl rfl k_) ?_
        show GlH p e below _ _ sT _ _ _ _ (T.setTop (mkF m 55 #[.val (.int sel), .val (.int q), .val (.int (sel &&& (3 : Int32))), .val (.ref ch)] [(.ref ch)]))
        refine GlH.by (fun t_ k_ => XS.iconst X.here hx rfl (hb hby d1_55) k_) ?_
        show GlH p e below _ _ sT _ _ _ _ (T.setTop (mkF m 56 #[.val (.int sel), .val (.int q), .val (.int (sel &&& (3 : Int32))), .val (.ref ch)] [(.int (1 : Int32)), (.ref ch)]))
        refine GlH.by (fun t_ k_ => XS.iloadN X.here hx rfl (hb hby d1_56) rfl k_) ?_
        show GlH p e below _ _ sT _ _ _ _ (T.setTop (mkF m 57 #[.val (.int sel), .val (.int q), .val (.int (sel &&& (3 : Int32))), .val (.ref ch)] [(.int q), (.int (1 : Int32)), (.ref ch)]))
        refine GlH.by (fun t_ k_ => XS.bipush X.here hx rfl (hb hby d1_57) k_) ?_
        show GlH p e below _ _ sT _ _ _ _ (T.setTop (mkF m 59 #[.val (.int sel), .val (.int q), .val (.int (sel &&& (3 : Int32))), .val (.ref ch)] [(.int (8 : Int32)), (.int q), (.int (1 : Int32)), (.ref ch)]))
        refine GlH.by (fun t_ k_ => XS.iushr X.here hx rfl (hb hby d1_59) rfl k_) ?_
        show GlH p e below _ _ sT _ _ _ _ (T.setTop (mkF m 60 #[.val (.int sel), .val (.int q), .val (.int (sel &&& (3 : Int32))), .val (.ref ch)] [(.int ((q.toUInt32 >>> ((8 : Int32) &&& 31).toUInt32).toInt32)), (.int (1 : Int32)), (.ref ch)]))
        refine GlH.by (fun t_ k_ => XS.sipush X.here hx rfl (hb hby d1_60) k_) ?_
        show GlH p e below _ _ sT _ _ _ _ (T.setTop (mkF m 63 #[.val (.int sel), .val (.int q), .val (.int (sel &&& (3 : Int32))), .val (.ref ch)] [(.int (255 : Int32)), (.int ((q.toUInt32 >>> ((8 : Int32) &&& 31).toUInt32).toInt32)), (.int (1 : Int32)), (.ref ch)]))
        refine GlH.by (fun t_ k_ => XS.iand X.here hx rfl (hb hby d1_63) rfl k_) ?_
        show GlH p e below _ _ sT _ _ _ _ (T.setTop (mkF m 64 #[.val (.int sel), .val (.int q), .val (.int (sel &&& (3 : Int32))), .val (.ref ch)] [(.int (((q.toUInt32 >>> ((8 : Int32) &&& 31).toUInt32).toInt32) &&& (255 : Int32))), (.int (1 : Int32)), (.ref ch)]))
        refine GlH.by (fun t_ k_ => XS.i2c X.here hx rfl (hb hby d1_64) rfl k_) ?_
        show GlH p e below _ _ sT _ _ _ _ (T.setTop (mkF m 65 #[.val (.int sel), .val (.int q), .val (.int (sel &&& (3 : Int32))), .val (.ref ch)] [(.int ((((q.toUInt32 >>> ((8 : Int32) &&& 31).toUInt32).toInt32) &&& (255 : Int32)).toUInt32.toUInt16.toUInt32.toInt32)), (.int (1 : Int32)), (.ref ch)]))
        rw [(and255_char ((q.toUInt32 >>> ((8 : Int32) &&& 31).toUInt32).toInt32)).1]
        show GlH p e below _ _ sT _ _ _ _ (T.setTop (mkF m 65 #[.val (.int sel), .val (.int q), .val (.int (sel &&& (3 : Int32))), .val (.ref ch)] [(.int ((((q.toUInt32 >>> ((8 : Int32) &&& 31).toUInt32).toInt32) &&& (255 : Int32)))), (.int (1 : Int32)), (.ref ch)]))
        obtain ⟨cl7, Ar7, q7, S7, M7, H7, G7⟩ := (id (V6) : Arv Z h6 ch k5 .char (2 : Int32) [(.int (nar .char ((q &&& (255 : Int32))))), (.int (0 : Int32))] (.int (0 : Int32)))
        obtain ⟨T, h7, X, eT, W7, st⟩ := stC X hx hZ eT Ar7 (j := (1 : Int32)) (inb_of S7 ⟨by decide, by decide⟩) (g := (mkF m 65 #[.val (.int sel), .val (.int q), .val (.int (sel &&& (3 : Int32))), .val (.ref ch)] [(.int ((((q.toUInt32 >>> ((8 : Int32) &&& 31).toUInt32).toInt32) &&& (255 : Int32)))), (.int (1 : Int32)), (.ref ch)])) rfl rfl (hb hby d1_65)
        have V7 : Arv Z h7 ch k5 .char (2 : Int32) [(.int (nar .char ((q &&& (255 : Int32))))), (.int (nar .char ((((q.toUInt32 >>> ((8 : Int32) &&& 31).toUInt32).toInt32) &&& (255 : Int32)))))] (.int (0 : Int32)) := Arv.set Ar7 q7 S7 M7 H7 G7 (fits_nar_char _) W7 1 rfl (Nat.le_of_ble_eq_true rfl)
        have sz7 := (Keep.of_wr W7).1
        have N := Fr.snoc X N (by omega)
        refine GlH.by st ?_
        have B := B.wr W7 (safe_arv hZ V6 (by decide))
        show GlH p e below _ _ sT _ _ _ _ (T.setTop (mkF m 66 #[.val (.int sel), .val (.int q), .val (.int (sel &&& (3 : Int32))), .val (.ref ch)] []))
        have V8 : Arv Z h7 ch k5 .char (2 : Int32) (([(q &&& (255 : Int32)), (((q.toUInt32 >>> ((8 : Int32) &&& 31).toUInt32).toInt32) &&& (255 : Int32))] : List Int32).map Value.int) (.int 0) := by
          have q := V7
          rw [ra, rb] at q
          exact q
        obtain ⟨T, h9, X, eT, E9, A9, D9, -, st⟩ := newO X hx hZ hown (hw _ (List.mem_of_getElem? (i := 33) rfl)) (hw _ (List.mem_of_getElem? (i := 34) rfl)) (hw _ (List.mem_of_getElem? (i := 35) rfl)) eT (g := (mkF m 66 #[.val (.int sel), .val (.int q), .val (.int (sel &&& (3 : Int32))), .val (.ref ch)] [])) rfl (hb hby d1_66) (by decide) (by decide)
        obtain ⟨sx, g9⟩ : ∃ z, z = h7.size := ⟨_, rfl⟩
        rw [← g9] at A9 D9 st
        have sz9 := E9.1
        have lt9 : sx < h9.size := A9.lt
        refine GlH.by st ?_
        have SF_sx := SafeX.ext (Safe.new (x := sx) (by omega)) B E9
        have B := B.ext E9
        have F9_coder : Fld Z h9 sx "java/lang/String" "coder" "B" (.int (0 : Int32)) := D9 (Or.inr (hw _ (List.mem_of_getElem? (i := 57) rfl))) (ty := .byte) (by decide)
        have F9_value : Fld Z h9 sx "java/lang/String" "value" "[B" .null := D9 (Or.inr (hw _ (List.mem_of_getElem? (i := 59) rfl))) (ty := (.array .byte)) (by decide)
        show GlH p e below _ _ sT _ _ _ _ (T.setTop (mkF m 69 #[.val (.int sel), .val (.int q), .val (.int (sel &&& (3 : Int32))), .val (.ref ch)] [(.ref sx)]))
        refine GlH.by (fun t_ k_ => XS.dup X.here hx rfl (hb hby d1_69) rfl rfl k_) ?_
        show GlH p e below _ _ sT _ _ _ _ (T.setTop (mkF m 70 #[.val (.int sel), .val (.int q), .val (.int (sel &&& (3 : Int32))), .val (.ref ch)] [(.ref sx), (.ref sx)]))
        refine GlH.by (fun t_ k_ => XS.aloadN X.here hx rfl (hb hby d1_70) rfl rfl k_) ?_
        show GlH p e below _ _ sT _ _ _ _ (T.setTop (mkF m 71 #[.val (.int sel), .val (.int q), .val (.int (sel &&& (3 : Int32))), .val (.ref ch)] [(.ref ch), (.ref sx), (.ref sx)]))
        have O9 := ((((O.ext E5).wr W6 (by omega)).wr W7 (by omega)).ext E9)
        refine GlH.spec X hx hZ rfl hown (hw _ (List.mem_of_getElem? (i := 36) rfl)) (hw _ (List.mem_of_getElem? (i := 37) rfl)) (hw _ (List.mem_of_getElem? (i := 38) rfl)) (by decide) (W := 1) (payNew (n := 2) (n0 := n0) hZ (own_words hw) (hw _ (List.mem_of_getElem? (i := 34) rfl)) ([(q &&& (255 : Int32)), (((q.toUInt32 >>> ((8 : Int32) &&& 31).toUInt32).toInt32) &&& (255 : Int32))] : List Int32) (by omega) (by omega) A9 F9_value F9_coder (V8.ext E9) S hz O9 rfl rfl (by decide) (by decide) hp (by decide) (by decide)) eT (hb hby d1_71) (by rw [hml]; rfl) sx [(.ref ch)] [(.ref sx)] (lenOf pd_4 rfl) rfl rfl (Nat.le_of_eq rfl) (by decide) (by decide) ?_
        intro v T L X hq
        obtain ⟨rfl, NQ, K10, SQ10⟩ := hq
        have N := Fr.app N NQ
        obtain ⟨h10, eT⟩ : ∃ z, T.heap = z := ⟨_, rfl⟩
        rw [eT] at K10 SQ10
        have sz10 := K10.1
        have SG_sx := SafeX.keep SF_sx B K10 (fun x hx => by rw [List.mem_singleton.mp hx]; exact SF_sx)
        have B := B.keep K10 (fun x hx => by rw [List.mem_singleton.mp hx]; exact SF_sx)
        have SF_sx := SG_sx
        show GlH p e below _ _ sT _ _ _ _ (T.setTop (mkF m 74 #[.val (.int sel), .val (.int q), .val (.int (sel &&& (3 : Int32))), .val (.ref ch)] [(.ref sx)]))
        refine GlH.retA X B eT hZ hEL hx hlk hret rfl rfl (hb hby d1_74) (by decide) (by decide) ?_
        rw [eT]
        exact ⟨N, ((((((Keep.refl h0 []).ext E5).wr W6 (Or.inr (by omega))).wr W7 (Or.inr (by omega))).ext E9).trans K10 (allS (Or.inr (by omega)) all0)), .ref sx, rfl, rfl⟩
set_option maxRecDepth 65536 in
set_option maxHeartbeats 40000000 in
theorem own_fsi0 (l : Launch) (Z : State) (a0 : Array Value) (hw : ∀ d ∈ tables_1, d.before a0 Z = true) (fs : Nat) (w1 w2 w3 w4 : Value) (h0 : Heap) (n0 : Nat) (Z0 : n0 ≤ fs) (E : Exa Z h0 fs "com/example/gather/gather/model/FeedState") (F_takenUp : Fld Z h0 fs "com/example/gather/gather/model/FeedState" "takenUp" "Z" (.int (0 : Int32))) (F_lastSuccess : Fld Z h0 fs "com/example/gather/gather/model/FeedState" "lastSuccess" "Ljava/lang/String;" .null) (F_lastSuccessBegan : Fld Z h0 fs "com/example/gather/gather/model/FeedState" "lastSuccessBegan" "Ljava/lang/String;" .null) (F_haltedAt : Fld Z h0 fs "com/example/gather/gather/model/FeedState" "haltedAt" "Ljava/lang/String;" .null) (F_haltCode : Fld Z h0 fs "com/example/gather/gather/model/FeedState" "haltCode" "Ljava/lang/String;" .null) (hr1 : w1.isRef = true) (hr2 : w2.isRef = true) (hr3 : w3.isRef = true) (hr4 : w4.isRef = true) :
    Ctr l Z (⟨"com/example/gather/gather/model/FeedState", "<init>", "(ZLjava/lang/String;Ljava/lang/String;Ljava/lang/String;Ljava/lang/String;)V"⟩ : MethodName) prog_41_method_1_code 6 none [] own_rN #[(.ref fs), (.int (0 : Int32)), w1, w2, w3, w4] h0 (fun v h L => v = none ∧ Fr n0 L ∧ Keep h0 h [fs] ∧ Exa Z h fs "com/example/gather/gather/model/FeedState" ∧ Fld Z h fs "com/example/gather/gather/model/FeedState" "takenUp" "Z" (.int 0) ∧ Fld Z h fs "com/example/gather/gather/model/FeedState" "lastSuccess" "Ljava/lang/String;" w1 ∧ Fld Z h fs "com/example/gather/gather/model/FeedState" "lastSuccessBegan" "Ljava/lang/String;" w2 ∧ Fld Z h fs "com/example/gather/gather/model/FeedState" "haltedAt" "Ljava/lang/String;" w3 ∧ Fld Z h fs "com/example/gather/gather/model/FeedState" "haltCode" "Ljava/lang/String;" w4) := by
  refine Ctr.intro (plainFor_of_name pn_3) #[.val (.ref fs), .val (.int (0 : Int32)), .val w1, .val w2, .val w3, .val w4] (fun m => by rcases ref_cases hr1 with rfl | ⟨_, rfl⟩ <;> rcases ref_cases hr2 with rfl | ⟨_, rfl⟩ <;> rcases ref_cases hr3 with rfl | ⟨_, rfl⟩ <;> rcases ref_cases hr4 with rfl | ⟨_, rfl⟩ <;> rfl) ?_
  intro p e s m below meth c T hx hby hml hown hnm hret hlk hZ hnamed X eT
  have hown : s.vm.findClass "com/example/gather/gather/model/FeedState" = some m.cls := hown
  have N := Fr.nil n0
  show Gl p e below s _ _ _ (T.setTop (mkF m 0 #[.val (.ref fs), .val (.int (0 : Int32)), .val w1, .val w2, .val w3, .val w4] []))
  refine Gl.by (fun t_ k_ => XS.aloadN X.here hx rfl (hb hby d2_0) rfl rfl k_) ?_
  show Gl p e below s _ _ _ (T.setTop (mkF m 1 #[.val (.ref fs), .val (.int (0 : Int32)), .val w1, .val w2, .val w3, .val w4] [(.ref fs)]))
  obtain ⟨T, X, eT, st⟩ := initO X hx hZ hown (hw _ (List.mem_of_getElem? (i := 10) rfl)) (hw _ (List.mem_of_getElem? (i := 11) rfl)) (hw _ (List.mem_of_getElem? (i := 12) rfl)) eT (g := (mkF m 1 #[.val (.ref fs), .val (.int (0 : Int32)), .val w1, .val w2, .val w3, .val w4] [(.ref fs)])) rfl (by rw [hml]; rfl) rfl (hb hby d2_1) (by decide) (W := 0) (by show 2 * 0 + _ ≤ _; exact Nat.le_of_eq rfl) (by decide)
  refine Gl.by st ?_
  show Gl p e below s _ _ _ (T.setTop (mkF m 4 #[.val (.ref fs), .val (.int (0 : Int32)), .val w1, .val w2, .val w3, .val w4] []))
  refine Gl.by (fun t_ k_ => XS.aloadN X.here hx rfl (hb hby d2_4) rfl rfl k_) ?_
  show Gl p e below s _ _ _ (T.setTop (mkF m 5 #[.val (.ref fs), .val (.int (0 : Int32)), .val w1, .val w2, .val w3, .val w4] [(.ref fs)]))
  refine Gl.by (fun t_ k_ => XS.iloadN X.here hx rfl (hb hby d2_5) rfl k_) ?_
  show Gl p e below s _ _ _ (T.setTop (mkF m 6 #[.val (.ref fs), .val (.int (0 : Int32)), .val w1, .val w2, .val w3, .val w4] [(.int (0 : Int32)), (.ref fs)]))
  obtain ⟨T, h1, X, eT, W1, st⟩ := putF X hx hZ hown (host := "") (Or.inl (hw _ (List.mem_of_getElem? (i := 13) rfl))) Via.refl eT F_takenUp E (Or.inr ⟨(hw _ (List.mem_of_getElem? (i := 14) rfl)), rfl, hnm⟩) (hw _ (List.mem_of_getElem? (i := 5) rfl)) (ty := .boolean) (by decide) rfl rfl (g := (mkF m 6 #[.val (.ref fs), .val (.int (0 : Int32)), .val w1, .val w2, .val w3, .val w4] [(.int (0 : Int32)), (.ref fs)])) rfl rfl (hb hby d2_6)
  have F1_takenUp : Fld Z h1 fs "com/example/gather/gather/model/FeedState" "takenUp" "Z" (.int (0 : Int32)) := Fld.same W1 F_takenUp
  have sz1 := (Keep.of_wr W1).1
  have N := Fr.snoc X N (by omega)
  refine Gl.by st ?_
  show Gl p e below s _ _ _ (T.setTop (mkF m 9 #[.val (.ref fs), .val (.int (0 : Int32)), .val w1, .val w2, .val w3, .val w4] []))
  refine Gl.by (fun t_ k_ => XS.aloadN X.here hx rfl (hb hby d2_9) rfl rfl k_) ?_
  show Gl p e below s _ _ _ (T.setTop (mkF m 10 #[.val (.ref fs), .val (.int (0 : Int32)), .val w1, .val w2, .val w3, .val w4] [(.ref fs)]))
  refine Gl.by (fun t_ k_ => XS.aloadN X.here hx rfl (hb hby d2_10) rfl hr1 k_) ?_
  show Gl p e below s _ _ _ (T.setTop (mkF m 11 #[.val (.ref fs), .val (.int (0 : Int32)), .val w1, .val w2, .val w3, .val w4] [w1, (.ref fs)]))
  obtain ⟨T, h2, X, eT, W2, st⟩ := putF X hx hZ hown (host := "") (Or.inl (hw _ (List.mem_of_getElem? (i := 15) rfl))) Via.refl eT (F_lastSuccess.other W1 (Or.inr (slot_ne (C := "com/example/gather/gather/model/FeedState") (Or.inr (hw _ (List.mem_of_getElem? (i := 16) rfl))) (Or.inr (hw _ (List.mem_of_getElem? (i := 14) rfl))) (by decide) (t := (.object "java/lang/String")) (t' := .boolean) (by decide) (by decide)))) (E.wr W1) (Or.inr ⟨(hw _ (List.mem_of_getElem? (i := 16) rfl)), rfl, hnm⟩) (hw _ (List.mem_of_getElem? (i := 5) rfl)) (ty := (.object "java/lang/String")) (by decide) narR (fitsR hr1) (g := (mkF m 11 #[.val (.ref fs), .val (.int (0 : Int32)), .val w1, .val w2, .val w3, .val w4] [w1, (.ref fs)])) rfl rfl (hb hby d2_11)
  have F2_lastSuccess : Fld Z h2 fs "com/example/gather/gather/model/FeedState" "lastSuccess" "Ljava/lang/String;" w1 := Fld.same W2 (F_lastSuccess.other W1 (Or.inr (slot_ne (C := "com/example/gather/gather/model/FeedState") (Or.inr (hw _ (List.mem_of_getElem? (i := 16) rfl))) (Or.inr (hw _ (List.mem_of_getElem? (i := 14) rfl))) (by decide) (t := (.object "java/lang/String")) (t' := .boolean) (by decide) (by decide))))
  have sz2 := (Keep.of_wr W2).1
  have N := Fr.snoc X N (by omega)
  refine Gl.by st ?_
  show Gl p e below s _ _ _ (T.setTop (mkF m 14 #[.val (.ref fs), .val (.int (0 : Int32)), .val w1, .val w2, .val w3, .val w4] []))
  refine Gl.by (fun t_ k_ => XS.aloadN X.here hx rfl (hb hby d2_14) rfl rfl k_) ?_
  show Gl p e below s _ _ _ (T.setTop (mkF m 15 #[.val (.ref fs), .val (.int (0 : Int32)), .val w1, .val w2, .val w3, .val w4] [(.ref fs)]))
  refine Gl.by (fun t_ k_ => XS.aloadN X.here hx rfl (hb hby d2_15) rfl hr2 k_) ?_
  show Gl p e below s _ _ _ (T.setTop (mkF m 16 #[.val (.ref fs), .val (.int (0 : Int32)), .val w1, .val w2, .val w3, .val w4] [w2, (.ref fs)]))
  obtain ⟨T, h3, X, eT, W3, st⟩ := putF X hx hZ hown (host := "") (Or.inl (hw _ (List.mem_of_getElem? (i := 17) rfl))) Via.refl eT ((F_lastSuccessBegan.other W1 (Or.inr (slot_ne (C := "com/example/gather/gather/model/FeedState") (Or.inr (hw _ (List.mem_of_getElem? (i := 18) rfl))) (Or.inr (hw _ (List.mem_of_getElem? (i := 14) rfl))) (by decide) (t := (.object "java/lang/String")) (t' := .boolean) (by decide) (by decide)))).other W2 (Or.inr (slot_ne (C := "com/example/gather/gather/model/FeedState") (Or.inr (hw _ (List.mem_of_getElem? (i := 18) rfl))) (Or.inr (hw _ (List.mem_of_getElem? (i := 16) rfl))) (by decide) (t := (.object "java/lang/String")) (t' := (.object "java/lang/String")) (by decide) (by decide)))) ((E.wr W1).wr W2) (Or.inr ⟨(hw _ (List.mem_of_getElem? (i := 18) rfl)), rfl, hnm⟩) (hw _ (List.mem_of_getElem? (i := 5) rfl)) (ty := (.object "java/lang/String")) (by decide) narR (fitsR hr2) (g := (mkF m 16 #[.val (.ref fs), .val (.int (0 : Int32)), .val w1, .val w2, .val w3, .val w4] [w2, (.ref fs)])) rfl rfl (hb hby d2_16)
  have F3_lastSuccessBegan : Fld Z h3 fs "com/example/gather/gather/model/FeedState" "lastSuccessBegan" "Ljava/lang/String;" w2 := Fld.same W3 ((F_lastSuccessBegan.other W1 (Or.inr (slot_ne (C := "com/example/gather/gather/model/FeedState") (Or.inr (hw _ (List.mem_of_getElem? (i := 18) rfl))) (Or.inr (hw _ (List.mem_of_getElem? (i := 14) rfl))) (by decide) (t := (.object "java/lang/String")) (t' := .boolean) (by decide) (by decide)))).other W2 (Or.inr (slot_ne (C := "com/example/gather/gather/model/FeedState") (Or.inr (hw _ (List.mem_of_getElem? (i := 18) rfl))) (Or.inr (hw _ (List.mem_of_getElem? (i := 16) rfl))) (by decide) (t := (.object "java/lang/String")) (t' := (.object "java/lang/String")) (by decide) (by decide))))
  have sz3 := (Keep.of_wr W3).1
  have N := Fr.snoc X N (by omega)
  refine Gl.by st ?_
  show Gl p e below s _ _ _ (T.setTop (mkF m 19 #[.val (.ref fs), .val (.int (0 : Int32)), .val w1, .val w2, .val w3, .val w4] []))
  refine Gl.by (fun t_ k_ => XS.aloadN X.here hx rfl (hb hby d2_19) rfl rfl k_) ?_
  show Gl p e below s _ _ _ (T.setTop (mkF m 20 #[.val (.ref fs), .val (.int (0 : Int32)), .val w1, .val w2, .val w3, .val w4] [(.ref fs)]))
  refine Gl.by (fun t_ k_ => XS.aload X.here hx rfl (hb hby d2_20) rfl hr3 k_) ?_
  show Gl p e below s _ _ _ (T.setTop (mkF m 22 #[.val (.ref fs), .val (.int (0 : Int32)), .val w1, .val w2, .val w3, .val w4] [w3, (.ref fs)]))
  obtain ⟨T, h4, X, eT, W4, st⟩ := putF X hx hZ hown (host := "") (Or.inl (hw _ (List.mem_of_getElem? (i := 19) rfl))) Via.refl eT (((F_haltedAt.other W1 (Or.inr (slot_ne (C := "com/example/gather/gather/model/FeedState") (Or.inr (hw _ (List.mem_of_getElem? (i := 20) rfl))) (Or.inr (hw _ (List.mem_of_getElem? (i := 14) rfl))) (by decide) (t := (.object "java/lang/String")) (t' := .boolean) (by decide) (by decide)))).other W2 (Or.inr (slot_ne (C := "com/example/gather/gather/model/FeedState") (Or.inr (hw _ (List.mem_of_getElem? (i := 20) rfl))) (Or.inr (hw _ (List.mem_of_getElem? (i := 16) rfl))) (by decide) (t := (.object "java/lang/String")) (t' := (.object "java/lang/String")) (by decide) (by decide)))).other W3 (Or.inr (slot_ne (C := "com/example/gather/gather/model/FeedState") (Or.inr (hw _ (List.mem_of_getElem? (i := 20) rfl))) (Or.inr (hw _ (List.mem_of_getElem? (i := 18) rfl))) (by decide) (t := (.object "java/lang/String")) (t' := (.object "java/lang/String")) (by decide) (by decide)))) (((E.wr W1).wr W2).wr W3) (Or.inr ⟨(hw _ (List.mem_of_getElem? (i := 20) rfl)), rfl, hnm⟩) (hw _ (List.mem_of_getElem? (i := 5) rfl)) (ty := (.object "java/lang/String")) (by decide) narR (fitsR hr3) (g := (mkF m 22 #[.val (.ref fs), .val (.int (0 : Int32)), .val w1, .val w2, .val w3, .val w4] [w3, (.ref fs)])) rfl rfl (hb hby d2_22)
  have F4_haltedAt : Fld Z h4 fs "com/example/gather/gather/model/FeedState" "haltedAt" "Ljava/lang/String;" w3 := Fld.same W4 (((F_haltedAt.other W1 (Or.inr (slot_ne (C := "com/example/gather/gather/model/FeedState") (Or.inr (hw _ (List.mem_of_getElem? (i := 20) rfl))) (Or.inr (hw _ (List.mem_of_getElem? (i := 14) rfl))) (by decide) (t := (.object "java/lang/String")) (t' := .boolean) (by decide) (by decide)))).other W2 (Or.inr (slot_ne (C := "com/example/gather/gather/model/FeedState") (Or.inr (hw _ (List.mem_of_getElem? (i := 20) rfl))) (Or.inr (hw _ (List.mem_of_getElem? (i := 16) rfl))) (by decide) (t := (.object "java/lang/String")) (t' := (.object "java/lang/String")) (by decide) (by decide)))).other W3 (Or.inr (slot_ne (C := "com/example/gather/gather/model/FeedState") (Or.inr (hw _ (List.mem_of_getElem? (i := 20) rfl))) (Or.inr (hw _ (List.mem_of_getElem? (i := 18) rfl))) (by decide) (t := (.object "java/lang/String")) (t' := (.object "java/lang/String")) (by decide) (by decide))))
  have sz4 := (Keep.of_wr W4).1
  have N := Fr.snoc X N (by omega)
  refine Gl.by st ?_
  show Gl p e below s _ _ _ (T.setTop (mkF m 25 #[.val (.ref fs), .val (.int (0 : Int32)), .val w1, .val w2, .val w3, .val w4] []))
  refine Gl.by (fun t_ k_ => XS.aloadN X.here hx rfl (hb hby d2_25) rfl rfl k_) ?_
  show Gl p e below s _ _ _ (T.setTop (mkF m 26 #[.val (.ref fs), .val (.int (0 : Int32)), .val w1, .val w2, .val w3, .val w4] [(.ref fs)]))
  refine Gl.by (fun t_ k_ => XS.aload X.here hx rfl (hb hby d2_26) rfl hr4 k_) ?_
  show Gl p e below s _ _ _ (T.setTop (mkF m 28 #[.val (.ref fs), .val (.int (0 : Int32)), .val w1, .val w2, .val w3, .val w4] [w4, (.ref fs)]))
  obtain ⟨T, h5, X, eT, W5, st⟩ := putF X hx hZ hown (host := "") (Or.inl (hw _ (List.mem_of_getElem? (i := 21) rfl))) Via.refl eT ((((F_haltCode.other W1 (Or.inr (slot_ne (C := "com/example/gather/gather/model/FeedState") (Or.inr (hw _ (List.mem_of_getElem? (i := 22) rfl))) (Or.inr (hw _ (List.mem_of_getElem? (i := 14) rfl))) (by decide) (t := (.object "java/lang/String")) (t' := .boolean) (by decide) (by decide)))).other W2 (Or.inr (slot_ne (C := "com/example/gather/gather/model/FeedState") (Or.inr (hw _ (List.mem_of_getElem? (i := 22) rfl))) (Or.inr (hw _ (List.mem_of_getElem? (i := 16) rfl))) (by decide) (t := (.object "java/lang/String")) (t' := (.object "java/lang/String")) (by decide) (by decide)))).other W3 (Or.inr (slot_ne (C := "com/example/gather/gather/model/FeedState") (Or.inr (hw _ (List.mem_of_getElem? (i := 22) rfl))) (Or.inr (hw _ (List.mem_of_getElem? (i := 18) rfl))) (by decide) (t := (.object "java/lang/String")) (t' := (.object "java/lang/String")) (by decide) (by decide)))).other W4 (Or.inr (slot_ne (C := "com/example/gather/gather/model/FeedState") (Or.inr (hw _ (List.mem_of_getElem? (i := 22) rfl))) (Or.inr (hw _ (List.mem_of_getElem? (i := 20) rfl))) (by decide) (t := (.object "java/lang/String")) (t' := (.object "java/lang/String")) (by decide) (by decide)))) ((((E.wr W1).wr W2).wr W3).wr W4) (Or.inr ⟨(hw _ (List.mem_of_getElem? (i := 22) rfl)), rfl, hnm⟩) (hw _ (List.mem_of_getElem? (i := 5) rfl)) (ty := (.object "java/lang/String")) (by decide) narR (fitsR hr4) (g := (mkF m 28 #[.val (.ref fs), .val (.int (0 : Int32)), .val w1, .val w2, .val w3, .val w4] [w4, (.ref fs)])) rfl rfl (hb hby d2_28)
  have F5_haltCode : Fld Z h5 fs "com/example/gather/gather/model/FeedState" "haltCode" "Ljava/lang/String;" w4 := Fld.same W5 ((((F_haltCode.other W1 (Or.inr (slot_ne (C := "com/example/gather/gather/model/FeedState") (Or.inr (hw _ (List.mem_of_getElem? (i := 22) rfl))) (Or.inr (hw _ (List.mem_of_getElem? (i := 14) rfl))) (by decide) (t := (.object "java/lang/String")) (t' := .boolean) (by decide) (by decide)))).other W2 (Or.inr (slot_ne (C := "com/example/gather/gather/model/FeedState") (Or.inr (hw _ (List.mem_of_getElem? (i := 22) rfl))) (Or.inr (hw _ (List.mem_of_getElem? (i := 16) rfl))) (by decide) (t := (.object "java/lang/String")) (t' := (.object "java/lang/String")) (by decide) (by decide)))).other W3 (Or.inr (slot_ne (C := "com/example/gather/gather/model/FeedState") (Or.inr (hw _ (List.mem_of_getElem? (i := 22) rfl))) (Or.inr (hw _ (List.mem_of_getElem? (i := 18) rfl))) (by decide) (t := (.object "java/lang/String")) (t' := (.object "java/lang/String")) (by decide) (by decide)))).other W4 (Or.inr (slot_ne (C := "com/example/gather/gather/model/FeedState") (Or.inr (hw _ (List.mem_of_getElem? (i := 22) rfl))) (Or.inr (hw _ (List.mem_of_getElem? (i := 20) rfl))) (by decide) (t := (.object "java/lang/String")) (t' := (.object "java/lang/String")) (by decide) (by decide))))
  have sz5 := (Keep.of_wr W5).1
  have N := Fr.snoc X N (by omega)
  refine Gl.by st ?_
  show Gl p e below s _ _ _ (T.setTop (mkF m 31 #[.val (.ref fs), .val (.int (0 : Int32)), .val w1, .val w2, .val w3, .val w4] []))
  refine Gl.retV X hx hlk hret (hb hby d2_31) (by decide) (by decide) ?_
  rw [eT]
  exact ⟨rfl, N, ((((((Keep.refl h0 [fs]).wr W1 (Or.inl (by simp))).wr W2 (Or.inl (by simp))).wr W3 (Or.inl (by simp))).wr W4 (Or.inl (by simp))).wr W5 (Or.inl (by simp))), (((((E.wr W1).wr W2).wr W3).wr W4).wr W5), ((((F1_takenUp.other W2 (Or.inr (slot_ne (C := "com/example/gather/gather/model/FeedState") (Or.inr (hw _ (List.mem_of_getElem? (i := 14) rfl))) (Or.inr (hw _ (List.mem_of_getElem? (i := 16) rfl))) (by decide) (t := .boolean) (t' := (.object "java/lang/String")) (by decide) (by decide)))).other W3 (Or.inr (slot_ne (C := "com/example/gather/gather/model/FeedState") (Or.inr (hw _ (List.mem_of_getElem? (i := 14) rfl))) (Or.inr (hw _ (List.mem_of_getElem? (i := 18) rfl))) (by decide) (t := .boolean) (t' := (.object "java/lang/String")) (by decide) (by decide)))).other W4 (Or.inr (slot_ne (C := "com/example/gather/gather/model/FeedState") (Or.inr (hw _ (List.mem_of_getElem? (i := 14) rfl))) (Or.inr (hw _ (List.mem_of_getElem? (i := 20) rfl))) (by decide) (t := .boolean) (t' := (.object "java/lang/String")) (by decide) (by decide)))).other W5 (Or.inr (slot_ne (C := "com/example/gather/gather/model/FeedState") (Or.inr (hw _ (List.mem_of_getElem? (i := 14) rfl))) (Or.inr (hw _ (List.mem_of_getElem? (i := 22) rfl))) (by decide) (t := .boolean) (t' := (.object "java/lang/String")) (by decide) (by decide)))), (((F2_lastSuccess.other W3 (Or.inr (slot_ne (C := "com/example/gather/gather/model/FeedState") (Or.inr (hw _ (List.mem_of_getElem? (i := 16) rfl))) (Or.inr (hw _ (List.mem_of_getElem? (i := 18) rfl))) (by decide) (t := (.object "java/lang/String")) (t' := (.object "java/lang/String")) (by decide) (by decide)))).other W4 (Or.inr (slot_ne (C := "com/example/gather/gather/model/FeedState") (Or.inr (hw _ (List.mem_of_getElem? (i := 16) rfl))) (Or.inr (hw _ (List.mem_of_getElem? (i := 20) rfl))) (by decide) (t := (.object "java/lang/String")) (t' := (.object "java/lang/String")) (by decide) (by decide)))).other W5 (Or.inr (slot_ne (C := "com/example/gather/gather/model/FeedState") (Or.inr (hw _ (List.mem_of_getElem? (i := 16) rfl))) (Or.inr (hw _ (List.mem_of_getElem? (i := 22) rfl))) (by decide) (t := (.object "java/lang/String")) (t' := (.object "java/lang/String")) (by decide) (by decide)))), ((F3_lastSuccessBegan.other W4 (Or.inr (slot_ne (C := "com/example/gather/gather/model/FeedState") (Or.inr (hw _ (List.mem_of_getElem? (i := 18) rfl))) (Or.inr (hw _ (List.mem_of_getElem? (i := 20) rfl))) (by decide) (t := (.object "java/lang/String")) (t' := (.object "java/lang/String")) (by decide) (by decide)))).other W5 (Or.inr (slot_ne (C := "com/example/gather/gather/model/FeedState") (Or.inr (hw _ (List.mem_of_getElem? (i := 18) rfl))) (Or.inr (hw _ (List.mem_of_getElem? (i := 22) rfl))) (by decide) (t := (.object "java/lang/String")) (t' := (.object "java/lang/String")) (by decide) (by decide)))), (F4_haltedAt.other W5 (Or.inr (slot_ne (C := "com/example/gather/gather/model/FeedState") (Or.inr (hw _ (List.mem_of_getElem? (i := 20) rfl))) (Or.inr (hw _ (List.mem_of_getElem? (i := 22) rfl))) (by decide) (t := (.object "java/lang/String")) (t' := (.object "java/lang/String")) (by decide) (by decide)))), F5_haltCode⟩
set_option maxRecDepth 65536 in
set_option maxHeartbeats 40000000 in
theorem own_fsi1 (l : Launch) (Z : State) (a0 : Array Value) (hw : ∀ d ∈ tables_1, d.before a0 Z = true) (fs : Nat) (w1 w2 w3 w4 : Value) (h0 : Heap) (n0 : Nat) (Z0 : n0 ≤ fs) (E : Exa Z h0 fs "com/example/gather/gather/model/FeedState") (F_takenUp : Fld Z h0 fs "com/example/gather/gather/model/FeedState" "takenUp" "Z" (.int (0 : Int32))) (F_lastSuccess : Fld Z h0 fs "com/example/gather/gather/model/FeedState" "lastSuccess" "Ljava/lang/String;" .null) (F_lastSuccessBegan : Fld Z h0 fs "com/example/gather/gather/model/FeedState" "lastSuccessBegan" "Ljava/lang/String;" .null) (F_haltedAt : Fld Z h0 fs "com/example/gather/gather/model/FeedState" "haltedAt" "Ljava/lang/String;" .null) (F_haltCode : Fld Z h0 fs "com/example/gather/gather/model/FeedState" "haltCode" "Ljava/lang/String;" .null) (hr1 : w1.isRef = true) (hr2 : w2.isRef = true) (hr3 : w3.isRef = true) (hr4 : w4.isRef = true) :
    Ctr l Z (⟨"com/example/gather/gather/model/FeedState", "<init>", "(ZLjava/lang/String;Ljava/lang/String;Ljava/lang/String;Ljava/lang/String;)V"⟩ : MethodName) prog_41_method_1_code 6 none [] own_rN #[(.ref fs), (.int (1 : Int32)), w1, w2, w3, w4] h0 (fun v h L => v = none ∧ Fr n0 L ∧ Keep h0 h [fs] ∧ Exa Z h fs "com/example/gather/gather/model/FeedState" ∧ Fld Z h fs "com/example/gather/gather/model/FeedState" "takenUp" "Z" (.int 1) ∧ Fld Z h fs "com/example/gather/gather/model/FeedState" "lastSuccess" "Ljava/lang/String;" w1 ∧ Fld Z h fs "com/example/gather/gather/model/FeedState" "lastSuccessBegan" "Ljava/lang/String;" w2 ∧ Fld Z h fs "com/example/gather/gather/model/FeedState" "haltedAt" "Ljava/lang/String;" w3 ∧ Fld Z h fs "com/example/gather/gather/model/FeedState" "haltCode" "Ljava/lang/String;" w4) := by
  refine Ctr.intro (plainFor_of_name pn_3) #[.val (.ref fs), .val (.int (1 : Int32)), .val w1, .val w2, .val w3, .val w4] (fun m => by rcases ref_cases hr1 with rfl | ⟨_, rfl⟩ <;> rcases ref_cases hr2 with rfl | ⟨_, rfl⟩ <;> rcases ref_cases hr3 with rfl | ⟨_, rfl⟩ <;> rcases ref_cases hr4 with rfl | ⟨_, rfl⟩ <;> rfl) ?_
  intro p e s m below meth c T hx hby hml hown hnm hret hlk hZ hnamed X eT
  have hown : s.vm.findClass "com/example/gather/gather/model/FeedState" = some m.cls := hown
  have N := Fr.nil n0
  show Gl p e below s _ _ _ (T.setTop (mkF m 0 #[.val (.ref fs), .val (.int (1 : Int32)), .val w1, .val w2, .val w3, .val w4] []))
  refine Gl.by (fun t_ k_ => XS.aloadN X.here hx rfl (hb hby d2_0) rfl rfl k_) ?_
  show Gl p e below s _ _ _ (T.setTop (mkF m 1 #[.val (.ref fs), .val (.int (1 : Int32)), .val w1, .val w2, .val w3, .val w4] [(.ref fs)]))
  obtain ⟨T, X, eT, st⟩ := initO X hx hZ hown (hw _ (List.mem_of_getElem? (i := 10) rfl)) (hw _ (List.mem_of_getElem? (i := 11) rfl)) (hw _ (List.mem_of_getElem? (i := 12) rfl)) eT (g := (mkF m 1 #[.val (.ref fs), .val (.int (1 : Int32)), .val w1, .val w2, .val w3, .val w4] [(.ref fs)])) rfl (by rw [hml]; rfl) rfl (hb hby d2_1) (by decide) (W := 0) (by show 2 * 0 + _ ≤ _; exact Nat.le_of_eq rfl) (by decide)
  refine Gl.by st ?_
  show Gl p e below s _ _ _ (T.setTop (mkF m 4 #[.val (.ref fs), .val (.int (1 : Int32)), .val w1, .val w2, .val w3, .val w4] []))
  refine Gl.by (fun t_ k_ => XS.aloadN X.here hx rfl (hb hby d2_4) rfl rfl k_) ?_
  show Gl p e below s _ _ _ (T.setTop (mkF m 5 #[.val (.ref fs), .val (.int (1 : Int32)), .val w1, .val w2, .val w3, .val w4] [(.ref fs)]))
  refine Gl.by (fun t_ k_ => XS.iloadN X.here hx rfl (hb hby d2_5) rfl k_) ?_
  show Gl p e below s _ _ _ (T.setTop (mkF m 6 #[.val (.ref fs), .val (.int (1 : Int32)), .val w1, .val w2, .val w3, .val w4] [(.int (1 : Int32)), (.ref fs)]))
  obtain ⟨T, h1, X, eT, W1, st⟩ := putF X hx hZ hown (host := "") (Or.inl (hw _ (List.mem_of_getElem? (i := 13) rfl))) Via.refl eT F_takenUp E (Or.inr ⟨(hw _ (List.mem_of_getElem? (i := 14) rfl)), rfl, hnm⟩) (hw _ (List.mem_of_getElem? (i := 5) rfl)) (ty := .boolean) (by decide) rfl rfl (g := (mkF m 6 #[.val (.ref fs), .val (.int (1 : Int32)), .val w1, .val w2, .val w3, .val w4] [(.int (1 : Int32)), (.ref fs)])) rfl rfl (hb hby d2_6)
  have F1_takenUp : Fld Z h1 fs "com/example/gather/gather/model/FeedState" "takenUp" "Z" (.int (1 : Int32)) := Fld.same W1 F_takenUp
  have sz1 := (Keep.of_wr W1).1
  have N := Fr.snoc X N (by omega)
  refine Gl.by st ?_
  show Gl p e below s _ _ _ (T.setTop (mkF m 9 #[.val (.ref fs), .val (.int (1 : Int32)), .val w1, .val w2, .val w3, .val w4] []))
  refine Gl.by (fun t_ k_ => XS.aloadN X.here hx rfl (hb hby d2_9) rfl rfl k_) ?_
  show Gl p e below s _ _ _ (T.setTop (mkF m 10 #[.val (.ref fs), .val (.int (1 : Int32)), .val w1, .val w2, .val w3, .val w4] [(.ref fs)]))
  refine Gl.by (fun t_ k_ => XS.aloadN X.here hx rfl (hb hby d2_10) rfl hr1 k_) ?_
  show Gl p e below s _ _ _ (T.setTop (mkF m 11 #[.val (.ref fs), .val (.int (1 : Int32)), .val w1, .val w2, .val w3, .val w4] [w1, (.ref fs)]))
  obtain ⟨T, h2, X, eT, W2, st⟩ := putF X hx hZ hown (host := "") (Or.inl (hw _ (List.mem_of_getElem? (i := 15) rfl))) Via.refl eT (F_lastSuccess.other W1 (Or.inr (slot_ne (C := "com/example/gather/gather/model/FeedState") (Or.inr (hw _ (List.mem_of_getElem? (i := 16) rfl))) (Or.inr (hw _ (List.mem_of_getElem? (i := 14) rfl))) (by decide) (t := (.object "java/lang/String")) (t' := .boolean) (by decide) (by decide)))) (E.wr W1) (Or.inr ⟨(hw _ (List.mem_of_getElem? (i := 16) rfl)), rfl, hnm⟩) (hw _ (List.mem_of_getElem? (i := 5) rfl)) (ty := (.object "java/lang/String")) (by decide) narR (fitsR hr1) (g := (mkF m 11 #[.val (.ref fs), .val (.int (1 : Int32)), .val w1, .val w2, .val w3, .val w4] [w1, (.ref fs)])) rfl rfl (hb hby d2_11)
  have F2_lastSuccess : Fld Z h2 fs "com/example/gather/gather/model/FeedState" "lastSuccess" "Ljava/lang/String;" w1 := Fld.same W2 (F_lastSuccess.other W1 (Or.inr (slot_ne (C := "com/example/gather/gather/model/FeedState") (Or.inr (hw _ (List.mem_of_getElem? (i := 16) rfl))) (Or.inr (hw _ (List.mem_of_getElem? (i := 14) rfl))) (by decide) (t := (.object "java/lang/String")) (t' := .boolean) (by decide) (by decide))))
  have sz2 := (Keep.of_wr W2).1
  have N := Fr.snoc X N (by omega)
  refine Gl.by st ?_
  show Gl p e below s _ _ _ (T.setTop (mkF m 14 #[.val (.ref fs), .val (.int (1 : Int32)), .val w1, .val w2, .val w3, .val w4] []))
  refine Gl.by (fun t_ k_ => XS.aloadN X.here hx rfl (hb hby d2_14) rfl rfl k_) ?_
  show Gl p e below s _ _ _ (T.setTop (mkF m 15 #[.val (.ref fs), .val (.int (1 : Int32)), .val w1, .val w2, .val w3, .val w4] [(.ref fs)]))
  refine Gl.by (fun t_ k_ => XS.aloadN X.here hx rfl (hb hby d2_15) rfl hr2 k_) ?_
  show Gl p e below s _ _ _ (T.setTop (mkF m 16 #[.val (.ref fs), .val (.int (1 : Int32)), .val w1, .val w2, .val w3, .val w4] [w2, (.ref fs)]))
  obtain ⟨T, h3, X, eT, W3, st⟩ := putF X hx hZ hown (host := "") (Or.inl (hw _ (List.mem_of_getElem? (i := 17) rfl))) Via.refl eT ((F_lastSuccessBegan.other W1 (Or.inr (slot_ne (C := "com/example/gather/gather/model/FeedState") (Or.inr (hw _ (List.mem_of_getElem? (i := 18) rfl))) (Or.inr (hw _ (List.mem_of_getElem? (i := 14) rfl))) (by decide) (t := (.object "java/lang/String")) (t' := .boolean) (by decide) (by decide)))).other W2 (Or.inr (slot_ne (C := "com/example/gather/gather/model/FeedState") (Or.inr (hw _ (List.mem_of_getElem? (i := 18) rfl))) (Or.inr (hw _ (List.mem_of_getElem? (i := 16) rfl))) (by decide) (t := (.object "java/lang/String")) (t' := (.object "java/lang/String")) (by decide) (by decide)))) ((E.wr W1).wr W2) (Or.inr ⟨(hw _ (List.mem_of_getElem? (i := 18) rfl)), rfl, hnm⟩) (hw _ (List.mem_of_getElem? (i := 5) rfl)) (ty := (.object "java/lang/String")) (by decide) narR (fitsR hr2) (g := (mkF m 16 #[.val (.ref fs), .val (.int (1 : Int32)), .val w1, .val w2, .val w3, .val w4] [w2, (.ref fs)])) rfl rfl (hb hby d2_16)
  have F3_lastSuccessBegan : Fld Z h3 fs "com/example/gather/gather/model/FeedState" "lastSuccessBegan" "Ljava/lang/String;" w2 := Fld.same W3 ((F_lastSuccessBegan.other W1 (Or.inr (slot_ne (C := "com/example/gather/gather/model/FeedState") (Or.inr (hw _ (List.mem_of_getElem? (i := 18) rfl))) (Or.inr (hw _ (List.mem_of_getElem? (i := 14) rfl))) (by decide) (t := (.object "java/lang/String")) (t' := .boolean) (by decide) (by decide)))).other W2 (Or.inr (slot_ne (C := "com/example/gather/gather/model/FeedState") (Or.inr (hw _ (List.mem_of_getElem? (i := 18) rfl))) (Or.inr (hw _ (List.mem_of_getElem? (i := 16) rfl))) (by decide) (t := (.object "java/lang/String")) (t' := (.object "java/lang/String")) (by decide) (by decide))))
  have sz3 := (Keep.of_wr W3).1
  have N := Fr.snoc X N (by omega)
  refine Gl.by st ?_
  show Gl p e below s _ _ _ (T.setTop (mkF m 19 #[.val (.ref fs), .val (.int (1 : Int32)), .val w1, .val w2, .val w3, .val w4] []))
  refine Gl.by (fun t_ k_ => XS.aloadN X.here hx rfl (hb hby d2_19) rfl rfl k_) ?_
  show Gl p e below s _ _ _ (T.setTop (mkF m 20 #[.val (.ref fs), .val (.int (1 : Int32)), .val w1, .val w2, .val w3, .val w4] [(.ref fs)]))
  refine Gl.by (fun t_ k_ => XS.aload X.here hx rfl (hb hby d2_20) rfl hr3 k_) ?_
  show Gl p e below s _ _ _ (T.setTop (mkF m 22 #[.val (.ref fs), .val (.int (1 : Int32)), .val w1, .val w2, .val w3, .val w4] [w3, (.ref fs)]))
  obtain ⟨T, h4, X, eT, W4, st⟩ := putF X hx hZ hown (host := "") (Or.inl (hw _ (List.mem_of_getElem? (i := 19) rfl))) Via.refl eT (((F_haltedAt.other W1 (Or.inr (slot_ne (C := "com/example/gather/gather/model/FeedState") (Or.inr (hw _ (List.mem_of_getElem? (i := 20) rfl))) (Or.inr (hw _ (List.mem_of_getElem? (i := 14) rfl))) (by decide) (t := (.object "java/lang/String")) (t' := .boolean) (by decide) (by decide)))).other W2 (Or.inr (slot_ne (C := "com/example/gather/gather/model/FeedState") (Or.inr (hw _ (List.mem_of_getElem? (i := 20) rfl))) (Or.inr (hw _ (List.mem_of_getElem? (i := 16) rfl))) (by decide) (t := (.object "java/lang/String")) (t' := (.object "java/lang/String")) (by decide) (by decide)))).other W3 (Or.inr (slot_ne (C := "com/example/gather/gather/model/FeedState") (Or.inr (hw _ (List.mem_of_getElem? (i := 20) rfl))) (Or.inr (hw _ (List.mem_of_getElem? (i := 18) rfl))) (by decide) (t := (.object "java/lang/String")) (t' := (.object "java/lang/String")) (by decide) (by decide)))) (((E.wr W1).wr W2).wr W3) (Or.inr ⟨(hw _ (List.mem_of_getElem? (i := 20) rfl)), rfl, hnm⟩) (hw _ (List.mem_of_getElem? (i := 5) rfl)) (ty := (.object "java/lang/String")) (by decide) narR (fitsR hr3) (g := (mkF m 22 #[.val (.ref fs), .val (.int (1 : Int32)), .val w1, .val w2, .val w3, .val w4] [w3, (.ref fs)])) rfl rfl (hb hby d2_22)
  have F4_haltedAt : Fld Z h4 fs "com/example/gather/gather/model/FeedState" "haltedAt" "Ljava/lang/String;" w3 := Fld.same W4 (((F_haltedAt.other W1 (Or.inr (slot_ne (C := "com/example/gather/gather/model/FeedState") (Or.inr (hw _ (List.mem_of_getElem? (i := 20) rfl))) (Or.inr (hw _ (List.mem_of_getElem? (i := 14) rfl))) (by decide) (t := (.object "java/lang/String")) (t' := .boolean) (by decide) (by decide)))).other W2 (Or.inr (slot_ne (C := "com/example/gather/gather/model/FeedState") (Or.inr (hw _ (List.mem_of_getElem? (i := 20) rfl))) (Or.inr (hw _ (List.mem_of_getElem? (i := 16) rfl))) (by decide) (t := (.object "java/lang/String")) (t' := (.object "java/lang/String")) (by decide) (by decide)))).other W3 (Or.inr (slot_ne (C := "com/example/gather/gather/model/FeedState") (Or.inr (hw _ (List.mem_of_getElem? (i := 20) rfl))) (Or.inr (hw _ (List.mem_of_getElem? (i := 18) rfl))) (by decide) (t := (.object "java/lang/String")) (t' := (.object "java/lang/String")) (by decide) (by decide))))
  have sz4 := (Keep.of_wr W4).1
  have N := Fr.snoc X N (by omega)
  refine Gl.by st ?_
  show Gl p e below s _ _ _ (T.setTop (mkF m 25 #[.val (.ref fs), .val (.int (1 : Int32)), .val w1, .val w2, .val w3, .val w4] []))
  refine Gl.by (fun t_ k_ => XS.aloadN X.here hx rfl (hb hby d2_25) rfl rfl k_) ?_
  show Gl p e below s _ _ _ (T.setTop (mkF m 26 #[.val (.ref fs), .val (.int (1 : Int32)), .val w1, .val w2, .val w3, .val w4] [(.ref fs)]))
  refine Gl.by (fun t_ k_ => XS.aload X.here hx rfl (hb hby d2_26) rfl hr4 k_) ?_
  show Gl p e below s _ _ _ (T.setTop (mkF m 28 #[.val (.ref fs), .val (.int (1 : Int32)), .val w1, .val w2, .val w3, .val w4] [w4, (.ref fs)]))
  obtain ⟨T, h5, X, eT, W5, st⟩ := putF X hx hZ hown (host := "") (Or.inl (hw _ (List.mem_of_getElem? (i := 21) rfl))) Via.refl eT ((((F_haltCode.other W1 (Or.inr (slot_ne (C := "com/example/gather/gather/model/FeedState") (Or.inr (hw _ (List.mem_of_getElem? (i := 22) rfl))) (Or.inr (hw _ (List.mem_of_getElem? (i := 14) rfl))) (by decide) (t := (.object "java/lang/String")) (t' := .boolean) (by decide) (by decide)))).other W2 (Or.inr (slot_ne (C := "com/example/gather/gather/model/FeedState") (Or.inr (hw _ (List.mem_of_getElem? (i := 22) rfl))) (Or.inr (hw _ (List.mem_of_getElem? (i := 16) rfl))) (by decide) (t := (.object "java/lang/String")) (t' := (.object "java/lang/String")) (by decide) (by decide)))).other W3 (Or.inr (slot_ne (C := "com/example/gather/gather/model/FeedState") (Or.inr (hw _ (List.mem_of_getElem? (i := 22) rfl))) (Or.inr (hw _ (List.mem_of_getElem? (i := 18) rfl))) (by decide) (t := (.object "java/lang/String")) (t' := (.object "java/lang/String")) (by decide) (by decide)))).other W4 (Or.inr (slot_ne (C := "com/example/gather/gather/model/FeedState") (Or.inr (hw _ (List.mem_of_getElem? (i := 22) rfl))) (Or.inr (hw _ (List.mem_of_getElem? (i := 20) rfl))) (by decide) (t := (.object "java/lang/String")) (t' := (.object "java/lang/String")) (by decide) (by decide)))) ((((E.wr W1).wr W2).wr W3).wr W4) (Or.inr ⟨(hw _ (List.mem_of_getElem? (i := 22) rfl)), rfl, hnm⟩) (hw _ (List.mem_of_getElem? (i := 5) rfl)) (ty := (.object "java/lang/String")) (by decide) narR (fitsR hr4) (g := (mkF m 28 #[.val (.ref fs), .val (.int (1 : Int32)), .val w1, .val w2, .val w3, .val w4] [w4, (.ref fs)])) rfl rfl (hb hby d2_28)
  have F5_haltCode : Fld Z h5 fs "com/example/gather/gather/model/FeedState" "haltCode" "Ljava/lang/String;" w4 := Fld.same W5 ((((F_haltCode.other W1 (Or.inr (slot_ne (C := "com/example/gather/gather/model/FeedState") (Or.inr (hw _ (List.mem_of_getElem? (i := 22) rfl))) (Or.inr (hw _ (List.mem_of_getElem? (i := 14) rfl))) (by decide) (t := (.object "java/lang/String")) (t' := .boolean) (by decide) (by decide)))).other W2 (Or.inr (slot_ne (C := "com/example/gather/gather/model/FeedState") (Or.inr (hw _ (List.mem_of_getElem? (i := 22) rfl))) (Or.inr (hw _ (List.mem_of_getElem? (i := 16) rfl))) (by decide) (t := (.object "java/lang/String")) (t' := (.object "java/lang/String")) (by decide) (by decide)))).other W3 (Or.inr (slot_ne (C := "com/example/gather/gather/model/FeedState") (Or.inr (hw _ (List.mem_of_getElem? (i := 22) rfl))) (Or.inr (hw _ (List.mem_of_getElem? (i := 18) rfl))) (by decide) (t := (.object "java/lang/String")) (t' := (.object "java/lang/String")) (by decide) (by decide)))).other W4 (Or.inr (slot_ne (C := "com/example/gather/gather/model/FeedState") (Or.inr (hw _ (List.mem_of_getElem? (i := 22) rfl))) (Or.inr (hw _ (List.mem_of_getElem? (i := 20) rfl))) (by decide) (t := (.object "java/lang/String")) (t' := (.object "java/lang/String")) (by decide) (by decide))))
  have sz5 := (Keep.of_wr W5).1
  have N := Fr.snoc X N (by omega)
  refine Gl.by st ?_
  show Gl p e below s _ _ _ (T.setTop (mkF m 31 #[.val (.ref fs), .val (.int (1 : Int32)), .val w1, .val w2, .val w3, .val w4] []))
  refine Gl.retV X hx hlk hret (hb hby d2_31) (by decide) (by decide) ?_
  rw [eT]
  exact ⟨rfl, N, ((((((Keep.refl h0 [fs]).wr W1 (Or.inl (by simp))).wr W2 (Or.inl (by simp))).wr W3 (Or.inl (by simp))).wr W4 (Or.inl (by simp))).wr W5 (Or.inl (by simp))), (((((E.wr W1).wr W2).wr W3).wr W4).wr W5), ((((F1_takenUp.other W2 (Or.inr (slot_ne (C := "com/example/gather/gather/model/FeedState") (Or.inr (hw _ (List.mem_of_getElem? (i := 14) rfl))) (Or.inr (hw _ (List.mem_of_getElem? (i := 16) rfl))) (by decide) (t := .boolean) (t' := (.object "java/lang/String")) (by decide) (by decide)))).other W3 (Or.inr (slot_ne (C := "com/example/gather/gather/model/FeedState") (Or.inr (hw _ (List.mem_of_getElem? (i := 14) rfl))) (Or.inr (hw _ (List.mem_of_getElem? (i := 18) rfl))) (by decide) (t := .boolean) (t' := (.object "java/lang/String")) (by decide) (by decide)))).other W4 (Or.inr (slot_ne (C := "com/example/gather/gather/model/FeedState") (Or.inr (hw _ (List.mem_of_getElem? (i := 14) rfl))) (Or.inr (hw _ (List.mem_of_getElem? (i := 20) rfl))) (by decide) (t := .boolean) (t' := (.object "java/lang/String")) (by decide) (by decide)))).other W5 (Or.inr (slot_ne (C := "com/example/gather/gather/model/FeedState") (Or.inr (hw _ (List.mem_of_getElem? (i := 14) rfl))) (Or.inr (hw _ (List.mem_of_getElem? (i := 22) rfl))) (by decide) (t := .boolean) (t' := (.object "java/lang/String")) (by decide) (by decide)))), (((F2_lastSuccess.other W3 (Or.inr (slot_ne (C := "com/example/gather/gather/model/FeedState") (Or.inr (hw _ (List.mem_of_getElem? (i := 16) rfl))) (Or.inr (hw _ (List.mem_of_getElem? (i := 18) rfl))) (by decide) (t := (.object "java/lang/String")) (t' := (.object "java/lang/String")) (by decide) (by decide)))).other W4 (Or.inr (slot_ne (C := "com/example/gather/gather/model/FeedState") (Or.inr (hw _ (List.mem_of_getElem? (i := 16) rfl))) (Or.inr (hw _ (List.mem_of_getElem? (i := 20) rfl))) (by decide) (t := (.object "java/lang/String")) (t' := (.object "java/lang/String")) (by decide) (by decide)))).other W5 (Or.inr (slot_ne (C := "com/example/gather/gather/model/FeedState") (Or.inr (hw _ (List.mem_of_getElem? (i := 16) rfl))) (Or.inr (hw _ (List.mem_of_getElem? (i := 22) rfl))) (by decide) (t := (.object "java/lang/String")) (t' := (.object "java/lang/String")) (by decide) (by decide)))), ((F3_lastSuccessBegan.other W4 (Or.inr (slot_ne (C := "com/example/gather/gather/model/FeedState") (Or.inr (hw _ (List.mem_of_getElem? (i := 18) rfl))) (Or.inr (hw _ (List.mem_of_getElem? (i := 20) rfl))) (by decide) (t := (.object "java/lang/String")) (t' := (.object "java/lang/String")) (by decide) (by decide)))).other W5 (Or.inr (slot_ne (C := "com/example/gather/gather/model/FeedState") (Or.inr (hw _ (List.mem_of_getElem? (i := 18) rfl))) (Or.inr (hw _ (List.mem_of_getElem? (i := 22) rfl))) (by decide) (t := (.object "java/lang/String")) (t' := (.object "java/lang/String")) (by decide) (by decide)))), (F4_haltedAt.other W5 (Or.inr (slot_ne (C := "com/example/gather/gather/model/FeedState") (Or.inr (hw _ (List.mem_of_getElem? (i := 20) rfl))) (Or.inr (hw _ (List.mem_of_getElem? (i := 22) rfl))) (by decide) (t := (.object "java/lang/String")) (t' := (.object "java/lang/String")) (by decide) (by decide)))), F5_haltCode⟩
set_option maxRecDepth 65536 in
set_option maxHeartbeats 40000000 in
theorem own_gcH (l : Launch) (Z : State) (a0 : Array Value) (hw : ∀ d ∈ tables_1, d.before a0 Z = true) (fs eh eo en : Nat) (t3 : Nat) (h0 : Heap) (n0 : Nat) (O : Old Z n0 h0) (S_HALTED : Sta Z Z.heap "com/example/gather/gather/model/FeedState$Condition" "HALTED" "Lcom/example/gather/gather/model/FeedState$Condition;" (.ref eh)) (S_OK : Sta Z Z.heap "com/example/gather/gather/model/FeedState$Condition" "OK" "Lcom/example/gather/gather/model/FeedState$Condition;" (.ref eo)) (S_NEW : Sta Z Z.heap "com/example/gather/gather/model/FeedState$Condition" "NEW" "Lcom/example/gather/gather/model/FeedState$Condition;" (.ref en)) (F : Fld Z h0 fs "com/example/gather/gather/model/FeedState" "haltedAt" "Ljava/lang/String;" (.ref t3)) :
    Ctr l Z (⟨"com/example/gather/gather/model/FeedState", "getCondition", "()Lcom/example/gather/gather/model/FeedState$Condition;"⟩ : MethodName) prog_41_method_2_code 1 (some (.object "com/example/gather/gather/model/FeedState$Condition")) [] own_r0 #[(.ref fs)] h0 (fun v h L => v = some (.ref eh) ∧ L = [] ∧ h = h0) := by
  refine Ctr.intro (plainFor_of_name pn_3) #[.val (.ref fs)] (fun m => by first | (simp [entryFrame, mkF, argsToLocals, Value.category]; done) | rfl) ?_
  intro p e s m below meth c T hx hby hml hown hnm hret hlk hZ hnamed X eT
  have hown : s.vm.findClass "com/example/gather/gather/model/FeedState" = some m.cls := hown
  have N := Fr.nil n0
  show Gl p e below s _ _ _ (T.setTop (mkF m 0 #[.val (.ref fs)] []))
  refine Gl.by (fun t_ k_ => XS.aloadN X.here hx rfl (hb hby d4_0) rfl rfl k_) ?_
  show Gl p e below s _ _ _ (T.setTop (mkF m 1 #[.val (.ref fs)] [(.ref fs)]))
  obtain ⟨T, X, eT, st⟩ := getF X hx hZ hown (host := "") (Or.inl (hw _ (List.mem_of_getElem? (i := 19) rfl))) Via.refl eT F (g := (mkF m 1 #[.val (.ref fs)] [(.ref fs)])) rfl rfl (hb hby d4_1)
  refine Gl.by st ?_
  show Gl p e below s _ _ _ (T.setTop (mkF m 4 #[.val (.ref fs)] [(.ref t3)]))
  refine Gl.by (fun t_ k_ => XS.ifnullNo X.here hx rfl (hb hby d4_4) rfl k_) ?_
  show Gl p e below s _ _ _ (T.setTop (mkF m 7 #[.val (.ref fs)] []))
  obtain ⟨T, X, eT, st⟩ := getS2 X hx hZ hown (host := "") (Or.inl (hw _ (List.mem_of_getElem? (i := 77) rfl))) Via.refl eT (S_HALTED.ext O.2) (g := (mkF m 7 #[.val (.ref fs)] [])) rfl (hb hby d4_7)
  refine Gl.by st ?_
  show Gl p e below s _ _ _ (T.setTop (mkF m 10 #[.val (.ref fs)] [(.ref eh)]))
  exact Gl.retA X hx hlk hret rfl rfl (hb hby d4_10) (by decide) (by decide) ⟨rfl, rfl, eT⟩
set_option maxRecDepth 65536 in
set_option maxHeartbeats 40000000 in
theorem own_gcO (l : Launch) (Z : State) (a0 : Array Value) (hw : ∀ d ∈ tables_1, d.before a0 Z = true) (fs eh eo en : Nat) (h0 : Heap) (n0 : Nat) (O : Old Z n0 h0) (S_HALTED : Sta Z Z.heap "com/example/gather/gather/model/FeedState$Condition" "HALTED" "Lcom/example/gather/gather/model/FeedState$Condition;" (.ref eh)) (S_OK : Sta Z Z.heap "com/example/gather/gather/model/FeedState$Condition" "OK" "Lcom/example/gather/gather/model/FeedState$Condition;" (.ref eo)) (S_NEW : Sta Z Z.heap "com/example/gather/gather/model/FeedState$Condition" "NEW" "Lcom/example/gather/gather/model/FeedState$Condition;" (.ref en)) (F : Fld Z h0 fs "com/example/gather/gather/model/FeedState" "haltedAt" "Ljava/lang/String;" .null) (G : Fld Z h0 fs "com/example/gather/gather/model/FeedState" "takenUp" "Z" (.int 1)) :
    Ctr l Z (⟨"com/example/gather/gather/model/FeedState", "getCondition", "()Lcom/example/gather/gather/model/FeedState$Condition;"⟩ : MethodName) prog_41_method_2_code 1 (some (.object "com/example/gather/gather/model/FeedState$Condition")) [] own_r0 #[(.ref fs)] h0 (fun v h L => v = some (.ref eo) ∧ L = [] ∧ h = h0) := by
  refine Ctr.intro (plainFor_of_name pn_3) #[.val (.ref fs)] (fun m => by first | (simp [entryFrame, mkF, argsToLocals, Value.category]; done) | rfl) ?_
  intro p e s m below meth c T hx hby hml hown hnm hret hlk hZ hnamed X eT
  have hown : s.vm.findClass "com/example/gather/gather/model/FeedState" = some m.cls := hown
  have N := Fr.nil n0
  show Gl p e below s _ _ _ (T.setTop (mkF m 0 #[.val (.ref fs)] []))
  refine Gl.by (fun t_ k_ => XS.aloadN X.here hx rfl (hb hby d4_0) rfl rfl k_) ?_
  show Gl p e below s _ _ _ (T.setTop (mkF m 1 #[.val (.ref fs)] [(.ref fs)]))
  obtain ⟨T, X, eT, st⟩ := getF X hx hZ hown (host := "") (Or.inl (hw _ (List.mem_of_getElem? (i := 19) rfl))) Via.refl eT F (g := (mkF m 1 #[.val (.ref fs)] [(.ref fs)])) rfl rfl (hb hby d4_1)
  refine Gl.by st ?_
  show Gl p e below s _ _ _ (T.setTop (mkF m 4 #[.val (.ref fs)] [.null]))
  refine Gl.by (fun t_ k_ => XS.ifnullYes X.here hx rfl (pc0 := 4) (pc' := 11) rfl (hb hby d4_4) rfl (by decide) (by decide) k_) ?_
  show Gl p e below s _ _ _ (T.setTop (mkF m 11 #[.val (.ref fs)] []))
  refine Gl.by (fun t_ k_ => XS.aloadN X.here hx rfl (hb hby d4_11) rfl rfl k_) ?_
  show Gl p e below s _ _ _ (T.setTop (mkF m 12 #[.val (.ref fs)] [(.ref fs)]))
  obtain ⟨T, X, eT, st⟩ := getF X hx hZ hown (host := "") (Or.inl (hw _ (List.mem_of_getElem? (i := 13) rfl))) Via.refl eT G (g := (mkF m 12 #[.val (.ref fs)] [(.ref fs)])) rfl rfl (hb hby d4_12)
  refine Gl.by st ?_
  show Gl p e below s _ _ _ (T.setTop (mkF m 15 #[.val (.ref fs)] [(.int (1 : Int32))]))
  refine Gl.by (fun t_ k_ => XS.ifNo X.here hx rfl (hb hby d4_15) rfl ((if0 _ _).trans (feq (by decide : ¬ (1 : Int32) = 0)).1) k_) ?_
  show Gl p e below s _ _ _ (T.setTop (mkF m 18 #[.val (.ref fs)] []))
  obtain ⟨T, X, eT, st⟩ := getS2 X hx hZ hown (host := "") (Or.inl (hw _ (List.mem_of_getElem? (i := 80) rfl))) Via.refl eT (S_OK.ext O.2) (g := (mkF m 18 #[.val (.ref fs)] [])) rfl (hb hby d4_18)
  refine Gl.by st ?_
  show Gl p e below s _ _ _ (T.setTop (mkF m 21 #[.val (.ref fs)] [(.ref eo)]))
  refine Gl.by (fun t_ k_ => XS.goto X.here hx rfl (pc0 := 21) (pc' := 27) rfl (hb hby d4_21) (by decide) (by decide) k_) ?_
  show Gl p e below s _ _ _ (T.setTop (mkF m 27 #[.val (.ref fs)] [(.ref eo)]))
  exact Gl.retA X hx hlk hret rfl rfl (hb hby d4_27) (by decide) (by decide) ⟨rfl, rfl, eT⟩
set_option maxRecDepth 65536 in
set_option maxHeartbeats 40000000 in
theorem own_gcN (l : Launch) (Z : State) (a0 : Array Value) (hw : ∀ d ∈ tables_1, d.before a0 Z = true) (fs eh eo en : Nat) (h0 : Heap) (n0 : Nat) (O : Old Z n0 h0) (S_HALTED : Sta Z Z.heap "com/example/gather/gather/model/FeedState$Condition" "HALTED" "Lcom/example/gather/gather/model/FeedState$Condition;" (.ref eh)) (S_OK : Sta Z Z.heap "com/example/gather/gather/model/FeedState$Condition" "OK" "Lcom/example/gather/gather/model/FeedState$Condition;" (.ref eo)) (S_NEW : Sta Z Z.heap "com/example/gather/gather/model/FeedState$Condition" "NEW" "Lcom/example/gather/gather/model/FeedState$Condition;" (.ref en)) (F : Fld Z h0 fs "com/example/gather/gather/model/FeedState" "haltedAt" "Ljava/lang/String;" .null) (G : Fld Z h0 fs "com/example/gather/gather/model/FeedState" "takenUp" "Z" (.int 0)) :
    Ctr l Z (⟨"com/example/gather/gather/model/FeedState", "getCondition", "()Lcom/example/gather/gather/model/FeedState$Condition;"⟩ : MethodName) prog_41_method_2_code 1 (some (.object "com/example/gather/gather/model/FeedState$Condition")) [] own_r0 #[(.ref fs)] h0 (fun v h L => v = some (.ref en) ∧ L = [] ∧ h = h0) := by
  refine Ctr.intro (plainFor_of_name pn_3) #[.val (.ref fs)] (fun m => by first | (simp [entryFrame, mkF, argsToLocals, Value.category]; done) | rfl) ?_
  intro p e s m below meth c T hx hby hml hown hnm hret hlk hZ hnamed X eT
  have hown : s.vm.findClass "com/example/gather/gather/model/FeedState" = some m.cls := hown
  have N := Fr.nil n0
  show Gl p e below s _ _ _ (T.setTop (mkF m 0 #[.val (.ref fs)] []))
  refine Gl.by (fun t_ k_ => XS.aloadN X.here hx rfl (hb hby d4_0) rfl rfl k_) ?_
  show Gl p e below s _ _ _ (T.setTop (mkF m 1 #[.val (.ref fs)] [(.ref fs)]))
  obtain ⟨T, X, eT, st⟩ := getF X hx hZ hown (host := "") (Or.inl (hw _ (List.mem_of_getElem? (i := 19) rfl))) Via.refl eT F (g := (mkF m 1 #[.val (.ref fs)] [(.ref fs)])) rfl rfl (hb hby d4_1)
  refine Gl.by st ?_
  show Gl p e below s _ _ _ (T.setTop (mkF m 4 #[.val (.ref fs)] [.null]))
  refine Gl.by (fun t_ k_ => XS.ifnullYes X.here hx rfl (pc0 := 4) (pc' := 11) rfl (hb hby d4_4) rfl (by decide) (by decide) k_) ?_
  show Gl p e below s _ _ _ (T.setTop (mkF m 11 #[.val (.ref fs)] []))
  refine Gl.by (fun t_ k_ => XS.aloadN X.here hx rfl (hb hby d4_11) rfl rfl k_) ?_
  show Gl p e below s _ _ _ (T.setTop (mkF m 12 #[.val (.ref fs)] [(.ref fs)]))
  obtain ⟨T, X, eT, st⟩ := getF X hx hZ hown (host := "") (Or.inl (hw _ (List.mem_of_getElem? (i := 13) rfl))) Via.refl eT G (g := (mkF m 12 #[.val (.ref fs)] [(.ref fs)])) rfl rfl (hb hby d4_12)
  refine Gl.by st ?_
  show Gl p e below s _ _ _ (T.setTop (mkF m 15 #[.val (.ref fs)] [(.int (0 : Int32))]))
  refine Gl.by (fun t_ k_ => XS.ifYes X.here hx rfl (pc0 := 15) (pc' := 24) rfl (hb hby d4_15) rfl ((if0 _ _).trans (teq (rfl : (0 : Int32) = 0)).1) (by decide) (by decide) k_) ?_
  show Gl p e below s _ _ _ (T.setTop (mkF m 24 #[.val (.ref fs)] []))
  obtain ⟨T, X, eT, st⟩ := getS2 X hx hZ hown (host := "") (Or.inl (hw _ (List.mem_of_getElem? (i := 28) rfl))) Via.refl eT (S_NEW.ext O.2) (g := (mkF m 24 #[.val (.ref fs)] [])) rfl (hb hby d4_24)
  refine Gl.by st ?_
  show Gl p e below s _ _ _ (T.setTop (mkF m 27 #[.val (.ref fs)] [(.ref en)]))
  exact Gl.retA X hx hlk hret rfl rfl (hb hby d4_27) (by decide) (by decide) ⟨rfl, rfl, eT⟩
set_option maxRecDepth 65536 in
set_option maxHeartbeats 40000000 in
theorem own_law (l : Launch) (Z : State) (a0 : Array Value) (hw : ∀ d ∈ tables_1, d.before a0 Z = true) (ws : List Jvm.Cond) (p0 p1 z : Int32) (eh eo en : Nat) (h0 : Heap) (n0 : Nat) (Z0 : n0 ≤ h0.size) (S : Sta Z Z.heap "java/lang/String" "COMPACT_STRINGS" "Z" (.int z)) (hz : ¬ z = 0) (O : Old Z n0 h0) (S_HALTED : Sta Z Z.heap "com/example/gather/gather/model/FeedState$Condition" "HALTED" "Lcom/example/gather/gather/model/FeedState$Condition;" (.ref eh)) (S_OK : Sta Z Z.heap "com/example/gather/gather/model/FeedState$Condition" "OK" "Lcom/example/gather/gather/model/FeedState$Condition;" (.ref eo)) (S_NEW : Sta Z Z.heap "com/example/gather/gather/model/FeedState$Condition" "NEW" "Lcom/example/gather/gather/model/FeedState$Condition;" (.ref en)) :
    CtrH l Z own_EL [] x code maxLocals ret ws room_1 #[(.int p0), (.int p1)] h0 (fun v h L => v = some (.int 1) ∧ Fr n0 L) := by
  have hEL := own_ew hw
  refine CtrH.intro (plainFor_of_name pn_2) #[.val (.int p0), .val (.int p1), .unset, .unset, .unset, .unset, .unset, .unset, .unset, .unset] (fun m => by first | (simp [entryFrame, mkF, argsToLocals, Value.category, maxLocals]; done) | rfl) ?_
  intro p e sT m below meth c s T hx hby hml hown hnm hret hlk hZ hnamed X eT B SF
  have hown : s.vm.findClass "com/example/gather/gather/model/FeedStateGetConditionPinLaw" = some m.cls := hown
  have N := Fr.nil n0
  have j0 : GlH p e below Z own_EL sT h0 room_1.cells room_1.slots (fun v h L => v = some (.int 1) ∧ Fr n0 L) (T.setTop (mkF m 12 #[.val (.int p0), .val (.int p1), .val (.int (0 : Int32)), .unset, .unset, .unset, .unset, .unset, .unset, .unset] [])) := by
    show GlH p e below Z own_EL sT h0 room_1.cells room_1.slots (fun v h L => v = some (.int 1) ∧ Fr n0 L) (T.setTop (mkF m 12 #[.val (.int p0), .val (.int p1), .val (.int (0 : Int32)), .unset, .unset, .unset, .unset, .unset, .unset, .unset] []))
    refine GlH.by (fun t_ k_ => XS.iloadN X.here hx rfl (hb hby at_12) rfl k_) ?_
    show GlH p e below Z own_EL sT h0 room_1.cells room_1.slots (fun v h L => v = some (.int 1) ∧ Fr n0 L) (T.setTop (mkF m 13 #[.val (.int p0), .val (.int p1), .val (.int (0 : Int32)), .unset, .unset, .unset, .unset, .unset, .unset, .unset] [(.int p0)]))
    refine GlH.by (fun t_ k_ => XS.iconst X.here hx rfl (hb hby at_13) k_) ?_
    show GlH p e below Z own_EL sT h0 room_1.cells room_1.slots (fun v h L => v = some (.int 1) ∧ Fr n0 L) (T.setTop (mkF m 14 #[.val (.int p0), .val (.int p1), .val (.int (0 : Int32)), .unset, .unset, .unset, .unset, .unset, .unset, .unset] [(.int (1 : Int32)), (.int p0)]))
    refine GlH.by (fun t_ k_ => XS.iushr X.here hx rfl (hb hby at_14) rfl k_) ?_
    show GlH p e below Z own_EL sT h0 room_1.cells room_1.slots (fun v h L => v = some (.int 1) ∧ Fr n0 L) (T.setTop (mkF m 15 #[.val (.int p0), .val (.int p1), .val (.int (0 : Int32)), .unset, .unset, .unset, .unset, .unset, .unset, .unset] [(.int ((p0.toUInt32 >>> ((1 : Int32) &&& 31).toUInt32).toInt32))]))
    refine GlH.by (fun t_ k_ => XS.iloadN X.here hx rfl (hb hby at_15) rfl k_) ?_
    show GlH p e below Z own_EL sT h0 room_1.cells room_1.slots (fun v h L => v = some (.int 1) ∧ Fr n0 L) (T.setTop (mkF m 16 #[.val (.int p0), .val (.int p1), .val (.int (0 : Int32)), .unset, .unset, .unset, .unset, .unset, .unset, .unset] [(.int p1), (.int ((p0.toUInt32 >>> ((1 : Int32) &&& 31).toUInt32).toInt32))]))
    refine GlH.statS X hx hZ hown (hw _ (List.mem_of_getElem? (i := 0) rfl)) (hw _ (List.mem_of_getElem? (i := 1) rfl)) (hw _ (List.mem_of_getElem? (i := 2) rfl)) (hw _ (List.mem_of_getElem? (i := 3) rfl)) (by decide) (W := 0) B (backH (own_draw l Z a0 hw ((p0.toUInt32 >>> ((1 : Int32) &&& 31).toUInt32).toInt32) p1 z h0 n0 (by omega) S hz O) B hEL (fun _ q => by cases q) hZ (hw _ (List.mem_of_getElem? (i := 3) rfl)) (hw _ (List.mem_of_getElem? (i := 2) rfl)) (by decide) (by decide)) eT (hb hby at_16) (by rw [hml]; rfl) [(.int ((p0.toUInt32 >>> ((1 : Int32) &&& 31).toUInt32).toInt32)), (.int p1)] [] (lenOf pd_6 rfl) rfl rfl (Nat.le_of_eq rfl) (by decide) (by decide) ?_
    intro v T L s X B hZ hown CB hq
    obtain ⟨NQ, K1, w1, rfl, hr1⟩ := hq
    have N := Fr.app N NQ
    obtain ⟨h1, eT⟩ : ∃ z, T.heap = z := ⟨_, rfl⟩
    rw [eT] at K1 B CB
    have sz1 := K1.1
    show GlH p e below Z own_EL sT h0 room_1.cells room_1.slots (fun v h L => v = some (.int 1) ∧ Fr n0 L) (T.setTop (mkF m 19 #[.val (.int p0), .val (.int p1), .val (.int (0 : Int32)), .unset, .unset, .unset, .unset, .unset, .unset, .unset] [w1]))
    refine GlH.by (fun t_ k_ => XS.astoreN X.here hx rfl (hb hby at_19) rfl hr1 (l' := #[.val (.int p0), .val (.int p1), .val (.int (0 : Int32)), .val w1, .unset, .unset, .unset, .unset, .unset, .unset]) (XS.store1 rfl (Or.inl rfl) (isref_cat hr1)) k_) ?_
    show GlH p e below Z own_EL sT h0 room_1.cells room_1.slots (fun v h L => v = some (.int 1) ∧ Fr n0 L) (T.setTop (mkF m 20 #[.val (.int p0), .val (.int p1), .val (.int (0 : Int32)), .val w1, .unset, .unset, .unset, .unset, .unset, .unset] []))
    refine GlH.by (fun t_ k_ => XS.iloadN X.here hx rfl (hb hby at_20) rfl k_) ?_
    show GlH p e below Z own_EL sT h0 room_1.cells room_1.slots (fun v h L => v = some (.int 1) ∧ Fr n0 L) (T.setTop (mkF m 21 #[.val (.int p0), .val (.int p1), .val (.int (0 : Int32)), .val w1, .unset, .unset, .unset, .unset, .unset, .unset] [(.int p0)]))
    refine GlH.by (fun t_ k_ => XS.iconst X.here hx rfl (hb hby at_21) k_) ?_
    show GlH p e below Z own_EL sT h0 room_1.cells room_1.slots (fun v h L => v = some (.int 1) ∧ Fr n0 L) (T.setTop (mkF m 22 #[.val (.int p0), .val (.int p1), .val (.int (0 : Int32)), .val w1, .unset, .unset, .unset, .unset, .unset, .unset] [(.int (3 : Int32)), (.int p0)]))
    refine GlH.by (fun t_ k_ => XS.iushr X.here hx rfl (hb hby at_22) rfl k_) ?_
    show GlH p e below Z own_EL sT h0 room_1.cells room_1.slots (fun v h L => v = some (.int 1) ∧ Fr n0 L) (T.setTop (mkF m 23 #[.val (.int p0), .val (.int p1), .val (.int (0 : Int32)), .val w1, .unset, .unset, .unset, .unset, .unset, .unset] [(.int ((p0.toUInt32 >>> ((3 : Int32) &&& 31).toUInt32).toInt32))]))
    refine GlH.by (fun t_ k_ => XS.iloadN X.here hx rfl (hb hby at_23) rfl k_) ?_
    show GlH p e below Z own_EL sT h0 room_1.cells room_1.slots (fun v h L => v = some (.int 1) ∧ Fr n0 L) (T.setTop (mkF m 24 #[.val (.int p0), .val (.int p1), .val (.int (0 : Int32)), .val w1, .unset, .unset, .unset, .unset, .unset, .unset] [(.int p1), (.int ((p0.toUInt32 >>> ((3 : Int32) &&& 31).toUInt32).toInt32))]))
    refine GlH.by (fun t_ k_ => XS.iconst X.here hx rfl (hb hby at_24) k_) ?_
    show GlH p e below Z own_EL sT h0 room_1.cells room_1.slots (fun v h L => v = some (.int 1) ∧ Fr n0 L) (T.setTop (mkF m 25 #[.val (.int p0), .val (.int p1), .val (.int (0 : Int32)), .val w1, .unset, .unset, .unset, .unset, .unset, .unset] [(.int (4 : Int32)), (.int p1), (.int ((p0.toUInt32 >>> ((3 : Int32) &&& 31).toUInt32).toInt32))]))
    refine GlH.by (fun t_ k_ => XS.iushr X.here hx rfl (hb hby at_25) rfl k_) ?_
    show GlH p e below Z own_EL sT h0 room_1.cells room_1.slots (fun v h L => v = some (.int 1) ∧ Fr n0 L) (T.setTop (mkF m 26 #[.val (.int p0), .val (.int p1), .val (.int (0 : Int32)), .val w1, .unset, .unset, .unset, .unset, .unset, .unset] [(.int ((p1.toUInt32 >>> ((4 : Int32) &&& 31).toUInt32).toInt32)), (.int ((p0.toUInt32 >>> ((3 : Int32) &&& 31).toUInt32).toInt32))]))
    refine GlH.statS X hx hZ hown (hw _ (List.mem_of_getElem? (i := 0) rfl)) (hw _ (List.mem_of_getElem? (i := 1) rfl)) (hw _ (List.mem_of_getElem? (i := 2) rfl)) (hw _ (List.mem_of_getElem? (i := 3) rfl)) (by decide) (W := 0) B (backH (own_draw l Z a0 hw ((p0.toUInt32 >>> ((3 : Int32) &&& 31).toUInt32).toInt32) ((p1.toUInt32 >>> ((4 : Int32) &&& 31).toUInt32).toInt32) z h1 n0 (by omega) S hz (O.keep K1 all0)) B hEL (fun _ q => by cases q) hZ (hw _ (List.mem_of_getElem? (i := 3) rfl)) (hw _ (List.mem_of_getElem? (i := 2) rfl)) (by decide) (by decide)) eT (hb hby at_26) (by rw [hml]; rfl) [(.int ((p0.toUInt32 >>> ((3 : Int32) &&& 31).toUInt32).toInt32)), (.int ((p1.toUInt32 >>> ((4 : Int32) &&& 31).toUInt32).toInt32))] [] (lenOf pd_6 rfl) rfl rfl (Nat.le_of_eq rfl) (by decide) (by decide) ?_
    intro v T L s X B hZ hown CB hq
    obtain ⟨NQ, K2, w2, rfl, hr2⟩ := hq
    have N := Fr.app N NQ
    obtain ⟨h2, eT⟩ : ∃ z, T.heap = z := ⟨_, rfl⟩
    rw [eT] at K2 B CB
    have sz2 := K2.1
    show GlH p e below Z own_EL sT h0 room_1.cells room_1.slots (fun v h L => v = some (.int 1) ∧ Fr n0 L) (T.setTop (mkF m 29 #[.val (.int p0), .val (.int p1), .val (.int (0 : Int32)), .val w1, .unset, .unset, .unset, .unset, .unset, .unset] [w2]))
    refine GlH.by (fun t_ k_ => XS.astore X.here hx rfl (hb hby at_29) rfl hr2 (l' := #[.val (.int p0), .val (.int p1), .val (.int (0 : Int32)), .val w1, .val w2, .unset, .unset, .unset, .unset, .unset]) (XS.store1 rfl (Or.inl rfl) (isref_cat hr2)) k_) ?_
    show GlH p e below Z own_EL sT h0 room_1.cells room_1.slots (fun v h L => v = some (.int 1) ∧ Fr n0 L) (T.setTop (mkF m 31 #[.val (.int p0), .val (.int p1), .val (.int (0 : Int32)), .val w1, .val w2, .unset, .unset, .unset, .unset, .unset] []))
    refine GlH.by (fun t_ k_ => XS.iloadN X.here hx rfl (hb hby at_31) rfl k_) ?_
    show GlH p e below Z own_EL sT h0 room_1.cells room_1.slots (fun v h L => v = some (.int 1) ∧ Fr n0 L) (T.setTop (mkF m 32 #[.val (.int p0), .val (.int p1), .val (.int (0 : Int32)), .val w1, .val w2, .unset, .unset, .unset, .unset, .unset] [(.int p0)]))
    refine GlH.by (fun t_ k_ => XS.iconst X.here hx rfl (hb hby at_32) k_) ?_
    show GlH p e below Z own_EL sT h0 room_1.cells room_1.slots (fun v h L => v = some (.int 1) ∧ Fr n0 L) (T.setTop (mkF m 33 #[.val (.int p0), .val (.int p1), .val (.int (0 : Int32)), .val w1, .val w2, .unset, .unset, .unset, .unset, .unset] [(.int (5 : Int32)), (.int p0)]))
    refine GlH.by (fun t_ k_ => XS.iushr X.here hx rfl (hb hby at_33) rfl k_) ?_
    show GlH p e below Z own_EL sT h0 room_1.cells room_1.slots (fun v h L => v = some (.int 1) ∧ Fr n0 L) (T.setTop (mkF m 34 #[.val (.int p0), .val (.int p1), .val (.int (0 : Int32)), .val w1, .val w2, .unset, .unset, .unset, .unset, .unset] [(.int ((p0.toUInt32 >>> ((5 : Int32) &&& 31).toUInt32).toInt32))]))
    refine GlH.by (fun t_ k_ => XS.iloadN X.here hx rfl (hb hby at_34) rfl k_) ?_
    show GlH p e below Z own_EL sT h0 room_1.cells room_1.slots (fun v h L => v = some (.int 1) ∧ Fr n0 L) (T.setTop (mkF m 35 #[.val (.int p0), .val (.int p1), .val (.int (0 : Int32)), .val w1, .val w2, .unset, .unset, .unset, .unset, .unset] [(.int p1), (.int ((p0.toUInt32 >>> ((5 : Int32) &&& 31).toUInt32).toInt32))]))
    refine GlH.by (fun t_ k_ => XS.bipush X.here hx rfl (hb hby at_35) k_) ?_
    show GlH p e below Z own_EL sT h0 room_1.cells room_1.slots (fun v h L => v = some (.int 1) ∧ Fr n0 L) (T.setTop (mkF m 37 #[.val (.int p0), .val (.int p1), .val (.int (0 : Int32)), .val w1, .val w2, .unset, .unset, .unset, .unset, .unset] [(.int (8 : Int32)), (.int p1), (.int ((p0.toUInt32 >>> ((5 : Int32) &&& 31).toUInt32).toInt32))]))
    refine GlH.by (fun t_ k_ => XS.iushr X.here hx rfl (hb hby at_37) rfl k_) ?_
    show GlH p e below Z own_EL sT h0 room_1.cells room_1.slots (fun v h L => v = some (.int 1) ∧ Fr n0 L) (T.setTop (mkF m 38 #[.val (.int p0), .val (.int p1), .val (.int (0 : Int32)), .val w1, .val w2, .unset, .unset, .unset, .unset, .unset] [(.int ((p1.toUInt32 >>> ((8 : Int32) &&& 31).toUInt32).toInt32)), (.int ((p0.toUInt32 >>> ((5 : Int32) &&& 31).toUInt32).toInt32))]))
    refine GlH.statS X hx hZ hown (hw _ (List.mem_of_getElem? (i := 0) rfl)) (hw _ (List.mem_of_getElem? (i := 1) rfl)) (hw _ (List.mem_of_getElem? (i := 2) rfl)) (hw _ (List.mem_of_getElem? (i := 3) rfl)) (by decide) (W := 0) B (backH (own_draw l Z a0 hw ((p0.toUInt32 >>> ((5 : Int32) &&& 31).toUInt32).toInt32) ((p1.toUInt32 >>> ((8 : Int32) &&& 31).toUInt32).toInt32) z h2 n0 (by omega) S hz ((O.keep K1 all0).keep K2 all0)) B hEL (fun _ q => by cases q) hZ (hw _ (List.mem_of_getElem? (i := 3) rfl)) (hw _ (List.mem_of_getElem? (i := 2) rfl)) (by decide) (by decide)) eT (hb hby at_38) (by rw [hml]; rfl) [(.int ((p0.toUInt32 >>> ((5 : Int32) &&& 31).toUInt32).toInt32)), (.int ((p1.toUInt32 >>> ((8 : Int32) &&& 31).toUInt32).toInt32))] [] (lenOf pd_6 rfl) rfl rfl (Nat.le_of_eq rfl) (by decide) (by decide) ?_
    intro v T L s X B hZ hown CB hq
    obtain ⟨NQ, K3, w3, rfl, hr3⟩ := hq
    have N := Fr.app N NQ
    obtain ⟨h3, eT⟩ : ∃ z, T.heap = z := ⟨_, rfl⟩
    rw [eT] at K3 B CB
    have sz3 := K3.1
    show GlH p e below Z own_EL sT h0 room_1.cells room_1.slots (fun v h L => v = some (.int 1) ∧ Fr n0 L) (T.setTop (mkF m 41 #[.val (.int p0), .val (.int p1), .val (.int (0 : Int32)), .val w1, .val w2, .unset, .unset, .unset, .unset, .unset] [w3]))
    refine GlH.by (fun t_ k_ => XS.astore X.here hx rfl (hb hby at_41) rfl hr3 (l' := #[.val (.int p0), .val (.int p1), .val (.int (0 : Int32)), .val w1, .val w2, .val w3, .unset, .unset, .unset, .unset]) (XS.store1 rfl (Or.inl rfl) (isref_cat hr3)) k_) ?_
    show GlH p e below Z own_EL sT h0 room_1.cells room_1.slots (fun v h L => v = some (.int 1) ∧ Fr n0 L) (T.setTop (mkF m 43 #[.val (.int p0), .val (.int p1), .val (.int (0 : Int32)), .val w1, .val w2, .val w3, .unset, .unset, .unset, .unset] []))
    refine GlH.by (fun t_ k_ => XS.iloadN X.here hx rfl (hb hby at_43) rfl k_) ?_
    show GlH p e below Z own_EL sT h0 room_1.cells room_1.slots (fun v h L => v = some (.int 1) ∧ Fr n0 L) (T.setTop (mkF m 44 #[.val (.int p0), .val (.int p1), .val (.int (0 : Int32)), .val w1, .val w2, .val w3, .unset, .unset, .unset, .unset] [(.int p0)]))
    refine GlH.by (fun t_ k_ => XS.bipush X.here hx rfl (hb hby at_44) k_) ?_
    show GlH p e below Z own_EL sT h0 room_1.cells room_1.slots (fun v h L => v = some (.int 1) ∧ Fr n0 L) (T.setTop (mkF m 46 #[.val (.int p0), .val (.int p1), .val (.int (0 : Int32)), .val w1, .val w2, .val w3, .unset, .unset, .unset, .unset] [(.int (7 : Int32)), (.int p0)]))
    refine GlH.by (fun t_ k_ => XS.iushr X.here hx rfl (hb hby at_46) rfl k_) ?_
    show GlH p e below Z own_EL sT h0 room_1.cells room_1.slots (fun v h L => v = some (.int 1) ∧ Fr n0 L) (T.setTop (mkF m 47 #[.val (.int p0), .val (.int p1), .val (.int (0 : Int32)), .val w1, .val w2, .val w3, .unset, .unset, .unset, .unset] [(.int ((p0.toUInt32 >>> ((7 : Int32) &&& 31).toUInt32).toInt32))]))
    refine GlH.by (fun t_ k_ => XS.iloadN X.here hx rfl (hb hby at_47) rfl k_) ?_
    show GlH p e below Z own_EL sT h0 room_1.cells room_1.slots (fun v h L => v = some (.int 1) ∧ Fr n0 L) (T.setTop (mkF m 48 #[.val (.int p0), .val (.int p1), .val (.int (0 : Int32)), .val w1, .val w2, .val w3, .unset, .unset, .unset, .unset] [(.int p1), (.int ((p0.toUInt32 >>> ((7 : Int32) &&& 31).toUInt32).toInt32))]))
    refine GlH.by (fun t_ k_ => XS.bipush X.here hx rfl (hb hby at_48) k_) ?_
    show GlH p e below Z own_EL sT h0 room_1.cells room_1.slots (fun v h L => v = some (.int 1) ∧ Fr n0 L) (T.setTop (mkF m 50 #[.val (.int p0), .val (.int p1), .val (.int (0 : Int32)), .val w1, .val w2, .val w3, .unset, .unset, .unset, .unset] [(.int (12 : Int32)), (.int p1), (.int ((p0.toUInt32 >>> ((7 : Int32) &&& 31).toUInt32).toInt32))]))
    refine GlH.by (fun t_ k_ => XS.iushr X.here hx rfl (hb hby at_50) rfl k_) ?_
    show GlH p e below Z own_EL sT h0 room_1.cells room_1.slots (fun v h L => v = some (.int 1) ∧ Fr n0 L) (T.setTop (mkF m 51 #[.val (.int p0), .val (.int p1), .val (.int (0 : Int32)), .val w1, .val w2, .val w3, .unset, .unset, .unset, .unset] [(.int ((p1.toUInt32 >>> ((12 : Int32) &&& 31).toUInt32).toInt32)), (.int ((p0.toUInt32 >>> ((7 : Int32) &&& 31).toUInt32).toInt32))]))
    refine GlH.statS X hx hZ hown (hw _ (List.mem_of_getElem? (i := 0) rfl)) (hw _ (List.mem_of_getElem? (i := 1) rfl)) (hw _ (List.mem_of_getElem? (i := 2) rfl)) (hw _ (List.mem_of_getElem? (i := 3) rfl)) (by decide) (W := 0) B (backH (own_draw l Z a0 hw ((p0.toUInt32 >>> ((7 : Int32) &&& 31).toUInt32).toInt32) ((p1.toUInt32 >>> ((12 : Int32) &&& 31).toUInt32).toInt32) z h3 n0 (by omega) S hz (((O.keep K1 all0).keep K2 all0).keep K3 all0)) B hEL (fun _ q => by cases q) hZ (hw _ (List.mem_of_getElem? (i := 3) rfl)) (hw _ (List.mem_of_getElem? (i := 2) rfl)) (by decide) (by decide)) eT (hb hby at_51) (by rw [hml]; rfl) [(.int ((p0.toUInt32 >>> ((7 : Int32) &&& 31).toUInt32).toInt32)), (.int ((p1.toUInt32 >>> ((12 : Int32) &&& 31).toUInt32).toInt32))] [] (lenOf pd_6 rfl) rfl rfl (Nat.le_of_eq rfl) (by decide) (by decide) ?_
    intro v T L s X B hZ hown CB hq
    obtain ⟨NQ, K4, w4, rfl, hr4⟩ := hq
    have N := Fr.app N NQ
    obtain ⟨h4, eT⟩ : ∃ z, T.heap = z := ⟨_, rfl⟩
    rw [eT] at K4 B CB
    have sz4 := K4.1
    show GlH p e below Z own_EL sT h0 room_1.cells room_1.slots (fun v h L => v = some (.int 1) ∧ Fr n0 L) (T.setTop (mkF m 54 #[.val (.int p0), .val (.int p1), .val (.int (0 : Int32)), .val w1, .val w2, .val w3, .unset, .unset, .unset, .unset] [w4]))
    refine GlH.by (fun t_ k_ => XS.astore X.here hx rfl (hb hby at_54) rfl hr4 (l' := #[.val (.int p0), .val (.int p1), .val (.int (0 : Int32)), .val w1, .val w2, .val w3, .val w4, .unset, .unset, .unset]) (XS.store1 rfl (Or.inl rfl) (isref_cat hr4)) k_) ?_
    show GlH p e below Z own_EL sT h0 room_1.cells room_1.slots (fun v h L => v = some (.int 1) ∧ Fr n0 L) (T.setTop (mkF m 56 #[.val (.int p0), .val (.int p1), .val (.int (0 : Int32)), .val w1, .val w2, .val w3, .val w4, .unset, .unset, .unset] []))
    obtain ⟨T, h5, X, eT, E5, A5, D5, -, st⟩ := newO X hx hZ hown (hw _ (List.mem_of_getElem? (i := 4) rfl)) (hw _ (List.mem_of_getElem? (i := 5) rfl)) (hw _ (List.mem_of_getElem? (i := 6) rfl)) eT (g := (mkF m 56 #[.val (.int p0), .val (.int p1), .val (.int (0 : Int32)), .val w1, .val w2, .val w3, .val w4, .unset, .unset, .unset] [])) rfl (hb hby at_56) (by decide) (by decide)
    obtain ⟨fs, g5⟩ : ∃ z, z = h4.size := ⟨_, rfl⟩
    rw [← g5] at A5 D5 st
    have sz5 := E5.1
    have lt5 : fs < h5.size := A5.lt
    refine GlH.by st ?_
    have B := B.ext E5
    have F5_takenUp : Fld Z h5 fs "com/example/gather/gather/model/FeedState" "takenUp" "Z" (.int (0 : Int32)) := D5 (Or.inr (hw _ (List.mem_of_getElem? (i := 14) rfl))) (ty := .boolean) (by decide)
    have F5_lastSuccess : Fld Z h5 fs "com/example/gather/gather/model/FeedState" "lastSuccess" "Ljava/lang/String;" .null := D5 (Or.inr (hw _ (List.mem_of_getElem? (i := 16) rfl))) (ty := (.object "java/lang/String")) (by decide)
    have F5_lastSuccessBegan : Fld Z h5 fs "com/example/gather/gather/model/FeedState" "lastSuccessBegan" "Ljava/lang/String;" .null := D5 (Or.inr (hw _ (List.mem_of_getElem? (i := 18) rfl))) (ty := (.object "java/lang/String")) (by decide)
    have F5_haltedAt : Fld Z h5 fs "com/example/gather/gather/model/FeedState" "haltedAt" "Ljava/lang/String;" .null := D5 (Or.inr (hw _ (List.mem_of_getElem? (i := 20) rfl))) (ty := (.object "java/lang/String")) (by decide)
    have F5_haltCode : Fld Z h5 fs "com/example/gather/gather/model/FeedState" "haltCode" "Ljava/lang/String;" .null := D5 (Or.inr (hw _ (List.mem_of_getElem? (i := 22) rfl))) (ty := (.object "java/lang/String")) (by decide)
    show GlH p e below Z own_EL sT h0 room_1.cells room_1.slots (fun v h L => v = some (.int 1) ∧ Fr n0 L) (T.setTop (mkF m 59 #[.val (.int p0), .val (.int p1), .val (.int (0 : Int32)), .val w1, .val w2, .val w3, .val w4, .unset, .unset, .unset] [(.ref fs)]))
    refine GlH.by (fun t_ k_ => XS.dup X.here hx rfl (hb hby at_59) rfl rfl k_) ?_
    show GlH p e below Z own_EL sT h0 room_1.cells room_1.slots (fun v h L => v = some (.int 1) ∧ Fr n0 L) (T.setTop (mkF m 60 #[.val (.int p0), .val (.int p1), .val (.int (0 : Int32)), .val w1, .val w2, .val w3, .val w4, .unset, .unset, .unset] [(.ref fs), (.ref fs)]))
    refine GlH.by (fun t_ k_ => XS.iloadN X.here hx rfl (hb hby at_60) rfl k_) ?_
    show GlH p e below Z own_EL sT h0 room_1.cells room_1.slots (fun v h L => v = some (.int 1) ∧ Fr n0 L) (T.setTop (mkF m 61 #[.val (.int p0), .val (.int p1), .val (.int (0 : Int32)), .val w1, .val w2, .val w3, .val w4, .unset, .unset, .unset] [(.int (0 : Int32)), (.ref fs), (.ref fs)]))
    refine GlH.by (fun t_ k_ => XS.aloadN X.here hx rfl (hb hby at_61) rfl hr1 k_) ?_
    show GlH p e below Z own_EL sT h0 room_1.cells room_1.slots (fun v h L => v = some (.int 1) ∧ Fr n0 L) (T.setTop (mkF m 62 #[.val (.int p0), .val (.int p1), .val (.int (0 : Int32)), .val w1, .val w2, .val w3, .val w4, .unset, .unset, .unset] [w1, (.int (0 : Int32)), (.ref fs), (.ref fs)]))
    refine GlH.by (fun t_ k_ => XS.aload X.here hx rfl (hb hby at_62) rfl hr2 k_) ?_
    show GlH p e below Z own_EL sT h0 room_1.cells room_1.slots (fun v h L => v = some (.int 1) ∧ Fr n0 L) (T.setTop (mkF m 64 #[.val (.int p0), .val (.int p1), .val (.int (0 : Int32)), .val w1, .val w2, .val w3, .val w4, .unset, .unset, .unset] [w2, w1, (.int (0 : Int32)), (.ref fs), (.ref fs)]))
    refine GlH.by (fun t_ k_ => XS.aload X.here hx rfl (hb hby at_64) rfl hr3 k_) ?_
    show GlH p e below Z own_EL sT h0 room_1.cells room_1.slots (fun v h L => v = some (.int 1) ∧ Fr n0 L) (T.setTop (mkF m 66 #[.val (.int p0), .val (.int p1), .val (.int (0 : Int32)), .val w1, .val w2, .val w3, .val w4, .unset, .unset, .unset] [w3, w2, w1, (.int (0 : Int32)), (.ref fs), (.ref fs)]))
    refine GlH.by (fun t_ k_ => XS.aload X.here hx rfl (hb hby at_66) rfl hr4 k_) ?_
    show GlH p e below Z own_EL sT h0 room_1.cells room_1.slots (fun v h L => v = some (.int 1) ∧ Fr n0 L) (T.setTop (mkF m 68 #[.val (.int p0), .val (.int p1), .val (.int (0 : Int32)), .val w1, .val w2, .val w3, .val w4, .unset, .unset, .unset] [w4, w3, w2, w1, (.int (0 : Int32)), (.ref fs), (.ref fs)]))
    refine GlH.spec X hx hZ rfl hown (hw _ (List.mem_of_getElem? (i := 7) rfl)) (hw _ (List.mem_of_getElem? (i := 8) rfl)) (hw _ (List.mem_of_getElem? (i := 9) rfl)) (by decide) (W := 1) (backC (own_fsi0 l Z a0 hw fs w1 w2 w3 w4 h5 n0 (by omega) A5 F5_takenUp F5_lastSuccess F5_lastSuccessBegan F5_haltedAt F5_haltCode hr1 hr2 hr3 hr4) hZ (hw _ (List.mem_of_getElem? (i := 9) rfl)) (hw _ (List.mem_of_getElem? (i := 6) rfl)) (by decide) (by decide)) eT (hb hby at_68) (by rw [hml]; rfl) fs [(.int (0 : Int32)), w1, w2, w3, w4] [(.ref fs)] (lenOf pd_7 rfl) rfl rfl (Nat.le_of_eq rfl) (by decide) (by decide) ?_
    intro v T L X hq
    obtain ⟨rfl, NQ, K6, E6, FT6, -, -, FH6, -⟩ := hq
    have N := Fr.app N NQ
    obtain ⟨h6, eT⟩ : ∃ z, T.heap = z := ⟨_, rfl⟩
    rw [eT] at K6 E6 FT6 FH6
    have sz6 := K6.1
    have B := B.keep K6 (fun x hx => by rw [List.mem_singleton.mp hx]; exact (Safe.exa hZ.alike A5 (by decide) (by decide)))
    show GlH p e below Z own_EL sT h0 room_1.cells room_1.slots (fun v h L => v = some (.int 1) ∧ Fr n0 L) (T.setTop (mkF m 71 #[.val (.int p0), .val (.int p1), .val (.int (0 : Int32)), .val w1, .val w2, .val w3, .val w4, .unset, .unset, .unset] [(.ref fs)]))
    refine GlH.by (fun t_ k_ => XS.astore X.here hx rfl (hb hby at_71) rfl rfl (l' := #[.val (.int p0), .val (.int p1), .val (.int (0 : Int32)), .val w1, .val w2, .val w3, .val w4, .val (.ref fs), .unset, .unset]) rfl k_) ?_
    show GlH p e below Z own_EL sT h0 room_1.cells room_1.slots (fun v h L => v = some (.int 1) ∧ Fr n0 L) (T.setTop (mkF m 73 #[.val (.int p0), .val (.int p1), .val (.int (0 : Int32)), .val w1, .val w2, .val w3, .val w4, .val (.ref fs), .unset, .unset] []))
    refine GlH.by (fun t_ k_ => XS.aload X.here hx rfl (hb hby at_73) rfl rfl k_) ?_
    show GlH p e below Z own_EL sT h0 room_1.cells room_1.slots (fun v h L => v = some (.int 1) ∧ Fr n0 L) (T.setTop (mkF m 75 #[.val (.int p0), .val (.int p1), .val (.int (0 : Int32)), .val w1, .val w2, .val w3, .val w4, .val (.ref fs), .unset, .unset] [(.ref fs)]))
    rcases ref_cases hr3 with rfl | ⟨t3, rfl⟩
    · show GlH p e below Z own_EL sT h0 room_1.cells room_1.slots (fun v h L => v = some (.int 1) ∧ Fr n0 L) (T.setTop (mkF m 75 #[.val (.int p0), .val (.int p1), .val (.int (0 : Int32)), .val w1, .val w2, .val .null, .val w4, .val (.ref fs), .unset, .unset] [(.ref fs)]))
      refine GlH.virt X hx hZ hown (hw _ (List.mem_of_getElem? (i := 23) rfl)) (hw _ (List.mem_of_getElem? (i := 24) rfl)) (hw _ (List.mem_of_getElem? (i := 26) rfl)) (hw _ (List.mem_of_getElem? (i := 25) rfl)) (notFace_of_selects (args := #[]) (mvT hZ (hw _ (List.mem_of_getElem? (i := 26) rfl)))) (by decide) (A5.keep K6) (W := 0) (backC (own_gcN l Z a0 hw fs eh eo en h6 n0 ((((((O.keep K1 all0).keep K2 all0).keep K3 all0).keep K4 all0).ext E5).keep K6 (allS (by omega) all0)) S_HALTED S_OK S_NEW FH6 FT6) hZ (hw _ (List.mem_of_getElem? (i := 27) rfl)) (hw _ (List.mem_of_getElem? (i := 6) rfl)) (by decide) (by decide)) eT (hb hby at_75) (by rw [hml]; rfl) [] [] (lenOf pd_8 rfl) rfl rfl (Nat.le_of_eq rfl) (by decide) (by decide) ?_
      intro v T L X hq
      obtain ⟨rfl, rfl, eT⟩ := hq
      have N := Fr.app N (Fr.nil n0)
      show GlH p e below Z own_EL sT h0 room_1.cells room_1.slots (fun v h L => v = some (.int 1) ∧ Fr n0 L) (T.setTop (mkF m 78 #[.val (.int p0), .val (.int p1), .val (.int (0 : Int32)), .val w1, .val w2, .val .null, .val w4, .val (.ref fs), .unset, .unset] [(.ref en)]))
      refine GlH.by (fun t_ k_ => XS.astore X.here hx rfl (hb hby at_78) rfl rfl (l' := #[.val (.int p0), .val (.int p1), .val (.int (0 : Int32)), .val w1, .val w2, .val .null, .val w4, .val (.ref fs), .val (.ref en), .unset]) rfl k_) ?_
      show GlH p e below Z own_EL sT h0 room_1.cells room_1.slots (fun v h L => v = some (.int 1) ∧ Fr n0 L) (T.setTop (mkF m 80 #[.val (.int p0), .val (.int p1), .val (.int (0 : Int32)), .val w1, .val w2, .val .null, .val w4, .val (.ref fs), .val (.ref en), .unset] []))
      refine GlH.by (fun t_ k_ => XS.aload X.here hx rfl (hb hby at_80) rfl rfl k_) ?_
      show GlH p e below Z own_EL sT h0 room_1.cells room_1.slots (fun v h L => v = some (.int 1) ∧ Fr n0 L) (T.setTop (mkF m 82 #[.val (.int p0), .val (.int p1), .val (.int (0 : Int32)), .val w1, .val w2, .val .null, .val w4, .val (.ref fs), .val (.ref en), .unset] [.null]))
      refine GlH.by (fun t_ k_ => XS.ifnullYes X.here hx rfl (pc0 := 82) (pc' := 93) rfl (hb hby at_82) rfl (by decide) (by decide) k_) ?_
      show GlH p e below Z own_EL sT h0 room_1.cells room_1.slots (fun v h L => v = some (.int 1) ∧ Fr n0 L) (T.setTop (mkF m 93 #[.val (.int p0), .val (.int p1), .val (.int (0 : Int32)), .val w1, .val w2, .val .null, .val w4, .val (.ref fs), .val (.ref en), .unset] []))
      refine GlH.by (fun t_ k_ => XS.iloadN X.here hx rfl (hb hby at_93) rfl k_) ?_
      show GlH p e below Z own_EL sT h0 room_1.cells room_1.slots (fun v h L => v = some (.int 1) ∧ Fr n0 L) (T.setTop (mkF m 94 #[.val (.int p0), .val (.int p1), .val (.int (0 : Int32)), .val w1, .val w2, .val .null, .val w4, .val (.ref fs), .val (.ref en), .unset] [(.int (0 : Int32))]))
      refine GlH.by (fun t_ k_ => XS.ifYes X.here hx rfl (pc0 := 94) (pc' := 105) rfl (hb hby at_94) rfl ((if0 _ _).trans (teq (rfl : (0 : Int32) = 0)).1) (by decide) (by decide) k_) ?_
      show GlH p e below Z own_EL sT h0 room_1.cells room_1.slots (fun v h L => v = some (.int 1) ∧ Fr n0 L) (T.setTop (mkF m 105 #[.val (.int p0), .val (.int p1), .val (.int (0 : Int32)), .val w1, .val w2, .val .null, .val w4, .val (.ref fs), .val (.ref en), .unset] []))
      obtain ⟨T, X, eT, st⟩ := getS2 X hx hZ hown (host := "") (Or.inl (hw _ (List.mem_of_getElem? (i := 31) rfl))) Via.refl eT (S_NEW.ext ((((((O.keep K1 all0).keep K2 all0).keep K3 all0).keep K4 all0).ext E5).keep K6 (allS (by omega) all0)).2) (g := (mkF m 105 #[.val (.int p0), .val (.int p1), .val (.int (0 : Int32)), .val w1, .val w2, .val .null, .val w4, .val (.ref fs), .val (.ref en), .unset] [])) rfl (hb hby at_105)
      refine GlH.by st ?_
      show GlH p e below Z own_EL sT h0 room_1.cells room_1.slots (fun v h L => v = some (.int 1) ∧ Fr n0 L) (T.setTop (mkF m 108 #[.val (.int p0), .val (.int p1), .val (.int (0 : Int32)), .val w1, .val w2, .val .null, .val w4, .val (.ref fs), .val (.ref en), .unset] [(.ref en)]))
      refine GlH.by (fun t_ k_ => XS.astore X.here hx rfl (hb hby at_108) rfl rfl (l' := #[.val (.int p0), .val (.int p1), .val (.int (0 : Int32)), .val w1, .val w2, .val .null, .val w4, .val (.ref fs), .val (.ref en), .val (.ref en)]) rfl k_) ?_
      show GlH p e below Z own_EL sT h0 room_1.cells room_1.slots (fun v h L => v = some (.int 1) ∧ Fr n0 L) (T.setTop (mkF m 110 #[.val (.int p0), .val (.int p1), .val (.int (0 : Int32)), .val w1, .val w2, .val .null, .val w4, .val (.ref fs), .val (.ref en), .val (.ref en)] []))
      refine GlH.by (fun t_ k_ => XS.aload X.here hx rfl (hb hby at_110) rfl rfl k_) ?_
      show GlH p e below Z own_EL sT h0 room_1.cells room_1.slots (fun v h L => v = some (.int 1) ∧ Fr n0 L) (T.setTop (mkF m 112 #[.val (.int p0), .val (.int p1), .val (.int (0 : Int32)), .val w1, .val w2, .val .null, .val w4, .val (.ref fs), .val (.ref en), .val (.ref en)] [(.ref en)]))
      refine GlH.by (fun t_ k_ => XS.aload X.here hx rfl (hb hby at_112) rfl rfl k_) ?_
      show GlH p e below Z own_EL sT h0 room_1.cells room_1.slots (fun v h L => v = some (.int 1) ∧ Fr n0 L) (T.setTop (mkF m 114 #[.val (.int p0), .val (.int p1), .val (.int (0 : Int32)), .val w1, .val w2, .val .null, .val w4, .val (.ref fs), .val (.ref en), .val (.ref en)] [(.ref en), (.ref en)]))
      refine GlH.by (fun t_ k_ => Jvm.RoadKit.acmp (g := (mkF m 114 #[.val (.int p0), .val (.int p1), .val (.int (0 : Int32)), .val w1, .val w2, .val .null, .val w4, .val (.ref fs), .val (.ref en), .val (.ref en)] [(.ref en), (.ref en)])) X hx rfl rfl rfl (pc0 := 114) (pc' := 117) (same := true) rfl (hb hby at_114) rfl (decide_eq_true rfl) (by decide) (by decide) k_) ?_
      show GlH p e below Z own_EL sT h0 room_1.cells room_1.slots (fun v h L => v = some (.int 1) ∧ Fr n0 L) (T.setTop (mkF m 117 #[.val (.int p0), .val (.int p1), .val (.int (0 : Int32)), .val w1, .val w2, .val .null, .val w4, .val (.ref fs), .val (.ref en), .val (.ref en)] []))
      refine GlH.by (fun t_ k_ => XS.iconst X.here hx rfl (hb hby at_117) k_) ?_
      show GlH p e below Z own_EL sT h0 room_1.cells room_1.slots (fun v h L => v = some (.int 1) ∧ Fr n0 L) (T.setTop (mkF m 118 #[.val (.int p0), .val (.int p1), .val (.int (0 : Int32)), .val w1, .val w2, .val .null, .val w4, .val (.ref fs), .val (.ref en), .val (.ref en)] [(.int (1 : Int32))]))
      refine GlH.by (fun t_ k_ => XS.goto X.here hx rfl (pc0 := 118) (pc' := 122) rfl (hb hby at_118) (by decide) (by decide) k_) ?_
      show GlH p e below Z own_EL sT h0 room_1.cells room_1.slots (fun v h L => v = some (.int 1) ∧ Fr n0 L) (T.setTop (mkF m 122 #[.val (.int p0), .val (.int p1), .val (.int (0 : Int32)), .val w1, .val w2, .val .null, .val w4, .val (.ref fs), .val (.ref en), .val (.ref en)] [(.int (1 : Int32))]))
      exact GlH.retZ X B eT hZ hEL hx hlk hret (by simp) (hb hby at_122) (by decide) (by decide) ⟨rfl, N⟩
    · show GlH p e below Z own_EL sT h0 room_1.cells room_1.slots (fun v h L => v = some (.int 1) ∧ Fr n0 L) (T.setTop (mkF m 75 #[.val (.int p0), .val (.int p1), .val (.int (0 : Int32)), .val w1, .val w2, .val (.ref t3), .val w4, .val (.ref fs), .unset, .unset] [(.ref fs)]))
      refine GlH.virt X hx hZ hown (hw _ (List.mem_of_getElem? (i := 23) rfl)) (hw _ (List.mem_of_getElem? (i := 24) rfl)) (hw _ (List.mem_of_getElem? (i := 26) rfl)) (hw _ (List.mem_of_getElem? (i := 25) rfl)) (notFace_of_selects (args := #[]) (mvT hZ (hw _ (List.mem_of_getElem? (i := 26) rfl)))) (by decide) (A5.keep K6) (W := 0) (backC (own_gcH l Z a0 hw fs eh eo en t3 h6 n0 ((((((O.keep K1 all0).keep K2 all0).keep K3 all0).keep K4 all0).ext E5).keep K6 (allS (by omega) all0)) S_HALTED S_OK S_NEW FH6) hZ (hw _ (List.mem_of_getElem? (i := 27) rfl)) (hw _ (List.mem_of_getElem? (i := 6) rfl)) (by decide) (by decide)) eT (hb hby at_75) (by rw [hml]; rfl) [] [] (lenOf pd_8 rfl) rfl rfl (Nat.le_of_eq rfl) (by decide) (by decide) ?_
      intro v T L X hq
      obtain ⟨rfl, rfl, eT⟩ := hq
      have N := Fr.app N (Fr.nil n0)
      show GlH p e below Z own_EL sT h0 room_1.cells room_1.slots (fun v h L => v = some (.int 1) ∧ Fr n0 L) (T.setTop (mkF m 78 #[.val (.int p0), .val (.int p1), .val (.int (0 : Int32)), .val w1, .val w2, .val (.ref t3), .val w4, .val (.ref fs), .unset, .unset] [(.ref eh)]))
      refine GlH.by (fun t_ k_ => XS.astore X.here hx rfl (hb hby at_78) rfl rfl (l' := #[.val (.int p0), .val (.int p1), .val (.int (0 : Int32)), .val w1, .val w2, .val (.ref t3), .val w4, .val (.ref fs), .val (.ref eh), .unset]) rfl k_) ?_
      show GlH p e below Z own_EL sT h0 room_1.cells room_1.slots (fun v h L => v = some (.int 1) ∧ Fr n0 L) (T.setTop (mkF m 80 #[.val (.int p0), .val (.int p1), .val (.int (0 : Int32)), .val w1, .val w2, .val (.ref t3), .val w4, .val (.ref fs), .val (.ref eh), .unset] []))
      refine GlH.by (fun t_ k_ => XS.aload X.here hx rfl (hb hby at_80) rfl rfl k_) ?_
      show GlH p e below Z own_EL sT h0 room_1.cells room_1.slots (fun v h L => v = some (.int 1) ∧ Fr n0 L) (T.setTop (mkF m 82 #[.val (.int p0), .val (.int p1), .val (.int (0 : Int32)), .val w1, .val w2, .val (.ref t3), .val w4, .val (.ref fs), .val (.ref eh), .unset] [(.ref t3)]))
      refine GlH.by (fun t_ k_ => XS.ifnullNo X.here hx rfl (hb hby at_82) rfl k_) ?_
      show GlH p e below Z own_EL sT h0 room_1.cells room_1.slots (fun v h L => v = some (.int 1) ∧ Fr n0 L) (T.setTop (mkF m 85 #[.val (.int p0), .val (.int p1), .val (.int (0 : Int32)), .val w1, .val w2, .val (.ref t3), .val w4, .val (.ref fs), .val (.ref eh), .unset] []))
      obtain ⟨T, X, eT, st⟩ := getS2 X hx hZ hown (host := "") (Or.inl (hw _ (List.mem_of_getElem? (i := 79) rfl))) Via.refl eT (S_HALTED.ext ((((((O.keep K1 all0).keep K2 all0).keep K3 all0).keep K4 all0).ext E5).keep K6 (allS (by omega) all0)).2) (g := (mkF m 85 #[.val (.int p0), .val (.int p1), .val (.int (0 : Int32)), .val w1, .val w2, .val (.ref t3), .val w4, .val (.ref fs), .val (.ref eh), .unset] [])) rfl (hb hby at_85)
      refine GlH.by st ?_
      show GlH p e below Z own_EL sT h0 room_1.cells room_1.slots (fun v h L => v = some (.int 1) ∧ Fr n0 L) (T.setTop (mkF m 88 #[.val (.int p0), .val (.int p1), .val (.int (0 : Int32)), .val w1, .val w2, .val (.ref t3), .val w4, .val (.ref fs), .val (.ref eh), .unset] [(.ref eh)]))
      refine GlH.by (fun t_ k_ => XS.astore X.here hx rfl (hb hby at_88) rfl rfl (l' := #[.val (.int p0), .val (.int p1), .val (.int (0 : Int32)), .val w1, .val w2, .val (.ref t3), .val w4, .val (.ref fs), .val (.ref eh), .val (.ref eh)]) rfl k_) ?_
      show GlH p e below Z own_EL sT h0 room_1.cells room_1.slots (fun v h L => v = some (.int 1) ∧ Fr n0 L) (T.setTop (mkF m 90 #[.val (.int p0), .val (.int p1), .val (.int (0 : Int32)), .val w1, .val w2, .val (.ref t3), .val w4, .val (.ref fs), .val (.ref eh), .val (.ref eh)] []))
      refine GlH.by (fun t_ k_ => XS.goto X.here hx rfl (pc0 := 90) (pc' := 110) rfl (hb hby at_90) (by decide) (by decide) k_) ?_
      show GlH p e below Z own_EL sT h0 room_1.cells room_1.slots (fun v h L => v = some (.int 1) ∧ Fr n0 L) (T.setTop (mkF m 110 #[.val (.int p0), .val (.int p1), .val (.int (0 : Int32)), .val w1, .val w2, .val (.ref t3), .val w4, .val (.ref fs), .val (.ref eh), .val (.ref eh)] []))
      refine GlH.by (fun t_ k_ => XS.aload X.here hx rfl (hb hby at_110) rfl rfl k_) ?_
      show GlH p e below Z own_EL sT h0 room_1.cells room_1.slots (fun v h L => v = some (.int 1) ∧ Fr n0 L) (T.setTop (mkF m 112 #[.val (.int p0), .val (.int p1), .val (.int (0 : Int32)), .val w1, .val w2, .val (.ref t3), .val w4, .val (.ref fs), .val (.ref eh), .val (.ref eh)] [(.ref eh)]))
      refine GlH.by (fun t_ k_ => XS.aload X.here hx rfl (hb hby at_112) rfl rfl k_) ?_
      show GlH p e below Z own_EL sT h0 room_1.cells room_1.slots (fun v h L => v = some (.int 1) ∧ Fr n0 L) (T.setTop (mkF m 114 #[.val (.int p0), .val (.int p1), .val (.int (0 : Int32)), .val w1, .val w2, .val (.ref t3), .val w4, .val (.ref fs), .val (.ref eh), .val (.ref eh)] [(.ref eh), (.ref eh)]))
      refine GlH.by (fun t_ k_ => Jvm.RoadKit.acmp (g := (mkF m 114 #[.val (.int p0), .val (.int p1), .val (.int (0 : Int32)), .val w1, .val w2, .val (.ref t3), .val w4, .val (.ref fs), .val (.ref eh), .val (.ref eh)] [(.ref eh), (.ref eh)])) X hx rfl rfl rfl (pc0 := 114) (pc' := 117) (same := true) rfl (hb hby at_114) rfl (decide_eq_true rfl) (by decide) (by decide) k_) ?_
      show GlH p e below Z own_EL sT h0 room_1.cells room_1.slots (fun v h L => v = some (.int 1) ∧ Fr n0 L) (T.setTop (mkF m 117 #[.val (.int p0), .val (.int p1), .val (.int (0 : Int32)), .val w1, .val w2, .val (.ref t3), .val w4, .val (.ref fs), .val (.ref eh), .val (.ref eh)] []))
      refine GlH.by (fun t_ k_ => XS.iconst X.here hx rfl (hb hby at_117) k_) ?_
      show GlH p e below Z own_EL sT h0 room_1.cells room_1.slots (fun v h L => v = some (.int 1) ∧ Fr n0 L) (T.setTop (mkF m 118 #[.val (.int p0), .val (.int p1), .val (.int (0 : Int32)), .val w1, .val w2, .val (.ref t3), .val w4, .val (.ref fs), .val (.ref eh), .val (.ref eh)] [(.int (1 : Int32))]))
      refine GlH.by (fun t_ k_ => XS.goto X.here hx rfl (pc0 := 118) (pc' := 122) rfl (hb hby at_118) (by decide) (by decide) k_) ?_
      show GlH p e below Z own_EL sT h0 room_1.cells room_1.slots (fun v h L => v = some (.int 1) ∧ Fr n0 L) (T.setTop (mkF m 122 #[.val (.int p0), .val (.int p1), .val (.int (0 : Int32)), .val w1, .val w2, .val (.ref t3), .val w4, .val (.ref fs), .val (.ref eh), .val (.ref eh)] [(.int (1 : Int32))]))
      exact GlH.retZ X B eT hZ hEL hx hlk hret (by simp) (hb hby at_122) (by decide) (by decide) ⟨rfl, N⟩
  have j1 : GlH p e below Z own_EL sT h0 room_1.cells room_1.slots (fun v h L => v = some (.int 1) ∧ Fr n0 L) (T.setTop (mkF m 12 #[.val (.int p0), .val (.int p1), .val (.int (1 : Int32)), .unset, .unset, .unset, .unset, .unset, .unset, .unset] [])) := by
    show GlH p e below Z own_EL sT h0 room_1.cells room_1.slots (fun v h L => v = some (.int 1) ∧ Fr n0 L) (T.setTop (mkF m 12 #[.val (.int p0), .val (.int p1), .val (.int (1 : Int32)), .unset, .unset, .unset, .unset, .unset, .unset, .unset] []))
    refine GlH.by (fun t_ k_ => XS.iloadN X.here hx rfl (hb hby at_12) rfl k_) ?_
    show GlH p e below Z own_EL sT h0 room_1.cells room_1.slots (fun v h L => v = some (.int 1) ∧ Fr n0 L) (T.setTop (mkF m 13 #[.val (.int p0), .val (.int p1), .val (.int (1 : Int32)), .unset, .unset, .unset, .unset, .unset, .unset, .unset] [(.int p0)]))
    refine GlH.by (fun t_ k_ => XS.iconst X.here hx rfl (hb hby at_13) k_) ?_
    show GlH p e below Z own_EL sT h0 room_1.cells room_1.slots (fun v h L => v = some (.int 1) ∧ Fr n0 L) (T.setTop (mkF m 14 #[.val (.int p0), .val (.int p1), .val (.int (1 : Int32)), .unset, .unset, .unset, .unset, .unset, .unset, .unset] [(.int (1 : Int32)), (.int p0)]))
    refine GlH.by (fun t_ k_ => XS.iushr X.here hx rfl (hb hby at_14) rfl k_) ?_
    show GlH p e below Z own_EL sT h0 room_1.cells room_1.slots (fun v h L => v = some (.int 1) ∧ Fr n0 L) (T.setTop (mkF m 15 #[.val (.int p0), .val (.int p1), .val (.int (1 : Int32)), .unset, .unset, .unset, .unset, .unset, .unset, .unset] [(.int ((p0.toUInt32 >>> ((1 : Int32) &&& 31).toUInt32).toInt32))]))
    refine GlH.by (fun t_ k_ => XS.iloadN X.here hx rfl (hb hby at_15) rfl k_) ?_
    show GlH p e below Z own_EL sT h0 room_1.cells room_1.slots (fun v h L => v = some (.int 1) ∧ Fr n0 L) (T.setTop (mkF m 16 #[.val (.int p0), .val (.int p1), .val (.int (1 : Int32)), .unset, .unset, .unset, .unset, .unset, .unset, .unset] [(.int p1), (.int ((p0.toUInt32 >>> ((1 : Int32) &&& 31).toUInt32).toInt32))]))
    refine GlH.statS X hx hZ hown (hw _ (List.mem_of_getElem? (i := 0) rfl)) (hw _ (List.mem_of_getElem? (i := 1) rfl)) (hw _ (List.mem_of_getElem? (i := 2) rfl)) (hw _ (List.mem_of_getElem? (i := 3) rfl)) (by decide) (W := 0) B (backH (own_draw l Z a0 hw ((p0.toUInt32 >>> ((1 : Int32) &&& 31).toUInt32).toInt32) p1 z h0 n0 (by omega) S hz O) B hEL (fun _ q => by cases q) hZ (hw _ (List.mem_of_getElem? (i := 3) rfl)) (hw _ (List.mem_of_getElem? (i := 2) rfl)) (by decide) (by decide)) eT (hb hby at_16) (by rw [hml]; rfl) [(.int ((p0.toUInt32 >>> ((1 : Int32) &&& 31).toUInt32).toInt32)), (.int p1)] [] (lenOf pd_6 rfl) rfl rfl (Nat.le_of_eq rfl) (by decide) (by decide) ?_
    intro v T L s X B hZ hown CB hq
    obtain ⟨NQ, K7, w1, rfl, hr1⟩ := hq
    have N := Fr.app N NQ
    obtain ⟨h7, eT⟩ : ∃ z, T.heap = z := ⟨_, rfl⟩
    rw [eT] at K7 B CB
    have sz7 := K7.1
    show GlH p e below Z own_EL sT h0 room_1.cells room_1.slots (fun v h L => v = some (.int 1) ∧ Fr n0 L) (T.setTop (mkF m 19 #[.val (.int p0), .val (.int p1), .val (.int (1 : Int32)), .unset, .unset, .unset, .unset, .unset, .unset, .unset] [w1]))
    refine GlH.by (fun t_ k_ => XS.astoreN X.here hx rfl (hb hby at_19) rfl hr1 (l' := #[.val (.int p0), .val (.int p1), .val (.int (1 : Int32)), .val w1, .unset, .unset, .unset, .unset, .unset, .unset]) (XS.store1 rfl (Or.inl rfl) (isref_cat hr1)) k_) ?_
    show GlH p e below Z own_EL sT h0 room_1.cells room_1.slots (fun v h L => v = some (.int 1) ∧ Fr n0 L) (T.setTop (mkF m 20 #[.val (.int p0), .val (.int p1), .val (.int (1 : Int32)), .val w1, .unset, .unset, .unset, .unset, .unset, .unset] []))
    refine GlH.by (fun t_ k_ => XS.iloadN X.here hx rfl (hb hby at_20) rfl k_) ?_
    show GlH p e below Z own_EL sT h0 room_1.cells room_1.slots (fun v h L => v = some (.int 1) ∧ Fr n0 L) (T.setTop (mkF m 21 #[.val (.int p0), .val (.int p1), .val (.int (1 : Int32)), .val w1, .unset, .unset, .unset, .unset, .unset, .unset] [(.int p0)]))
    refine GlH.by (fun t_ k_ => XS.iconst X.here hx rfl (hb hby at_21) k_) ?_
    show GlH p e below Z own_EL sT h0 room_1.cells room_1.slots (fun v h L => v = some (.int 1) ∧ Fr n0 L) (T.setTop (mkF m 22 #[.val (.int p0), .val (.int p1), .val (.int (1 : Int32)), .val w1, .unset, .unset, .unset, .unset, .unset, .unset] [(.int (3 : Int32)), (.int p0)]))
    refine GlH.by (fun t_ k_ => XS.iushr X.here hx rfl (hb hby at_22) rfl k_) ?_
    show GlH p e below Z own_EL sT h0 room_1.cells room_1.slots (fun v h L => v = some (.int 1) ∧ Fr n0 L) (T.setTop (mkF m 23 #[.val (.int p0), .val (.int p1), .val (.int (1 : Int32)), .val w1, .unset, .unset, .unset, .unset, .unset, .unset] [(.int ((p0.toUInt32 >>> ((3 : Int32) &&& 31).toUInt32).toInt32))]))
    refine GlH.by (fun t_ k_ => XS.iloadN X.here hx rfl (hb hby at_23) rfl k_) ?_
    show GlH p e below Z own_EL sT h0 room_1.cells room_1.slots (fun v h L => v = some (.int 1) ∧ Fr n0 L) (T.setTop (mkF m 24 #[.val (.int p0), .val (.int p1), .val (.int (1 : Int32)), .val w1, .unset, .unset, .unset, .unset, .unset, .unset] [(.int p1), (.int ((p0.toUInt32 >>> ((3 : Int32) &&& 31).toUInt32).toInt32))]))
    refine GlH.by (fun t_ k_ => XS.iconst X.here hx rfl (hb hby at_24) k_) ?_
    show GlH p e below Z own_EL sT h0 room_1.cells room_1.slots (fun v h L => v = some (.int 1) ∧ Fr n0 L) (T.setTop (mkF m 25 #[.val (.int p0), .val (.int p1), .val (.int (1 : Int32)), .val w1, .unset, .unset, .unset, .unset, .unset, .unset] [(.int (4 : Int32)), (.int p1), (.int ((p0.toUInt32 >>> ((3 : Int32) &&& 31).toUInt32).toInt32))]))
    refine GlH.by (fun t_ k_ => XS.iushr X.here hx rfl (hb hby at_25) rfl k_) ?_
    show GlH p e below Z own_EL sT h0 room_1.cells room_1.slots (fun v h L => v = some (.int 1) ∧ Fr n0 L) (T.setTop (mkF m 26 #[.val (.int p0), .val (.int p1), .val (.int (1 : Int32)), .val w1, .unset, .unset, .unset, .unset, .unset, .unset] [(.int ((p1.toUInt32 >>> ((4 : Int32) &&& 31).toUInt32).toInt32)), (.int ((p0.toUInt32 >>> ((3 : Int32) &&& 31).toUInt32).toInt32))]))
    refine GlH.statS X hx hZ hown (hw _ (List.mem_of_getElem? (i := 0) rfl)) (hw _ (List.mem_of_getElem? (i := 1) rfl)) (hw _ (List.mem_of_getElem? (i := 2) rfl)) (hw _ (List.mem_of_getElem? (i := 3) rfl)) (by decide) (W := 0) B (backH (own_draw l Z a0 hw ((p0.toUInt32 >>> ((3 : Int32) &&& 31).toUInt32).toInt32) ((p1.toUInt32 >>> ((4 : Int32) &&& 31).toUInt32).toInt32) z h7 n0 (by omega) S hz (O.keep K7 all0)) B hEL (fun _ q => by cases q) hZ (hw _ (List.mem_of_getElem? (i := 3) rfl)) (hw _ (List.mem_of_getElem? (i := 2) rfl)) (by decide) (by decide)) eT (hb hby at_26) (by rw [hml]; rfl) [(.int ((p0.toUInt32 >>> ((3 : Int32) &&& 31).toUInt32).toInt32)), (.int ((p1.toUInt32 >>> ((4 : Int32) &&& 31).toUInt32).toInt32))] [] (lenOf pd_6 rfl) rfl rfl (Nat.le_of_eq rfl) (by decide) (by decide) ?_
    intro v T L s X B hZ hown CB hq
    obtain ⟨NQ, K8, w2, rfl, hr2⟩ := hq
    have N := Fr.app N NQ
    obtain ⟨h8, eT⟩ : ∃ z, T.heap = z := ⟨_, rfl⟩
    rw [eT] at K8 B CB
    have sz8 := K8.1
    show GlH p e below Z own_EL sT h0 room_1.cells room_1.slots (fun v h L => v = some (.int 1) ∧ Fr n0 L) (T.setTop (mkF m 29 #[.val (.int p0), .val (.int p1), .val (.int (1 : Int32)), .val w1, .unset, .unset, .unset, .unset, .unset, .unset] [w2]))
    refine GlH.by (fun t_ k_ => XS.astore X.here hx rfl (hb hby at_29) rfl hr2 (l' := #[.val (.int p0), .val (.int p1), .val (.int (1 : Int32)), .val w1, .val w2, .unset, .unset, .unset, .unset, .unset]) (XS.store1 rfl (Or.inl rfl) (isref_cat hr2)) k_) ?_
    show GlH p e below Z own_EL sT h0 room_1.cells room_1.slots (fun v h L => v = some (.int 1) ∧ Fr n0 L) (T.setTop (mkF m 31 #[.val (.int p0), .val (.int p1), .val (.int (1 : Int32)), .val w1, .val w2, .unset, .unset, .unset, .unset, .unset] []))
    refine GlH.by (fun t_ k_ => XS.iloadN X.here hx rfl (hb hby at_31) rfl k_) ?_
    show GlH p e below Z own_EL sT h0 room_1.cells room_1.slots (fun v h L => v = some (.int 1) ∧ Fr n0 L) (T.setTop (mkF m 32 #[.val (.int p0), .val (.int p1), .val (.int (1 : Int32)), .val w1, .val w2, .unset, .unset, .unset, .unset, .unset] [(.int p0)]))
    refine GlH.by (fun t_ k_ => XS.iconst X.here hx rfl (hb hby at_32) k_) ?_
    show GlH p e below Z own_EL sT h0 room_1.cells room_1.slots (fun v h L => v = some (.int 1) ∧ Fr n0 L) (T.setTop (mkF m 33 #[.val (.int p0), .val (.int p1), .val (.int (1 : Int32)), .val w1, .val w2, .unset, .unset, .unset, .unset, .unset] [(.int (5 : Int32)), (.int p0)]))
    refine GlH.by (fun t_ k_ => XS.iushr X.here hx rfl (hb hby at_33) rfl k_) ?_
    show GlH p e below Z own_EL sT h0 room_1.cells room_1.slots (fun v h L => v = some (.int 1) ∧ Fr n0 L) (T.setTop (mkF m 34 #[.val (.int p0), .val (.int p1), .val (.int (1 : Int32)), .val w1, .val w2, .unset, .unset, .unset, .unset, .unset] [(.int ((p0.toUInt32 >>> ((5 : Int32) &&& 31).toUInt32).toInt32))]))
    refine GlH.by (fun t_ k_ => XS.iloadN X.here hx rfl (hb hby at_34) rfl k_) ?_
    show GlH p e below Z own_EL sT h0 room_1.cells room_1.slots (fun v h L => v = some (.int 1) ∧ Fr n0 L) (T.setTop (mkF m 35 #[.val (.int p0), .val (.int p1), .val (.int (1 : Int32)), .val w1, .val w2, .unset, .unset, .unset, .unset, .unset] [(.int p1), (.int ((p0.toUInt32 >>> ((5 : Int32) &&& 31).toUInt32).toInt32))]))
    refine GlH.by (fun t_ k_ => XS.bipush X.here hx rfl (hb hby at_35) k_) ?_
    show GlH p e below Z own_EL sT h0 room_1.cells room_1.slots (fun v h L => v = some (.int 1) ∧ Fr n0 L) (T.setTop (mkF m 37 #[.val (.int p0), .val (.int p1), .val (.int (1 : Int32)), .val w1, .val w2, .unset, .unset, .unset, .unset, .unset] [(.int (8 : Int32)), (.int p1), (.int ((p0.toUInt32 >>> ((5 : Int32) &&& 31).toUInt32).toInt32))]))
    refine GlH.by (fun t_ k_ => XS.iushr X.here hx rfl (hb hby at_37) rfl k_) ?_
    show GlH p e below Z own_EL sT h0 room_1.cells room_1.slots (fun v h L => v = some (.int 1) ∧ Fr n0 L) (T.setTop (mkF m 38 #[.val (.int p0), .val (.int p1), .val (.int (1 : Int32)), .val w1, .val w2, .unset, .unset, .unset, .unset, .unset] [(.int ((p1.toUInt32 >>> ((8 : Int32) &&& 31).toUInt32).toInt32)), (.int ((p0.toUInt32 >>> ((5 : Int32) &&& 31).toUInt32).toInt32))]))
    refine GlH.statS X hx hZ hown (hw _ (List.mem_of_getElem? (i := 0) rfl)) (hw _ (List.mem_of_getElem? (i := 1) rfl)) (hw _ (List.mem_of_getElem? (i := 2) rfl)) (hw _ (List.mem_of_getElem? (i := 3) rfl)) (by decide) (W := 0) B (backH (own_draw l Z a0 hw ((p0.toUInt32 >>> ((5 : Int32) &&& 31).toUInt32).toInt32) ((p1.toUInt32 >>> ((8 : Int32) &&& 31).toUInt32).toInt32) z h8 n0 (by omega) S hz ((O.keep K7 all0).keep K8 all0)) B hEL (fun _ q => by cases q) hZ (hw _ (List.mem_of_getElem? (i := 3) rfl)) (hw _ (List.mem_of_getElem? (i := 2) rfl)) (by decide) (by decide)) eT (hb hby at_38) (by rw [hml]; rfl) [(.int ((p0.toUInt32 >>> ((5 : Int32) &&& 31).toUInt32).toInt32)), (.int ((p1.toUInt32 >>> ((8 : Int32) &&& 31).toUInt32).toInt32))] [] (lenOf pd_6 rfl) rfl rfl (Nat.le_of_eq rfl) (by decide) (by decide) ?_
    intro v T L s X B hZ hown CB hq
    obtain ⟨NQ, K9, w3, rfl, hr3⟩ := hq
    have N := Fr.app N NQ
    obtain ⟨h9, eT⟩ : ∃ z, T.heap = z := ⟨_, rfl⟩
    rw [eT] at K9 B CB
    have sz9 := K9.1
    show GlH p e below Z own_EL sT h0 room_1.cells room_1.slots (fun v h L => v = some (.int 1) ∧ Fr n0 L) (T.setTop (mkF m 41 #[.val (.int p0), .val (.int p1), .val (.int (1 : Int32)), .val w1, .val w2, .unset, .unset, .unset, .unset, .unset] [w3]))
    refine GlH.by (fun t_ k_ => XS.astore X.here hx rfl (hb hby at_41) rfl hr3 (l' := #[.val (.int p0), .val (.int p1), .val (.int (1 : Int32)), .val w1, .val w2, .val w3, .unset, .unset, .unset, .unset]) (XS.store1 rfl (Or.inl rfl) (isref_cat hr3)) k_) ?_
    show GlH p e below Z own_EL sT h0 room_1.cells room_1.slots (fun v h L => v = some (.int 1) ∧ Fr n0 L) (T.setTop (mkF m 43 #[.val (.int p0), .val (.int p1), .val (.int (1 : Int32)), .val w1, .val w2, .val w3, .unset, .unset, .unset, .unset] []))
    refine GlH.by (fun t_ k_ => XS.iloadN X.here hx rfl (hb hby at_43) rfl k_) ?_
    show GlH p e below Z own_EL sT h0 room_1.cells room_1.slots (fun v h L => v = some (.int 1) ∧ Fr n0 L) (T.setTop (mkF m 44 #[.val (.int p0), .val (.int p1), .val (.int (1 : Int32)), .val w1, .val w2, .val w3, .unset, .unset, .unset, .unset] [(.int p0)]))
    refine GlH.by (fun t_ k_ => XS.bipush X.here hx rfl (hb hby at_44) k_) ?_
    show GlH p e below Z own_EL sT h0 room_1.cells room_1.slots (fun v h L => v = some (.int 1) ∧ Fr n0 L) (T.setTop (mkF m 46 #[.val (.int p0), .val (.int p1), .val (.int (1 : Int32)), .val w1, .val w2, .val w3, .unset, .unset, .unset, .unset] [(.int (7 : Int32)), (.int p0)]))
    refine GlH.by (fun t_ k_ => XS.iushr X.here hx rfl (hb hby at_46) rfl k_) ?_
    show GlH p e below Z own_EL sT h0 room_1.cells room_1.slots (fun v h L => v = some (.int 1) ∧ Fr n0 L) (T.setTop (mkF m 47 #[.val (.int p0), .val (.int p1), .val (.int (1 : Int32)), .val w1, .val w2, .val w3, .unset, .unset, .unset, .unset] [(.int ((p0.toUInt32 >>> ((7 : Int32) &&& 31).toUInt32).toInt32))]))
    refine GlH.by (fun t_ k_ => XS.iloadN X.here hx rfl (hb hby at_47) rfl k_) ?_
    show GlH p e below Z own_EL sT h0 room_1.cells room_1.slots (fun v h L => v = some (.int 1) ∧ Fr n0 L) (T.setTop (mkF m 48 #[.val (.int p0), .val (.int p1), .val (.int (1 : Int32)), .val w1, .val w2, .val w3, .unset, .unset, .unset, .unset] [(.int p1), (.int ((p0.toUInt32 >>> ((7 : Int32) &&& 31).toUInt32).toInt32))]))
    refine GlH.by (fun t_ k_ => XS.bipush X.here hx rfl (hb hby at_48) k_) ?_
    show GlH p e below Z own_EL sT h0 room_1.cells room_1.slots (fun v h L => v = some (.int 1) ∧ Fr n0 L) (T.setTop (mkF m 50 #[.val (.int p0), .val (.int p1), .val (.int (1 : Int32)), .val w1, .val w2, .val w3, .unset, .unset, .unset, .unset] [(.int (12 : Int32)), (.int p1), (.int ((p0.toUInt32 >>> ((7 : Int32) &&& 31).toUInt32).toInt32))]))
    refine GlH.by (fun t_ k_ => XS.iushr X.here hx rfl (hb hby at_50) rfl k_) ?_
    show GlH p e below Z own_EL sT h0 room_1.cells room_1.slots (fun v h L => v = some (.int 1) ∧ Fr n0 L) (T.setTop (mkF m 51 #[.val (.int p0), .val (.int p1), .val (.int (1 : Int32)), .val w1, .val w2, .val w3, .unset, .unset, .unset, .unset] [(.int ((p1.toUInt32 >>> ((12 : Int32) &&& 31).toUInt32).toInt32)), (.int ((p0.toUInt32 >>> ((7 : Int32) &&& 31).toUInt32).toInt32))]))
    refine GlH.statS X hx hZ hown (hw _ (List.mem_of_getElem? (i := 0) rfl)) (hw _ (List.mem_of_getElem? (i := 1) rfl)) (hw _ (List.mem_of_getElem? (i := 2) rfl)) (hw _ (List.mem_of_getElem? (i := 3) rfl)) (by decide) (W := 0) B (backH (own_draw l Z a0 hw ((p0.toUInt32 >>> ((7 : Int32) &&& 31).toUInt32).toInt32) ((p1.toUInt32 >>> ((12 : Int32) &&& 31).toUInt32).toInt32) z h9 n0 (by omega) S hz (((O.keep K7 all0).keep K8 all0).keep K9 all0)) B hEL (fun _ q => by cases q) hZ (hw _ (List.mem_of_getElem? (i := 3) rfl)) (hw _ (List.mem_of_getElem? (i := 2) rfl)) (by decide) (by decide)) eT (hb hby at_51) (by rw [hml]; rfl) [(.int ((p0.toUInt32 >>> ((7 : Int32) &&& 31).toUInt32).toInt32)), (.int ((p1.toUInt32 >>> ((12 : Int32) &&& 31).toUInt32).toInt32))] [] (lenOf pd_6 rfl) rfl rfl (Nat.le_of_eq rfl) (by decide) (by decide) ?_
    intro v T L s X B hZ hown CB hq
    obtain ⟨NQ, K10, w4, rfl, hr4⟩ := hq
    have N := Fr.app N NQ
    obtain ⟨h10, eT⟩ : ∃ z, T.heap = z := ⟨_, rfl⟩
    rw [eT] at K10 B CB
    have sz10 := K10.1
    show GlH p e below Z own_EL sT h0 room_1.cells room_1.slots (fun v h L => v = some (.int 1) ∧ Fr n0 L) (T.setTop (mkF m 54 #[.val (.int p0), .val (.int p1), .val (.int (1 : Int32)), .val w1, .val w2, .val w3, .unset, .unset, .unset, .unset] [w4]))
    refine GlH.by (fun t_ k_ => XS.astore X.here hx rfl (hb hby at_54) rfl hr4 (l' := #[.val (.int p0), .val (.int p1), .val (.int (1 : Int32)), .val w1, .val w2, .val w3, .val w4, .unset, .unset, .unset]) (XS.store1 rfl (Or.inl rfl) (isref_cat hr4)) k_) ?_
    show GlH p e below Z own_EL sT h0 room_1.cells room_1.slots (fun v h L => v = some (.int 1) ∧ Fr n0 L) (T.setTop (mkF m 56 #[.val (.int p0), .val (.int p1), .val (.int (1 : Int32)), .val w1, .val w2, .val w3, .val w4, .unset, .unset, .unset] []))
    obtain ⟨T, h11, X, eT, E11, A11, D11, -, st⟩ := newO X hx hZ hown (hw _ (List.mem_of_getElem? (i := 4) rfl)) (hw _ (List.mem_of_getElem? (i := 5) rfl)) (hw _ (List.mem_of_getElem? (i := 6) rfl)) eT (g := (mkF m 56 #[.val (.int p0), .val (.int p1), .val (.int (1 : Int32)), .val w1, .val w2, .val w3, .val w4, .unset, .unset, .unset] [])) rfl (hb hby at_56) (by decide) (by decide)
    obtain ⟨fs, g11⟩ : ∃ z, z = h10.size := ⟨_, rfl⟩
    rw [← g11] at A11 D11 st
    have sz11 := E11.1
    have lt11 : fs < h11.size := A11.lt
    refine GlH.by st ?_
    have B := B.ext E11
    have F11_takenUp : Fld Z h11 fs "com/example/gather/gather/model/FeedState" "takenUp" "Z" (.int (0 : Int32)) := D11 (Or.inr (hw _ (List.mem_of_getElem? (i := 14) rfl))) (ty := .boolean) (by decide)
    have F11_lastSuccess : Fld Z h11 fs "com/example/gather/gather/model/FeedState" "lastSuccess" "Ljava/lang/String;" .null := D11 (Or.inr (hw _ (List.mem_of_getElem? (i := 16) rfl))) (ty := (.object "java/lang/String")) (by decide)
    have F11_lastSuccessBegan : Fld Z h11 fs "com/example/gather/gather/model/FeedState" "lastSuccessBegan" "Ljava/lang/String;" .null := D11 (Or.inr (hw _ (List.mem_of_getElem? (i := 18) rfl))) (ty := (.object "java/lang/String")) (by decide)
    have F11_haltedAt : Fld Z h11 fs "com/example/gather/gather/model/FeedState" "haltedAt" "Ljava/lang/String;" .null := D11 (Or.inr (hw _ (List.mem_of_getElem? (i := 20) rfl))) (ty := (.object "java/lang/String")) (by decide)
    have F11_haltCode : Fld Z h11 fs "com/example/gather/gather/model/FeedState" "haltCode" "Ljava/lang/String;" .null := D11 (Or.inr (hw _ (List.mem_of_getElem? (i := 22) rfl))) (ty := (.object "java/lang/String")) (by decide)
    show GlH p e below Z own_EL sT h0 room_1.cells room_1.slots (fun v h L => v = some (.int 1) ∧ Fr n0 L) (T.setTop (mkF m 59 #[.val (.int p0), .val (.int p1), .val (.int (1 : Int32)), .val w1, .val w2, .val w3, .val w4, .unset, .unset, .unset] [(.ref fs)]))
    refine GlH.by (fun t_ k_ => XS.dup X.here hx rfl (hb hby at_59) rfl rfl k_) ?_
    show GlH p e below Z own_EL sT h0 room_1.cells room_1.slots (fun v h L => v = some (.int 1) ∧ Fr n0 L) (T.setTop (mkF m 60 #[.val (.int p0), .val (.int p1), .val (.int (1 : Int32)), .val w1, .val w2, .val w3, .val w4, .unset, .unset, .unset] [(.ref fs), (.ref fs)]))
    refine GlH.by (fun t_ k_ => XS.iloadN X.here hx rfl (hb hby at_60) rfl k_) ?_
    show GlH p e below Z own_EL sT h0 room_1.cells room_1.slots (fun v h L => v = some (.int 1) ∧ Fr n0 L) (T.setTop (mkF m 61 #[.val (.int p0), .val (.int p1), .val (.int (1 : Int32)), .val w1, .val w2, .val w3, .val w4, .unset, .unset, .unset] [(.int (1 : Int32)), (.ref fs), (.ref fs)]))
    refine GlH.by (fun t_ k_ => XS.aloadN X.here hx rfl (hb hby at_61) rfl hr1 k_) ?_
    show GlH p e below Z own_EL sT h0 room_1.cells room_1.slots (fun v h L => v = some (.int 1) ∧ Fr n0 L) (T.setTop (mkF m 62 #[.val (.int p0), .val (.int p1), .val (.int (1 : Int32)), .val w1, .val w2, .val w3, .val w4, .unset, .unset, .unset] [w1, (.int (1 : Int32)), (.ref fs), (.ref fs)]))
    refine GlH.by (fun t_ k_ => XS.aload X.here hx rfl (hb hby at_62) rfl hr2 k_) ?_
    show GlH p e below Z own_EL sT h0 room_1.cells room_1.slots (fun v h L => v = some (.int 1) ∧ Fr n0 L) (T.setTop (mkF m 64 #[.val (.int p0), .val (.int p1), .val (.int (1 : Int32)), .val w1, .val w2, .val w3, .val w4, .unset, .unset, .unset] [w2, w1, (.int (1 : Int32)), (.ref fs), (.ref fs)]))
    refine GlH.by (fun t_ k_ => XS.aload X.here hx rfl (hb hby at_64) rfl hr3 k_) ?_
    show GlH p e below Z own_EL sT h0 room_1.cells room_1.slots (fun v h L => v = some (.int 1) ∧ Fr n0 L) (T.setTop (mkF m 66 #[.val (.int p0), .val (.int p1), .val (.int (1 : Int32)), .val w1, .val w2, .val w3, .val w4, .unset, .unset, .unset] [w3, w2, w1, (.int (1 : Int32)), (.ref fs), (.ref fs)]))
    refine GlH.by (fun t_ k_ => XS.aload X.here hx rfl (hb hby at_66) rfl hr4 k_) ?_
    show GlH p e below Z own_EL sT h0 room_1.cells room_1.slots (fun v h L => v = some (.int 1) ∧ Fr n0 L) (T.setTop (mkF m 68 #[.val (.int p0), .val (.int p1), .val (.int (1 : Int32)), .val w1, .val w2, .val w3, .val w4, .unset, .unset, .unset] [w4, w3, w2, w1, (.int (1 : Int32)), (.ref fs), (.ref fs)]))
    refine GlH.spec X hx hZ rfl hown (hw _ (List.mem_of_getElem? (i := 7) rfl)) (hw _ (List.mem_of_getElem? (i := 8) rfl)) (hw _ (List.mem_of_getElem? (i := 9) rfl)) (by decide) (W := 1) (backC (own_fsi1 l Z a0 hw fs w1 w2 w3 w4 h11 n0 (by omega) A11 F11_takenUp F11_lastSuccess F11_lastSuccessBegan F11_haltedAt F11_haltCode hr1 hr2 hr3 hr4) hZ (hw _ (List.mem_of_getElem? (i := 9) rfl)) (hw _ (List.mem_of_getElem? (i := 6) rfl)) (by decide) (by decide)) eT (hb hby at_68) (by rw [hml]; rfl) fs [(.int (1 : Int32)), w1, w2, w3, w4] [(.ref fs)] (lenOf pd_7 rfl) rfl rfl (Nat.le_of_eq rfl) (by decide) (by decide) ?_
    intro v T L X hq
    obtain ⟨rfl, NQ, K12, E12, FT12, -, -, FH12, -⟩ := hq
    have N := Fr.app N NQ
    obtain ⟨h12, eT⟩ : ∃ z, T.heap = z := ⟨_, rfl⟩
    rw [eT] at K12 E12 FT12 FH12
    have sz12 := K12.1
    have B := B.keep K12 (fun x hx => by rw [List.mem_singleton.mp hx]; exact (Safe.exa hZ.alike A11 (by decide) (by decide)))
    show GlH p e below Z own_EL sT h0 room_1.cells room_1.slots (fun v h L => v = some (.int 1) ∧ Fr n0 L) (T.setTop (mkF m 71 #[.val (.int p0), .val (.int p1), .val (.int (1 : Int32)), .val w1, .val w2, .val w3, .val w4, .unset, .unset, .unset] [(.ref fs)]))
    refine GlH.by (fun t_ k_ => XS.astore X.here hx rfl (hb hby at_71) rfl rfl (l' := #[.val (.int p0), .val (.int p1), .val (.int (1 : Int32)), .val w1, .val w2, .val w3, .val w4, .val (.ref fs), .unset, .unset]) rfl k_) ?_
    show GlH p e below Z own_EL sT h0 room_1.cells room_1.slots (fun v h L => v = some (.int 1) ∧ Fr n0 L) (T.setTop (mkF m 73 #[.val (.int p0), .val (.int p1), .val (.int (1 : Int32)), .val w1, .val w2, .val w3, .val w4, .val (.ref fs), .unset, .unset] []))
    refine GlH.by (fun t_ k_ => XS.aload X.here hx rfl (hb hby at_73) rfl rfl k_) ?_
    show GlH p e below Z own_EL sT h0 room_1.cells room_1.slots (fun v h L => v = some (.int 1) ∧ Fr n0 L) (T.setTop (mkF m 75 #[.val (.int p0), .val (.int p1), .val (.int (1 : Int32)), .val w1, .val w2, .val w3, .val w4, .val (.ref fs), .unset, .unset] [(.ref fs)]))
    rcases ref_cases hr3 with rfl | ⟨t3, rfl⟩
    · show GlH p e below Z own_EL sT h0 room_1.cells room_1.slots (fun v h L => v = some (.int 1) ∧ Fr n0 L) (T.setTop (mkF m 75 #[.val (.int p0), .val (.int p1), .val (.int (1 : Int32)), .val w1, .val w2, .val .null, .val w4, .val (.ref fs), .unset, .unset] [(.ref fs)]))
      refine GlH.virt X hx hZ hown (hw _ (List.mem_of_getElem? (i := 23) rfl)) (hw _ (List.mem_of_getElem? (i := 24) rfl)) (hw _ (List.mem_of_getElem? (i := 26) rfl)) (hw _ (List.mem_of_getElem? (i := 25) rfl)) (notFace_of_selects (args := #[]) (mvT hZ (hw _ (List.mem_of_getElem? (i := 26) rfl)))) (by decide) (A11.keep K12) (W := 0) (backC (own_gcO l Z a0 hw fs eh eo en h12 n0 ((((((O.keep K7 all0).keep K8 all0).keep K9 all0).keep K10 all0).ext E11).keep K12 (allS (by omega) all0)) S_HALTED S_OK S_NEW FH12 FT12) hZ (hw _ (List.mem_of_getElem? (i := 27) rfl)) (hw _ (List.mem_of_getElem? (i := 6) rfl)) (by decide) (by decide)) eT (hb hby at_75) (by rw [hml]; rfl) [] [] (lenOf pd_8 rfl) rfl rfl (Nat.le_of_eq rfl) (by decide) (by decide) ?_
      intro v T L X hq
      obtain ⟨rfl, rfl, eT⟩ := hq
      have N := Fr.app N (Fr.nil n0)
      show GlH p e below Z own_EL sT h0 room_1.cells room_1.slots (fun v h L => v = some (.int 1) ∧ Fr n0 L) (T.setTop (mkF m 78 #[.val (.int p0), .val (.int p1), .val (.int (1 : Int32)), .val w1, .val w2, .val .null, .val w4, .val (.ref fs), .unset, .unset] [(.ref eo)]))
      refine GlH.by (fun t_ k_ => XS.astore X.here hx rfl (hb hby at_78) rfl rfl (l' := #[.val (.int p0), .val (.int p1), .val (.int (1 : Int32)), .val w1, .val w2, .val .null, .val w4, .val (.ref fs), .val (.ref eo), .unset]) rfl k_) ?_
      show GlH p e below Z own_EL sT h0 room_1.cells room_1.slots (fun v h L => v = some (.int 1) ∧ Fr n0 L) (T.setTop (mkF m 80 #[.val (.int p0), .val (.int p1), .val (.int (1 : Int32)), .val w1, .val w2, .val .null, .val w4, .val (.ref fs), .val (.ref eo), .unset] []))
      refine GlH.by (fun t_ k_ => XS.aload X.here hx rfl (hb hby at_80) rfl rfl k_) ?_
      show GlH p e below Z own_EL sT h0 room_1.cells room_1.slots (fun v h L => v = some (.int 1) ∧ Fr n0 L) (T.setTop (mkF m 82 #[.val (.int p0), .val (.int p1), .val (.int (1 : Int32)), .val w1, .val w2, .val .null, .val w4, .val (.ref fs), .val (.ref eo), .unset] [.null]))
      refine GlH.by (fun t_ k_ => XS.ifnullYes X.here hx rfl (pc0 := 82) (pc' := 93) rfl (hb hby at_82) rfl (by decide) (by decide) k_) ?_
      show GlH p e below Z own_EL sT h0 room_1.cells room_1.slots (fun v h L => v = some (.int 1) ∧ Fr n0 L) (T.setTop (mkF m 93 #[.val (.int p0), .val (.int p1), .val (.int (1 : Int32)), .val w1, .val w2, .val .null, .val w4, .val (.ref fs), .val (.ref eo), .unset] []))
      refine GlH.by (fun t_ k_ => XS.iloadN X.here hx rfl (hb hby at_93) rfl k_) ?_
      show GlH p e below Z own_EL sT h0 room_1.cells room_1.slots (fun v h L => v = some (.int 1) ∧ Fr n0 L) (T.setTop (mkF m 94 #[.val (.int p0), .val (.int p1), .val (.int (1 : Int32)), .val w1, .val w2, .val .null, .val w4, .val (.ref fs), .val (.ref eo), .unset] [(.int (1 : Int32))]))
      refine GlH.by (fun t_ k_ => XS.ifNo X.here hx rfl (hb hby at_94) rfl ((if0 _ _).trans (feq (by decide : ¬ (1 : Int32) = 0)).1) k_) ?_
      show GlH p e below Z own_EL sT h0 room_1.cells room_1.slots (fun v h L => v = some (.int 1) ∧ Fr n0 L) (T.setTop (mkF m 97 #[.val (.int p0), .val (.int p1), .val (.int (1 : Int32)), .val w1, .val w2, .val .null, .val w4, .val (.ref fs), .val (.ref eo), .unset] []))
      obtain ⟨T, X, eT, st⟩ := getS2 X hx hZ hown (host := "") (Or.inl (hw _ (List.mem_of_getElem? (i := 82) rfl))) Via.refl eT (S_OK.ext ((((((O.keep K7 all0).keep K8 all0).keep K9 all0).keep K10 all0).ext E11).keep K12 (allS (by omega) all0)).2) (g := (mkF m 97 #[.val (.int p0), .val (.int p1), .val (.int (1 : Int32)), .val w1, .val w2, .val .null, .val w4, .val (.ref fs), .val (.ref eo), .unset] [])) rfl (hb hby at_97)
      refine GlH.by st ?_
      show GlH p e below Z own_EL sT h0 room_1.cells room_1.slots (fun v h L => v = some (.int 1) ∧ Fr n0 L) (T.setTop (mkF m 100 #[.val (.int p0), .val (.int p1), .val (.int (1 : Int32)), .val w1, .val w2, .val .null, .val w4, .val (.ref fs), .val (.ref eo), .unset] [(.ref eo)]))
      refine GlH.by (fun t_ k_ => XS.astore X.here hx rfl (hb hby at_100) rfl rfl (l' := #[.val (.int p0), .val (.int p1), .val (.int (1 : Int32)), .val w1, .val w2, .val .null, .val w4, .val (.ref fs), .val (.ref eo), .val (.ref eo)]) rfl k_) ?_
      show GlH p e below Z own_EL sT h0 room_1.cells room_1.slots (fun v h L => v = some (.int 1) ∧ Fr n0 L) (T.setTop (mkF m 102 #[.val (.int p0), .val (.int p1), .val (.int (1 : Int32)), .val w1, .val w2, .val .null, .val w4, .val (.ref fs), .val (.ref eo), .val (.ref eo)] []))
      refine GlH.by (fun t_ k_ => XS.goto X.here hx rfl (pc0 := 102) (pc' := 110) rfl (hb hby at_102) (by decide) (by decide) k_) ?_
      show GlH p e below Z own_EL sT h0 room_1.cells room_1.slots (fun v h L => v = some (.int 1) ∧ Fr n0 L) (T.setTop (mkF m 110 #[.val (.int p0), .val (.int p1), .val (.int (1 : Int32)), .val w1, .val w2, .val .null, .val w4, .val (.ref fs), .val (.ref eo), .val (.ref eo)] []))
      refine GlH.by (fun t_ k_ => XS.aload X.here hx rfl (hb hby at_110) rfl rfl k_) ?_
      show GlH p e below Z own_EL sT h0 room_1.cells room_1.slots (fun v h L => v = some (.int 1) ∧ Fr n0 L) (T.setTop (mkF m 112 #[.val (.int p0), .val (.int p1), .val (.int (1 : Int32)), .val w1, .val w2, .val .null, .val w4, .val (.ref fs), .val (.ref eo), .val (.ref eo)] [(.ref eo)]))
      refine GlH.by (fun t_ k_ => XS.aload X.here hx rfl (hb hby at_112) rfl rfl k_) ?_
      show GlH p e below Z own_EL sT h0 room_1.cells room_1.slots (fun v h L => v = some (.int 1) ∧ Fr n0 L) (T.setTop (mkF m 114 #[.val (.int p0), .val (.int p1), .val (.int (1 : Int32)), .val w1, .val w2, .val .null, .val w4, .val (.ref fs), .val (.ref eo), .val (.ref eo)] [(.ref eo), (.ref eo)]))
      refine GlH.by (fun t_ k_ => Jvm.RoadKit.acmp (g := (mkF m 114 #[.val (.int p0), .val (.int p1), .val (.int (1 : Int32)), .val w1, .val w2, .val .null, .val w4, .val (.ref fs), .val (.ref eo), .val (.ref eo)] [(.ref eo), (.ref eo)])) X hx rfl rfl rfl (pc0 := 114) (pc' := 117) (same := true) rfl (hb hby at_114) rfl (decide_eq_true rfl) (by decide) (by decide) k_) ?_
      show GlH p e below Z own_EL sT h0 room_1.cells room_1.slots (fun v h L => v = some (.int 1) ∧ Fr n0 L) (T.setTop (mkF m 117 #[.val (.int p0), .val (.int p1), .val (.int (1 : Int32)), .val w1, .val w2, .val .null, .val w4, .val (.ref fs), .val (.ref eo), .val (.ref eo)] []))
      refine GlH.by (fun t_ k_ => XS.iconst X.here hx rfl (hb hby at_117) k_) ?_
      show GlH p e below Z own_EL sT h0 room_1.cells room_1.slots (fun v h L => v = some (.int 1) ∧ Fr n0 L) (T.setTop (mkF m 118 #[.val (.int p0), .val (.int p1), .val (.int (1 : Int32)), .val w1, .val w2, .val .null, .val w4, .val (.ref fs), .val (.ref eo), .val (.ref eo)] [(.int (1 : Int32))]))
      refine GlH.by (fun t_ k_ => XS.goto X.here hx rfl (pc0 := 118) (pc' := 122) rfl (hb hby at_118) (by decide) (by decide) k_) ?_
      show GlH p e below Z own_EL sT h0 room_1.cells room_1.slots (fun v h L => v = some (.int 1) ∧ Fr n0 L) (T.setTop (mkF m 122 #[.val (.int p0), .val (.int p1), .val (.int (1 : Int32)), .val w1, .val w2, .val .null, .val w4, .val (.ref fs), .val (.ref eo), .val (.ref eo)] [(.int (1 : Int32))]))
      exact GlH.retZ X B eT hZ hEL hx hlk hret (by simp) (hb hby at_122) (by decide) (by decide) ⟨rfl, N⟩
    · show GlH p e below Z own_EL sT h0 room_1.cells room_1.slots (fun v h L => v = some (.int 1) ∧ Fr n0 L) (T.setTop (mkF m 75 #[.val (.int p0), .val (.int p1), .val (.int (1 : Int32)), .val w1, .val w2, .val (.ref t3), .val w4, .val (.ref fs), .unset, .unset] [(.ref fs)]))
      refine GlH.virt X hx hZ hown (hw _ (List.mem_of_getElem? (i := 23) rfl)) (hw _ (List.mem_of_getElem? (i := 24) rfl)) (hw _ (List.mem_of_getElem? (i := 26) rfl)) (hw _ (List.mem_of_getElem? (i := 25) rfl)) (notFace_of_selects (args := #[]) (mvT hZ (hw _ (List.mem_of_getElem? (i := 26) rfl)))) (by decide) (A11.keep K12) (W := 0) (backC (own_gcH l Z a0 hw fs eh eo en t3 h12 n0 ((((((O.keep K7 all0).keep K8 all0).keep K9 all0).keep K10 all0).ext E11).keep K12 (allS (by omega) all0)) S_HALTED S_OK S_NEW FH12) hZ (hw _ (List.mem_of_getElem? (i := 27) rfl)) (hw _ (List.mem_of_getElem? (i := 6) rfl)) (by decide) (by decide)) eT (hb hby at_75) (by rw [hml]; rfl) [] [] (lenOf pd_8 rfl) rfl rfl (Nat.le_of_eq rfl) (by decide) (by decide) ?_
      intro v T L X hq
      obtain ⟨rfl, rfl, eT⟩ := hq
      have N := Fr.app N (Fr.nil n0)
      show GlH p e below Z own_EL sT h0 room_1.cells room_1.slots (fun v h L => v = some (.int 1) ∧ Fr n0 L) (T.setTop (mkF m 78 #[.val (.int p0), .val (.int p1), .val (.int (1 : Int32)), .val w1, .val w2, .val (.ref t3), .val w4, .val (.ref fs), .unset, .unset] [(.ref eh)]))
      refine GlH.by (fun t_ k_ => XS.astore X.here hx rfl (hb hby at_78) rfl rfl (l' := #[.val (.int p0), .val (.int p1), .val (.int (1 : Int32)), .val w1, .val w2, .val (.ref t3), .val w4, .val (.ref fs), .val (.ref eh), .unset]) rfl k_) ?_
      show GlH p e below Z own_EL sT h0 room_1.cells room_1.slots (fun v h L => v = some (.int 1) ∧ Fr n0 L) (T.setTop (mkF m 80 #[.val (.int p0), .val (.int p1), .val (.int (1 : Int32)), .val w1, .val w2, .val (.ref t3), .val w4, .val (.ref fs), .val (.ref eh), .unset] []))
      refine GlH.by (fun t_ k_ => XS.aload X.here hx rfl (hb hby at_80) rfl rfl k_) ?_
      show GlH p e below Z own_EL sT h0 room_1.cells room_1.slots (fun v h L => v = some (.int 1) ∧ Fr n0 L) (T.setTop (mkF m 82 #[.val (.int p0), .val (.int p1), .val (.int (1 : Int32)), .val w1, .val w2, .val (.ref t3), .val w4, .val (.ref fs), .val (.ref eh), .unset] [(.ref t3)]))
      refine GlH.by (fun t_ k_ => XS.ifnullNo X.here hx rfl (hb hby at_82) rfl k_) ?_
      show GlH p e below Z own_EL sT h0 room_1.cells room_1.slots (fun v h L => v = some (.int 1) ∧ Fr n0 L) (T.setTop (mkF m 85 #[.val (.int p0), .val (.int p1), .val (.int (1 : Int32)), .val w1, .val w2, .val (.ref t3), .val w4, .val (.ref fs), .val (.ref eh), .unset] []))
      obtain ⟨T, X, eT, st⟩ := getS2 X hx hZ hown (host := "") (Or.inl (hw _ (List.mem_of_getElem? (i := 79) rfl))) Via.refl eT (S_HALTED.ext ((((((O.keep K7 all0).keep K8 all0).keep K9 all0).keep K10 all0).ext E11).keep K12 (allS (by omega) all0)).2) (g := (mkF m 85 #[.val (.int p0), .val (.int p1), .val (.int (1 : Int32)), .val w1, .val w2, .val (.ref t3), .val w4, .val (.ref fs), .val (.ref eh), .unset] [])) rfl (hb hby at_85)
      refine GlH.by st ?_
      show GlH p e below Z own_EL sT h0 room_1.cells room_1.slots (fun v h L => v = some (.int 1) ∧ Fr n0 L) (T.setTop (mkF m 88 #[.val (.int p0), .val (.int p1), .val (.int (1 : Int32)), .val w1, .val w2, .val (.ref t3), .val w4, .val (.ref fs), .val (.ref eh), .unset] [(.ref eh)]))
      refine GlH.by (fun t_ k_ => XS.astore X.here hx rfl (hb hby at_88) rfl rfl (l' := #[.val (.int p0), .val (.int p1), .val (.int (1 : Int32)), .val w1, .val w2, .val (.ref t3), .val w4, .val (.ref fs), .val (.ref eh), .val (.ref eh)]) rfl k_) ?_
      show GlH p e below Z own_EL sT h0 room_1.cells room_1.slots (fun v h L => v = some (.int 1) ∧ Fr n0 L) (T.setTop (mkF m 90 #[.val (.int p0), .val (.int p1), .val (.int (1 : Int32)), .val w1, .val w2, .val (.ref t3), .val w4, .val (.ref fs), .val (.ref eh), .val (.ref eh)] []))
      refine GlH.by (fun t_ k_ => XS.goto X.here hx rfl (pc0 := 90) (pc' := 110) rfl (hb hby at_90) (by decide) (by decide) k_) ?_
      show GlH p e below Z own_EL sT h0 room_1.cells room_1.slots (fun v h L => v = some (.int 1) ∧ Fr n0 L) (T.setTop (mkF m 110 #[.val (.int p0), .val (.int p1), .val (.int (1 : Int32)), .val w1, .val w2, .val (.ref t3), .val w4, .val (.ref fs), .val (.ref eh), .val (.ref eh)] []))
      refine GlH.by (fun t_ k_ => XS.aload X.here hx rfl (hb hby at_110) rfl rfl k_) ?_
      show GlH p e below Z own_EL sT h0 room_1.cells room_1.slots (fun v h L => v = some (.int 1) ∧ Fr n0 L) (T.setTop (mkF m 112 #[.val (.int p0), .val (.int p1), .val (.int (1 : Int32)), .val w1, .val w2, .val (.ref t3), .val w4, .val (.ref fs), .val (.ref eh), .val (.ref eh)] [(.ref eh)]))
      refine GlH.by (fun t_ k_ => XS.aload X.here hx rfl (hb hby at_112) rfl rfl k_) ?_
      show GlH p e below Z own_EL sT h0 room_1.cells room_1.slots (fun v h L => v = some (.int 1) ∧ Fr n0 L) (T.setTop (mkF m 114 #[.val (.int p0), .val (.int p1), .val (.int (1 : Int32)), .val w1, .val w2, .val (.ref t3), .val w4, .val (.ref fs), .val (.ref eh), .val (.ref eh)] [(.ref eh), (.ref eh)]))
      refine GlH.by (fun t_ k_ => Jvm.RoadKit.acmp (g := (mkF m 114 #[.val (.int p0), .val (.int p1), .val (.int (1 : Int32)), .val w1, .val w2, .val (.ref t3), .val w4, .val (.ref fs), .val (.ref eh), .val (.ref eh)] [(.ref eh), (.ref eh)])) X hx rfl rfl rfl (pc0 := 114) (pc' := 117) (same := true) rfl (hb hby at_114) rfl (decide_eq_true rfl) (by decide) (by decide) k_) ?_
      show GlH p e below Z own_EL sT h0 room_1.cells room_1.slots (fun v h L => v = some (.int 1) ∧ Fr n0 L) (T.setTop (mkF m 117 #[.val (.int p0), .val (.int p1), .val (.int (1 : Int32)), .val w1, .val w2, .val (.ref t3), .val w4, .val (.ref fs), .val (.ref eh), .val (.ref eh)] []))
      refine GlH.by (fun t_ k_ => XS.iconst X.here hx rfl (hb hby at_117) k_) ?_
      show GlH p e below Z own_EL sT h0 room_1.cells room_1.slots (fun v h L => v = some (.int 1) ∧ Fr n0 L) (T.setTop (mkF m 118 #[.val (.int p0), .val (.int p1), .val (.int (1 : Int32)), .val w1, .val w2, .val (.ref t3), .val w4, .val (.ref fs), .val (.ref eh), .val (.ref eh)] [(.int (1 : Int32))]))
      refine GlH.by (fun t_ k_ => XS.goto X.here hx rfl (pc0 := 118) (pc' := 122) rfl (hb hby at_118) (by decide) (by decide) k_) ?_
      show GlH p e below Z own_EL sT h0 room_1.cells room_1.slots (fun v h L => v = some (.int 1) ∧ Fr n0 L) (T.setTop (mkF m 122 #[.val (.int p0), .val (.int p1), .val (.int (1 : Int32)), .val w1, .val w2, .val (.ref t3), .val w4, .val (.ref fs), .val (.ref eh), .val (.ref eh)] [(.int (1 : Int32))]))
      exact GlH.retZ X B eT hZ hEL hx hlk hret (by simp) (hb hby at_122) (by decide) (by decide) ⟨rfl, N⟩
  show GlH p e below Z own_EL sT h0 room_1.cells room_1.slots (fun v h L => v = some (.int 1) ∧ Fr n0 L) (T.setTop (mkF m 0 #[.val (.int p0), .val (.int p1), .unset, .unset, .unset, .unset, .unset, .unset, .unset, .unset] []))
  refine GlH.by (fun t_ k_ => XS.iloadN X.here hx rfl (hb hby at_0) rfl k_) ?_
  show GlH p e below Z own_EL sT h0 room_1.cells room_1.slots (fun v h L => v = some (.int 1) ∧ Fr n0 L) (T.setTop (mkF m 1 #[.val (.int p0), .val (.int p1), .unset, .unset, .unset, .unset, .unset, .unset, .unset, .unset] [(.int p0)]))
  refine GlH.by (fun t_ k_ => XS.iconst X.here hx rfl (hb hby at_1) k_) ?_
  show GlH p e below Z own_EL sT h0 room_1.cells room_1.slots (fun v h L => v = some (.int 1) ∧ Fr n0 L) (T.setTop (mkF m 2 #[.val (.int p0), .val (.int p1), .unset, .unset, .unset, .unset, .unset, .unset, .unset, .unset] [(.int (1 : Int32)), (.int p0)]))
  refine GlH.by (fun t_ k_ => XS.iand X.here hx rfl (hb hby at_2) rfl k_) ?_
  show GlH p e below Z own_EL sT h0 room_1.cells room_1.slots (fun v h L => v = some (.int 1) ∧ Fr n0 L) (T.setTop (mkF m 3 #[.val (.int p0), .val (.int p1), .unset, .unset, .unset, .unset, .unset, .unset, .unset, .unset] [(.int (p0 &&& (1 : Int32)))]))
  by_cases c0 : (p0 &&& (1 : Int32)) = (0 : Int32)
  · refine GlH.by (fun t_ k_ => XS.ifYes X.here hx rfl (pc0 := 3) (pc' := 10) rfl (hb hby at_3) rfl ((if0 _ _).trans (teq c0).1) (by decide) (by decide) k_) ?_
    show GlH p e below Z own_EL sT h0 room_1.cells room_1.slots (fun v h L => v = some (.int 1) ∧ Fr n0 L) (T.setTop (mkF m 10 #[.val (.int p0), .val (.int p1), .unset, .unset, .unset, .unset, .unset, .unset, .unset, .unset] []))
    refine GlH.by (fun t_ k_ => XS.iconst X.here hx rfl (hb hby at_10) k_) ?_
    show GlH p e below Z own_EL sT h0 room_1.cells room_1.slots (fun v h L => v = some (.int 1) ∧ Fr n0 L) (T.setTop (mkF m 11 #[.val (.int p0), .val (.int p1), .unset, .unset, .unset, .unset, .unset, .unset, .unset, .unset] [(.int (0 : Int32))]))
    refine GlH.by (fun t_ k_ => XS.istoreN X.here hx rfl (hb hby at_11) rfl (l' := #[.val (.int p0), .val (.int p1), .val (.int (0 : Int32)), .unset, .unset, .unset, .unset, .unset, .unset, .unset]) rfl k_) ?_
    show GlH p e below Z own_EL sT h0 room_1.cells room_1.slots (fun v h L => v = some (.int 1) ∧ Fr n0 L) (T.setTop (mkF m 12 #[.val (.int p0), .val (.int p1), .val (.int (0 : Int32)), .unset, .unset, .unset, .unset, .unset, .unset, .unset] []))
    exact j0
  · refine GlH.by (fun t_ k_ => XS.ifNo X.here hx rfl (hb hby at_3) rfl ((if0 _ _).trans (feq c0).1) k_) ?_
    show GlH p e below Z own_EL sT h0 room_1.cells room_1.slots (fun v h L => v = some (.int 1) ∧ Fr n0 L) (T.setTop (mkF m 6 #[.val (.int p0), .val (.int p1), .unset, .unset, .unset, .unset, .unset, .unset, .unset, .unset] []))
    refine GlH.by (fun t_ k_ => XS.iconst X.here hx rfl (hb hby at_6) k_) ?_
    show GlH p e below Z own_EL sT h0 room_1.cells room_1.slots (fun v h L => v = some (.int 1) ∧ Fr n0 L) (T.setTop (mkF m 7 #[.val (.int p0), .val (.int p1), .unset, .unset, .unset, .unset, .unset, .unset, .unset, .unset] [(.int (1 : Int32))]))
    refine GlH.by (fun t_ k_ => XS.goto X.here hx rfl (pc0 := 7) (pc' := 11) rfl (hb hby at_7) (by decide) (by decide) k_) ?_
    show GlH p e below Z own_EL sT h0 room_1.cells room_1.slots (fun v h L => v = some (.int 1) ∧ Fr n0 L) (T.setTop (mkF m 11 #[.val (.int p0), .val (.int p1), .unset, .unset, .unset, .unset, .unset, .unset, .unset, .unset] [(.int (1 : Int32))]))
    refine GlH.by (fun t_ k_ => XS.istoreN X.here hx rfl (hb hby at_11) rfl (l' := #[.val (.int p0), .val (.int p1), .val (.int (1 : Int32)), .unset, .unset, .unset, .unset, .unset, .unset, .unset]) rfl k_) ?_
    show GlH p e below Z own_EL sT h0 room_1.cells room_1.slots (fun v h L => v = some (.int 1) ∧ Fr n0 L) (T.setTop (mkF m 12 #[.val (.int p0), .val (.int p1), .val (.int (1 : Int32)), .unset, .unset, .unset, .unset, .unset, .unset, .unset] []))
    exact j1
set_option maxRecDepth 65536 in
set_option maxHeartbeats 40000000 in
theorem comes_1 {Post : Tables → Env → Array Value → State → Outcome → State → Prop} (hpost : ∀ tb e args s v u, (limb_1_1.after args s (.returned v) u = true ∧ limb_1_2.after args s (.returned v) u = true ∧ True) → ReturnedEndW s (.returned v) u (Jvm.fieldLocs frame_1_writes args s ++ Jvm.arrayLocs frame_1_arrays args s ++ Jvm.staticLocs frame_1_statics s) 40 1216 → Post tb e args s (.returned v) u) :
    ArmFor flags0 classFile x code maxLocals ret World_1 tables_1 room_1 Calls_1 rest_1 Pre_1 Post := by
  intro l hfl _ _ p e ha hc hk s m args below hf hA hF happ hP
  obtain ⟨hcalls, hrest, hpre⟩ := hP
  obtain ⟨-, -, -, hnamed, -, -, -, hat⟩ := (Spec.applies_iff hf).mp happ
  obtain ⟨hg, hn⟩ := and_e (Cond.before_iff.mp (show (Jvm.Cond.and given_1 narrow_1).before args s = true from hpre))
  obtain ⟨hcnt, u0⟩ := and_e hg
  obtain ⟨a0, u1⟩ := and_e u0
  obtain ⟨w0, w1, rfl⟩ : ∃ w0 w1 : Value, args = #[w0, w1] := by
    have hs : args.size = 2 := by simpa [Cond.value, given_1] using hcnt
    obtain ⟨L⟩ := args
    match L, hs with
    | [w0, w1], _ => exact ⟨w0, w1, rfl⟩
  have hw := fun d (hd : d ∈ tables_1) => atoms_spec (ws := Jvm.Cond.code x code maxLocals ret :: tables_1) hat d (List.mem_cons_of_mem _ hd)
  obtain ⟨hsets, hown0⟩ := atoms_of _ (rest_1_c_eq ▸ (show rest_1_c.before _ s = true from hrest))
  have hfit : Fit s := fun {y c} hc i hi => by
    obtain ⟨ha, rfl⟩ := Array.getElem?_eq_some_iff.mp hc
    have q := List.all_eq_true.mp ((Array.all_eq_true_iff_forall_mem.mp hF) _ (Array.getElem_mem ha)) i (List.mem_range.mpr hi)
    simpa [Array.getElem?_eq_getElem hi] using q
  obtain ⟨p0, e0⟩ := is_v a0
  obtain rfl : w0 = (.int p0) := Option.some.inj e0
  obtain ⟨p1, e1⟩ := is_v u1
  obtain rfl : w1 = (.int p1) := Option.some.inj e1
  have nz := not_v (Cond.before_iff.mp (hsets _ (List.mem_of_getElem? (i := 2) rfl)))
  obtain ⟨zc, ezc⟩ := is_v (Cond.before_iff.mp (hsets _ (List.mem_of_getElem? (i := 1) rfl)))
  have Szc : Sta s s.heap "java/lang/String" "COMPACT_STRINGS" "Z" (.int zc) := Sta.start ezc (Or.inl (hsets _ (List.mem_of_getElem? (i := 0) rfl)))
  have hzc : ¬ (zc = (0 : Int32)) := gotF (Cond.eq_ints ezc (Term.int_eval (0))) nz
  obtain ⟨n1, n2⟩ := and_e hn
  obtain ⟨n2, n3⟩ := and_e n2
  obtain ⟨en, een⟩ := exa_v n1
  have S_NEW : Sta s s.heap "com/example/gather/gather/model/FeedState$Condition" "NEW" "Lcom/example/gather/gather/model/FeedState$Condition;" (.ref en) := Sta.start een (Or.inr ⟨(hw _ (List.mem_of_getElem? (i := 29) rfl)), (hw _ (List.mem_of_getElem? (i := 30) rfl))⟩)
  obtain ⟨eh, eeh⟩ := exa_v n2
  have S_HALTED : Sta s s.heap "com/example/gather/gather/model/FeedState$Condition" "HALTED" "Lcom/example/gather/gather/model/FeedState$Condition;" (.ref eh) := Sta.start eeh (Or.inr ⟨(hw _ (List.mem_of_getElem? (i := 29) rfl)), (hw _ (List.mem_of_getElem? (i := 78) rfl))⟩)
  obtain ⟨eo, eeo⟩ := exa_v n3
  have S_OK : Sta s s.heap "com/example/gather/gather/model/FeedState$Condition" "OK" "Lcom/example/gather/gather/model/FeedState$Condition;" (.ref eo) := Sta.start eeo (Or.inr ⟨(hw _ (List.mem_of_getElem? (i := 29) rfl)), (hw _ (List.mem_of_getElem? (i := 81) rfl))⟩)
  obtain ⟨n, o, h1, h2, h3, _, L, rfl, ⟨rfl, N⟩, hC, hq⟩ := own_law l s _ hw tables_1 p0 p1 zc eh eo en s.heap s.heap.size (Nat.le_refl _) Szc hzc (Old.start s) S_HALTED S_OK S_NEW p e ha hc hk s m _ below hf ((Spec.applies_iff_loose hf).mp happ).1 ⟨rfl, State.Warmed39.refl s, rfl, CHv.start (own_ew hw) (fun p hp => hcalls.1 p hp) (hsets _ (List.mem_of_getElem? (i := 2) rfl)) (hw _ (List.mem_of_getElem? (i := 49) rfl)) (hw _ (List.mem_of_getElem? (i := 34) rfl)), fun _ q => by cases q⟩ trivial
  refine ⟨n, _, h1, h2, h3, hpost _ _ _ _ _ _ ⟨Cond.after_iff.mpr rfl, Cond.after_iff.mpr (eq_i res_at (Term.int_eval (1)) rfl), trivial⟩ ⟨hq.1, hq.2.1, hq.2.2.1, (hq.2.2.2.sift fun y hy => Or.inr (N y hy)).mono (by decide) (by decide)⟩⟩
theorem main_1_1 : Claimed_1_1 := comes_1 fun _ _ _ _ _ _ h hF => ⟨h.1, hF⟩
theorem main_1_2 : Claimed_1_2 := comes_1 fun _ _ _ _ _ _ h hF => ⟨h.2.1, hF⟩
end Jvm.Pilot.@@N@@
namespace Jvm.Pilot.@@N@@
open Jvm Jvm.ClassFile Sem Op Lib Jvm.Free Jvm.Stand Jvm.Pilot.@@N@@.Jvm.D
/-! MADE BY PROGRAM (witnessworld.py) out of the Statement's table words and the real class files: 22 classes; the members and pool entries that the words name. The judged class is class 1, her method 2. -/
namespace start1
open Jvm.ClassFile
def u (s : String) : CpInfo := .utf8 (stringToUtf16 s)
/-- a pool by its gaps: so many unusable entries, then the entry; so many at the end -/
def gap : Nat → List CpInfo → List CpInfo
  | 0, r => r
  | n + 1, r => .unusable :: gap n r
def poolList (es : List (Nat × CpInfo)) (last : Nat) : List CpInfo := es.foldr (fun e r => gap e.1 (e.2 :: r)) (gap last [])
def pool (es : List (Nat × CpInfo)) (last : Nat) : Array CpInfo := ⟨poolList es last⟩
def fileOf (pool : Array CpInfo) (this : Nat) (attrs : Array Attribute := #[]) (ms : Array MethodInfo := #[]) (fl : Nat := 33) (sup : Nat := 0) (ifs : Array Nat := #[]) (fds : Array FieldInfo := #[]) : ClassFile where
  minorVersion := 0
  majorVersion := 65
  constantPool := pool
  accessFlags := fl
  thisClass := this
  superClass := sup
  interfaces := ifs
  fields := fds
  methods := ms
  attributes := attrs
def plain (name : String) (sup : Option ClassId) : Class where
  name := name
  kind := .ordinary
  loader := none
  accessFlags := 33
  super := sup
  interfaces := #[]
  cf := none
  fields := #[]
  methods := #[]
  instanceTypes := #[]
  staticTypes := #[]
  resolved := #[]
  callSites := []
  init := .initialized
  statics := none
  mirror := none

def pool0 : Array CpInfo := pool [(5, u "<init>"), (0, u "()V"), (1, .class_ 10), (1, u "java/lang/Object")] 113

def k0c0 : Code := { maxStack := 0, maxLocals := 1, code := object_method_1_code, exceptionTable := #[], attributes := #[] }
def k0m0 : Method := { name := "<init>", desc := "()V", sig := { parameters := [], returnType := none }, accessFlags := 1, code := some k0c0 }
/-- java/lang/Object -/
def k0 : Class := { plain "java/lang/Object" none with
  accessFlags := 33
  interfaces := #[]
  cf := some (fileOf pool0 8 #[] #[{ accessFlags := 1, nameIndex := 5, descriptorIndex := 6, attributes := #[] }] 33 0 #[] #[])
  fields := #[]
  methods := #[k0m0]
  instanceTypes := #[]
  staticTypes := #[]
  resolved := Array.replicate 124 none
  statics := none }

def pool1 : Array CpInfo := pool [(2, .class_ 4), (1, u "java/lang/Object"), (0, u "<init>"), (0, u "()V"), (0, .class_ 8), (0, u "java/lang/String"), (0, .methodref 7 10), (0, .nameAndType 5 11), (0, u "([C)V"), (0, .methodref 7 13), (0, .nameAndType 14 15), (0, u "valueOf"), (0, u "(C)Ljava/lang/String;"), (0, .methodref 17 18), (0, .class_ 19), (0, .nameAndType 20 21), (0, u "com/example/gather/gather/model/FeedStateGetConditionPinLaw"), (0, u "draw"), (0, u "(II)Ljava/lang/String;"), (0, .class_ 23), (0, u "com/example/gather/gather/model/FeedState"), (0, .methodref 22 25), (0, .nameAndType 5 26), (0, u "(ZLjava/lang/String;Ljava/lang/String;Ljava/lang/String;Ljava/lang/String;)V"), (0, .methodref 22 28), (0, .nameAndType 29 30), (0, u "getCondition"), (0, u "()Lcom/example/gather/gather/model/FeedState$Condition;"), (0, .fieldref 32 33), (0, .class_ 34), (0, .nameAndType 35 36), (0, u "com/example/gather/gather/model/FeedState$Condition"), (0, u "HALTED"), (0, u "Lcom/example/gather/gather/model/FeedState$Condition;"), (0, .fieldref 32 38), (0, .nameAndType 39 36), (0, u "OK"), (0, .fieldref 32 41), (0, .nameAndType 42 36), (0, u "NEW"), (3, u "law"), (0, u "(II)Z")] 4

def k1m0 : Method := { name := "<init>", desc := "()V", sig := { parameters := [], returnType := none }, accessFlags := 2, code := none }
def k1c1 : Code := { maxStack := 4, maxLocals := 4, code := method_2_code, exceptionTable := #[], attributes := #[] }
def k1m1 : Method := { name := "draw", desc := "(II)Ljava/lang/String;", sig := { parameters := [.int, .int], returnType := some (.object "java/lang/String") }, accessFlags := 10, code := some k1c1 }
def k1c2 : Code := { maxStack := 7, maxLocals := 10, code := code, exceptionTable := #[], attributes := #[] }
def k1m2 : Method := { name := "law", desc := "(II)Z", sig := { parameters := [.int, .int], returnType := some .boolean }, accessFlags := 9, code := some k1c2 }
/-- com/example/gather/gather/model/FeedStateGetConditionPinLaw -/
def k1 : Class := { plain "com/example/gather/gather/model/FeedStateGetConditionPinLaw" (some 0) with
  accessFlags := 49
  interfaces := #[]
  cf := some (fileOf pool1 17 #[] #[{ accessFlags := 2, nameIndex := 5, descriptorIndex := 6, attributes := #[] }, { accessFlags := 10, nameIndex := 20, descriptorIndex := 21, attributes := #[] }, { accessFlags := 9, nameIndex := 46, descriptorIndex := 47, attributes := #[] }] 49 2 #[] #[])
  fields := #[]
  methods := #[k1m0, k1m1, k1m2]
  instanceTypes := #[]
  staticTypes := #[]
  resolved := Array.replicate 52 none
  statics := none }

def pool2 : Array CpInfo := pool [(1, .methodref 2 3), (0, .class_ 4), (0, .nameAndType 5 6), (0, u "java/lang/Object"), (0, u "<init>"), (0, u "()V"), (0, .fieldref 8 9), (0, .class_ 10), (0, .nameAndType 11 12), (0, u "com/example/gather/gather/model/FeedState"), (0, u "takenUp"), (0, u "Z"), (0, .fieldref 8 14), (0, .nameAndType 15 16), (0, u "lastSuccess"), (0, u "Ljava/lang/String;"), (0, .fieldref 8 18), (0, .nameAndType 19 16), (0, u "lastSuccessBegan"), (0, .fieldref 8 21), (0, .nameAndType 22 16), (0, u "haltedAt"), (0, .fieldref 8 24), (0, .nameAndType 25 16), (0, u "haltCode"), (0, .fieldref 27 28), (0, .class_ 29), (0, .nameAndType 30 31), (0, u "com/example/gather/gather/model/FeedState$Condition"), (0, u "HALTED"), (0, u "Lcom/example/gather/gather/model/FeedState$Condition;"), (0, .fieldref 27 33), (0, .nameAndType 34 31), (0, u "OK"), (0, .fieldref 27 36), (0, .nameAndType 37 31), (0, u "NEW"), (2, u "(ZLjava/lang/String;Ljava/lang/String;Ljava/lang/String;Ljava/lang/String;)V"), (2, u "NEVER_TAKEN_UP"), (0, u "Lcom/example/gather/gather/model/FeedState;"), (2, u "getCondition"), (0, u "()Lcom/example/gather/gather/model/FeedState$Condition;")] 12

def k2c0 : Code := { maxStack := 2, maxLocals := 6, code := prog_41_method_1_code, exceptionTable := #[], attributes := #[] }
def k2m0 : Method := { name := "<init>", desc := "(ZLjava/lang/String;Ljava/lang/String;Ljava/lang/String;Ljava/lang/String;)V", sig := { parameters := [.boolean, (.object "java/lang/String"), (.object "java/lang/String"), (.object "java/lang/String"), (.object "java/lang/String")], returnType := none }, accessFlags := 1, code := some k2c0 }
def k2c1 : Code := { maxStack := 1, maxLocals := 1, code := prog_41_method_2_code, exceptionTable := #[], attributes := #[] }
def k2m1 : Method := { name := "getCondition", desc := "()Lcom/example/gather/gather/model/FeedState$Condition;", sig := { parameters := [], returnType := some (.object "com/example/gather/gather/model/FeedState$Condition") }, accessFlags := 1, code := some k2c1 }
/-- com/example/gather/gather/model/FeedState -/
def k2 : Class := { plain "com/example/gather/gather/model/FeedState" (some 0) with
  accessFlags := 33
  interfaces := #[]
  cf := some (fileOf pool2 8 #[.nestMembers #[27]] #[{ accessFlags := 1, nameIndex := 5, descriptorIndex := 40, attributes := #[] }, { accessFlags := 1, nameIndex := 47, descriptorIndex := 48, attributes := #[] }] 33 2 #[] #[{ accessFlags := 25, nameIndex := 43, descriptorIndex := 44, attributes := #[] }, { accessFlags := 18, nameIndex := 11, descriptorIndex := 12, attributes := #[] }, { accessFlags := 18, nameIndex := 15, descriptorIndex := 16, attributes := #[] }, { accessFlags := 18, nameIndex := 19, descriptorIndex := 16, attributes := #[] }, { accessFlags := 18, nameIndex := 22, descriptorIndex := 16, attributes := #[] }, { accessFlags := 18, nameIndex := 25, descriptorIndex := 16, attributes := #[] }])
  fields := #[{ name := "NEVER_TAKEN_UP", type := (.object "com/example/gather/gather/model/FeedState"), accessFlags := 25, slot := 0, constantValue := 0 }, { name := "takenUp", type := .boolean, accessFlags := 18, slot := 0, constantValue := 0 }, { name := "lastSuccess", type := (.object "java/lang/String"), accessFlags := 18, slot := 1, constantValue := 0 }, { name := "lastSuccessBegan", type := (.object "java/lang/String"), accessFlags := 18, slot := 2, constantValue := 0 }, { name := "haltedAt", type := (.object "java/lang/String"), accessFlags := 18, slot := 3, constantValue := 0 }, { name := "haltCode", type := (.object "java/lang/String"), accessFlags := 18, slot := 4, constantValue := 0 }]
  methods := #[k2m0, k2m1]
  instanceTypes := #[.boolean, (.object "java/lang/String"), (.object "java/lang/String"), (.object "java/lang/String"), (.object "java/lang/String")]
  staticTypes := #[(.object "com/example/gather/gather/model/FeedState")]
  resolved := Array.replicate 61 none
  statics := none }

def pool3 : Array CpInfo := pool [(1, .class_ 2), (0, u "java/lang/constant/Constable"), (0, .class_ 4), (0, u "java/lang/Object")] 6

/-- java/lang/constant/Constable -/
def k3 : Class := { plain "java/lang/constant/Constable" (some 0) with
  accessFlags := 1537
  interfaces := #[]
  cf := some (fileOf pool3 1 #[] #[] 1537 3 #[] #[])
  fields := #[]
  methods := #[]
  instanceTypes := #[]
  staticTypes := #[]
  resolved := Array.replicate 11 none
  statics := none }

def pool4 : Array CpInfo := pool [(1, .class_ 2), (0, u "java/lang/Comparable"), (0, .class_ 4), (0, u "java/lang/Object")] 7

/-- java/lang/Comparable -/
def k4 : Class := { plain "java/lang/Comparable" (some 0) with
  accessFlags := 1537
  interfaces := #[]
  cf := some (fileOf pool4 1 #[] #[] 1537 3 #[] #[])
  fields := #[]
  methods := #[]
  instanceTypes := #[]
  staticTypes := #[]
  resolved := Array.replicate 12 none
  statics := none }

def pool5 : Array CpInfo := pool [(1, .class_ 2), (0, u "java/io/Serializable"), (0, .class_ 4), (0, u "java/lang/Object")] 2

/-- java/io/Serializable -/
def k5 : Class := { plain "java/io/Serializable" (some 0) with
  accessFlags := 1537
  interfaces := #[]
  cf := some (fileOf pool5 1 #[] #[] 1537 3 #[] #[])
  fields := #[]
  methods := #[]
  instanceTypes := #[]
  staticTypes := #[]
  resolved := Array.replicate 7 none
  statics := none }

def pool6 : Array CpInfo := pool [(2, .class_ 4), (1, u "java/lang/Enum"), (0, u "name"), (0, u "Ljava/lang/String;"), (2, u "ordinal"), (0, u "I"), (1, .class_ 14), (1, u "java/lang/Object"), (4, u "hash"), (86, .class_ 108), (1, u "java/lang/Enum$EnumDesc"), (2, .class_ 112), (0, u "java/lang/constant/Constable"), (0, .class_ 114), (0, u "java/lang/Comparable"), (0, .class_ 116), (0, u "java/io/Serializable")] 87

/-- java/lang/Enum -/
def k6 : Class := { plain "java/lang/Enum" (some 0) with
  accessFlags := 1057
  interfaces := #[3, 4, 5]
  cf := some (fileOf pool6 2 #[.nestMembers #[106]] #[] 1057 12 #[111, 113, 115] #[{ accessFlags := 18, nameIndex := 5, descriptorIndex := 6, attributes := #[] }, { accessFlags := 18, nameIndex := 9, descriptorIndex := 10, attributes := #[] }, { accessFlags := 2, nameIndex := 19, descriptorIndex := 10, attributes := #[] }])
  fields := #[{ name := "name", type := (.object "java/lang/String"), accessFlags := 18, slot := 0, constantValue := 0 }, { name := "ordinal", type := .int, accessFlags := 18, slot := 1, constantValue := 0 }, { name := "hash", type := .int, accessFlags := 2, slot := 2, constantValue := 0 }]
  methods := #[]
  instanceTypes := #[(.object "java/lang/String"), .int, .int]
  staticTypes := #[]
  resolved := Array.replicate 204 none
  statics := none }

def pool7 : Array CpInfo := pool [(1, .class_ 2), (0, u "com/example/gather/gather/model/FeedState$Condition"), (2, u "NEW"), (0, u "Lcom/example/gather/gather/model/FeedState$Condition;"), (2, u "OK"), (2, u "HALTED"), (2, u "$VALUES"), (0, u "[Lcom/example/gather/gather/model/FeedState$Condition;"), (6, .class_ 25), (1, u "java/lang/Enum"), (8, u "word"), (0, u "Ljava/lang/String;"), (31, .class_ 68), (0, u "com/example/gather/gather/model/FeedState")] 2

/-- com/example/gather/gather/model/FeedState$Condition -/
def k7 : Class := { plain "com/example/gather/gather/model/FeedState$Condition" (some 6) with
  accessFlags := 16433
  interfaces := #[]
  cf := some (fileOf pool7 1 #[.nestHost 67] #[] 16433 23 #[] #[{ accessFlags := 16409, nameIndex := 5, descriptorIndex := 6, attributes := #[] }, { accessFlags := 16409, nameIndex := 9, descriptorIndex := 6, attributes := #[] }, { accessFlags := 16409, nameIndex := 12, descriptorIndex := 6, attributes := #[] }, { accessFlags := 18, nameIndex := 34, descriptorIndex := 35, attributes := #[] }, { accessFlags := 4122, nameIndex := 15, descriptorIndex := 16, attributes := #[] }])
  fields := #[{ name := "NEW", type := (.object "com/example/gather/gather/model/FeedState$Condition"), accessFlags := 16409, slot := 0, constantValue := 0 }, { name := "OK", type := (.object "com/example/gather/gather/model/FeedState$Condition"), accessFlags := 16409, slot := 1, constantValue := 0 }, { name := "HALTED", type := (.object "com/example/gather/gather/model/FeedState$Condition"), accessFlags := 16409, slot := 2, constantValue := 0 }, { name := "word", type := (.object "java/lang/String"), accessFlags := 18, slot := 3, constantValue := 0 }, { name := "$VALUES", type := (.array (.object "com/example/gather/gather/model/FeedState$Condition")), accessFlags := 4122, slot := 3, constantValue := 0 }]
  methods := #[]
  instanceTypes := #[(.object "java/lang/String"), .int, .int, (.object "java/lang/String")]
  staticTypes := #[(.object "com/example/gather/gather/model/FeedState$Condition"), (.object "com/example/gather/gather/model/FeedState$Condition"), (.object "com/example/gather/gather/model/FeedState$Condition"), (.array (.object "com/example/gather/gather/model/FeedState$Condition"))]
  resolved := Array.replicate 71 none
  statics := some 0 }

def pool8 : Array CpInfo := pool [(2, .class_ 4), (1, u "java/lang/CharSequence"), (42, .class_ 48), (0, u "java/lang/CharSequence$1CodePointIterator"), (10, .class_ 60), (0, u "java/lang/CharSequence$1CharIterator"), (5, .class_ 67), (0, u "java/lang/Object")] 63

/-- java/lang/CharSequence -/
def k8 : Class := { plain "java/lang/CharSequence" (some 0) with
  accessFlags := 1537
  interfaces := #[]
  cf := some (fileOf pool8 2 #[.nestMembers #[47, 59]] #[] 1537 66 #[] #[])
  fields := #[]
  methods := #[]
  instanceTypes := #[]
  staticTypes := #[]
  resolved := Array.replicate 131 none
  statics := none }

def pool9 : Array CpInfo := pool [(1, .class_ 2), (0, u "java/lang/constant/ConstantDesc"), (0, .class_ 4), (0, u "java/lang/Object")] 32

/-- java/lang/constant/ConstantDesc -/
def k9 : Class := { plain "java/lang/constant/ConstantDesc" (some 0) with
  accessFlags := 1537
  interfaces := #[]
  cf := some (fileOf pool9 1 #[] #[] 1537 3 #[] #[])
  fields := #[]
  methods := #[]
  instanceTypes := #[]
  staticTypes := #[]
  resolved := Array.replicate 37 none
  statics := none }

def pool10 : Array CpInfo := pool [(1, .methodref 2 3), (0, .class_ 4), (0, .nameAndType 5 6), (0, u "java/lang/Object"), (0, u "<init>"), (0, u "()V"), (0, .string 8), (0, u ""), (0, .fieldref 10 11), (0, .class_ 12), (0, .nameAndType 13 14), (0, u "java/lang/String"), (0, u "value"), (0, u "[B"), (0, .fieldref 10 16), (0, .nameAndType 17 18), (0, u "coder"), (0, u "B"), (2, u "hash"), (0, u "I"), (2, u "hashIsZero"), (0, u "Z"), (0, .methodref 10 28), (0, .nameAndType 5 29), (0, u "([CIILjava/lang/Void;)V"), (8, .fieldref 10 39), (0, .nameAndType 40 26), (0, u "COMPACT_STRINGS"), (1, .class_ 44), (1, u "java/lang/StringUTF16"), (0, u "compress"), (1, .methodref 42 48), (0, .nameAndType 49 50), (0, u "coderFromArrayLen"), (0, u "([BI)B"), (2, u "toBytes"), (53, .class_ 109), (1, u "java/lang/StringLatin1"), (67, .methodref 42 178), (0, .nameAndType 45 179), (0, u "([CII)[B"), (29, .methodref 10 210), (0, .nameAndType 5 211), (0, u "([BB)V"), (157, u "(C)Z"), (205, .class_ 576), (0, u "java/lang/CharSequence"), (22, u "CASE_INSENSITIVE_ORDER"), (0, u "Ljava/util/Comparator;"), (181, u "valueOf"), (0, u "(C)Ljava/lang/String;"), (226, u "([C)V"), (4, .methodref 107 1016), (0, .nameAndType 1017 369), (0, u "canEncode"), (0, .methodref 107 1019), (0, .nameAndType 53 1020), (0, u "(C)[B"), (80, u "serialPersistentFields"), (0, u "[Ljava/io/ObjectStreamField;"), (0, .class_ 1104), (0, u "java/lang/String$CaseInsensitiveComparator"), (1, .class_ 1107), (0, u "java/io/Serializable"), (0, .class_ 1109), (0, u "java/lang/Comparable"), (0, .class_ 1111), (0, u "java/lang/constant/Constable"), (0, .class_ 1113), (0, u "java/lang/constant/ConstantDesc"), (2, u "serialVersionUID"), (0, u "J"), (3, u "REPL"), (0, u "C"), (2, u "LATIN1"), (1, u "UTF16")] 323

def k10m0 : Method := { name := "<init>", desc := "()V", sig := { parameters := [], returnType := none }, accessFlags := 1, code := none }
def k10c1 : Code := { maxStack := 5, maxLocals := 2, code := jdk_42_method_3_code, exceptionTable := #[], attributes := #[] }
def k10m1 : Method := { name := "<init>", desc := "([C)V", sig := { parameters := [(.array .char)], returnType := none }, accessFlags := 1, code := some k10c1 }
def k10c2 : Code := { maxStack := 4, maxLocals := 1, code := jdk_42_method_139_code, exceptionTable := #[], attributes := #[] }
def k10m2 : Method := { name := "valueOf", desc := "(C)Ljava/lang/String;", sig := { parameters := [.char], returnType := some (.object "java/lang/String") }, accessFlags := 9, code := some k10c2 }
def k10c3 : Code := { maxStack := 4, maxLocals := 6, code := jdk_42_method_149_code, exceptionTable := #[], attributes := #[] }
def k10m3 : Method := { name := "<init>", desc := "([CIILjava/lang/Void;)V", sig := { parameters := [(.array .char), .int, .int, (.object "java/lang/Void")], returnType := none }, accessFlags := 2, code := some k10c3 }
def k10c4 : Code := { maxStack := 2, maxLocals := 3, code := jdk_42_method_151_code, exceptionTable := #[], attributes := #[] }
def k10m4 : Method := { name := "<init>", desc := "([BB)V", sig := { parameters := [(.array .byte), .byte], returnType := none }, accessFlags := 0, code := some k10c4 }
/-- java/lang/String -/
def k10 : Class := { plain "java/lang/String" (some 0) with
  accessFlags := 49
  interfaces := #[5, 4, 8, 3, 9]
  cf := some (fileOf pool10 10 #[.nestMembers #[1103]] #[{ accessFlags := 1, nameIndex := 5, descriptorIndex := 6, attributes := #[] }, { accessFlags := 1, nameIndex := 5, descriptorIndex := 1010, attributes := #[] }, { accessFlags := 9, nameIndex := 782, descriptorIndex := 783, attributes := #[] }, { accessFlags := 2, nameIndex := 5, descriptorIndex := 29, attributes := #[] }, { accessFlags := 0, nameIndex := 5, descriptorIndex := 211, attributes := #[] }] 49 2 #[1106, 1108, 575, 1110, 1112] #[{ accessFlags := 18, nameIndex := 13, descriptorIndex := 14, attributes := #[] }, { accessFlags := 18, nameIndex := 17, descriptorIndex := 18, attributes := #[] }, { accessFlags := 2, nameIndex := 21, descriptorIndex := 22, attributes := #[] }, { accessFlags := 2, nameIndex := 25, descriptorIndex := 26, attributes := #[] }, { accessFlags := 26, nameIndex := 1116, descriptorIndex := 1117, attributes := #[] }, { accessFlags := 24, nameIndex := 40, descriptorIndex := 26, attributes := #[] }, { accessFlags := 26, nameIndex := 1101, descriptorIndex := 1102, attributes := #[] }, { accessFlags := 26, nameIndex := 1121, descriptorIndex := 1122, attributes := #[] }, { accessFlags := 25, nameIndex := 599, descriptorIndex := 600, attributes := #[] }, { accessFlags := 24, nameIndex := 1125, descriptorIndex := 18, attributes := #[] }, { accessFlags := 24, nameIndex := 1127, descriptorIndex := 18, attributes := #[] }])
  fields := #[{ name := "value", type := (.array .byte), accessFlags := 18, slot := 0, constantValue := 0 }, { name := "coder", type := .byte, accessFlags := 18, slot := 1, constantValue := 0 }, { name := "hash", type := .int, accessFlags := 2, slot := 2, constantValue := 0 }, { name := "hashIsZero", type := .boolean, accessFlags := 2, slot := 3, constantValue := 0 }, { name := "serialVersionUID", type := .long, accessFlags := 26, slot := 0, constantValue := 0 }, { name := "COMPACT_STRINGS", type := .boolean, accessFlags := 24, slot := 1, constantValue := 0 }, { name := "serialPersistentFields", type := (.array (.object "java/io/ObjectStreamField")), accessFlags := 26, slot := 2, constantValue := 0 }, { name := "REPL", type := .char, accessFlags := 26, slot := 3, constantValue := 0 }, { name := "CASE_INSENSITIVE_ORDER", type := (.object "java/util/Comparator"), accessFlags := 25, slot := 4, constantValue := 0 }, { name := "LATIN1", type := .byte, accessFlags := 24, slot := 5, constantValue := 0 }, { name := "UTF16", type := .byte, accessFlags := 24, slot := 6, constantValue := 0 }]
  methods := #[k10m0, k10m1, k10m2, k10m3, k10m4]
  instanceTypes := #[(.array .byte), .byte, .int, .boolean]
  staticTypes := #[.long, .boolean, (.array (.object "java/io/ObjectStreamField")), .char, (.object "java/util/Comparator"), .byte, .byte]
  resolved := Array.replicate 1451 none
  statics := some 1 }

def pool11 : Array CpInfo := pool [(6, .class_ 8), (1, u "java/lang/Object"), (0, u "<init>"), (0, u "()V"), (1, .class_ 14), (1, u "java/lang/StringUTF16"), (31, u "$assertionsDisabled"), (0, u "Z"), (13, u "HI_BYTE_SHIFT"), (0, u "I"), (2, u "LO_BYTE_SHIFT"), (49, .methodref 12 116), (0, .nameAndType 117 118), (0, u "compress"), (0, u "([CI[BII)I"), (3, u "([CII)[B"), (138, u "coderFromArrayLen"), (0, u "([BI)B"), (106, .class_ 371), (1, u "java/lang/StringUTF16$LinesSpliterator"), (58, u "MAX_LENGTH"), (196, .class_ 628), (0, u "java/lang/StringUTF16$CodePointsSpliterator"), (0, .class_ 630), (0, u "java/lang/StringUTF16$CharsSpliterator")] 4

def k11m0 : Method := { name := "<init>", desc := "()V", sig := { parameters := [], returnType := none }, accessFlags := 0, code := none }
def k11c1 : Code := { maxStack := 2, maxLocals := 2, code := jdk_52_method_15_code, exceptionTable := #[], attributes := #[] }
def k11m1 : Method := { name := "coderFromArrayLen", desc := "([BI)B", sig := { parameters := [(.array .byte), .int], returnType := some .byte }, accessFlags := 8, code := some k11c1 }
def k11c2 : Code := { maxStack := 5, maxLocals := 6, code := jdk_52_method_16_code, exceptionTable := #[], attributes := #[] }
def k11m2 : Method := { name := "compress", desc := "([CII)[B", sig := { parameters := [(.array .char), .int, .int], returnType := some (.array .byte) }, accessFlags := 9, code := some k11c2 }
def k11c3 : Code := { maxStack := 3, maxLocals := 7, code := jdk_52_method_21_code, exceptionTable := #[], attributes := #[] }
def k11m3 : Method := { name := "compress", desc := "([CI[BII)I", sig := { parameters := [(.array .char), .int, (.array .byte), .int, .int], returnType := some .int }, accessFlags := 9, code := some k11c3 }
/-- java/lang/StringUTF16 -/
def k11 : Class := { plain "java/lang/StringUTF16" (some 0) with
  accessFlags := 48
  interfaces := #[]
  cf := some (fileOf pool11 12 #[.nestMembers #[627, 629, 369]] #[{ accessFlags := 0, nameIndex := 9, descriptorIndex := 10, attributes := #[] }, { accessFlags := 8, nameIndex := 261, descriptorIndex := 262, attributes := #[] }, { accessFlags := 9, nameIndex := 117, descriptorIndex := 122, attributes := #[] }, { accessFlags := 9, nameIndex := 117, descriptorIndex := 118, attributes := #[] }] 48 6 #[] #[{ accessFlags := 26, nameIndex := 61, descriptorIndex := 62, attributes := #[] }, { accessFlags := 26, nameIndex := 65, descriptorIndex := 62, attributes := #[] }, { accessFlags := 24, nameIndex := 430, descriptorIndex := 62, attributes := #[] }, { accessFlags := 4120, nameIndex := 46, descriptorIndex := 47, attributes := #[] }])
  fields := #[{ name := "HI_BYTE_SHIFT", type := .int, accessFlags := 26, slot := 0, constantValue := 0 }, { name := "LO_BYTE_SHIFT", type := .int, accessFlags := 26, slot := 1, constantValue := 0 }, { name := "MAX_LENGTH", type := .int, accessFlags := 24, slot := 2, constantValue := 0 }, { name := "$assertionsDisabled", type := .boolean, accessFlags := 4120, slot := 3, constantValue := 0 }]
  methods := #[k11m0, k11m1, k11m2, k11m3]
  instanceTypes := #[]
  staticTypes := #[.int, .int, .int, .boolean]
  resolved := Array.replicate 635 none
  statics := none }

def pool12 : Array CpInfo := pool [(4, .class_ 6), (1, u "java/lang/Object"), (0, u "<init>"), (0, u "()V"), (5, .class_ 16), (1, u "java/lang/StringLatin1"), (73, u "canEncode"), (14, u "(C)Z"), (15, u "$assertionsDisabled"), (0, u "Z"), (98, .class_ 223), (1, u "java/lang/StringLatin1$LinesSpliterator"), (156, u "toBytes"), (1, u "(C)[B"), (7, .class_ 391), (0, u "java/lang/StringLatin1$CharsSpliterator")] 3

def k12m0 : Method := { name := "<init>", desc := "()V", sig := { parameters := [], returnType := none }, accessFlags := 0, code := none }
def k12c1 : Code := { maxStack := 2, maxLocals := 1, code := jdk_43_method_3_code, exceptionTable := #[], attributes := #[] }
def k12m1 : Method := { name := "canEncode", desc := "(C)Z", sig := { parameters := [.char], returnType := some .boolean }, accessFlags := 9, code := some k12c1 }
def k12c2 : Code := { maxStack := 4, maxLocals := 1, code := jdk_43_method_46_code, exceptionTable := #[], attributes := #[] }
def k12m2 : Method := { name := "toBytes", desc := "(C)[B", sig := { parameters := [.char], returnType := some (.array .byte) }, accessFlags := 9, code := some k12c2 }
/-- java/lang/StringLatin1 -/
def k12 : Class := { plain "java/lang/StringLatin1" (some 0) with
  accessFlags := 48
  interfaces := #[]
  cf := some (fileOf pool12 14 #[.nestMembers #[390, 221]] #[{ accessFlags := 0, nameIndex := 7, descriptorIndex := 8, attributes := #[] }, { accessFlags := 9, nameIndex := 90, descriptorIndex := 105, attributes := #[] }, { accessFlags := 9, nameIndex := 380, descriptorIndex := 382, attributes := #[] }] 48 4 #[] #[{ accessFlags := 4120, nameIndex := 121, descriptorIndex := 122, attributes := #[] }])
  fields := #[{ name := "$assertionsDisabled", type := .boolean, accessFlags := 4120, slot := 0, constantValue := 0 }]
  methods := #[k12m0, k12m1, k12m2]
  instanceTypes := #[]
  staticTypes := #[.boolean]
  resolved := Array.replicate 395 none
  statics := none }

def pool13 : Array CpInfo := pool [(2, .class_ 4), (1, u "java/lang/Object"), (0, u "<init>"), (0, u "()V"), (17, .class_ 26), (1, u "jdk/internal/util/Preconditions"), (28, .class_ 56), (0, u "jdk/internal/util/Preconditions$4"), (57, .class_ 115), (0, u "jdk/internal/util/Preconditions$1"), (7, u "SIOOBE_FORMATTER"), (0, u "Ljava/util/function/BiFunction;"), (0, .class_ 126), (0, u "jdk/internal/util/Preconditions$2"), (3, u "AIOOBE_FORMATTER"), (0, .class_ 132), (0, u "jdk/internal/util/Preconditions$3"), (3, u "IOOBE_FORMATTER")] 57

def k13m0 : Method := { name := "<init>", desc := "()V", sig := { parameters := [], returnType := none }, accessFlags := 1, code := none }
/-- jdk/internal/util/Preconditions -/
def k13 : Class := { plain "jdk/internal/util/Preconditions" (some 0) with
  accessFlags := 33
  interfaces := #[]
  cf := some (fileOf pool13 24 #[.nestMembers #[55, 131, 125, 114]] #[{ accessFlags := 1, nameIndex := 5, descriptorIndex := 6, attributes := #[] }] 33 2 #[] #[{ accessFlags := 25, nameIndex := 123, descriptorIndex := 124, attributes := #[] }, { accessFlags := 25, nameIndex := 130, descriptorIndex := 124, attributes := #[] }, { accessFlags := 25, nameIndex := 136, descriptorIndex := 124, attributes := #[] }])
  fields := #[{ name := "SIOOBE_FORMATTER", type := (.object "java/util/function/BiFunction"), accessFlags := 25, slot := 0, constantValue := 0 }, { name := "AIOOBE_FORMATTER", type := (.object "java/util/function/BiFunction"), accessFlags := 25, slot := 1, constantValue := 0 }, { name := "IOOBE_FORMATTER", type := (.object "java/util/function/BiFunction"), accessFlags := 25, slot := 2, constantValue := 0 }]
  methods := #[k13m0]
  instanceTypes := #[]
  staticTypes := #[(.object "java/util/function/BiFunction"), (.object "java/util/function/BiFunction"), (.object "java/util/function/BiFunction")]
  resolved := Array.replicate 194 none
  statics := some 2 }

def pool14 : Array CpInfo := pool [(9, u "<init>"), (6, .class_ 18), (1, u "java/lang/Object"), (0, u "()V"), (1, .class_ 23), (1, u "jdk/internal/util/ArraysSupport"), (0, u "LOG2_ARRAY_LONG_INDEX_SCALE"), (0, u "I"), (2, u "U"), (0, u "Ljdk/internal/misc/Unsafe;"), (8, u "BIG_ENDIAN"), (0, u "Z"), (8, u "LOG2_BYTE_BIT_SIZE"), (4, u "LOG2_ARRAY_INT_INDEX_SCALE"), (54, u "JLA"), (0, u "Ljdk/internal/access/JavaLangAccess;"), (11, u "LOG2_ARRAY_BOOLEAN_INDEX_SCALE"), (9, u "LOG2_ARRAY_BYTE_INDEX_SCALE"), (5, u "LOG2_ARRAY_CHAR_INDEX_SCALE"), (5, u "LOG2_ARRAY_SHORT_INDEX_SCALE"), (18, u "LOG2_ARRAY_FLOAT_INDEX_SCALE"), (24, u "LOG2_ARRAY_DOUBLE_INDEX_SCALE"), (89, u "T_BOOLEAN"), (2, u "T_CHAR"), (1, u "T_FLOAT"), (1, u "T_DOUBLE"), (1, u "T_BYTE"), (1, u "T_SHORT"), (1, u "T_INT"), (1, u "T_LONG"), (1, u "SOFT_MAX_ARRAY_LENGTH")] 83

def k14m0 : Method := { name := "<init>", desc := "()V", sig := { parameters := [], returnType := none }, accessFlags := 2, code := none }
/-- jdk/internal/util/ArraysSupport -/
def k14 : Class := { plain "jdk/internal/util/ArraysSupport" (some 0) with
  accessFlags := 33
  interfaces := #[]
  cf := some (fileOf pool14 21 #[] #[{ accessFlags := 2, nameIndex := 9, descriptorIndex := 19, attributes := #[] }] 33 16 #[] #[{ accessFlags := 24, nameIndex := 28, descriptorIndex := 29, attributes := #[] }, { accessFlags := 26, nameIndex := 38, descriptorIndex := 39, attributes := #[] }, { accessFlags := 25, nameIndex := 121, descriptorIndex := 25, attributes := #[] }, { accessFlags := 25, nameIndex := 131, descriptorIndex := 25, attributes := #[] }, { accessFlags := 25, nameIndex := 137, descriptorIndex := 25, attributes := #[] }, { accessFlags := 25, nameIndex := 143, descriptorIndex := 25, attributes := #[] }, { accessFlags := 25, nameIndex := 53, descriptorIndex := 25, attributes := #[] }, { accessFlags := 25, nameIndex := 24, descriptorIndex := 25, attributes := #[] }, { accessFlags := 25, nameIndex := 162, descriptorIndex := 25, attributes := #[] }, { accessFlags := 25, nameIndex := 187, descriptorIndex := 25, attributes := #[] }, { accessFlags := 26, nameIndex := 48, descriptorIndex := 25, attributes := #[] }, { accessFlags := 25, nameIndex := 277, descriptorIndex := 25, attributes := #[] }, { accessFlags := 25, nameIndex := 280, descriptorIndex := 25, attributes := #[] }, { accessFlags := 25, nameIndex := 282, descriptorIndex := 25, attributes := #[] }, { accessFlags := 25, nameIndex := 284, descriptorIndex := 25, attributes := #[] }, { accessFlags := 25, nameIndex := 286, descriptorIndex := 25, attributes := #[] }, { accessFlags := 25, nameIndex := 288, descriptorIndex := 25, attributes := #[] }, { accessFlags := 25, nameIndex := 290, descriptorIndex := 25, attributes := #[] }, { accessFlags := 25, nameIndex := 292, descriptorIndex := 25, attributes := #[] }, { accessFlags := 26, nameIndex := 108, descriptorIndex := 109, attributes := #[] }, { accessFlags := 25, nameIndex := 294, descriptorIndex := 25, attributes := #[] }])
  fields := #[{ name := "U", type := (.object "jdk/internal/misc/Unsafe"), accessFlags := 24, slot := 0, constantValue := 0 }, { name := "BIG_ENDIAN", type := .boolean, accessFlags := 26, slot := 1, constantValue := 0 }, { name := "LOG2_ARRAY_BOOLEAN_INDEX_SCALE", type := .int, accessFlags := 25, slot := 2, constantValue := 0 }, { name := "LOG2_ARRAY_BYTE_INDEX_SCALE", type := .int, accessFlags := 25, slot := 3, constantValue := 0 }, { name := "LOG2_ARRAY_CHAR_INDEX_SCALE", type := .int, accessFlags := 25, slot := 4, constantValue := 0 }, { name := "LOG2_ARRAY_SHORT_INDEX_SCALE", type := .int, accessFlags := 25, slot := 5, constantValue := 0 }, { name := "LOG2_ARRAY_INT_INDEX_SCALE", type := .int, accessFlags := 25, slot := 6, constantValue := 0 }, { name := "LOG2_ARRAY_LONG_INDEX_SCALE", type := .int, accessFlags := 25, slot := 7, constantValue := 0 }, { name := "LOG2_ARRAY_FLOAT_INDEX_SCALE", type := .int, accessFlags := 25, slot := 8, constantValue := 0 }, { name := "LOG2_ARRAY_DOUBLE_INDEX_SCALE", type := .int, accessFlags := 25, slot := 9, constantValue := 0 }, { name := "LOG2_BYTE_BIT_SIZE", type := .int, accessFlags := 26, slot := 10, constantValue := 0 }, { name := "T_BOOLEAN", type := .int, accessFlags := 25, slot := 11, constantValue := 0 }, { name := "T_CHAR", type := .int, accessFlags := 25, slot := 12, constantValue := 0 }, { name := "T_FLOAT", type := .int, accessFlags := 25, slot := 13, constantValue := 0 }, { name := "T_DOUBLE", type := .int, accessFlags := 25, slot := 14, constantValue := 0 }, { name := "T_BYTE", type := .int, accessFlags := 25, slot := 15, constantValue := 0 }, { name := "T_SHORT", type := .int, accessFlags := 25, slot := 16, constantValue := 0 }, { name := "T_INT", type := .int, accessFlags := 25, slot := 17, constantValue := 0 }, { name := "T_LONG", type := .int, accessFlags := 25, slot := 18, constantValue := 0 }, { name := "JLA", type := (.object "jdk/internal/access/JavaLangAccess"), accessFlags := 26, slot := 19, constantValue := 0 }, { name := "SOFT_MAX_ARRAY_LENGTH", type := .int, accessFlags := 25, slot := 20, constantValue := 0 }]
  methods := #[k14m0]
  instanceTypes := #[]
  staticTypes := #[(.object "jdk/internal/misc/Unsafe"), .boolean, .int, .int, .int, .int, .int, .int, .int, .int, .int, .int, .int, .int, .int, .int, .int, .int, .int, (.object "jdk/internal/access/JavaLangAccess"), .int]
  resolved := Array.replicate 378 none
  statics := none }

def pool15 : Array CpInfo := pool [(1, u "java/lang/Cloneable"), (0, .class_ 1), (0, u "java/lang/Object"), (0, .class_ 3)] 3

/-- java/lang/Cloneable -/
def k15 : Class := { plain "java/lang/Cloneable" (some 0) with
  accessFlags := 1537
  interfaces := #[]
  cf := some (fileOf pool15 2 #[] #[] 1537 4 #[] #[])
  fields := #[]
  methods := #[]
  instanceTypes := #[]
  staticTypes := #[]
  resolved := Array.replicate 8 none
  statics := none }

/-- the primitive byte -/
def k16 : Class := { plain "byte" none with kind := .primitive 'B', accessFlags := 0x411 }
/-- [B -/
def k17 : Class := { plain "[B" (some 0) with kind := .array 16 .byte, interfaces := #[15, 5], accessFlags := 1041 }

/-- the primitive char -/
def k18 : Class := { plain "char" none with kind := .primitive 'C', accessFlags := 0x411 }
/-- [C -/
def k19 : Class := { plain "[C" (some 0) with kind := .array 18 .char, interfaces := #[15, 5], accessFlags := 1041 }

/-- the primitive int -/
def k20 : Class := { plain "int" none with kind := .primitive 'I', accessFlags := 0x411 }
/-- [I -/
def k21 : Class := { plain "[I" (some 0) with kind := .array 20 .int, interfaces := #[15, 5], accessFlags := 1041 }

def heap : Heap := #[{ cls := 7, slots := #[.ref 3, .ref 5, .ref 4, .null], vm := .statics 7 },
  { cls := 10, slots := #[.long 0, .int 1, .null, .int 0, .null, .int 0, .int 0], vm := .statics 10 },
  { cls := 13, slots := #[.null, .null, .null], vm := .statics 13 },
  { cls := 7, slots := #[.null, .int 0, .int 0, .null], vm := .none },
  { cls := 7, slots := #[.null, .int 1, .int 0, .null], vm := .none },
  { cls := 7, slots := #[.null, .int 2, .int 0, .null], vm := .none }]
def classes : Array Class := #[k0, k1, k2, k3, k4, k5, k6, k7, k8, k9, k10, k11, k12, k13, k14, k15, k16, k17, k18, k19, k20, k21]
def interned : List (Array UInt16 × Addr) := []
def slotsUsed : Nat := 26
def theMethod : MethodId := ⟨1, 2⟩
def args0 : Array Value := #[.int 7, .int 66]
def aboutOver (below : List Frame) : State where
  vm := { classes := classes, interned := interned.toArray }
  heap := heap
  slotsUsed := slotsUsed
  threads := #[{ frames := .invoking theMethod args0 :: below }]
def below0 : List Frame := [.native { method := ⟨0, 0⟩, args := #[] }]
def about1 : State := aboutOver below0
def p0 : Program := .bare "" "" ""
def e0 : Env := launch0.env 0 0 0
theorem w_frames : about1.frames = Frame.invoking theMethod args0 :: below0 := rfl
set_option maxRecDepth 65536 in
theorem w_args : argsFit about1.vm theMethod args0 = true := by decide +kernel
set_option maxRecDepth 65536 in
theorem w_heap : heapFits about1 = true := by decide +kernel
set_option maxRecDepth 65536 in
theorem w_runnable : about1.curStatus? = some .runnable := by decide +kernel
set_option maxRecDepth 65536 in
theorem w_alone : about1.alone = true := by decide +kernel
set_option maxRecDepth 65536 in
theorem w_named : about1.methodNamed? x = some theMethod := by decide +kernel
set_option maxRecDepth 65536 in
theorem w_hears : about1.hears theMethod below0 = true := by decide +kernel
set_option maxRecDepth 65536 in
theorem w_ripe : about1.ripe theMethod args0 below0 = true := by decide +kernel
theorem w_running : about1.status = .running := rfl
set_option maxRecDepth 65536 in
theorem w_room : about1.hasRoom e0.platform room_1 = true :=
  launch0.hasRoom_least _ room_1 (by decide +kernel) (by decide +kernel) (by decide +kernel) (by decide +kernel) (by decide +kernel) (by decide +kernel)
theorem allAtoms_all (ts : List Jvm.Cond) (a : Array Jvm.Value) (st : Jvm.State) : (allAtoms ts).before a st = ts.all (fun c => c.before a st) := by
  induction ts with
  | nil => rfl
  | cons c t ih =>
    show (Jvm.Cond.and c (allAtoms t)).before a st = _
    rw [Jvm.Cond.before_and, ih, List.all_cons]
def words1 : List Jvm.Cond := Jvm.Cond.code x code maxLocals ret :: tables_1
/-- a 'code' word, met by the world's own term for the bytes: nothing is compared byte by byte -/
theorem code_word {y : MethodName} {bytes : ByteArray} {mx : Nat} {rt : Option FieldType} {a : Array Value} {s : State} {m : MethodId} {meth : Method} {c : Code} (h1 : s.methodNamed? y = some m) (h2 : s.vm.method? m = some meth) (h3 : meth.code = some c) (h4 : c.code = bytes)
    (h5 : (c.maxLocals == mx && c.exceptionTable.isEmpty && decide (c.maxStack ≤ mostOperands) && decide (meth.sig.returnType = rt) && !meth.locks && decide (parseMethodDescriptor y.desc = some meth.sig)) = true) : (Jvm.Cond.code y bytes mx rt).before a s = true := by
  simp only [Bool.and_eq_true, beq_iff_eq, Bool.not_eq_true', decide_eq_true_eq] at h5
  obtain ⟨⟨⟨⟨⟨g1, g2⟩, g3⟩, g4⟩, g5⟩, g6⟩ := h5
  simp [Cond.before, Cond.holds, Cond.value, h1, h2, h3, h4, g1, g2, g3, g4, g5, g6]
def isCode : Jvm.Cond → Bool
  | .code _ _ _ _ => true
  | _ => false
theorem all_split {L : List Jvm.Cond} {P : Jvm.Cond → Bool} (h1 : L.all (fun c => isCode c || P c) = true) (h2 : ∀ c ∈ L.filter isCode, P c = true) : L.all P = true := by
  refine List.all_eq_true.mpr fun c hc => ?_
  have h := List.all_eq_true.mp h1 c hc
  rcases Bool.eq_false_or_eq_true (isCode c) with hi | hi
  · exact h2 c (List.mem_filter.mpr ⟨hc, hi⟩)
  · simpa [hi] using h
set_option maxRecDepth 65536 in
theorem w_c0 : (Jvm.Cond.code x code maxLocals ret).before args0 about1 = true := code_word (m := ⟨1, 2⟩) (meth := k1m2) (c := k1c2) (by decide +kernel) rfl rfl rfl (by decide +kernel)
set_option maxRecDepth 65536 in
theorem w_c1 : (Jvm.Cond.code ({ cls := "com/example/gather/gather/model/FeedStateGetConditionPinLaw", name := "draw", desc := "(II)Ljava/lang/String;" } : Jvm.MethodName) method_2_code (4 : Nat) (Option.some (Jvm.ClassFile.FieldType.object "java/lang/String"))).before args0 about1 = true := code_word (m := ⟨1, 1⟩) (meth := k1m1) (c := k1c1) (by decide +kernel) rfl rfl rfl (by decide +kernel)
set_option maxRecDepth 65536 in
theorem w_c2 : (Jvm.Cond.code ({ cls := "com/example/gather/gather/model/FeedState", name := "<init>", desc := "(ZLjava/lang/String;Ljava/lang/String;Ljava/lang/String;Ljava/lang/String;)V" } : Jvm.MethodName) prog_41_method_1_code (6 : Nat) (Option.none : Option Jvm.ClassFile.FieldType)).before args0 about1 = true := code_word (m := ⟨2, 0⟩) (meth := k2m0) (c := k2c0) (by decide +kernel) rfl rfl rfl (by decide +kernel)
set_option maxRecDepth 65536 in
theorem w_c3 : (Jvm.Cond.code ({ cls := "java/lang/Object", name := "<init>", desc := "()V" } : Jvm.MethodName) object_method_1_code (1 : Nat) (Option.none : Option Jvm.ClassFile.FieldType)).before args0 about1 = true := code_word (m := ⟨0, 0⟩) (meth := k0m0) (c := k0c0) (by decide +kernel) rfl rfl rfl (by decide +kernel)
set_option maxRecDepth 65536 in
theorem w_c4 : (Jvm.Cond.code ({ cls := "com/example/gather/gather/model/FeedState", name := "getCondition", desc := "()Lcom/example/gather/gather/model/FeedState$Condition;" } : Jvm.MethodName) prog_41_method_2_code (1 : Nat) (Option.some (Jvm.ClassFile.FieldType.object "com/example/gather/gather/model/FeedState$Condition"))).before args0 about1 = true := code_word (m := ⟨2, 1⟩) (meth := k2m1) (c := k2c1) (by decide +kernel) rfl rfl rfl (by decide +kernel)
set_option maxRecDepth 65536 in
theorem w_c5 : (Jvm.Cond.code ({ cls := "java/lang/String", name := "<init>", desc := "([C)V" } : Jvm.MethodName) jdk_42_method_3_code (2 : Nat) (Option.none : Option Jvm.ClassFile.FieldType)).before args0 about1 = true := code_word (m := ⟨10, 1⟩) (meth := k10m1) (c := k10c1) (by decide +kernel) rfl rfl rfl (by decide +kernel)
set_option maxRecDepth 65536 in
theorem w_c6 : (Jvm.Cond.code ({ cls := "java/lang/String", name := "<init>", desc := "([CIILjava/lang/Void;)V" } : Jvm.MethodName) jdk_42_method_149_code (6 : Nat) (Option.none : Option Jvm.ClassFile.FieldType)).before args0 about1 = true := code_word (m := ⟨10, 3⟩) (meth := k10m3) (c := k10c3) (by decide +kernel) rfl rfl rfl (by decide +kernel)
set_option maxRecDepth 65536 in
theorem w_c7 : (Jvm.Cond.code ({ cls := "java/lang/StringUTF16", name := "compress", desc := "([CII)[B" } : Jvm.MethodName) jdk_52_method_16_code (6 : Nat) (Option.some (Jvm.ClassFile.FieldType.array Jvm.ClassFile.FieldType.byte))).before args0 about1 = true := code_word (m := ⟨11, 2⟩) (meth := k11m2) (c := k11c2) (by decide +kernel) rfl rfl rfl (by decide +kernel)
set_option maxRecDepth 65536 in
theorem w_c8 : (Jvm.Cond.code ({ cls := "java/lang/StringUTF16", name := "compress", desc := "([CI[BII)I" } : Jvm.MethodName) jdk_52_method_21_code (7 : Nat) (Option.some Jvm.ClassFile.FieldType.int)).before args0 about1 = true := code_word (m := ⟨11, 3⟩) (meth := k11m3) (c := k11c3) (by decide +kernel) rfl rfl rfl (by decide +kernel)
set_option maxRecDepth 65536 in
theorem w_c9 : (Jvm.Cond.code ({ cls := "java/lang/StringUTF16", name := "coderFromArrayLen", desc := "([BI)B" } : Jvm.MethodName) jdk_52_method_15_code (2 : Nat) (Option.some Jvm.ClassFile.FieldType.byte)).before args0 about1 = true := code_word (m := ⟨11, 1⟩) (meth := k11m1) (c := k11c1) (by decide +kernel) rfl rfl rfl (by decide +kernel)
set_option maxRecDepth 65536 in
theorem w_c10 : (Jvm.Cond.code ({ cls := "java/lang/String", name := "valueOf", desc := "(C)Ljava/lang/String;" } : Jvm.MethodName) jdk_42_method_139_code (1 : Nat) (Option.some (Jvm.ClassFile.FieldType.object "java/lang/String"))).before args0 about1 = true := code_word (m := ⟨10, 2⟩) (meth := k10m2) (c := k10c2) (by decide +kernel) rfl rfl rfl (by decide +kernel)
set_option maxRecDepth 65536 in
theorem w_c11 : (Jvm.Cond.code ({ cls := "java/lang/StringLatin1", name := "canEncode", desc := "(C)Z" } : Jvm.MethodName) jdk_43_method_3_code (1 : Nat) (Option.some Jvm.ClassFile.FieldType.boolean)).before args0 about1 = true := code_word (m := ⟨12, 1⟩) (meth := k12m1) (c := k12c1) (by decide +kernel) rfl rfl rfl (by decide +kernel)
set_option maxRecDepth 65536 in
theorem w_c12 : (Jvm.Cond.code ({ cls := "java/lang/StringLatin1", name := "toBytes", desc := "(C)[B" } : Jvm.MethodName) jdk_43_method_46_code (1 : Nat) (Option.some (Jvm.ClassFile.FieldType.array Jvm.ClassFile.FieldType.byte))).before args0 about1 = true := code_word (m := ⟨12, 2⟩) (meth := k12m2) (c := k12c2) (by decide +kernel) rfl rfl rfl (by decide +kernel)
set_option maxRecDepth 65536 in
theorem w_c13 : (Jvm.Cond.code ({ cls := "java/lang/String", name := "<init>", desc := "([BB)V" } : Jvm.MethodName) jdk_42_method_151_code (3 : Nat) (Option.none : Option Jvm.ClassFile.FieldType)).before args0 about1 = true := code_word (m := ⟨10, 4⟩) (meth := k10m4) (c := k10c4) (by decide +kernel) rfl rfl rfl (by decide +kernel)
def codes1 : List Jvm.Cond := [Jvm.Cond.code x code maxLocals ret, Jvm.Cond.code ({ cls := "com/example/gather/gather/model/FeedStateGetConditionPinLaw", name := "draw", desc := "(II)Ljava/lang/String;" } : Jvm.MethodName) method_2_code (4 : Nat) (Option.some (Jvm.ClassFile.FieldType.object "java/lang/String")), Jvm.Cond.code ({ cls := "com/example/gather/gather/model/FeedState", name := "<init>", desc := "(ZLjava/lang/String;Ljava/lang/String;Ljava/lang/String;Ljava/lang/String;)V" } : Jvm.MethodName) prog_41_method_1_code (6 : Nat) (Option.none : Option Jvm.ClassFile.FieldType), Jvm.Cond.code ({ cls := "java/lang/Object", name := "<init>", desc := "()V" } : Jvm.MethodName) object_method_1_code (1 : Nat) (Option.none : Option Jvm.ClassFile.FieldType), Jvm.Cond.code ({ cls := "com/example/gather/gather/model/FeedState", name := "getCondition", desc := "()Lcom/example/gather/gather/model/FeedState$Condition;" } : Jvm.MethodName) prog_41_method_2_code (1 : Nat) (Option.some (Jvm.ClassFile.FieldType.object "com/example/gather/gather/model/FeedState$Condition")), Jvm.Cond.code ({ cls := "java/lang/String", name := "<init>", desc := "([C)V" } : Jvm.MethodName) jdk_42_method_3_code (2 : Nat) (Option.none : Option Jvm.ClassFile.FieldType), Jvm.Cond.code ({ cls := "java/lang/String", name := "<init>", desc := "([CIILjava/lang/Void;)V" } : Jvm.MethodName) jdk_42_method_149_code (6 : Nat) (Option.none : Option Jvm.ClassFile.FieldType), Jvm.Cond.code ({ cls := "java/lang/StringUTF16", name := "compress", desc := "([CII)[B" } : Jvm.MethodName) jdk_52_method_16_code (6 : Nat) (Option.some (Jvm.ClassFile.FieldType.array Jvm.ClassFile.FieldType.byte)), Jvm.Cond.code ({ cls := "java/lang/StringUTF16", name := "compress", desc := "([CI[BII)I" } : Jvm.MethodName) jdk_52_method_21_code (7 : Nat) (Option.some Jvm.ClassFile.FieldType.int), Jvm.Cond.code ({ cls := "java/lang/StringUTF16", name := "coderFromArrayLen", desc := "([BI)B" } : Jvm.MethodName) jdk_52_method_15_code (2 : Nat) (Option.some Jvm.ClassFile.FieldType.byte), Jvm.Cond.code ({ cls := "java/lang/String", name := "valueOf", desc := "(C)Ljava/lang/String;" } : Jvm.MethodName) jdk_42_method_139_code (1 : Nat) (Option.some (Jvm.ClassFile.FieldType.object "java/lang/String")), Jvm.Cond.code ({ cls := "java/lang/StringLatin1", name := "canEncode", desc := "(C)Z" } : Jvm.MethodName) jdk_43_method_3_code (1 : Nat) (Option.some Jvm.ClassFile.FieldType.boolean), Jvm.Cond.code ({ cls := "java/lang/StringLatin1", name := "toBytes", desc := "(C)[B" } : Jvm.MethodName) jdk_43_method_46_code (1 : Nat) (Option.some (Jvm.ClassFile.FieldType.array Jvm.ClassFile.FieldType.byte)), Jvm.Cond.code ({ cls := "java/lang/String", name := "<init>", desc := "([BB)V" } : Jvm.MethodName) jdk_42_method_151_code (3 : Nat) (Option.none : Option Jvm.ClassFile.FieldType)]
set_option maxRecDepth 65536 in
theorem codes_eq : words1.filter isCode = codes1 := rfl
theorem w_codes : ∀ c ∈ words1.filter isCode, c.before args0 about1 = true := by
  rw [codes_eq]
  intro c hc
  simp only [codes1, List.mem_cons, List.not_mem_nil, or_false] at hc
  rcases hc with rfl | rfl | rfl | rfl | rfl | rfl | rfl | rfl | rfl | rfl | rfl | rfl | rfl | rfl
  · exact w_c0
  · exact w_c1
  · exact w_c2
  · exact w_c3
  · exact w_c4
  · exact w_c5
  · exact w_c6
  · exact w_c7
  · exact w_c8
  · exact w_c9
  · exact w_c10
  · exact w_c11
  · exact w_c12
  · exact w_c13
set_option maxRecDepth 65536 in
theorem w_t1 : (words1.take 24).all (fun c => isCode c || c.before args0 about1) = true := by decide +kernel
set_option maxRecDepth 65536 in
theorem w_t2 : ((words1.drop 24).take 24).all (fun c => isCode c || c.before args0 about1) = true := by decide +kernel
set_option maxRecDepth 65536 in
theorem w_t3 : (((words1.drop 24).drop 24).take 24).all (fun c => isCode c || c.before args0 about1) = true := by decide +kernel
set_option maxRecDepth 65536 in
theorem w_t4 : (((words1.drop 24).drop 24).drop 24).all (fun c => isCode c || c.before args0 about1) = true := by decide +kernel
theorem w_tables : (allAtoms (Jvm.Cond.code x code maxLocals ret :: tables_1)).before args0 about1 = true := by
  rw [allAtoms_all]
  show words1.all (fun c => c.before args0 about1) = true
  refine all_split ?_ w_codes
  rw [← List.take_append_drop 24 words1, List.all_append, w_t1, ← List.take_append_drop 24 (words1.drop 24), List.all_append, w_t2, ← List.take_append_drop 24 ((words1.drop 24).drop 24), List.all_append, w_t3, w_t4]
  rfl
set_option maxRecDepth 65536 in
theorem w_rest : rest_1_c.before args0 about1 = true := by decide +kernel
set_option maxRecDepth 65536 in
theorem w_case : (Jvm.Cond.and given_1 narrow_1).before args0 about1 = true := by decide +kernel
set_option maxRecDepth 65536 in
theorem w_consts : constsHeld consts_1 about1 := Jvm.Lit.constsHeldB_iff.mp (by decide +kernel)
theorem w_applies : (headSpec (Jvm.Cond.code x code maxLocals ret :: tables_1) room_1).applies x e0.platform about1 = true :=
  (Spec.applies_iff w_frames).mpr ⟨w_running, w_runnable, w_alone, w_named, w_hears, w_ripe, w_room, w_tables⟩
theorem atStart : AtStart classFile x code maxLocals ret World_1 tables_1 room_1 Calls_1 rest_1 Pre_1 launch0 p0 e0 about1 theMethod args0 below0 :=
  ⟨lists_1, trivial, launch0.admits_env _ _ _, launch0.least_env, fairChoices_fair.cas, fairChoices_fair.clock, w_frames, w_args, w_heap, w_applies, ⟨w_consts, trivial⟩, w_rest, w_case⟩
end start1
theorem witness_1 : WitnessClaimed_1 := ⟨start1.p0, start1.e0, start1.about1, start1.theMethod, start1.args0, start1.below0, start1.atStart⟩
end Jvm.Pilot.@@N@@
