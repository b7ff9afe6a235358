import JvmDerived
import JvmDerived.Pilot.@@N@@Statement
import JvmDerived.Pilot.@@N@@Code
set_option linter.unusedVariables false
set_option linter.unusedSimpArgs false
/- laws to paste: Road.backV, Road.eqW, Road.codOf (cut by pick.py; bodies as the Statement names them) -/
namespace Jvm.Pilot.@@N@@
namespace StrChars
open Jvm Sem ClassFile Op Lib Jvm.Stand Jvm.Free.XT Jvm.Free.ALB Jvm.Free.JM Jvm.Free
open Jvm.Lib.Cold (StaticIs)
/-- a char array whose places are chars -/
def Ch (a : Addr) (A : Cell) (U : State) : Prop := Arr .char a A U ∧ Typed .char A
theorem Ch.mv {a : Addr} {A : Cell} {U U' : State} (h : Ch a A U) (hal : U.vm.Alike U'.vm) (hh : U'.heap = U.heap) : Ch a A U' := ⟨h.1.mv hal hh, h.2⟩
theorem Ch.keep {a : Addr} {A : Cell} {U U' : State} (h : Ch a A U) (hal : U.vm.Alike U'.vm) (hk : U'.heap[a]? = some A) : Ch a A U' := ⟨h.1.keep hal hk, h.2⟩
/-- what place i of a char[]'s cell holds -/
def cv (A : Cell) (i : Nat) : Int32 := match A.slots[i]? with | some (.int x) => x | _ => 0
theorem Ch.get {a : Addr} {A : Cell} {U : State} (h : Ch a A U) {i : Nat} (hi : i < A.slots.size) : A.slots[i]? = some (.int (cv A i)) := by
  have e := Array.getElem?_eq_getElem hi
  have f := h.2 i _ e
  unfold cv; rw [e]
  generalize A.slots[i] = v at f
  cases v <;> simp [fits] at f ⊢
/-- the byte that i2b leaves of a char -/
def lo8 (x : Int32) : Int32 := x.toInt8.toInt32
theorem fits_lo8 (y : Int32) : fits .byte (.int (lo8 y)) = true := by
  have h1 := y.toInt8.le_toInt
  have h2 := y.toInt8.toInt_lt
  simp only [lo8, fits, Bool.and_eq_true, decide_eq_true_eq, Int32.le_iff_toInt_le, Int8.toInt_toInt32, show (-128 : Int32).toInt = -128 from by decide, show (127 : Int32).toInt = 127 from by decide]
  omega
/-- A' is A but that each place j of lo .. hi - 1 holds f j -/
def Laid (A A' : Cell) (lo hi : Nat) (f : Nat → Value) : Prop := A'.cls = A.cls ∧ A'.vm = A.vm ∧ A'.slots.size = A.slots.size ∧ ∀ i, A'.slots[i]? = if lo ≤ i ∧ i < hi then some (f i) else A.slots[i]?
theorem Laid.zero (A : Cell) (lo : Nat) (f : Nat → Value) : Laid A A lo (lo + 0) f := ⟨rfl, rfl, rfl, fun i => by rw [if_neg (by omega)]⟩
theorem Laid.step {A Ak : Cell} {lo k : Nat} {f : Nat → Value} {v : Value} (h : Laid A Ak lo k f) (hlo : lo ≤ k) (hk : k < Ak.slots.size) (hv : v = f k) : Laid A (Ak.setSlot k v) lo (k + 1) f := by
  refine ⟨h.1, h.2.1, by simpa [Cell.setSlot] using h.2.2.1, fun i => ?_⟩
  by_cases e : k = i
  · subst e; rw [Cell.slots_setSlot_self v hk, if_pos (by omega), hv]
  · rw [Cell.slots_setSlot_ne v e, h.2.2.2 i]
    by_cases q : lo ≤ i ∧ i < k
    · rw [if_pos q, if_pos (by omega)]
    · rw [if_neg q, if_neg (by omega)]
def U16 : String := "java/lang/StringUTF16"
namespace Cmp5
def yN : MethodName := ⟨"java/lang/StringUTF16", "compress", "([CI[BII)I"⟩
abbrev yB : ByteArray := jdk_52_method_21_code
theorem d0 : decode yB 0 = .ok (.iconst 0, 1) := by decide +kernel
theorem d1 : decode yB 1 = .ok (.istore 5, 2) := by decide +kernel
theorem d3 : decode yB 3 = .ok (.iload 5, 2) := by decide +kernel
theorem d5 : decode yB 5 = .ok (.iload 4, 2) := by decide +kernel
theorem d7 : decode yB 7 = .ok (.if_icmp (.ge) 37, 3) := by decide +kernel
theorem d10 : decode yB 10 = .ok (.aload_n 0, 1) := by decide +kernel
theorem d11 : decode yB 11 = .ok (.iload_n 1, 1) := by decide +kernel
theorem d12 : decode yB 12 = .ok (.caload, 1) := by decide +kernel
theorem d13 : decode yB 13 = .ok (.istore 6, 2) := by decide +kernel
theorem d15 : decode yB 15 = .ok (.iload 6, 2) := by decide +kernel
theorem d17 : decode yB 17 = .ok (.sipush 255, 3) := by decide +kernel
theorem d20 : decode yB 20 = .ok (.if_icmp (.le) 6, 3) := by decide +kernel
theorem d26 : decode yB 26 = .ok (.aload_n 2, 1) := by decide +kernel
theorem d27 : decode yB 27 = .ok (.iload_n 3, 1) := by decide +kernel
theorem d28 : decode yB 28 = .ok (.iload 6, 2) := by decide +kernel
theorem d30 : decode yB 30 = .ok (.i2b, 1) := by decide +kernel
theorem d31 : decode yB 31 = .ok (.bastore, 1) := by decide +kernel
theorem d32 : decode yB 32 = .ok (.iinc 1 1, 3) := by decide +kernel
theorem d35 : decode yB 35 = .ok (.iinc 3 1, 3) := by decide +kernel
theorem d38 : decode yB 38 = .ok (.iinc 5 1, 3) := by decide +kernel
theorem d41 : decode yB 41 = .ok (.goto (-38), 3) := by decide +kernel
theorem d44 : decode yB 44 = .ok (.iload 4, 2) := by decide +kernel
theorem d46 : decode yB 46 = .ok (.ireturn, 1) := by decide +kernel
def site : List Cond := []
def tab : Cond := tabOf yN yB 7 (some .int) site
def P (b : Addr) (A : Cell) (d : Addr) (B : Cell) (o q len : Nat) (args : Array Value) (s : State) : Prop := args = #[.ref b, .int (Int32.ofNat o), .ref d, .int (Int32.ofNat q), .int (Int32.ofNat len)] ∧ Ch b A s ∧ Arr .byte d B s ∧ b ≠ d ∧ o + len ≤ A.slots.size ∧ q + len ≤ B.slots.size ∧ ∀ i, i < len → ¬ 255 < cv A (o + i)
def E (b : Addr) (A : Cell) (d : Addr) (B : Cell) (o q len : Nat) (r : Option Value) (s u : State) : Prop := r = some (.int (Int32.ofNat len)) ∧ ∃ B', Put d B' s u ∧ Laid B B' q (q + len) (fun j => Value.int (lo8 (cv A (o + (j - q)))))
/-- no char of the range above 255: len; the places written hold each char's low byte -/
theorem law (l : Launch) (b : Addr) (A : Cell) (d : Addr) (B : Cell) (o q len : Nat) : Law l yN 5 5 0 0 yB 7 (some .int) site (P b A d B o q len) (E b A d B o q len) (copyLocs d q len) 0 0 := by
  refine Law.of_walk (plainFor_of_name (by decide +kernel)) (by decide +kernel) (by decide +kernel) (by decide) (fun _ _ h => by rw [h.1]; rfl) (fun _ U U' hal hh h => ⟨h.1, h.2.1.mv hal hh, h.2.2.1.mv hal hh, h.2.2.2⟩) (fun r U U' V V' h1 hal h2 h => ⟨h.1, h.2.elim fun B' q => ⟨B', q.1.mv h1 h2, q.2⟩⟩) ?_
  intro p e s m args below meth c s₁ X0 hexec hbytes hml hret hlk hnm hown hh0 W hP
  obtain ⟨rfl, hA, hB, hne, l1, l2, hp⟩ := hP
  have c1 : Steps p.tables e below (s₁.setTop (entryFrame m #[.ref b, .int (Int32.ofNat o), .ref d, .int (Int32.ofNat q), .int (Int32.ofNat len)] 7)) (s₁.setTop (mkF m 0 #[.val (.ref b), .val (.int (Int32.ofNat o)), .val (.ref d), .val (.int (Int32.ofNat q)), .val (.int (Int32.ofNat len)), .unset, .unset] [])) := entry rfl
  have hA0 := hA.1.mv X0.warmed.alike hh0
  have hB0 := hB.mv X0.warmed.alike hh0
  have a31 := hA.1.2.2.2
  have c2 : Steps p.tables e below (s₁.setTop (entryFrame m #[.ref b, .int (Int32.ofNat o), .ref d, .int (Int32.ofNat q), .int (Int32.ofNat len)] 7)) (s₁.setTop (mkF m 3 #[.val (.ref b), .val (.int (Int32.ofNat o)), .val (.ref d), .val (.int (Int32.ofNat q)), .val (.int (Int32.ofNat len)), .val (.int 0), .unset] [])) := c1.trans (by
    refine iconstV X0.here hexec rfl 0 (hb hbytes d0) (by decide) ?_
    refine XS.istore X0.here hexec rfl (hb hbytes d1) rfl rfl ?_
    exact Steps.refl _)
  have loop : ∀ (r i : Nat), i + r = len → ∀ (z : Slot), (z = .unset ∨ ∃ w, z = .val w ∧ w.category = 1) → ∀ (Tl : State) (Bk : Cell), Stand p l e { frames := 0, locals := 0, cells := 0, slots := 0 } s m #[.ref b, .int (Int32.ofNat o), .ref d, .int (Int32.ofNat q), .int (Int32.ofNat len)] below meth c Tl ([] ++ copyLocs d q i) 0 0 → Put d Bk s₁ Tl → Laid B Bk q (q + i) (fun j => Value.int (lo8 (cv A (o + (j - q))))) →
      Steps p.tables e below (s₁.setTop (entryFrame m #[.ref b, .int (Int32.ofNat o), .ref d, .int (Int32.ofNat q), .int (Int32.ofNat len)] 7)) (Tl.setTop (mkF m 3 #[.val (.ref b), .val (.int (Int32.ofNat (o + i))), .val (.ref d), .val (.int (Int32.ofNat (q + i))), .val (.int (Int32.ofNat len)), .val (.int (Int32.ofNat i)), z] [])) → ∃ (T' : State) (B' : Cell) (z' : Slot), Stand p l e { frames := 0, locals := 0, cells := 0, slots := 0 } s m #[.ref b, .int (Int32.ofNat o), .ref d, .int (Int32.ofNat q), .int (Int32.ofNat len)] below meth c T' ([] ++ copyLocs d q len) 0 0 ∧ Put d B' s₁ T' ∧ Laid B B' q (q + len) (fun j => Value.int (lo8 (cv A (o + (j - q))))) ∧
      Steps p.tables e below (s₁.setTop (entryFrame m #[.ref b, .int (Int32.ofNat o), .ref d, .int (Int32.ofNat q), .int (Int32.ofNat len)] 7)) (T'.setTop (mkF m 3 #[.val (.ref b), .val (.int (Int32.ofNat (o + len))), .val (.ref d), .val (.int (Int32.ofNat (q + len))), .val (.int (Int32.ofNat len)), .val (.int (Int32.ofNat len)), z'] [])) := by
    intro r
    induction r with
    | zero =>
      intro i hi z hz Tl Bk Xl pl fl cl
      have hil : i = len := by omega
      rw [hil] at Xl fl cl
      exact ⟨Tl, Bk, z, Xl, pl, fl, cl⟩
    | succ r ih =>
      intro i hi z hz Tl Bk Xl pl fl cl
      have all := X0.warmed.alike.symm.trans Xl.warmed.alike
      have hAl := hA0.keep all (pl.other hne hA0.1)
      have hBk := hB0.like all pl.1 fl.1 fl.2.1 fl.2.2.1
      have hlt : q + i < Bk.slots.size := by rw [fl.2.2.1]; omega
      have c3 : Steps p.tables e below (s₁.setTop (entryFrame m #[.ref b, .int (Int32.ofNat o), .ref d, .int (Int32.ofNat q), .int (Int32.ofNat len)] 7)) (Tl.setTop (mkF m 12 #[.val (.ref b), .val (.int (Int32.ofNat (o + i))), .val (.ref d), .val (.int (Int32.ofNat (q + i))), .val (.int (Int32.ofNat len)), .val (.int (Int32.ofNat i)), z] [.int (Int32.ofNat (o + i)), .ref b])) := cl.trans (by
        refine XS.iload Xl.here hexec rfl (hb hbytes d3) rfl ?_
        refine XS.iload Xl.here hexec rfl (hb hbytes d5) rfl ?_
        refine XS.icmpNo Xl.here hexec rfl (hb hbytes d7) rfl (ii_ge_f (lt32 (by omega) (by omega))) ?_
        refine XS.aloadN Xl.here hexec rfl (hb hbytes d10) rfl rfl ?_
        refine XS.iloadN Xl.here hexec rfl (hb hbytes d11) rfl ?_
        exact Steps.refl _)
      have c4 : Steps p.tables e below (s₁.setTop (entryFrame m #[.ref b, .int (Int32.ofNat o), .ref d, .int (Int32.ofNat q), .int (Int32.ofNat len)] 7)) (Tl.setTop (mkF m 13 #[.val (.ref b), .val (.int (Int32.ofNat (o + i))), .val (.ref d), .val (.int (Int32.ofNat (q + i))), .val (.int (Int32.ofNat len)), .val (.int (Int32.ofNat i)), z] [.int (cv A (o + i))])) := c3.trans (by
        refine Xl.aget hexec hAl rfl (hA.get (i := o + i) (by omega)) rfl rfl (hb hbytes d12) ?_
        exact Steps.refl _)
      have c5 : Steps p.tables e below (s₁.setTop (entryFrame m #[.ref b, .int (Int32.ofNat o), .ref d, .int (Int32.ofNat q), .int (Int32.ofNat len)] 7)) (Tl.setTop (mkF m 15 #[.val (.ref b), .val (.int (Int32.ofNat (o + i))), .val (.ref d), .val (.int (Int32.ofNat (q + i))), .val (.int (Int32.ofNat len)), .val (.int (Int32.ofNat i)), .val (.int (cv A (o + i)))] [])) := c4.trans (by
        refine XS.istoreS Xl.here hexec rfl (hb hbytes d13) rfl rfl hz ?_
        exact Steps.refl _)
      have c6 : Steps p.tables e below (s₁.setTop (entryFrame m #[.ref b, .int (Int32.ofNat o), .ref d, .int (Int32.ofNat q), .int (Int32.ofNat len)] 7)) (Tl.setTop (mkF m 31 #[.val (.ref b), .val (.int (Int32.ofNat (o + i))), .val (.ref d), .val (.int (Int32.ofNat (q + i))), .val (.int (Int32.ofNat len)), .val (.int (Int32.ofNat i)), .val (.int (cv A (o + i)))] [.int (lo8 (cv A (o + i))), .int (Int32.ofNat (q + i)), .ref d])) := c5.trans (by
        refine XS.iload Xl.here hexec rfl (hb hbytes d15) rfl ?_
        refine sipushV Xl.here hexec rfl 255 (hb hbytes d17) (by decide) ?_
        refine XS.icmpYes Xl.here hexec rfl (pc0 := 20) rfl (hb hbytes d20) rfl (ii_le_t (hp i (by omega))) (by decide) rfl ?_
        refine XS.aloadN Xl.here hexec rfl (hb hbytes d26) rfl rfl ?_
        refine XS.iloadN Xl.here hexec rfl (hb hbytes d27) rfl ?_
        refine XS.iload Xl.here hexec rfl (hb hbytes d28) rfl ?_
        refine i2b Xl.here hexec rfl (hb hbytes d30) rfl ?_
        exact Steps.refl _)
      obtain ⟨T7, X7, p7, st7⟩ := Xl.aput hexec hBk rfl hlt rfl (fits_lo8 (cv A (o + i))) (g := (mkF m 31 #[.val (.ref b), .val (.int (Int32.ofNat (o + i))), .val (.ref d), .val (.int (Int32.ofNat (q + i))), .val (.int (Int32.ofNat len)), .val (.int (Int32.ofNat i)), .val (.int (cv A (o + i)))] [.int (lo8 (cv A (o + i))), .int (Int32.ofNat (q + i)), .ref d])) rfl (rest := []) rfl (hb hbytes d31)
      have c8 : Steps p.tables e below (s₁.setTop (entryFrame m #[.ref b, .int (Int32.ofNat o), .ref d, .int (Int32.ofNat q), .int (Int32.ofNat len)] 7)) (T7.setTop (mkF m 32 #[.val (.ref b), .val (.int (Int32.ofNat (o + i))), .val (.ref d), .val (.int (Int32.ofNat (q + i))), .val (.int (Int32.ofNat len)), .val (.int (Int32.ofNat i)), .val (.int (cv A (o + i)))] [])) := c6.trans (st7 _ (Steps.refl _))
      have c9 : Steps p.tables e below (s₁.setTop (entryFrame m #[.ref b, .int (Int32.ofNat o), .ref d, .int (Int32.ofNat q), .int (Int32.ofNat len)] 7)) (T7.setTop (mkF m 3 #[.val (.ref b), .val (.int (Int32.ofNat (o + i) + 1)), .val (.ref d), .val (.int (Int32.ofNat (q + i) + 1)), .val (.int (Int32.ofNat len)), .val (.int (Int32.ofNat i + 1)), .val (.int (cv A (o + i)))] [])) := c8.trans (by
        refine iincV X7.here hexec rfl 1 (hb hbytes d32) (by decide) rfl rfl ?_
        refine iincV X7.here hexec rfl 1 (hb hbytes d35) (by decide) rfl rfl ?_
        refine iincV X7.here hexec rfl 1 (hb hbytes d38) (by decide) rfl rfl ?_
        refine XS.goto X7.here hexec rfl (pc0 := 41) rfl (hb hbytes d41) (by decide) rfl ?_
        exact Steps.refl _)
      have c10 : Steps p.tables e below (s₁.setTop (entryFrame m #[.ref b, .int (Int32.ofNat o), .ref d, .int (Int32.ofNat q), .int (Int32.ofNat len)] 7)) (T7.setTop (mkF m 3 #[.val (.ref b), .val (.int (Int32.ofNat (o + (i + 1)))), .val (.ref d), .val (.int (Int32.ofNat (q + (i + 1)))), .val (.int (Int32.ofNat len)), .val (.int (Int32.ofNat (i + 1))), .val (.int (cv A (o + i)))] [])) := by
        have := c9
        rw [succ32, succ32, succ32] at this
        exact this
      exact ih (i + 1) (by omega) _ (Or.inr ⟨_, rfl, rfl⟩) T7 _ (by rw [copyLocs_step, ← List.append_assoc]; exact X7) (pl.trans p7) (fl.step (by omega) hlt (by simp)) c10
  obtain ⟨T9, B9, z9, X9, p9, f9, g9⟩ := loop len 0 (by omega) .unset (Or.inl rfl) s₁ B (by simpa [copyLocs] using X0) ⟨hB0.1, fun _ _ => rfl, rfl⟩ (Laid.zero _ _ _) c2
  have c11 : Steps p.tables e below (s₁.setTop (entryFrame m #[.ref b, .int (Int32.ofNat o), .ref d, .int (Int32.ofNat q), .int (Int32.ofNat len)] 7)) (T9.setTop (mkF m 46 #[.val (.ref b), .val (.int (Int32.ofNat (o + len))), .val (.ref d), .val (.int (Int32.ofNat (q + len))), .val (.int (Int32.ofNat len)), .val (.int (Int32.ofNat len)), z9] [.int (Int32.ofNat len)])) := g9.trans (by
    refine XS.iload X9.here hexec rfl (hb hbytes d3) rfl ?_
    refine XS.iload X9.here hexec rfl (hb hbytes d5) rfl ?_
    refine XS.icmpYes X9.here hexec rfl (pc0 := 7) rfl (hb hbytes d7) rfl (ii_ge_t (nlt32 (by omega) (Nat.le_refl _))) (by decide) rfl ?_
    refine XS.iload X9.here hexec rfl (hb hbytes d44) rfl ?_
    exact Steps.refl _)
  exact ⟨T9, some (.int (Int32.ofNat len)), _, _, _, X9, by simp, rfl, rfl, (fun h => by cases h), ⟨rfl, B9, p9.from hh0, f9⟩, fun fs hl => c11.trans (X9.ireturnOut hexec hret rfl (Or.inl rfl) (hb hbytes d46) hl)⟩
end Cmp5
namespace Cmp3
def yN : MethodName := ⟨"java/lang/StringUTF16", "compress", "([CII)[B"⟩
abbrev yB : ByteArray := jdk_52_method_16_code
theorem d0 : decode yB 0 = .ok (.iload_n 2, 1) := by decide +kernel
theorem d1 : decode yB 1 = .ok (.newarray .byte, 2) := by decide +kernel
theorem d3 : decode yB 3 = .ok (.astore_n 3, 1) := by decide +kernel
theorem d4 : decode yB 4 = .ok (.aload_n 0, 1) := by decide +kernel
theorem d5 : decode yB 5 = .ok (.iload_n 1, 1) := by decide +kernel
theorem d6 : decode yB 6 = .ok (.aload_n 3, 1) := by decide +kernel
theorem d7 : decode yB 7 = .ok (.iconst 0, 1) := by decide +kernel
theorem d8 : decode yB 8 = .ok (.iload_n 2, 1) := by decide +kernel
theorem d9 : decode yB 9 = .ok (.invokestatic 115, 3) := by decide +kernel
theorem d12 : decode yB 12 = .ok (.istore 4, 2) := by decide +kernel
theorem d14 : decode yB 14 = .ok (.iload 4, 2) := by decide +kernel
theorem d16 : decode yB 16 = .ok (.iload_n 2, 1) := by decide +kernel
theorem d17 : decode yB 17 = .ok (.if_icmp (.eq) 40, 3) := by decide +kernel
theorem d57 : decode yB 57 = .ok (.aload_n 3, 1) := by decide +kernel
theorem d58 : decode yB 58 = .ok (.areturn, 1) := by decide +kernel
def site : List Cond := [.arrayClass .byte, Cmp5.tab] ++ staticW U16 115 Cmp5.yN
def tab : Cond := tabOf yN yB 6 (some (.array .byte)) site
def P (b : Addr) (A : Cell) (o len : Nat) (args : Array Value) (s : State) : Prop := args = #[.ref b, .int (Int32.ofNat o), .int (Int32.ofNat len)] ∧ Ch b A s ∧ o + len ≤ A.slots.size ∧ len ≤ 536870912 ∧ ∀ i, i < len → ¬ 255 < cv A (o + i)
def E (b : Addr) (A : Cell) (o len : Nat) (r : Option Value) (s u : State) : Prop := NewArr .byte "[B" len (fun j => .int (lo8 (cv A (o + j)))) r s u ∧ u.heap.size = s.heap.size + 1
/-- no char of the range above 255: a new byte[] of their low bytes -/
theorem law (l : Launch) (b : Addr) (A : Cell) (o len : Nat) : Law l yN 3 3 1 18 yB 6 (some (.array .byte)) site (P b A o len) (E b A o len) [] 1 len := by
  refine Law.of_walk (plainFor_of_name (by decide +kernel)) (by decide +kernel) (by decide +kernel) (by decide) (fun _ _ h => by rw [h.1]; rfl) (fun _ U U' hal hh h => ⟨h.1, h.2.1.mv hal hh, h.2.2⟩) (fun r U U' V V' h1 hal h2 h => ⟨NewArr.mv r U U' V V' h1 hal h2 h.1, by rw [h1, h2]; exact h.2⟩) ?_
  intro p e s m args below meth c s₁ X0 hexec hbytes hml hret hlk hnm hown hh0 W hP
  obtain ⟨rfl, hA, l1, l2, hp⟩ := hP
  have a31 := hA.1.2.2.2
  have c1 : Steps p.tables e below (s₁.setTop (entryFrame m #[.ref b, .int (Int32.ofNat o), .int (Int32.ofNat len)] 6)) (s₁.setTop (mkF m 0 #[.val (.ref b), .val (.int (Int32.ofNat o)), .val (.int (Int32.ofNat len)), .unset, .unset, .unset] [])) := entry rfl
  have c2 : Steps p.tables e below (s₁.setTop (entryFrame m #[.ref b, .int (Int32.ofNat o), .int (Int32.ofNat len)] 6)) (s₁.setTop (mkF m 1 #[.val (.ref b), .val (.int (Int32.ofNat o)), .val (.int (Int32.ofNat len)), .unset, .unset, .unset] [.int (Int32.ofNat len)])) := c1.trans (by
    refine XS.iloadN X0.here hexec rfl (hb hbytes d0) rfl ?_
    exact Steps.refl _)
  obtain ⟨T3, B3, X3, ba3, bs3, bv3, bh3, bf3, st3⟩ := X0.anew hexec (atype := .byte) (wk W (.arrayClass .byte)) rfl (by show len * 1 ≤ _; omega) (by omega) (g := (mkF m 1 #[.val (.ref b), .val (.int (Int32.ofNat o)), .val (.int (Int32.ofNat len)), .unset, .unset, .unset] [.int (Int32.ofNat len)])) rfl (hb hbytes d1) (rest := []) rfl (Nat.le_refl _) (by show 0 + len ≤ len; omega)
  rw [hh0] at ba3 st3
  have kp3 : XT.Kept s T3 := (XT.Kept.of_eq hh0).push bh3
  have hA3 := hA.keep X3.warmed.alike (kp3 _ _ hA.1.1)
  have hne : b ≠ s.heap.size := hA.1.ne
  have c4 : Steps p.tables e below (s₁.setTop (entryFrame m #[.ref b, .int (Int32.ofNat o), .int (Int32.ofNat len)] 6)) (T3.setTop (mkF m 3 #[.val (.ref b), .val (.int (Int32.ofNat o)), .val (.int (Int32.ofNat len)), .unset, .unset, .unset] [.ref s.heap.size])) := c2.trans (st3 _ (Steps.refl _))
  have c5 : Steps p.tables e below (s₁.setTop (entryFrame m #[.ref b, .int (Int32.ofNat o), .int (Int32.ofNat len)] 6)) (T3.setTop (mkF m 9 #[.val (.ref b), .val (.int (Int32.ofNat o)), .val (.int (Int32.ofNat len)), .val (.ref s.heap.size), .unset, .unset] [.int (Int32.ofNat len), .int 0, .ref s.heap.size, .int (Int32.ofNat o), .ref b])) := c4.trans (by
    refine XS.astoreN X3.here hexec rfl (hb hbytes d3) rfl rfl rfl ?_
    refine XS.aloadN X3.here hexec rfl (hb hbytes d4) rfl rfl ?_
    refine XS.iloadN X3.here hexec rfl (hb hbytes d5) rfl ?_
    refine XS.aloadN X3.here hexec rfl (hb hbytes d6) rfl rfl ?_
    refine iconstV X3.here hexec rfl 0 (hb hbytes d7) (by decide) ?_
    refine XS.iloadN X3.here hexec rfl (hb hbytes d8) rfl ?_
    exact Steps.refl _)
  obtain ⟨v6, T6, X6, E6, g6⟩ := X3.callS hexec (Cmp5.law l b A s.heap.size B3 o 0 len) hown (wks W (staticW U16 115 Cmp5.yN)) (wk W Cmp5.tab) (W := 0) (Nat.le_of_ble_eq_true rfl) (Nat.le_of_ble_eq_true rfl) (Nat.le_refl _) (by show 0 + len + 0 ≤ len; omega) (g := (mkF m 9 #[.val (.ref b), .val (.int (Int32.ofNat o)), .val (.int (Int32.ofNat len)), .val (.ref s.heap.size), .unset, .unset] [.int (Int32.ofNat len), .int (Int32.ofNat 0), .ref s.heap.size, .int (Int32.ofNat o), .ref b])) rfl (by rw [hml]; rfl) c5 (argsL := [.ref b, .int (Int32.ofNat o), .ref s.heap.size, .int (Int32.ofNat 0), .int (Int32.ofNat len)]) (rest := []) rfl rfl (by show 2 * 0 + 0 ≤ _; decide) (hb hbytes d9) (⟨rfl, hA3, ba3, hne, l1, by rw [bs3]; simp, hp⟩)
  obtain ⟨rfl, B6, p6, f6⟩ := E6
  have c7 : Steps p.tables e below (s₁.setTop (entryFrame m #[.ref b, .int (Int32.ofNat o), .int (Int32.ofNat len)] 6)) (T6.setTop (mkF m 12 #[.val (.ref b), .val (.int (Int32.ofNat o)), .val (.int (Int32.ofNat len)), .val (.ref s.heap.size), .unset, .unset] [.int (Int32.ofNat len)])) := g6
  have c8 : Steps p.tables e below (s₁.setTop (entryFrame m #[.ref b, .int (Int32.ofNat o), .int (Int32.ofNat len)] 6)) (T6.setTop (mkF m 58 #[.val (.ref b), .val (.int (Int32.ofNat o)), .val (.int (Int32.ofNat len)), .val (.ref s.heap.size), .val (.int (Int32.ofNat len)), .unset] [.ref s.heap.size])) := c7.trans (by
    refine XS.istore X6.here hexec rfl (hb hbytes d12) rfl rfl ?_
    refine XS.iload X6.here hexec rfl (hb hbytes d14) rfl ?_
    refine XS.iloadN X6.here hexec rfl (hb hbytes d16) rfl ?_
    refine XS.icmpYes X6.here hexec rfl (pc0 := 17) rfl (hb hbytes d17) rfl (ii_eq_t rfl) (by decide) rfl ?_
    refine XS.aloadN X6.here hexec rfl (hb hbytes d57) rfl rfl ?_
    exact Steps.refl _)
  have X8 := X6.wide (L' := []) (cells' := 1) (slots' := len) (fun x hx hlt => by
    simp only [List.nil_append, copyLocs, List.mem_map, List.mem_range] at hx
    obtain ⟨i, -, rfl⟩ := hx
    exact absurd hlt (Nat.lt_irrefl _)) (Nat.le_refl _) (by omega)
  exact ⟨T6, some (.ref s.heap.size), _, _, _, X8, rfl, rfl, rfl, (fun h => by cases h), ⟨⟨rfl, B6, ba3.like (X3.warmed.alike.symm.trans X6.warmed.alike) p6.1 f6.1 f6.2.1 f6.2.2.1, f6.2.1.trans bv3, by rw [X6.warmed.alike.findClass, f6.1]; exact bf3, by rw [f6.2.2.1, bs3]; simp, fun j hj => by rw [f6.2.2.2 j, if_pos (by omega)]; rfl, kp3.put p6 (Nat.le_refl _)⟩, by rw [p6.2.2, bh3, hh0]; simp⟩, fun fs hl => c8.trans (X8.areturnOut hexec rfl hret rfl (hb hbytes d58) hl)⟩
end Cmp3
namespace CodL
def yN : MethodName := ⟨"java/lang/StringUTF16", "coderFromArrayLen", "([BI)B"⟩
abbrev yB : ByteArray := jdk_52_method_15_code
theorem d0 : decode yB 0 = .ok (.iload_n 1, 1) := by decide +kernel
theorem d1 : decode yB 1 = .ok (.aload_n 0, 1) := by decide +kernel
theorem d2 : decode yB 2 = .ok (.arraylength, 1) := by decide +kernel
theorem d3 : decode yB 3 = .ok (.isub, 1) := by decide +kernel
theorem d4 : decode yB 4 = .ok (.bipush 31, 2) := by decide +kernel
theorem d6 : decode yB 6 = .ok (.iushr, 1) := by decide +kernel
theorem d7 : decode yB 7 = .ok (.i2b, 1) := by decide +kernel
theorem d8 : decode yB 8 = .ok (.ireturn, 1) := by decide +kernel
def site : List Cond := []
def tab : Cond := tabOf yN yB 2 (some .byte) site
def P (d : Addr) (B : Cell) (args : Array Value) (s : State) : Prop := args = #[.ref d, .int (Int32.ofNat B.slots.size)] ∧ Arr .byte d B s
def E (r : Option Value) (s u : State) : Prop := XT.PureE (some (.int 0)) r s u
/-- an array as long as the number of chars: LATIN1 -/
theorem law (l : Launch) (d : Addr) (B : Cell) : Law l yN 2 2 0 0 yB 2 (some .byte) site (P d B) E [] 0 0 := by
  refine Law.of_walk (plainFor_of_name (by decide +kernel)) (by decide +kernel) (by decide +kernel) (by decide) (fun _ _ h => by rw [h.1]; rfl) (fun _ U U' hal hh h => ⟨h.1, h.2.mv hal hh⟩) (fun r U U' V V' h1 hal h2 h => XT.PureE.mv r U U' V V' h1 hal h2 h) ?_
  intro p e s m args below meth c s₁ X0 hexec hbytes hml hret hlk hnm hown hh0 W hP
  obtain ⟨rfl, hB⟩ := hP
  have hB0 := hB.mv X0.warmed.alike hh0
  have c1 : Steps p.tables e below (s₁.setTop (entryFrame m #[.ref d, .int (Int32.ofNat B.slots.size)] 2)) (s₁.setTop (mkF m 0 #[.val (.ref d), .val (.int (Int32.ofNat B.slots.size))] [])) := entry rfl
  have c2 : Steps p.tables e below (s₁.setTop (entryFrame m #[.ref d, .int (Int32.ofNat B.slots.size)] 2)) (s₁.setTop (mkF m 2 #[.val (.ref d), .val (.int (Int32.ofNat B.slots.size))] [.ref d, .int (Int32.ofNat B.slots.size)])) := c1.trans (by
    refine XS.iloadN X0.here hexec rfl (hb hbytes d0) rfl ?_
    refine XS.aloadN X0.here hexec rfl (hb hbytes d1) rfl rfl ?_
    exact Steps.refl _)
  have c3 : Steps p.tables e below (s₁.setTop (entryFrame m #[.ref d, .int (Int32.ofNat B.slots.size)] 2)) (s₁.setTop (mkF m 8 #[.val (.ref d), .val (.int (Int32.ofNat B.slots.size))] [.int (lo8 (ushr (Int32.ofNat B.slots.size - Int32.ofNat B.slots.size) 31))])) := c2.trans (by
    refine X0.alen hexec hB0 rfl rfl (hb hbytes d2) ?_
    refine XS.isub X0.here hexec rfl (hb hbytes d3) rfl ?_
    refine bipushV X0.here hexec rfl 31 (hb hbytes d4) (by decide) ?_
    refine iushr X0.here hexec rfl (hb hbytes d6) rfl ?_
    refine i2b X0.here hexec rfl (hb hbytes d7) rfl ?_
    exact Steps.refl _)
  have e0 : lo8 (ushr (Int32.ofNat B.slots.size - Int32.ofNat B.slots.size) 31) = 0 := by rw [Int32.sub_self]; decide
  rw [e0] at c3
  exact ⟨s₁, some (.int 0), _, _, _, X0, rfl, rfl, rfl, (fun h => by cases h), ⟨rfl, hh0⟩, fun fs hl => c3.trans (X0.ireturnOut hexec hret rfl (Or.inr (Or.inr (Or.inl rfl))) (hb hbytes d8) hl)⟩
end CodL
/-- the String at a is Latin-1 over a new byte[] (the heap's one new cell): the low bytes of the len chars of A from o on; every cell but a is kept -/
def Got (a : Addr) (D : Cell) (fV fC : Field) (A : Cell) (o len : Nat) (r : Option Value) (s u : State) : Prop := r = none ∧ ∃ D' V : Cell, Blank "java/lang/String" a D' u ∧ Same D D' [fV.slot, fC.slot] ∧ D'.slots[fV.slot]? = some (.ref s.heap.size) ∧ D'.slots[fC.slot]? = some (.int 0) ∧ Arr .byte s.heap.size V u ∧ V.vm = .none ∧ u.vm.findClass "[B" = some V.cls ∧ V.slots.size = len ∧ (∀ j, j < len → V.slots[j]? = some (.int (lo8 (cv A (o + j))))) ∧ (∀ (y : Addr) (c : Cell), y ≠ a → s.heap[y]? = some c → u.heap[y]? = some c) ∧ u.heap.size = s.heap.size + 1
theorem Got.mv {a : Addr} {D A : Cell} {fV fC : Field} {o len : Nat} : ∀ r (U U' V V' : State), U'.heap = U.heap → V.vm.Alike V'.vm → V'.heap = V.heap → Got a D fV fC A o len r U V → Got a D fV fC A o len r U' V' :=
  fun r U U' V V' h1 hal h2 ⟨e0, D', X, a1, a2, a3, a4, a5, a6, a7, a8, a9, a10, a11⟩ => ⟨e0, D', X, a1.mv hal h2, a2, by rw [h1]; exact a3, a4, by rw [h1]; exact a5.mv hal h2, a6, by rw [hal.findClass]; exact a7, a8, a9, by rw [h1, h2]; exact a10, by rw [h1, h2]; exact a11⟩
namespace New4
def yN : MethodName := ⟨"java/lang/String", "<init>", "([CIILjava/lang/Void;)V"⟩
abbrev yB : ByteArray := jdk_42_method_149_code
theorem d0 : decode yB 0 = .ok (.aload_n 0, 1) := by decide +kernel
theorem d1 : decode yB 1 = .ok (.invokespecial 1, 3) := by decide +kernel
theorem d4 : decode yB 4 = .ok (.iload_n 3, 1) := by decide +kernel
theorem d5 : decode yB 5 = .ok (.ifCond (.ne) 22, 3) := by decide +kernel
theorem d27 : decode yB 27 = .ok (.getstatic 38, 3) := by decide +kernel
theorem d30 : decode yB 30 = .ok (.ifCond (.eq) 28, 3) := by decide +kernel
theorem d33 : decode yB 33 = .ok (.aload_n 1, 1) := by decide +kernel
theorem d34 : decode yB 34 = .ok (.iload_n 2, 1) := by decide +kernel
theorem d35 : decode yB 35 = .ok (.iload_n 3, 1) := by decide +kernel
theorem d36 : decode yB 36 = .ok (.invokestatic 177, 3) := by decide +kernel
theorem d39 : decode yB 39 = .ok (.astore 5, 2) := by decide +kernel
theorem d41 : decode yB 41 = .ok (.aload_n 0, 1) := by decide +kernel
theorem d42 : decode yB 42 = .ok (.aload 5, 2) := by decide +kernel
theorem d44 : decode yB 44 = .ok (.iload_n 3, 1) := by decide +kernel
theorem d45 : decode yB 45 = .ok (.invokestatic 47, 3) := by decide +kernel
theorem d48 : decode yB 48 = .ok (.putfield 15, 3) := by decide +kernel
theorem d51 : decode yB 51 = .ok (.aload_n 0, 1) := by decide +kernel
theorem d52 : decode yB 52 = .ok (.aload 5, 2) := by decide +kernel
theorem d54 : decode yB 54 = .ok (.putfield 9, 3) := by decide +kernel
theorem d57 : decode yB 57 = .ok (.return_, 1) := by decide +kernel
def site : List Cond := [.fieldLink "java/lang/String" 38 "java/lang/String" "COMPACT_STRINGS" "Z", Cmp3.tab, CodL.tab, .laysFinal "java/lang/String" "java/lang/String" "value" "[B", .fieldLink "java/lang/String" 9 "java/lang/String" "value" "[B", .laysFinal "java/lang/String" "java/lang/String" "coder" "B", .fieldLink "java/lang/String" 15 "java/lang/String" "coder" "B"] ++ objW "java/lang/String" 1 ++ staticW "java/lang/String" 177 Cmp3.yN ++ staticW "java/lang/String" 47 CodL.yN
def tab : Cond := tabOf yN yB 6 none site
def P (a : Addr) (D : Cell) (fV fC : Field) (b : Addr) (A : Cell) (z : Int32) (o len : Nat) (args : Array Value) (s : State) : Prop := args = #[.ref a, .ref b, .int (Int32.ofNat o), .int (Int32.ofNat len), .null] ∧ Blank "java/lang/String" a D s ∧ Found "java/lang/String" "value" "[B" fV s ∧ Found "java/lang/String" "coder" "B" fC s ∧ Ch b A s ∧ StaticIs s "java/lang/String" "COMPACT_STRINGS" "Z" (.int z) ∧ ¬ z = 0 ∧ 0 < len ∧ o + len ≤ A.slots.size ∧ len ≤ 536870912 ∧ ∀ i, i < len → ¬ 255 < cv A (o + i)
def E (a : Addr) (D : Cell) (fV fC : Field) (A : Cell) (o len : Nat) (r : Option Value) (s u : State) : Prop := Got a D fV fC A o len r s u
/-- len > 0, no char of the range above 255: a Latin-1 String of their low bytes -/
theorem law (l : Launch) (a : Addr) (D : Cell) (fV fC : Field) (b : Addr) (A : Cell) (z : Int32) (o len : Nat) : Law l yN 5 4 2 35 yB 6 none site (P a D fV fC b A z o len) (E a D fV fC A o len) [⟨a, fC.slot⟩, ⟨a, fV.slot⟩] 1 len := by
  refine Law.of_walk (plainFor_of_name (by decide +kernel)) (by decide +kernel) (by decide +kernel) (by decide) (fun _ _ h => by rw [h.1]; rfl) (fun _ U U' hal hh h => ⟨h.1, h.2.1.mv hal hh, h.2.2.1.al hal, h.2.2.2.1.al hal, h.2.2.2.2.1.mv hal hh, h.2.2.2.2.2.1.there hal hh, h.2.2.2.2.2.2⟩) (fun r U U' V V' h1 hal h2 h => Got.mv r U U' V V' h1 hal h2 h) ?_
  intro p e s m args below meth c s₁ X0 hexec hbytes hml hret hlk hnm hown hh0 W hP
  obtain ⟨rfl, hB, f1, f2, hA, s1, hz, l0, l1, l2, hp⟩ := hP
  have a31 := hA.1.2.2.2
  have c1 : Steps p.tables e below (s₁.setTop (entryFrame m #[.ref a, .ref b, .int (Int32.ofNat o), .int (Int32.ofNat len), .null] 6)) (s₁.setTop (mkF m 0 #[.val (.ref a), .val (.ref b), .val (.int (Int32.ofNat o)), .val (.int (Int32.ofNat len)), .val .null, .unset] [])) := entry rfl
  have c2 : Steps p.tables e below (s₁.setTop (entryFrame m #[.ref a, .ref b, .int (Int32.ofNat o), .int (Int32.ofNat len), .null] 6)) (s₁.setTop (mkF m 1 #[.val (.ref a), .val (.ref b), .val (.int (Int32.ofNat o)), .val (.int (Int32.ofNat len)), .val .null, .unset] [.ref a])) := c1.trans (by
    refine XS.aloadN X0.here hexec rfl (hb hbytes d0) rfl rfl ?_
    exact Steps.refl _)
  obtain ⟨T3, X3, q3, st3⟩ := X0.oinit hexec hown (wks W (objW "java/lang/String" 1)) (g := (mkF m 1 #[.val (.ref a), .val (.ref b), .val (.int (Int32.ofNat o)), .val (.int (Int32.ofNat len)), .val .null, .unset] [.ref a])) rfl (by rw [hml]; rfl) (rest := []) rfl (hb hbytes d1) (W := 0) (by show 2 * 0 + 0 ≤ _; decide) (Nat.le_of_ble_eq_true rfl) (Nat.le_of_ble_eq_true rfl)
  have hh3 := q3.trans hh0
  have c4 : Steps p.tables e below (s₁.setTop (entryFrame m #[.ref a, .ref b, .int (Int32.ofNat o), .int (Int32.ofNat len), .null] 6)) (T3.setTop (mkF m 27 #[.val (.ref a), .val (.ref b), .val (.int (Int32.ofNat o)), .val (.int (Int32.ofNat len)), .val .null, .unset] [])) := (c2.trans (st3 _ (Steps.refl _))).trans (by
    refine XS.iloadN X3.here hexec rfl (hb hbytes d4) rfl ?_
    refine XS.ifYes X3.here hexec rfl (pc0 := 5) rfl (hb hbytes d5) rfl (i0_ne_t (nz32 (by omega) l0)) (by decide) rfl ?_
    exact Steps.refl _)
  obtain ⟨T5, X5, q5, st5⟩ := X3.sget hexec hown (wk W (.fieldLink "java/lang/String" 38 "java/lang/String" "COMPACT_STRINGS" "Z")) s1 (fun _ _ h => by rw [hh3]; exact h) (g := (mkF m 27 #[.val (.ref a), .val (.ref b), .val (.int (Int32.ofNat o)), .val (.int (Int32.ofNat len)), .val .null, .unset] [])) rfl (hb hbytes d27)
  have hh5 := q5.trans hh3
  have c6 : Steps p.tables e below (s₁.setTop (entryFrame m #[.ref a, .ref b, .int (Int32.ofNat o), .int (Int32.ofNat len), .null] 6)) (T5.setTop (mkF m 30 #[.val (.ref a), .val (.ref b), .val (.int (Int32.ofNat o)), .val (.int (Int32.ofNat len)), .val .null, .unset] [.int z])) := c4.trans (st5 _ (Steps.refl _))
  have c7 : Steps p.tables e below (s₁.setTop (entryFrame m #[.ref a, .ref b, .int (Int32.ofNat o), .int (Int32.ofNat len), .null] 6)) (T5.setTop (mkF m 36 #[.val (.ref a), .val (.ref b), .val (.int (Int32.ofNat o)), .val (.int (Int32.ofNat len)), .val .null, .unset] [.int (Int32.ofNat len), .int (Int32.ofNat o), .ref b])) := c6.trans (by
    refine XS.ifNo X5.here hexec rfl (hb hbytes d30) rfl (i0_eq_f hz) ?_
    refine XS.aloadN X5.here hexec rfl (hb hbytes d33) rfl rfl ?_
    refine XS.iloadN X5.here hexec rfl (hb hbytes d34) rfl ?_
    refine XS.iloadN X5.here hexec rfl (hb hbytes d35) rfl ?_
    exact Steps.refl _)
  obtain ⟨v8, T8, X8, E8, g8⟩ := X5.callS hexec (Cmp3.law l b A o len) hown (wks W (staticW "java/lang/String" 177 Cmp3.yN)) (wk W Cmp3.tab) (W := 0) (Nat.le_of_ble_eq_true rfl) (Nat.le_of_ble_eq_true rfl) (Nat.le_refl _) (by show 0 + len ≤ len; omega) (g := (mkF m 36 #[.val (.ref a), .val (.ref b), .val (.int (Int32.ofNat o)), .val (.int (Int32.ofNat len)), .val .null, .unset] [.int (Int32.ofNat len), .int (Int32.ofNat o), .ref b])) rfl (by rw [hml]; rfl) c7 (argsL := [.ref b, .int (Int32.ofNat o), .int (Int32.ofNat len)]) (rest := []) rfl rfl (by show 2 * 0 + 0 ≤ _; decide) (hb hbytes d36) (⟨rfl, hA.mv X5.warmed.alike hh5, l1, l2, hp⟩)
  obtain ⟨e8, z8⟩ := E8
  obtain ⟨rfl, N, n1, n2, n3, n4, n5, n6⟩ := NewArr.mv _ T5 s _ _ hh5.symm (Vm.Alike.refl _) rfl e8
  rw [hh5] at z8
  have hB1 := hB.keep X8.warmed.alike (n6 _ _ hB.1)
  have hne : s.heap.size ≠ a := (Nat.ne_of_lt (Array.getElem?_eq_some_iff.mp hB.1).1).symm
  have c9 : Steps p.tables e below (s₁.setTop (entryFrame m #[.ref a, .ref b, .int (Int32.ofNat o), .int (Int32.ofNat len), .null] 6)) (T8.setTop (mkF m 39 #[.val (.ref a), .val (.ref b), .val (.int (Int32.ofNat o)), .val (.int (Int32.ofNat len)), .val .null, .unset] [.ref s.heap.size])) := g8
  have c10 : Steps p.tables e below (s₁.setTop (entryFrame m #[.ref a, .ref b, .int (Int32.ofNat o), .int (Int32.ofNat len), .null] 6)) (T8.setTop (mkF m 45 #[.val (.ref a), .val (.ref b), .val (.int (Int32.ofNat o)), .val (.int (Int32.ofNat len)), .val .null, .val (.ref s.heap.size)] [.int (Int32.ofNat N.slots.size), .ref s.heap.size, .ref a])) := by
    have hc : Steps p.tables e below (s₁.setTop (entryFrame m #[.ref a, .ref b, .int (Int32.ofNat o), .int (Int32.ofNat len), .null] 6)) (T8.setTop (mkF m 45 #[.val (.ref a), .val (.ref b), .val (.int (Int32.ofNat o)), .val (.int (Int32.ofNat len)), .val .null, .val (.ref s.heap.size)] [.int (Int32.ofNat len), .ref s.heap.size, .ref a])) := c9.trans (by
      refine XS.astore X8.here hexec rfl (hb hbytes d39) rfl rfl rfl ?_
      refine XS.aloadN X8.here hexec rfl (hb hbytes d41) rfl rfl ?_
      refine XS.aload X8.here hexec rfl (hb hbytes d42) rfl rfl ?_
      refine XS.iloadN X8.here hexec rfl (hb hbytes d44) rfl ?_
      exact Steps.refl _)
    rw [n4]; exact hc
  obtain ⟨v11, T11, X11, E11, g11⟩ := X8.callS hexec (CodL.law l s.heap.size N) hown (wks W (staticW "java/lang/String" 47 CodL.yN)) (wk W CodL.tab) (W := 1) (Nat.le_of_ble_eq_true rfl) (Nat.le_of_ble_eq_true rfl) (Nat.le_refl _) (by show 0 + len + 0 ≤ len; omega) (g := (mkF m 45 #[.val (.ref a), .val (.ref b), .val (.int (Int32.ofNat o)), .val (.int (Int32.ofNat len)), .val .null, .val (.ref s.heap.size)] [.int (Int32.ofNat N.slots.size), .ref s.heap.size, .ref a])) rfl (by rw [hml]; rfl) c10 (argsL := [.ref s.heap.size, .int (Int32.ofNat N.slots.size)]) (rest := [.ref a]) rfl rfl (by show 2 * 0 + (1 + 0) ≤ _; decide) (hb hbytes d45) (⟨rfl, n1⟩)
  obtain ⟨rfl, q11⟩ := E11
  have hB11 := hB1.mv (X8.warmed.alike.symm.trans X11.warmed.alike) q11
  have c12 : Steps p.tables e below (s₁.setTop (entryFrame m #[.ref a, .ref b, .int (Int32.ofNat o), .int (Int32.ofNat len), .null] 6)) (T11.setTop (mkF m 48 #[.val (.ref a), .val (.ref b), .val (.int (Int32.ofNat o)), .val (.int (Int32.ofNat len)), .val .null, .val (.ref s.heap.size)] [.int 0, .ref a])) := g11
  obtain ⟨T13, X13, p13, bl13, sl13, st13⟩ := X11.finit hexec hown (wk W (.fieldLink "java/lang/String" 15 "java/lang/String" "coder" "B")) (Or.inr ⟨_, (wk W (.laysFinal "java/lang/String" "java/lang/String" "coder" "B"))⟩) (Or.inl ⟨rfl, hnm⟩) f2 (Or.inl rfl) hB11 (t := .byte) (by decide +kernel) rfl (g := (mkF m 48 #[.val (.ref a), .val (.ref b), .val (.int (Int32.ofNat o)), .val (.int (Int32.ofNat len)), .val .null, .val (.ref s.heap.size)] [.int 0, .ref a])) rfl (rest := []) rfl (hb hbytes d48)
  have c14 : Steps p.tables e below (s₁.setTop (entryFrame m #[.ref a, .ref b, .int (Int32.ofNat o), .int (Int32.ofNat len), .null] 6)) (T13.setTop (mkF m 54 #[.val (.ref a), .val (.ref b), .val (.int (Int32.ofNat o)), .val (.int (Int32.ofNat len)), .val .null, .val (.ref s.heap.size)] [.ref s.heap.size, .ref a])) := (c12.trans (st13 _ (Steps.refl _))).trans (by
    refine XS.aloadN X13.here hexec rfl (hb hbytes d51) rfl rfl ?_
    refine XS.aload X13.here hexec rfl (hb hbytes d52) rfl rfl ?_
    exact Steps.refl _)
  obtain ⟨T15, X15, p15, bl15, sl15, st15⟩ := X13.finit hexec hown (wk W (.fieldLink "java/lang/String" 9 "java/lang/String" "value" "[B")) (Or.inr ⟨_, (wk W (.laysFinal "java/lang/String" "java/lang/String" "value" "[B"))⟩) (Or.inl ⟨rfl, hnm⟩) f1 (Or.inl rfl) bl13 (t := (.array .byte)) (by decide +kernel) rfl (g := (mkF m 54 #[.val (.ref a), .val (.ref b), .val (.int (Int32.ofNat o)), .val (.int (Int32.ofNat len)), .val .null, .val (.ref s.heap.size)] [.ref s.heap.size, .ref a])) rfl (rest := []) rfl (hb hbytes d54)
  have c16 : Steps p.tables e below (s₁.setTop (entryFrame m #[.ref a, .ref b, .int (Int32.ofNat o), .int (Int32.ofNat len), .null] 6)) (T15.setTop (mkF m 57 #[.val (.ref a), .val (.ref b), .val (.int (Int32.ofNat o)), .val (.int (Int32.ofNat len)), .val .null, .val (.ref s.heap.size)] [])) := c14.trans (st15 _ (Steps.refl _))
  have ap := apart (Or.inr ⟨_, (wk W (.laysFinal "java/lang/String" "java/lang/String" "value" "[B"))⟩) (Or.inr ⟨_, (wk W (.laysFinal "java/lang/String" "java/lang/String" "coder" "B"))⟩) f1 f2 (t₁ := .array .byte) (t₂ := .byte) (by decide +kernel) (by decide +kernel) (by decide)
  have al := X8.warmed.alike.symm.trans X15.warmed.alike
  have n7 : T11.heap[s.heap.size]? = some N := by rw [q11]; exact n1.1
  exact ⟨T15, none, _, _, _, X15, by simp, rfl, by omega, (fun _ => rfl), ⟨rfl, _, N, bl15, ((Same.refl D _).set _ (by simp)).set _ (by simp), sl15, (Cell.slots_setSlot_ne _ ap).trans sl13, n1.keep al (p15.other hne (p13.other hne n7)), n2, by rw [al.findClass]; exact n3, n4, n5, fun y c h1 h2 => p15.other h1 (p13.other h1 (by rw [q11]; exact n6 y c h2)), by rw [p15.2.2, p13.2.2, q11]; exact z8⟩, fun fs hl => c16.trans (X15.returnOut hexec hret (hb hbytes d57) hl)⟩
end New4
namespace New1
def yN : MethodName := ⟨"java/lang/String", "<init>", "([C)V"⟩
abbrev yB : ByteArray := jdk_42_method_3_code
theorem d0 : decode yB 0 = .ok (.aload_n 0, 1) := by decide +kernel
theorem d1 : decode yB 1 = .ok (.aload_n 1, 1) := by decide +kernel
theorem d2 : decode yB 2 = .ok (.iconst 0, 1) := by decide +kernel
theorem d3 : decode yB 3 = .ok (.aload_n 1, 1) := by decide +kernel
theorem d4 : decode yB 4 = .ok (.arraylength, 1) := by decide +kernel
theorem d5 : decode yB 5 = .ok (.aconst_null, 1) := by decide +kernel
theorem d6 : decode yB 6 = .ok (.invokespecial 27, 3) := by decide +kernel
theorem d9 : decode yB 9 = .ok (.return_, 1) := by decide +kernel
def site : List Cond := [New4.tab] ++ initW "java/lang/String" 27 New4.yN
def tab : Cond := tabOf yN yB 2 none site
def P (a : Addr) (D : Cell) (fV fC : Field) (b : Addr) (A : Cell) (z : Int32) (args : Array Value) (s : State) : Prop := args = #[.ref a, .ref b] ∧ Blank "java/lang/String" a D s ∧ Found "java/lang/String" "value" "[B" fV s ∧ Found "java/lang/String" "coder" "B" fC s ∧ Ch b A s ∧ StaticIs s "java/lang/String" "COMPACT_STRINGS" "Z" (.int z) ∧ ¬ z = 0 ∧ 0 < A.slots.size ∧ A.slots.size ≤ 536870912 ∧ ∀ i, i < A.slots.size → ¬ 255 < cv A i
def E (a : Addr) (D : Cell) (fV fC : Field) (A : Cell) (r : Option Value) (s u : State) : Prop := Got a D fV fC A 0 A.slots.size r s u
/-- new String(chars), not empty, no char above 255: a Latin-1 String of their low bytes -/
theorem law (l : Launch) (a : Addr) (D : Cell) (fV fC : Field) (b : Addr) (A : Cell) (z : Int32) : Law l yN 2 1 3 52 yB 2 none site (P a D fV fC b A z) (E a D fV fC A) [⟨a, fC.slot⟩, ⟨a, fV.slot⟩] 1 A.slots.size := by
  refine Law.of_walk (plainFor_of_name (by decide +kernel)) (by decide +kernel) (by decide +kernel) (by decide) (fun _ _ h => by rw [h.1]; rfl) (fun _ U U' hal hh h => ⟨h.1, h.2.1.mv hal hh, h.2.2.1.al hal, h.2.2.2.1.al hal, h.2.2.2.2.1.mv hal hh, h.2.2.2.2.2.1.there hal hh, h.2.2.2.2.2.2⟩) (fun r U U' V V' h1 hal h2 h => Got.mv r U U' V V' h1 hal h2 h) ?_
  intro p e s m args below meth c s₁ X0 hexec hbytes hml hret hlk hnm hown hh0 W hP
  obtain ⟨rfl, hB, f1, f2, hA, s1, hz, l0, l2, hp⟩ := hP
  have c1 : Steps p.tables e below (s₁.setTop (entryFrame m #[.ref a, .ref b] 2)) (s₁.setTop (mkF m 0 #[.val (.ref a), .val (.ref b)] [])) := entry rfl
  have c2 : Steps p.tables e below (s₁.setTop (entryFrame m #[.ref a, .ref b] 2)) (s₁.setTop (mkF m 6 #[.val (.ref a), .val (.ref b)] [.null, .int (Int32.ofNat A.slots.size), .int 0, .ref b, .ref a])) := c1.trans (by
    refine XS.aloadN X0.here hexec rfl (hb hbytes d0) rfl rfl ?_
    refine XS.aloadN X0.here hexec rfl (hb hbytes d1) rfl rfl ?_
    refine iconstV X0.here hexec rfl 0 (hb hbytes d2) (by decide) ?_
    refine XS.aloadN X0.here hexec rfl (hb hbytes d3) rfl rfl ?_
    refine X0.alen hexec (hA.1.mv X0.warmed.alike hh0) rfl rfl (hb hbytes d4) ?_
    refine XS.aconstNull X0.here hexec rfl (hb hbytes d5) ?_
    exact Steps.refl _)
  obtain ⟨v3, T3, X3, E3, g3⟩ := X0.callN hexec (New4.law l a D fV fC b A z 0 A.slots.size) rfl hown (wks W (initW "java/lang/String" 27 New4.yN)) (W New4.tab (by simp only [site, List.mem_cons, List.mem_append, true_or, or_true])) (W := 0) (Nat.le_of_ble_eq_true rfl) (Nat.le_of_ble_eq_true rfl) (Nat.le_refl _) (by show 0 + A.slots.size ≤ A.slots.size; omega) (g := (mkF m 6 #[.val (.ref a), .val (.ref b)] [.null, .int (Int32.ofNat A.slots.size), .int (Int32.ofNat 0), .ref b, .ref a])) rfl (by rw [hml]; rfl) c2 (argsL := [.ref b, .int (Int32.ofNat 0), .int (Int32.ofNat A.slots.size), .null]) (rest := []) rfl rfl (by show 2 * 0 + 0 ≤ _; decide) (hb hbytes d6) (⟨rfl, hB.mv X0.warmed.alike hh0, f1.al X0.warmed.alike, f2.al X0.warmed.alike, hA.mv X0.warmed.alike hh0, s1.there X0.warmed.alike hh0, hz, l0, by omega, l2, fun i hi => by rw [Nat.zero_add]; exact hp i hi⟩)
  have e0 := Got.mv _ s₁ s _ _ hh0.symm (Vm.Alike.refl _) rfl E3
  obtain rfl := e0.1
  have c4 : Steps p.tables e below (s₁.setTop (entryFrame m #[.ref a, .ref b] 2)) (T3.setTop (mkF m 9 #[.val (.ref a), .val (.ref b)] [])) := g3
  exact ⟨T3, none, _, _, _, X3, by simp, rfl, by omega, (fun _ => rfl), e0, fun fs hl => c4.trans (X3.returnOut hexec hret (hb hbytes d9) hl)⟩
theorem pays {l : Launch} {R : Room} {p : Program} {e : Env} {below : List Frame} {s : State} {sargs : Array Value} {len W : Nat} (a : Addr) (D : Cell) (fV fC : Field) (b : Addr) (A : Cell) (z : Int32) (htab : tab.before sargs s = true) (hfr : 4 ≤ R.frames) (hlo : W + 65 ≤ R.locals) :
    Back l R p e below s sargs yN len W (fun A₁ a₁ => A₁.cells + 1 ≤ R.cells ∧ A₁.slots + A.slots.size ≤ R.slots ∧ P a D fV fC b A z a₁ A₁.U) (fun A₁ _ v₁ B₁ => E a D fV fC A v₁ A₁.U B₁.U ∧ B₁.locs = A₁.locs ++ [⟨a, fC.slot⟩, ⟨a, fV.slot⟩] ∧ B₁.cells = A₁.cells + 1 ∧ B₁.slots = A₁.slots + A.slots.size) :=
  (law l a D fV fC b A z).pays htab hfr (by omega)
end New1
/-- the byte, read back as charAt reads it, is the char -/
theorem lo8_mask {x : Int32} (h0 : ¬ x < 0) (h1 : ¬ 255 < x) : lo8 x &&& 255 = x := by
  have t : ∀ k : Fin 256, lo8 (Int32.ofNat k.val) &&& 255 = Int32.ofNat k.val := by decide +kernel
  rw [Int32.lt_iff_toInt_lt] at h0 h1
  have e0 : (0 : Int32).toInt = 0 := rfl
  have e1 : (255 : Int32).toInt = 255 := rfl
  obtain ⟨k, hk⟩ : ∃ k : Nat, x.toInt = k := ⟨x.toInt.toNat, by omega⟩
  have hx : x = Int32.ofNat k := Int32.toInt_inj.mp (by rw [hk, Int32.toInt_ofNat_small (by omega)])
  rw [hx]
  exact t ⟨k, by omega⟩
end StrChars
namespace StrChars.Road
open Jvm Sem ClassFile Op Lib Jvm.Stand Jvm.Free Jvm.Free.XT
open Jvm.Lib.Cold (StaticIs)
abbrev ST : String := "java/lang/String"
/-- every table word that New1's law asks, flat -/
abbrev words : List Jvm.Cond := [.code New1.yN New1.yB 2 none, .initialized ST, .methodLink ST 27 New4.yN, .instanceMethod New4.yN,
  .code New4.yN New4.yB 6 none, .fieldLink ST 38 ST "COMPACT_STRINGS" "Z", .laysFinal ST ST "value" "[B", .fieldLink ST 9 ST "value" "[B", .laysFinal ST ST "coder" "B", .fieldLink ST 15 ST "coder" "B",
  .methodLink ST 1 Lib.objectInit, .instanceMethod Lib.objectInit, .code Lib.objectInit ⟨#[0xb1]⟩ 1 none, .methodLink ST 177 Cmp3.yN, .static Cmp3.yN, .methodLink ST 47 CodL.yN, .static CodL.yN,
  .code Cmp3.yN Cmp3.yB 6 (some (.array .byte)), .initialized U16, .arrayClass .byte, .methodLink U16 115 Cmp5.yN, .static Cmp5.yN, .code Cmp5.yN Cmp5.yB 7 (some .int), .code CodL.yN CodL.yB 2 (some .byte)]
theorem tab_of {a : Array Value} {s : State} (h : ∀ w ∈ words, w.before a s = true) : New1.tab.before a s = true := by
  have h5 : Cmp5.tab.before a s = true := unparts (wk h (.code Cmp5.yN Cmp5.yB 7 (some .int))) (wks h (.initialized Cmp5.yN.cls :: Cmp5.site))
  have hc : CodL.tab.before a s = true := unparts (wk h (.code CodL.yN CodL.yB 2 (some .byte))) (wks h (.initialized CodL.yN.cls :: CodL.site))
  have q5 : ∀ w ∈ Cmp5.tab :: words, w.before a s = true := fun w hw => (List.mem_cons.mp hw).elim (fun e => e ▸ h5) (h w)
  have h3 : Cmp3.tab.before a s = true := unparts (wk q5 (.code Cmp3.yN Cmp3.yB 6 (some (.array .byte)))) (wks q5 (.initialized Cmp3.yN.cls :: Cmp3.site))
  have q3 : ∀ w ∈ Cmp3.tab :: CodL.tab :: words, w.before a s = true := fun w hw => (List.mem_cons.mp hw).elim (fun e => e ▸ h3) fun hw => (List.mem_cons.mp hw).elim (fun e => e ▸ hc) (h w)
  have h4 : New4.tab.before a s = true := unparts (wk q3 (.code New4.yN New4.yB 6 none)) (wks q3 (.initialized New4.yN.cls :: New4.site))
  have q4 : ∀ w ∈ New4.tab :: words, w.before a s = true := fun w hw => (List.mem_cons.mp hw).elim (fun e => e ▸ h4) (h w)
  exact unparts (wk q4 (.code New1.yN New1.yB 2 none)) (wks q4 (.initialized New1.yN.cls :: New1.site))
/-- the words ride from the start Z to the walk's own state -/
theorem moved {Z s : State} {a0 args : Array Value} (hZ : Z.Warmed39 s.vm) (hw : ∀ d ∈ words, d.before a0 Z = true) : ∀ d ∈ words, d.before args s = true := fun d hd => by
  have q := hw d hd
  have t : ∀ d ∈ words, d = .arrayClass .byte ∨ (d.onTables && d.keepsFace) = true := by decide +kernel
  rcases t d hd with rfl | t
  · exact RoadKit.mvA hZ q
  · exact RoadKit.mv hZ q t
/-- WHAT COMES BACK, over the tables of the start Z: h the heap at the call, h' behind it -/
def Q (Z : State) (x : Addr) (A : Cell) (h : Heap) (v : Option Value) (h' : Heap) (L : List Loc) : Prop := v = none ∧ (∀ y ∈ L, y.base = x) ∧ RoadKit.Keep h h' [x] ∧ h'.size = h.size + 1 ∧ RoadKit.Exa Z h' x ST ∧ RoadKit.Fld Z h' x ST "value" "[B" (.ref h.size) ∧ RoadKit.Fld Z h' x ST "coder" "B" (.int 0) ∧
  (∃ V : Cell, RoadKit.Arr Z h' h.size V .byte ∧ V.vm = .none ∧ Z.vm.findClass "[B" = some V.cls ∧ V.slots.size = A.slots.size ∧ ∀ j, j < A.slots.size → V.slots[j]? = some (.int (lo8 (cv A j)))) ∧
  ∀ (O n d : String) (w : Value), RoadKit.Fld Z h x O n d w → RoadKit.slotOf Z O n d ≠ RoadKit.slotOf Z ST "value" "[B" → RoadKit.slotOf Z O n d ≠ RoadKit.slotOf Z ST "coder" "B" → RoadKit.Fld Z h' x O n d w
/-- **new String(chars) AT A CALL, IN THE ROAD'S FORM**: for specialBack behind newO: x the fresh String, b the char[] with the cell A -/
theorem back {p : Program} {l : Launch} {e : Env} {R : Room} {s : State} {args : Array Value} {below : List Frame} {len W : Nat} {Z : State} {a0 : Array Value} {h : Heap} (hZ : Z.Warmed39 s.vm) (hw : ∀ d ∈ words, d.before a0 Z = true) {kI : Nat} (wi : (Jvm.Cond.instantiable ST kI).before a0 Z = true)
    {x b : Addr} {A : Cell} {z : Int32} {v0 c0 : Value} (E : RoadKit.Exa Z h x ST) (V : RoadKit.Fld Z h x ST "value" "[B" v0) (C : RoadKit.Fld Z h x ST "coder" "B" c0) (K : RoadKit.Arr Z h b A .char) (hty : Typed .char A) (S : RoadKit.Sta Z h ST "COMPACT_STRINGS" "Z" (.int z)) (hz : ¬ z = 0)
    (l0 : 0 < A.slots.size) (l2 : A.slots.size ≤ 536870912) (hp : ∀ i, i < A.slots.size → ¬ 255 < cv A i) (hfr : 4 ≤ R.frames) (hlo : W + 65 ≤ R.locals) :
    Back l R p e below s args New1.yN len W (fun P a => a = #[.ref x, .ref b] ∧ P.U.heap = h ∧ P.cells + 1 ≤ R.cells ∧ P.slots + A.slots.size ≤ R.slots)
      (fun P _ v B => ∃ L, Q Z x A h v B.U.heap L ∧ B.locs = P.locs ++ L ∧ B.cells = P.cells + 1 ∧ B.slots = P.slots + A.slots.size) := by
  intro m meth c P g ig mk a X hg hsize hdg hW hn hp'
  obtain ⟨rfl, rfl, r1, r2⟩ := hp'
  have al : Z.vm.Alike P.U.vm := hZ.alike.trans X.warmed.alike
  obtain ⟨D, cfV, kV, iV, fV, hD, gV, stV, knV, obV, asV, slV⟩ := id V
  obtain ⟨D', cfC, kC, iC, fC, hD', gC, stC, -, -, asC, slC⟩ := id C
  cases hD.symm.trans hD'
  obtain ⟨D2, kD, e1, e2, e3, e4, e5⟩ := id E
  cases hD.symm.trans e1
  obtain ⟨c2, k2, i1, i2, i3, -⟩ := Cond.instantiable_spec wi
  cases e2.symm.trans i1
  cases e3.symm.trans i2
  obtain ⟨kU, u1, u2⟩ := al.2.2 _ _ e3
  have hB : Blank ST x D P.U := ⟨hD, ⟨knV, fun q hq => by rw [hq] at obV; cases obV⟩, by rw [al.findClass]; exact e2, kU, u1, by rw [u2]; exact i3, by rw [u2]; exact e5 i3⟩
  have F1 : Found ST "value" "[B" fV P.U := ⟨SBG.found_only al ⟨cfV, kV, iV, gV⟩, stV⟩
  have F2 : Found ST "coder" "B" fC P.U := ⟨SBG.found_only al ⟨cfC, kC, iC, gC⟩, stC⟩
  have hA : Ch b A P.U := ⟨⟨K.1, State.isArrayOf_alike al K.2.1, K.2.2, by omega⟩, hty⟩
  have hS : StaticIs P.U ST "COMPACT_STRINGS" "Z" (.int z) := by
    obtain ⟨cfS, iS, kS, fS, st, cS, t1, t2, t3, t4, t5, t6, t7⟩ := S
    exact StaticIs.there (s := { Z with heap := P.U.heap }) ⟨cfS, iS, kS, fS, st, cS, t1, t2, t3, t4, t5, (fun q => by rw [q] at t6; cases t6), t7⟩ al rfl
  obtain ⟨v, B, X', ⟨⟨hv, E', V', q1, q2, q3, q4, q5, q6, q7, q8, q9, q10, q11⟩, hl, hc, hs⟩, st⟩ := New1.pays x D fV fC b A z (tab_of (moved hZ hw)) hfr hlo m meth c P g ig mk _ X hg hsize hdg hW hn ⟨r1, r2, rfl, hB, F1, F2, hA, hS, hz, l0, l2, hp⟩
  have al' : Z.vm.Alike B.U.vm := hZ.alike.trans X'.warmed.alike
  have hsz : E'.slots.size = D.slots.size := by
    obtain ⟨-, -, -, kB, w1, w2, w3⟩ := q1
    obtain ⟨kB', y1, y2⟩ := al'.2.2 _ _ e3
    rw [q2.2.1] at w1
    cases w1.symm.trans y1
    rw [w3, e5 i3, y2]
  refine ⟨v, B, X', ⟨_, ⟨hv, ?_, ⟨by omega, fun y cy hy hn' => q10 y cy (by simpa using hn') hy, fun y cy hy => ?_⟩, q11, ⟨E', _, q1.1, by rw [q2.2.1]; exact e2, by rw [q2.2.1]; exact e3, by rw [q2.1]; exact obV, fun _ => by rw [hsz]; exact e5 i3⟩,
    ⟨E', cfV, kV, iV, fV, q1.1, gV, stV, by rw [q2.1]; exact knV, by rw [q2.1]; exact obV, by rw [q2.2.1]; exact asV, q3⟩, ⟨E', cfC, kC, iC, fC, q1.1, gC, stC, by rw [q2.1]; exact knV, by rw [q2.1]; exact obV, by rw [q2.2.1]; exact asC, q4⟩,
    ⟨V', ⟨q5.1, State.isArrayOf_alike al'.symm q5.2.1, q5.2.2.1⟩, q6, by rw [← al'.findClass]; exact q7, q8, fun j hj => by have := q9 j hj; rwa [Nat.zero_add] at this⟩, fun O n d w F n1 n2 => ?_⟩, hl, hc, hs⟩, st⟩
  · intro y hy
    simp only [List.mem_cons, List.not_mem_nil, or_false] at hy
    rcases hy with rfl | rfl <;> rfl
  · by_cases q : y = x
    · subst q
      cases hD.symm.trans hy
      exact ⟨E', q1.1, q2.2.1, q2.1, hsz⟩
    · exact ⟨cy, q10 y cy q hy, rfl, rfl, rfl⟩
  · obtain ⟨D3, cf, k, i, f, g1, g2, g3, g4, g5, g6, g7⟩ := F
    cases hD.symm.trans g1
    simp only [RoadKit.slotOf, g2, gV, gC, Option.map_some, Option.getD_some] at n1 n2
    exact ⟨E', cf, k, i, f, q1.1, g2, g3, by rw [q2.1]; exact g4, by rw [q2.1]; exact g5, by rw [q2.2.1]; exact g6, by rw [q2.2.2 f.slot (by simp [n1, n2])]; exact g7⟩
end StrChars.Road
namespace StrChars.Road
open Jvm Sem ClassFile Op Lib Jvm.Stand Jvm.Free Jvm.Free.XT
/-- WHAT COMES BACK, the byte[] as a list of values -/
def QA (Z : State) (x : Addr) (zn : Int32) (cs : List Int32) (h : Heap) (v : Option Value) (h' : Heap) (L : List Loc) : Prop := v = none ∧ (∀ y ∈ L, y.base = x) ∧ RoadKit.Keep h h' [x] ∧ h'.size = h.size + 1 ∧ RoadKit.Exa Z h' x ST ∧ RoadKit.Fld Z h' x ST "value" "[B" (.ref h.size) ∧ RoadKit.Fld Z h' x ST "coder" "B" (.int 0) ∧
  (∃ kb, Z.vm.findClass "[B" = some kb ∧ RoadKit.Arv Z h' h.size kb .byte zn (cs.map fun c => .int (lo8 c)) (.int 0)) ∧
  ∀ (O n d : String) (w : Value), RoadKit.Fld Z h x O n d w → RoadKit.slotOf Z O n d ≠ RoadKit.slotOf Z ST "value" "[B" → RoadKit.slotOf Z O n d ≠ RoadKit.slotOf Z ST "coder" "B" → RoadKit.Fld Z h' x O n d w
/-- **new String(chars) AT A CALL, THE ARRAYS AS LISTS**: the char[] at b holds cs, not empty, no char above 255 -/
theorem backArv {p : Program} {l : Launch} {e : Env} {R : Room} {s : State} {args : Array Value} {below : List Frame} {len W : Nat} {Z : State} {a0 : Array Value} {h : Heap} (hZ : Z.Warmed39 s.vm) (hw : ∀ d ∈ words, d.before a0 Z = true) {kI : Nat} (wi : (Jvm.Cond.instantiable ST kI).before a0 Z = true)
    {x b : Addr} {k : ClassId} {zn z : Int32} {cs : List Int32} {dv v0 c0 : Value} (E : RoadKit.Exa Z h x ST) (V : RoadKit.Fld Z h x ST "value" "[B" v0) (C : RoadKit.Fld Z h x ST "coder" "B" c0) (K : RoadKit.Arv Z h b k .char zn (cs.map Value.int) dv) (S : RoadKit.Sta Z h ST "COMPACT_STRINGS" "Z" (.int z)) (hz : ¬ z = 0)
    (hlen : zn.toNatClampNeg = cs.length) (h0 : 0 < cs.length) (hbig : cs.length ≤ 536870912) (hall : ∀ c ∈ cs, ¬ 255 < c) (hfr : 4 ≤ R.frames) (hlo : W + 65 ≤ R.locals) :
    Back l R p e below s args New1.yN len W (fun P a => a = #[.ref x, .ref b] ∧ P.U.heap = h ∧ P.cells + 1 ≤ R.cells ∧ P.slots + cs.length ≤ R.slots)
      (fun P _ v B => ∃ L, QA Z x zn cs h v B.U.heap L ∧ B.locs = P.locs ++ L ∧ B.cells = P.cells + 1 ∧ B.slots = P.slots + cs.length) := by
  obtain ⟨A, K1, K2, K3, K4, K5, K6⟩ := K
  have e : A.slots.size = cs.length := K3.trans hlen
  have hat : ∀ (i : Nat) (hi : i < cs.length), A.slots[i]? = some (.int cs[i]) := fun i hi => by rw [K5 i (by omega)]; simp [List.getD_eq_getElem?_getD, hi]
  have hcv : ∀ (i : Nat) (hi : i < cs.length), cv A i = cs[i] := fun i hi => by unfold cv; rw [hat i hi]
  have hty : Typed .char A := fun i v hv => by
    have hi : i < A.slots.size := (Array.getElem?_eq_some_iff.mp hv).1
    have q := K5 i hi
    rw [hv] at q
    rw [Option.some.inj q]
    exact K6 i hi
  refine Back.mono (back hZ hw wi E V C K1 hty S hz (by omega) (by omega) (fun i hi => by rw [hcv i (by omega)]; exact hall _ (List.getElem_mem _)) hfr hlo) (fun P a hp => ⟨hp.1, hp.2.1, hp.2.2.1, by rw [e]; exact hp.2.2.2⟩) (fun P a v B hp hq => ?_)
  obtain ⟨L, ⟨q1, q2, q3, q4, q5, q6, q7, ⟨V', v1, v2, v3, v4, v5⟩, q9⟩, hl, hc, hs⟩ := hq
  refine ⟨L, ⟨q1, q2, q3, q4, q5, q6, q7, ⟨V'.cls, v3, V', v1, rfl, by rw [v4, e, hlen], K4, fun i hi => ?_, fun i hi => ?_⟩, q9⟩, hl, hc, by rw [hs, e]⟩
  · have hi' : i < cs.length := by omega
    rw [v5 i (by omega), hcv i hi']; simp [List.getD_eq_getElem?_getD, hi']
  · have hi' : i < cs.length := by omega
    simp only [List.getD_eq_getElem?_getD, List.getElem?_map, List.getElem?_eq_getElem hi', Option.map_some, Option.getD_some]
    exact fits_lo8 _
end StrChars.Road
namespace StrChars.Road
open Jvm Sem ClassFile Op Lib Jvm.Stand Jvm.Free Jvm.Free.XT
/-- WHAT COMES BACK, in the writer's own shape -/
def QV (Z : State) (x : Addr) (N : Int32) (bs : List Int32) (h : Heap) (n0 : Nat) (v : Option Value) (h' : Heap) (L : List Loc) : Prop := v = none ∧ RoadKit.Fr n0 L ∧ RoadKit.Keep h h' [x] ∧ RoadKit.Exa Z h' x ST ∧ RoadKit.Fld Z h' x ST "coder" "B" (.int 0) ∧
  ∃ (t : Addr) (kb : ClassId), n0 ≤ t ∧ h.size ≤ t ∧ ¬ t = x ∧ RoadKit.Fld Z h' x ST "value" "[B" (.ref t) ∧ RoadKit.Arv Z h' t kb .byte N (bs.map Value.int) (.int 0)
/-- **new String(chars) AT A CALL, FOR THE WRITER**: a char[] of n known ints, each 0 to 255 -/
theorem backV {p : Program} {l : Launch} {e : Env} {R : Room} {s : State} {args : Array Value} {below : List Frame} {len W : Nat} {Z : State} {a0 : Array Value} {h : Heap} (hZ : Z.Warmed39 s.vm) (hw : ∀ d ∈ words, d.before a0 Z = true) {kI : Nat} (wi : (Jvm.Cond.instantiable ST kI).before a0 Z = true)
    {x b : Addr} {kC : ClassId} {cs bs : List Int32} {d v0 c0 : Value} {z N : Int32} {n n0 : Nat} (hx0 : n0 ≤ x) (hh0 : n0 ≤ h.size) (E : RoadKit.Exa Z h x ST) (V : RoadKit.Fld Z h x ST "value" "[B" v0) (C : RoadKit.Fld Z h x ST "coder" "B" c0) (K : RoadKit.Arv Z h b kC .char N (cs.map Value.int) d) (S : RoadKit.Sta Z h ST "COMPACT_STRINGS" "Z" (.int z)) (hz : ¬ z = 0)
    (hn : cs.length = n) (hN : N = Int32.ofNat n) (l0 : 0 < n) (l2 : n ≤ 4000) (hp : ∀ c ∈ cs, ¬ c < 0 ∧ ¬ (255 : Int32) < c) (hb : bs = cs.map (fun c => c.toInt8.toInt32)) (hfr : 4 ≤ R.frames) (hlo : W + 65 ≤ R.locals) :
    Back l R p e below s args (⟨"java/lang/String", "<init>", "([C)V"⟩ : MethodName) len W (fun P a => a = #[.ref x, .ref b] ∧ P.U.heap = h ∧ P.cells + 1 ≤ R.cells ∧ P.slots + n ≤ R.slots)
      (fun P _ v B => ∃ L, QV Z x N bs h n0 v B.U.heap L ∧ B.locs = P.locs ++ L ∧ B.cells = P.cells + 1 ∧ B.slots = P.slots + n) := by
  subst hn hN hb
  refine Back.mono (backArv hZ hw wi E V C K S hz (n32 (by omega)) l0 (by omega) (fun c hc => (hp c hc).2) hfr hlo) (fun P a hp => hp) (fun P a v B hp hq => ?_)
  obtain ⟨L, ⟨q1, q2, q3, q4, q5, q6, q7, ⟨kb, v1, v2⟩, q9⟩, hl, hc, hs⟩ := hq
  exact ⟨L, ⟨q1, fun y hy => by rw [q2 y hy]; exact hx0, q3, q5, q7, h.size, kb, hh0, Nat.le_refl _, Nat.ne_of_gt E.lt, q6, by rw [List.map_map]; exact v2⟩, hl, hc, hs⟩
end StrChars.Road
namespace StrChars
open Jvm Sem ClassFile Op Lib Jvm.Stand Jvm.Free.XT Jvm.Free.ALB Jvm.Free.JM Jvm.Free
open Jvm.Lib.Cold (StaticIs)
def hi8 (x : Int32) : Int32 := lo8 (x >>> ((8 : Int32) &&& 31))
/-- what StringUTF16.getChar makes of two bytes -/
def pairCh (u v : Int32) : Int32 := (((u &&& 255) <<< ((0 : Int32) &&& 31)) ||| ((v &&& 255) <<< ((8 : Int32) &&& 31))).toUInt32.toUInt16.toUInt32.toInt32
theorem lo8_and (x : Int32) : (lo8 x &&& 255).toBitVec.toNat = x.toBitVec.toNat % 256 := by
  have h : (lo8 x).toBitVec = (x.toBitVec.signExtend 8).signExtend 32 := by rw [lo8, Int8.toBitVec_toInt32, Int32.toBitVec_toInt8]
  rw [Int32.toBitVec_and, BitVec.toNat_and, h]
  have e : ((x.toBitVec.signExtend 8).signExtend 32).toNat % 256 = x.toBitVec.toNat % 256 := by
    rw [BitVec.toNat_signExtend]
    have hlt := x.toBitVec.isLt
    simp only [BitVec.toNat_setWidth, BitVec.toNat_signExtend]
    split <;> split <;> omega
  rw [← e]
  exact Nat.and_two_pow_sub_one_eq_mod _ 8
theorem pair_says {c : Int32} (h0 : ¬ c < 0) (h1 : ¬ 65535 < c) : pairCh (lo8 c) (hi8 c) = c := by
  rw [Int32.lt_iff_toInt_lt] at h0 h1
  have e0 : (0 : Int32).toInt = 0 := rfl
  have e1 : (65535 : Int32).toInt = 65535 := rfl
  have hc : c.toInt = c.toBitVec.toNat := by
    have := c.toBitVec.isLt
    have e : c.toInt = c.toBitVec.toInt := rfl
    rw [e] at h0 h1
    rw [e]
    rw [BitVec.toInt_eq_toNat_cond] at h0 h1 ⊢
    split at h0 <;> split <;> omega
  have hn : c.toBitVec.toNat < 65536 := by omega
  have a1 := lo8_and c
  have a2 : (hi8 c &&& 255).toBitVec.toNat = c.toBitVec.toNat / 256 := by
    rw [hi8, lo8_and]
    have e : ((8 : Int32) &&& 31) = 8 := by decide
    rw [e, Int32.toBitVec_shiftRight]
    have e2 : ((8 : Int32).toBitVec.smod 32) = 8#32 := by decide
    rw [e2, BitVec.sshiftRight_eq', BitVec.toNat_sshiftRight_of_msb_false (by rw [BitVec.msb_eq_false_iff_two_mul_lt]; omega)]
    show c.toBitVec.toNat >>> 8 % 256 = _
    rw [Nat.shiftRight_eq_div_pow]
    omega
  unfold pairCh
  apply Int32.toBitVec_inj.mp
  apply BitVec.eq_of_toNat_eq
  have f0 : ((0 : Int32) &&& 31) = 0 := by decide
  have f8 : ((8 : Int32) &&& 31) = 8 := by decide
  rw [f0, f8]
  have g : (((lo8 c &&& 255) <<< (0 : Int32)) ||| ((hi8 c &&& 255) <<< (8 : Int32))).toBitVec.toNat = c.toBitVec.toNat := by
    rw [Int32.toBitVec_or, Int32.toBitVec_shiftLeft, Int32.toBitVec_shiftLeft]
    have s0 : ((0 : Int32).toBitVec.smod 32) = 0#32 := by decide
    have s8 : ((8 : Int32).toBitVec.smod 32) = 8#32 := by decide
    rw [s0, s8, BitVec.toNat_or]
    simp only [BitVec.shiftLeft_eq', BitVec.toNat_shiftLeft, a1, a2]
    show (c.toBitVec.toNat % 256) <<< 0 % 2 ^ 32 ||| (c.toBitVec.toNat / 256) <<< 8 % 2 ^ 32 = _
    rw [Nat.shiftLeft_zero, Nat.mod_eq_of_lt (show c.toBitVec.toNat % 256 < 2 ^ 32 by omega), Nat.mod_eq_of_lt (show (c.toBitVec.toNat / 256) <<< 8 < 2 ^ 32 by rw [Nat.shiftLeft_eq]; omega), Nat.or_comm, ← Nat.shiftLeft_add_eq_or_of_lt (by omega), Nat.shiftLeft_eq]
    omega
  show BitVec.toNat (((((lo8 c &&& 255) <<< (0 : Int32)) ||| ((hi8 c &&& 255) <<< (8 : Int32))).toBitVec.setWidth 16).setWidth 32) = _
  rw [BitVec.toNat_setWidth, BitVec.toNat_setWidth, g]
  omega
end StrChars
namespace StrChars
open Jvm Sem ClassFile Op Lib Jvm.Stand Jvm.Free.XT Jvm.Free.ALB Jvm.Free.JM Jvm.Free
open Jvm.Lib.Cold (StaticIs)
/-- the array's cell V codes the n chars f 0 .. f (n - 1) by the coder cd, as the JDK does: coder 1 just where some char is above 255 -/
def Cod (cd : Int32) (n : Nat) (f : Nat → Int32) (V : Cell) : Prop := (cd = 0 ∧ V.slots.size = n ∧ ∀ j, j < n → V.slots[j]? = some (.int (lo8 (f j))) ∧ ¬ 255 < f j) ∨ (cd = 1 ∧ V.slots.size = 2 * n ∧ (∀ j, j < n → V.slots[2 * j]? = some (.int (lo8 (f j))) ∧ V.slots[2 * j + 1]? = some (.int (hi8 (f j)))) ∧ ∃ j, j < n ∧ 255 < f j)
/-- **x is a String of the n chars f 0 .. f (n - 1)**, Latin-1 or UTF-16; its array at t has the cell V -/
def Txt (x t : Addr) (V : Cell) (cd : Int32) (n : Nat) (f : Nat → Int32) (U : State) : Prop := Exact "java/lang/String" x U ∧ Has x "java/lang/String" "value" "[B" (.ref t) U ∧ Has x "java/lang/String" "coder" "B" (.int cd) U ∧ XT.Arr .byte t V U ∧ Cod cd n f V ∧ ∀ j, j < n → ¬ f j < 0 ∧ ¬ 65535 < f j
theorem Txt.mv {x t : Addr} {V : Cell} {cd : Int32} {n : Nat} {f : Nat → Int32} {U U' : State} (h : Txt x t V cd n f U) (hal : U.vm.Alike U'.vm) (hh : U'.heap = U.heap) : Txt x t V cd n f U' := ⟨h.1.mv hal hh, h.2.1.mv hal hh, h.2.2.1.mv hal hh, h.2.2.2.1.mv hal hh, h.2.2.2.2⟩
end StrChars
namespace StrChars.Road
open Jvm Sem ClassFile Op Lib Jvm.Stand Jvm.Free Jvm.Free.XT
open Jvm.Lib.Cold (StaticIs)
theorem consq {a : Array Value} {s : State} {c : Jvm.Cond} {L : List Jvm.Cond} (h0 : c.before a s = true) (h : ∀ w ∈ L, w.before a s = true) : ∀ w ∈ c :: L, w.before a s = true := fun w hw => (List.mem_cons.mp hw).elim (fun e => e ▸ h0) (h w)
/-- the bytes of the chars cs, low before high -/
def wideBytes : List Int32 → List Value
  | [] => []
  | c :: cs => .int (lo8 c) :: .int (hi8 c) :: wideBytes cs
theorem wide_lo (d : Value) : ∀ (cs : List Int32) (j : Nat), j < cs.length → (wideBytes cs).getD (2 * j) d = .int (lo8 (cs.getD j 0))
  | [], j, h => absurd h (Nat.not_lt_zero j)
  | c :: cs, 0, _ => rfl
  | c :: cs, j + 1, h => by
    have q := wide_lo d cs j (by simpa using h)
    rw [show 2 * (j + 1) = 2 * j + 1 + 1 from by omega]
    simpa [wideBytes] using q
theorem wide_hi (d : Value) : ∀ (cs : List Int32) (j : Nat), j < cs.length → (wideBytes cs).getD (2 * j + 1) d = .int (hi8 (cs.getD j 0))
  | [], j, h => absurd h (Nat.not_lt_zero j)
  | c :: cs, 0, _ => rfl
  | c :: cs, j + 1, h => by
    have q := wide_hi d cs j (by simpa using h)
    rw [show 2 * (j + 1) + 1 = 2 * j + 1 + 1 + 1 from by omega]
    simpa [wideBytes] using q
theorem low_at (d : Value) (cs : List Int32) (j : Nat) (h : j < cs.length) : (cs.map fun c => Value.int (lo8 c)).getD j d = .int (lo8 (cs.getD j 0)) := by
  simp [List.getD_eq_getElem?_getD, h]
/-- an array of N2 bytes vs codes the chars cs by the coder cd -/
def CodA (cs : List Int32) (cd N2 : Int32) (vs : List Value) : Prop := (cd = 0 ∧ N2 = Int32.ofNat cs.length ∧ vs = (cs.map fun c => Value.int (lo8 c)) ∧ ∀ c ∈ cs, ¬ 255 < c) ∨ (cd = 1 ∧ N2 = Int32.ofNat (2 * cs.length) ∧ vs = wideBytes cs ∧ ∃ c ∈ cs, 255 < c)
theorem CodA.cod {cs : List Int32} {cd N2 : Int32} {vs : List Value} {V : Cell} (h : CodA cs cd N2 vs) (hn : 2 * cs.length < 2 ^ 31) (hs : V.slots.size = N2.toNatClampNeg) (hv : RoadKit.Has V vs (.int 0)) : Cod cd cs.length (fun j => cs.getD j 0) V := by
  rcases h with ⟨rfl, rfl, rfl, h⟩ | ⟨rfl, rfl, rfl, c, hc, hw⟩
  · rw [n32 (by omega)] at hs
    exact Or.inl ⟨rfl, hs, fun j hj => ⟨by rw [hv j (by omega), low_at _ _ _ hj], by
      have e : cs.getD j 0 = cs[j] := by simp [List.getD_eq_getElem?_getD, hj]
      show ¬ 255 < cs.getD j 0
      rw [e]; exact h _ (List.getElem_mem _)⟩⟩
  · rw [n32 (by omega)] at hs
    obtain ⟨j, hj, rfl⟩ := List.getElem_of_mem hc
    exact Or.inr ⟨rfl, hs, fun j hj => ⟨by rw [hv _ (by omega), wide_lo _ _ _ hj], by rw [hv _ (by omega), wide_hi _ _ _ hj]⟩, j, hj, by
      have e : cs.getD j 0 = cs[j] := by simp [List.getD_eq_getElem?_getD, hj]
      show 255 < cs.getD j 0
      rw [e]; exact hw⟩
/-- an object of exactly java/lang/String, its two fields found: as the laws ask it -/
theorem strObj {Z U : State} {a0 : Array Value} {kI : Nat} (wi : (Jvm.Cond.instantiable ST kI).before a0 Z = true) (al : Z.vm.Alike U.vm) {x : Addr} {v0 c0 : Value} (E : RoadKit.Exa Z U.heap x ST) (V : RoadKit.Fld Z U.heap x ST "value" "[B" v0) (C : RoadKit.Fld Z U.heap x ST "coder" "B" c0) :
    ∃ (D : Cell) (fV fC : Field), Blank ST x D U ∧ Found ST "value" "[B" fV U ∧ Found ST "coder" "B" fC U ∧ D.slots[fV.slot]? = some v0 ∧ D.slots[fC.slot]? = some c0 ∧ RoadKit.slotOf Z ST "value" "[B" = fV.slot ∧ RoadKit.slotOf Z ST "coder" "B" = fC.slot := by
  obtain ⟨D, cfV, kV, iV, fV, hD, gV, stV, knV, obV, asV, slV⟩ := V
  obtain ⟨D', cfC, kC, iC, fC, hD', gC, stC, -, -, asC, slC⟩ := C
  cases hD.symm.trans hD'
  obtain ⟨D2, kD, e1, e2, e3, e4, e5⟩ := E
  cases hD.symm.trans e1
  obtain ⟨c2, k2, i1, i2, i3, -⟩ := Cond.instantiable_spec wi
  cases e2.symm.trans i1
  cases e3.symm.trans i2
  obtain ⟨kU, u1, u2⟩ := al.2.2 _ _ e3
  exact ⟨D, fV, fC, ⟨hD, ⟨knV, fun q hq => by rw [hq] at obV; cases obV⟩, by rw [al.findClass]; exact e2, kU, u1, by rw [u2]; exact i3, by rw [u2]; exact e5 i3⟩, ⟨SBG.found_only al ⟨cfV, kV, iV, gV⟩, stV⟩, ⟨SBG.found_only al ⟨cfC, kC, iC, gC⟩, stC⟩, slV, slC, by simp [RoadKit.slotOf, gV], by simp [RoadKit.slotOf, gC]⟩
theorem sta_is {Z U : State} (al : Z.vm.Alike U.vm) {C n d : String} {v : Value} (S : RoadKit.Sta Z U.heap C n d v) : StaticIs U C n d v := by
  obtain ⟨cfS, iS, kS, fS, st, cS, t1, t2, t3, t4, t5, t6, t7⟩ := S
  exact StaticIs.there (s := { Z with heap := U.heap }) ⟨cfS, iS, kS, fS, st, cS, t1, t2, t3, t4, t5, (fun q => by rw [q] at t6; cases t6), t7⟩ al rfl
end StrChars.Road
namespace StrChars
open Jvm Sem ClassFile Op Lib Jvm.Stand Jvm.Free.XT Jvm.Free.ALB Jvm.Free.JM Jvm.Free
open Jvm.Lib.Cold (StaticIs)
/-- what place i of a byte[]'s cell holds -/
def yv (A : Cell) (i : Nat) : Int32 := match A.slots[i]? with | some (.int x) => x | _ => 0
theorem yv_get {a : Addr} {A : Cell} {U : State} (h : XT.Arr .byte a A U) (ht : Typed .byte A) {i : Nat} (hi : i < A.slots.size) : A.slots[i]? = some (.int (yv A i)) := by
  have e := Array.getElem?_eq_getElem hi
  have f := ht i _ e
  unfold yv; rw [e]
  generalize A.slots[i] = v at f
  cases v <;> simp [fits] at f ⊢
/-- the two arrays are equal, place for place -/
def EqC (A B : Cell) : Prop := A.slots.size = B.slots.size ∧ ∀ i, i < A.slots.size → yv A i = yv B i
/-- a boolean that says whether p -/
def Says01 (q : Prop) (r : Option Value) (s u : State) : Prop := ∃ v : Int32, r = some (.int v) ∧ u.heap = s.heap ∧ ((v = 1 ∧ q) ∨ (v = 0 ∧ ¬ q))
theorem Says01.mv {q : Prop} : ∀ r (U U' V V' : State), U'.heap = U.heap → V.vm.Alike V'.vm → V'.heap = V.heap → Says01 q r U V → Says01 q r U' V' :=
  fun r U U' V V' h1 _ h2 ⟨v, a, b, c⟩ => ⟨v, a, by rw [h1, h2]; exact b, c⟩
namespace LEq
def yN : MethodName := ⟨"java/lang/StringLatin1", "equals", "([B[B)Z"⟩
abbrev yB : ByteArray := jdk_43_method_13_code
theorem d0 : decode yB 0 = .ok (.aload_n 0, 1) := by decide +kernel
theorem d1 : decode yB 1 = .ok (.arraylength, 1) := by decide +kernel
theorem d2 : decode yB 2 = .ok (.aload_n 1, 1) := by decide +kernel
theorem d3 : decode yB 3 = .ok (.arraylength, 1) := by decide +kernel
theorem d4 : decode yB 4 = .ok (.if_icmp (.ne) 30, 3) := by decide +kernel
theorem d7 : decode yB 7 = .ok (.iconst 0, 1) := by decide +kernel
theorem d8 : decode yB 8 = .ok (.istore_n 2, 1) := by decide +kernel
theorem d9 : decode yB 9 = .ok (.iload_n 2, 1) := by decide +kernel
theorem d10 : decode yB 10 = .ok (.aload_n 0, 1) := by decide +kernel
theorem d11 : decode yB 11 = .ok (.arraylength, 1) := by decide +kernel
theorem d12 : decode yB 12 = .ok (.if_icmp (.ge) 20, 3) := by decide +kernel
theorem d15 : decode yB 15 = .ok (.aload_n 0, 1) := by decide +kernel
theorem d16 : decode yB 16 = .ok (.iload_n 2, 1) := by decide +kernel
theorem d17 : decode yB 17 = .ok (.baload, 1) := by decide +kernel
theorem d18 : decode yB 18 = .ok (.aload_n 1, 1) := by decide +kernel
theorem d19 : decode yB 19 = .ok (.iload_n 2, 1) := by decide +kernel
theorem d20 : decode yB 20 = .ok (.baload, 1) := by decide +kernel
theorem d21 : decode yB 21 = .ok (.if_icmp (.eq) 5, 3) := by decide +kernel
theorem d24 : decode yB 24 = .ok (.iconst 0, 1) := by decide +kernel
theorem d25 : decode yB 25 = .ok (.ireturn, 1) := by decide +kernel
theorem d26 : decode yB 26 = .ok (.iinc 2 1, 3) := by decide +kernel
theorem d29 : decode yB 29 = .ok (.goto (-20), 3) := by decide +kernel
theorem d32 : decode yB 32 = .ok (.iconst 1, 1) := by decide +kernel
theorem d33 : decode yB 33 = .ok (.ireturn, 1) := by decide +kernel
theorem d34 : decode yB 34 = .ok (.iconst 0, 1) := by decide +kernel
theorem d35 : decode yB 35 = .ok (.ireturn, 1) := by decide +kernel
def site : List Cond := []
def tab : Cond := tabOf yN yB 3 (some .boolean) site
def P (a : Addr) (A : Cell) (b : Addr) (B : Cell) (args : Array Value) (s : State) : Prop := args = #[.ref a, .ref b] ∧ XT.Arr .byte a A s ∧ Typed .byte A ∧ XT.Arr .byte b B s ∧ Typed .byte B
/-- whether two byte[] are equal, place for place -/
theorem law (l : Launch) (a : Addr) (A : Cell) (b : Addr) (B : Cell) : Law l yN 2 2 0 0 yB 3 (some .boolean) site (P a A b B) (Says01 (EqC A B)) [] 0 0 := by
  refine Law.of_walk (plainFor_of_name (by decide +kernel)) (by decide +kernel) (by decide +kernel) (by decide) (fun _ _ h => by rw [h.1]; rfl) (fun _ U U' hal hh h => ⟨h.1, h.2.1.mv hal hh, h.2.2.1, h.2.2.2.1.mv hal hh, h.2.2.2.2⟩) (fun r U U' V V' h1 hal h2 h => Says01.mv r U U' V V' h1 hal h2 h) ?_
  intro p e s m args below meth c s₁ X0 hexec hbytes hml hret hlk hnm hown hh0 W hP
  obtain ⟨rfl, hA, tA, hB, tB⟩ := hP
  have a31 := hA.2.2.2
  have b31 := hB.2.2.2
  have hA0 := hA.mv X0.warmed.alike hh0
  have hB0 := hB.mv X0.warmed.alike hh0
  have c1 : Steps p.tables e below (s₁.setTop (entryFrame m #[.ref a, .ref b] 3)) (s₁.setTop (mkF m 0 #[.val (.ref a), .val (.ref b), .unset] [])) := entry rfl
  have c2 : Steps p.tables e below (s₁.setTop (entryFrame m #[.ref a, .ref b] 3)) (s₁.setTop (mkF m 4 #[.val (.ref a), .val (.ref b), .unset] [.int (Int32.ofNat B.slots.size), .int (Int32.ofNat A.slots.size)])) := c1.trans (by
    refine XS.aloadN X0.here hexec rfl (hb hbytes d0) rfl rfl ?_
    refine X0.alen hexec hA0 rfl rfl (hb hbytes d1) ?_
    refine XS.aloadN X0.here hexec rfl (hb hbytes d2) rfl rfl ?_
    refine X0.alen hexec hB0 rfl rfl (hb hbytes d3) ?_
    exact Steps.refl _)
  by_cases hs : A.slots.size = B.slots.size
  · have c3 : Steps p.tables e below (s₁.setTop (entryFrame m #[.ref a, .ref b] 3)) (s₁.setTop (mkF m 9 #[.val (.ref a), .val (.ref b), .val (.int 0)] [])) := c2.trans (by
      refine XS.icmpNo X0.here hexec rfl (hb hbytes d4) rfl (ii_ne_f (by rw [hs])) ?_
      refine iconstV X0.here hexec rfl 0 (hb hbytes d7) (by decide) ?_
      refine XS.istoreN X0.here hexec rfl (hb hbytes d8) rfl rfl ?_
      exact Steps.refl _)
    have loop : ∀ (r i : Nat), i + r = A.slots.size → (∀ j, j < i → yv A j = yv B j) → Steps p.tables e below (s₁.setTop (entryFrame m #[.ref a, .ref b] 3)) (s₁.setTop (mkF m 9 #[.val (.ref a), .val (.ref b), .val (.int (Int32.ofNat i))] [])) → ∃ (pc : Nat) (Ls : Array Slot) (v : Int32), (pc = 25 ∨ pc = 33) ∧ ((v = 1 ∧ EqC A B) ∨ (v = 0 ∧ ¬ EqC A B)) ∧ Steps p.tables e below (s₁.setTop (entryFrame m #[.ref a, .ref b] 3)) (s₁.setTop (mkF m pc Ls [.int v])) := by
      intro r
      induction r with
      | zero =>
        intro i hi he cl
        exact ⟨33, _, 1, Or.inr rfl, Or.inl ⟨rfl, hs, fun j hj => he j (by omega)⟩, cl.trans (by
          refine XS.iloadN X0.here hexec rfl (hb hbytes d9) rfl ?_
          refine XS.aloadN X0.here hexec rfl (hb hbytes d10) rfl rfl ?_
          refine X0.alen hexec hA0 rfl rfl (hb hbytes d11) ?_
          refine XS.icmpYes X0.here hexec rfl (pc0 := 12) rfl (hb hbytes d12) rfl (ii_ge_t (nlt32 (by omega) (by omega))) (by decide) rfl ?_
          refine iconstV X0.here hexec rfl 1 (hb hbytes d32) (by decide) ?_
          exact Steps.refl _)⟩
      | succ r ih =>
        intro i hi he cl
        have c4 : Steps p.tables e below (s₁.setTop (entryFrame m #[.ref a, .ref b] 3)) (s₁.setTop (mkF m 21 #[.val (.ref a), .val (.ref b), .val (.int (Int32.ofNat i))] [.int (yv B i), .int (yv A i)])) := cl.trans (by
          refine XS.iloadN X0.here hexec rfl (hb hbytes d9) rfl ?_
          refine XS.aloadN X0.here hexec rfl (hb hbytes d10) rfl rfl ?_
          refine X0.alen hexec hA0 rfl rfl (hb hbytes d11) ?_
          refine XS.icmpNo X0.here hexec rfl (hb hbytes d12) rfl (ii_ge_f (lt32 (by omega) (by omega))) ?_
          refine XS.aloadN X0.here hexec rfl (hb hbytes d15) rfl rfl ?_
          refine XS.iloadN X0.here hexec rfl (hb hbytes d16) rfl ?_
          refine X0.aget hexec hA0 rfl (yv_get hA tA (i := i) (by omega)) rfl rfl (hb hbytes d17) ?_
          refine XS.aloadN X0.here hexec rfl (hb hbytes d18) rfl rfl ?_
          refine XS.iloadN X0.here hexec rfl (hb hbytes d19) rfl ?_
          refine X0.aget hexec hB0 rfl (yv_get hB tB (i := i) (by omega)) rfl rfl (hb hbytes d20) ?_
          exact Steps.refl _)
        by_cases hv : yv A i = yv B i
        · have c5 : Steps p.tables e below (s₁.setTop (entryFrame m #[.ref a, .ref b] 3)) (s₁.setTop (mkF m 9 #[.val (.ref a), .val (.ref b), .val (.int (Int32.ofNat i + 1))] [])) := c4.trans (by
            refine XS.icmpYes X0.here hexec rfl (pc0 := 21) rfl (hb hbytes d21) rfl (ii_eq_t hv) (by decide) rfl ?_
            refine iincV X0.here hexec rfl 1 (hb hbytes d26) (by decide) rfl rfl ?_
            refine XS.goto X0.here hexec rfl (pc0 := 29) rfl (hb hbytes d29) (by decide) rfl ?_
            exact Steps.refl _)
          rw [succ32] at c5
          exact ih (i + 1) (by omega) (fun j hj => by
            by_cases e : j = i
            · rw [e]; exact hv
            · exact he j (by omega)) c5
        · exact ⟨25, _, 0, Or.inl rfl, Or.inr ⟨rfl, fun q => hv (q.2 i (by omega))⟩, c4.trans (by
            refine XS.icmpNo X0.here hexec rfl (hb hbytes d21) rfl (ii_eq_f hv) ?_
            refine iconstV X0.here hexec rfl 0 (hb hbytes d24) (by decide) ?_
            exact Steps.refl _)⟩
    obtain ⟨pc, Ls, v, hpc, hv, cz⟩ := loop A.slots.size 0 (by omega) (fun j hj => absurd hj (Nat.not_lt_zero j)) c3
    have nv : narrow .boolean (.int v) = .int v := by rcases hv with ⟨rfl, -⟩ | ⟨rfl, -⟩ <;> rfl
    rcases hpc with rfl | rfl
    · exact ⟨s₁, some (.int v), _, _, _, X0, rfl, rfl, rfl, (fun h => by cases h), ⟨v, rfl, hh0, hv⟩, fun fs hl => cz.trans (X0.ireturnOut hexec hret nv (Or.inr (Or.inl rfl)) (hb hbytes d25) hl)⟩
    · exact ⟨s₁, some (.int v), _, _, _, X0, rfl, rfl, rfl, (fun h => by cases h), ⟨v, rfl, hh0, hv⟩, fun fs hl => cz.trans (X0.ireturnOut hexec hret nv (Or.inr (Or.inl rfl)) (hb hbytes d33) hl)⟩
  · have c3 : Steps p.tables e below (s₁.setTop (entryFrame m #[.ref a, .ref b] 3)) (s₁.setTop (mkF m 35 #[.val (.ref a), .val (.ref b), .unset] [.int 0])) := c2.trans (by
      refine XS.icmpYes X0.here hexec rfl (pc0 := 4) rfl (hb hbytes d4) rfl (ii_ne_t (ne32 a31 b31 hs)) (by decide) rfl ?_
      refine iconstV X0.here hexec rfl 0 (hb hbytes d34) (by decide) ?_
      exact Steps.refl _)
    exact ⟨s₁, some (.int 0), _, _, _, X0, rfl, rfl, rfl, (fun h => by cases h), ⟨0, rfl, hh0, Or.inr ⟨rfl, fun q => hs q.1⟩⟩, fun fs hl => c3.trans (X0.ireturnOut hexec hret rfl (Or.inr (Or.inl rfl)) (hb hbytes d35) hl)⟩
end LEq
theorem Cod.ty {cd : Int32} {n : Nat} {f : Nat → Int32} {V : Cell} (h : Cod cd n f V) : Typed .byte V := fun i v hv => by
  have hi : i < V.slots.size := (Array.getElem?_eq_some_iff.mp hv).1
  rcases h with ⟨-, k1, k2⟩ | ⟨-, k1, k2, -⟩
  · rw [(k2 i (by omega)).1] at hv; cases hv; exact fits_lo8 _
  · rcases Nat.mod_two_eq_zero_or_one i with e | e
    · obtain ⟨j, rfl⟩ : ∃ j, i = 2 * j := ⟨i / 2, by omega⟩
      rw [(k2 j (by omega)).1] at hv; cases hv; exact fits_lo8 _
    · obtain ⟨j, rfl⟩ : ∃ j, i = 2 * j + 1 := ⟨i / 2, by omega⟩
      rw [(k2 j (by omega)).2] at hv; cases hv; exact fits_lo8 _
/-- the same text -/
def SameT (n : Nat) (f : Nat → Int32) (k : Nat) (g : Nat → Int32) : Prop := n = k ∧ ∀ j, j < n → f j = g j
theorem lo8_inj {x y : Int32} (h0 : ¬ x < 0) (h1 : ¬ 255 < x) (k0 : ¬ y < 0) (k1 : ¬ 255 < y) (h : lo8 x = lo8 y) : x = y := by
  rw [← lo8_mask h0 h1, ← lo8_mask k0 k1, h]
/-- arrays coded by one coder are equal just where the texts are -/
theorem Cod.eqv {cd : Int32} {n k : Nat} {f g : Nat → Int32} {V V' : Cell} (h : Cod cd n f V) (h' : Cod cd k g V') (hf : ∀ j, j < n → ¬ f j < 0 ∧ ¬ 65535 < f j) (hg : ∀ j, j < k → ¬ g j < 0 ∧ ¬ 65535 < g j) : EqC V V' ↔ SameT n f k g := by
  have yvv : ∀ {W : Cell} {i : Nat} {x : Int32}, W.slots[i]? = some (.int x) → yv W i = x := fun q => by unfold yv; rw [q]
  rcases h with ⟨rfl, k1, k2⟩ | ⟨rfl, k1, k2, -⟩
  · rcases h' with ⟨-, m1, m2⟩ | ⟨e, -⟩
    · constructor
      · rintro ⟨e1, e2⟩
        refine ⟨by omega, fun j hj => ?_⟩
        have q := e2 j (by omega)
        rw [yvv (k2 j hj).1, yvv (m2 j (by omega)).1] at q
        exact lo8_inj (hf j hj).1 (k2 j hj).2 (hg j (by omega)).1 (m2 j (by omega)).2 q
      · rintro ⟨rfl, e2⟩
        refine ⟨by omega, fun j hj => ?_⟩
        rw [yvv (k2 j (by omega)).1, yvv (m2 j (by omega)).1, e2 j (by omega)]
    · exact absurd e (by decide)
  · rcases h' with ⟨e, -⟩ | ⟨-, m1, m2, -⟩
    · exact absurd e (by decide)
    · constructor
      · rintro ⟨e1, e2⟩
        refine ⟨by omega, fun j hj => ?_⟩
        have q1 := e2 (2 * j) (by omega)
        have q2 := e2 (2 * j + 1) (by omega)
        rw [yvv (k2 j hj).1, yvv (m2 j (by omega)).1] at q1
        rw [yvv (k2 j hj).2, yvv (m2 j (by omega)).2] at q2
        rw [← pair_says (hf j hj).1 (hf j hj).2, ← pair_says (hg j (by omega)).1 (hg j (by omega)).2, q1, q2]
      · rintro ⟨rfl, e2⟩
        refine ⟨by omega, fun i hi => ?_⟩
        rcases Nat.mod_two_eq_zero_or_one i with e | e
        · obtain ⟨j, rfl⟩ : ∃ j, i = 2 * j := ⟨i / 2, by omega⟩
          rw [yvv (k2 j (by omega)).1, yvv (m2 j (by omega)).1, e2 j (by omega)]
        · obtain ⟨j, rfl⟩ : ∃ j, i = 2 * j + 1 := ⟨i / 2, by omega⟩
          rw [yvv (k2 j (by omega)).2, yvv (m2 j (by omega)).2, e2 j (by omega)]
/-- two codings differ: so do the texts -/
theorem Cod.dif {cd cd' : Int32} {n k : Nat} {f g : Nat → Int32} {V V' : Cell} (h : Cod cd n f V) (h' : Cod cd' k g V') (hne : ¬ cd = cd') : ¬ SameT n f k g := by
  rintro ⟨rfl, e⟩
  rcases h with ⟨rfl, -, k2⟩ | ⟨rfl, -, -, j, hj, hw⟩
  · rcases h' with ⟨rfl, -⟩ | ⟨-, -, -, j, hj, hw⟩
    · exact hne rfl
    · exact (k2 j hj).2 (by rw [e j hj]; exact hw)
  · rcases h' with ⟨-, -, m2⟩ | ⟨rfl, -⟩
    · exact (m2 j hj).2 (by rw [← e j hj]; exact hw)
    · exact hne rfl
/-- an object of exactly C is an instance of C -/
theorem cinst {p : Program} {l : Launch} {e : Env} {R : Room} {s : State} {m : MethodId} {args : Array Value} {below : List Frame} {meth : Method} {c : Code} {T : State} {locs : List Loc} {cells slots : Nat} (X : Stand p l e R s m args below meth c T locs cells slots) (hexec : p.tables.exec = Jvm.exec) {own C : String} {index : Nat} (hown : s.vm.findClass own = some m.cls) (hlink : (Cond.classLink own index C).before args s = true) {a : Addr} (hE : Exact C a T)
    {g : JFrame} (hg : g.method = m) {rest : List Value} (hstack : g.stack = .ref a :: rest) (hdg : decode c.code g.pc = .ok (.instanceof index, 3)) :
    ∃ T', Stand p l e R s m args below meth c T' locs cells slots ∧ T'.heap = T.heap ∧ ∀ target, Steps p.tables e below (T'.setTop { g with pc := g.pc + 3, stack := .int 1 :: rest }) target → Steps p.tables e below (T.setTop g) target := by
  obtain ⟨cB, h1, D, h2, h3, h4⟩ := hE
  have h1' : s.vm.findClass C = some cB := by rw [← X.warmed.alike.findClass]; exact h1
  obtain ⟨vm', X', st⟩ := X.instanceofYes hexec hown hlink h2 h4 h1' (by rw [h3]; exact Jvm.Free.SB.assignable_self _ _) hg hstack hdg
  exact ⟨_, X', rfl, st⟩
theorem cself {p : Program} {l : Launch} {e : Env} {R : Room} {s : State} {m : MethodId} {args : Array Value} {below : List Frame} {meth : Method} {c : Code} {T : State} {locs : List Loc} {cells slots : Nat} (X : Stand p l e R s m args below meth c T locs cells slots) (hexec : p.tables.exec = Jvm.exec) {own C : String} {index : Nat} (hown : s.vm.findClass own = some m.cls) (hlink : (Cond.classLink own index C).before args s = true) {a : Addr} (hE : Exact C a T)
    {g : JFrame} (hg : g.method = m) {rest : List Value} (hstack : g.stack = .ref a :: rest) (hdg : decode c.code g.pc = .ok (.checkcast index, 3)) :
    ∃ T', Stand p l e R s m args below meth c T' locs cells slots ∧ T'.heap = T.heap ∧ ∀ target, Steps p.tables e below (T'.setTop { g with pc := g.pc + 3, stack := .ref a :: rest }) target → Steps p.tables e below (T.setTop g) target := by
  obtain ⟨cB, h1, D, h2, h3, h4⟩ := hE
  have h1' : s.vm.findClass C = some cB := by rw [← X.warmed.alike.findClass]; exact h1
  obtain ⟨vm', X', st⟩ := X.checkcastYes hexec hown hlink h2 h4 h1' (by rw [h3]; exact Jvm.Free.SB.assignable_self _ _) hg hstack hdg
  exact ⟨_, X', rfl, fun t h => st t (by rw [← hstack] at h; exact h)⟩
namespace SEq
def yN : MethodName := ⟨"java/lang/String", "equals", "(Ljava/lang/Object;)Z"⟩
abbrev yB : ByteArray := jdk_42_method_66_code
theorem d0 : decode yB 0 = .ok (.aload_n 0, 1) := by decide +kernel
theorem d1 : decode yB 1 = .ok (.aload_n 1, 1) := by decide +kernel
theorem d2 : decode yB 2 = .ok (.if_acmp (.ne) 5, 3) := by decide +kernel
theorem d5 : decode yB 5 = .ok (.iconst 1, 1) := by decide +kernel
theorem d6 : decode yB 6 = .ok (.ireturn, 1) := by decide +kernel
theorem d7 : decode yB 7 = .ok (.aload_n 1, 1) := by decide +kernel
theorem d8 : decode yB 8 = .ok (.instanceof 10, 3) := by decide +kernel
theorem d11 : decode yB 11 = .ok (.ifCond (.eq) 43, 3) := by decide +kernel
theorem d14 : decode yB 14 = .ok (.aload_n 1, 1) := by decide +kernel
theorem d15 : decode yB 15 = .ok (.checkcast 10, 3) := by decide +kernel
theorem d18 : decode yB 18 = .ok (.astore_n 2, 1) := by decide +kernel
theorem d19 : decode yB 19 = .ok (.getstatic 38, 3) := by decide +kernel
theorem d22 : decode yB 22 = .ok (.ifCond (.eq) 14, 3) := by decide +kernel
theorem d25 : decode yB 25 = .ok (.aload_n 0, 1) := by decide +kernel
theorem d26 : decode yB 26 = .ok (.getfield 15, 3) := by decide +kernel
theorem d29 : decode yB 29 = .ok (.aload_n 2, 1) := by decide +kernel
theorem d30 : decode yB 30 = .ok (.getfield 15, 3) := by decide +kernel
theorem d33 : decode yB 33 = .ok (.if_icmp (.ne) 21, 3) := by decide +kernel
theorem d36 : decode yB 36 = .ok (.aload_n 0, 1) := by decide +kernel
theorem d37 : decode yB 37 = .ok (.getfield 9, 3) := by decide +kernel
theorem d40 : decode yB 40 = .ok (.aload_n 2, 1) := by decide +kernel
theorem d41 : decode yB 41 = .ok (.getfield 9, 3) := by decide +kernel
theorem d44 : decode yB 44 = .ok (.invokestatic 541, 3) := by decide +kernel
theorem d47 : decode yB 47 = .ok (.ifCond (.eq) 7, 3) := by decide +kernel
theorem d50 : decode yB 50 = .ok (.iconst 1, 1) := by decide +kernel
theorem d51 : decode yB 51 = .ok (.goto 4, 3) := by decide +kernel
theorem d54 : decode yB 54 = .ok (.iconst 0, 1) := by decide +kernel
theorem d55 : decode yB 55 = .ok (.ireturn, 1) := by decide +kernel
def site : List Cond := [.classLink "java/lang/String" 10 "java/lang/String", .fieldLink "java/lang/String" 38 "java/lang/String" "COMPACT_STRINGS" "Z", .fieldLink "java/lang/String" 15 "java/lang/String" "coder" "B", .fieldLink "java/lang/String" 9 "java/lang/String" "value" "[B", LEq.tab] ++ staticW "java/lang/String" 541 LEq.yN
def tab : Cond := tabOf yN yB 3 (some .boolean) site
def P (x t : Addr) (V : Cell) (cd : Int32) (n : Nat) (f : Nat → Int32) (y t' : Addr) (V' : Cell) (cd' : Int32) (k : Nat) (g : Nat → Int32) (z : Int32) (args : Array Value) (s : State) : Prop := args = #[.ref x, .ref y] ∧ Txt x t V cd n f s ∧ Txt y t' V' cd' k g s ∧ StaticIs s "java/lang/String" "COMPACT_STRINGS" "Z" (.int z) ∧ ¬ z = 0
/-- equals(Object) of two Strings: whether the texts are the same -/
theorem law (l : Launch) (x t : Addr) (V : Cell) (cd : Int32) (n : Nat) (f : Nat → Int32) (y t' : Addr) (V' : Cell) (cd' : Int32) (k : Nat) (g : Nat → Int32) (z : Int32) : Law l yN 2 1 1 14 yB 3 (some .boolean) site (P x t V cd n f y t' V' cd' k g z) (Says01 (SameT n f k g)) [] 0 0 := by
  refine Law.of_walk (plainFor_of_name (by decide +kernel)) (by decide +kernel) (by decide +kernel) (by decide) (fun _ _ h => by rw [h.1]; rfl) (fun _ U U' hal hh h => ⟨h.1, h.2.1.mv hal hh, h.2.2.1.mv hal hh, h.2.2.2.1.there hal hh, h.2.2.2.2⟩) (fun r U U' V V' h1 hal h2 h => Says01.mv r U U' V V' h1 hal h2 h) ?_
  intro p e s m args below meth c s₁ X0 hexec hbytes hml hret hlk hnm hown hh0 W hP
  obtain ⟨rfl, hx, hy, s1, hz⟩ := hP
  have c1 : Steps p.tables e below (s₁.setTop (entryFrame m #[.ref x, .ref y] 3)) (s₁.setTop (mkF m 2 #[.val (.ref x), .val (.ref y), .unset] [.ref y, .ref x])) := Steps.trans (entry rfl) (by
    show Steps p.tables e below (s₁.setTop (mkF m 0 #[.val (.ref x), .val (.ref y), .unset] [])) _
    refine XS.aloadN X0.here hexec rfl (hb hbytes d0) rfl rfl ?_
    refine XS.aloadN X0.here hexec rfl (hb hbytes d1) rfl rfl ?_
    exact Steps.refl _)
  by_cases hxy : x = y
  · have c2 : Steps p.tables e below (s₁.setTop (entryFrame m #[.ref x, .ref y] 3)) (s₁.setTop (mkF m 6 #[.val (.ref x), .val (.ref y), .unset] [.int 1])) := c1.trans (by
      refine acmpNo X0.here hexec rfl (hb hbytes d2) rfl rfl rfl (by simp [acmp, hxy]) ?_
      refine iconstV X0.here hexec rfl 1 (hb hbytes d5) (by decide) ?_
      exact Steps.refl _)
    subst hxy
    have ec : cd = cd' := by
      obtain ⟨D, fd, a1, a2, a3⟩ := hx.2.2.1
      obtain ⟨D', fd', b1, b2, b3⟩ := hy.2.2.1
      cases a1.symm.trans b1
      obtain ⟨q1, q2, q3, q4⟩ := a2.1
      obtain ⟨r1, r2, r3, r4⟩ := b2.1
      cases q4.symm.trans r4
      cases a3.symm.trans b3; rfl
    have et : t = t' := by
      obtain ⟨D, fd, a1, a2, a3⟩ := hx.2.1
      obtain ⟨D', fd', b1, b2, b3⟩ := hy.2.1
      cases a1.symm.trans b1
      obtain ⟨q1, q2, q3, q4⟩ := a2.1
      obtain ⟨r1, r2, r3, r4⟩ := b2.1
      cases q4.symm.trans r4
      cases a3.symm.trans b3; rfl
    subst ec et
    have ev : V = V' := by cases hx.2.2.2.1.1.symm.trans hy.2.2.2.1.1; rfl
    subst ev
    have hs : SameT n f k g := (Cod.eqv hx.2.2.2.2.1 hy.2.2.2.2.1 hx.2.2.2.2.2 hy.2.2.2.2.2).mp ⟨rfl, fun _ _ => rfl⟩
    exact ⟨s₁, some (.int 1), _, _, _, X0, rfl, rfl, rfl, (fun h => by cases h), ⟨1, rfl, hh0, Or.inl ⟨rfl, hs⟩⟩, fun fs hl => c2.trans (X0.ireturnOut hexec hret rfl (Or.inr (Or.inl rfl)) (hb hbytes d6) hl)⟩
  · have c2 : Steps p.tables e below (s₁.setTop (entryFrame m #[.ref x, .ref y] 3)) (s₁.setTop (mkF m 8 #[.val (.ref x), .val (.ref y), .unset] [.ref y])) := c1.trans (by
      refine acmpYes X0.here hexec rfl (pc0 := 2) rfl (hb hbytes d2) rfl rfl rfl (by simp [acmp, hxy]) (by decide) rfl ?_
      refine XS.aloadN X0.here hexec rfl (hb hbytes d7) rfl rfl ?_
      exact Steps.refl _)
    obtain ⟨T3, X3, q3, st3⟩ := cinst X0 hexec hown (wk W (.classLink "java/lang/String" 10 "java/lang/String")) (hy.mv X0.warmed.alike hh0).1 (g := (mkF m 8 #[.val (.ref x), .val (.ref y), .unset] [.ref y])) rfl (rest := []) rfl (hb hbytes d8)
    have hh3 := q3.trans hh0
    have c4 : Steps p.tables e below (s₁.setTop (entryFrame m #[.ref x, .ref y] 3)) (T3.setTop (mkF m 15 #[.val (.ref x), .val (.ref y), .unset] [.ref y])) := (c2.trans (st3 _ (Steps.refl _))).trans (by
      refine XS.ifNo X3.here hexec rfl (hb hbytes d11) rfl (i0_eq_f (by decide)) ?_
      refine XS.aloadN X3.here hexec rfl (hb hbytes d14) rfl rfl ?_
      exact Steps.refl _)
    obtain ⟨T5, X5, q5, st5⟩ := cself X3 hexec hown (wk W (.classLink "java/lang/String" 10 "java/lang/String")) (hy.mv X3.warmed.alike hh3).1 (g := (mkF m 15 #[.val (.ref x), .val (.ref y), .unset] [.ref y])) rfl (rest := []) rfl (hb hbytes d15)
    have hh5 := q5.trans hh3
    have c6 : Steps p.tables e below (s₁.setTop (entryFrame m #[.ref x, .ref y] 3)) (T5.setTop (mkF m 19 #[.val (.ref x), .val (.ref y), .val (.ref y)] [])) := (c4.trans (st5 _ (Steps.refl _))).trans (by
      refine XS.astoreN X5.here hexec rfl (hb hbytes d18) rfl rfl rfl ?_
      exact Steps.refl _)
    obtain ⟨T7, X7, q7, st7⟩ := X5.sget hexec hown (wk W (.fieldLink "java/lang/String" 38 "java/lang/String" "COMPACT_STRINGS" "Z")) s1 (fun _ _ h => by rw [hh5]; exact h) (g := (mkF m 19 #[.val (.ref x), .val (.ref y), .val (.ref y)] [])) rfl (hb hbytes d19)
    have hh7 := q7.trans hh5
    have c8 : Steps p.tables e below (s₁.setTop (entryFrame m #[.ref x, .ref y] 3)) (T7.setTop (mkF m 26 #[.val (.ref x), .val (.ref y), .val (.ref y)] [.ref x])) := (c6.trans (st7 _ (Steps.refl _))).trans (by
      refine XS.ifNo X7.here hexec rfl (hb hbytes d22) rfl (i0_eq_f hz) ?_
      refine XS.aloadN X7.here hexec rfl (hb hbytes d25) rfl rfl ?_
      exact Steps.refl _)
    obtain ⟨T9, X9, q9, st9⟩ := X7.hget hexec hown (wk W (.fieldLink "java/lang/String" 15 "java/lang/String" "coder" "B")) (hx.mv X7.warmed.alike hh7).2.2.1 (g := (mkF m 26 #[.val (.ref x), .val (.ref y), .val (.ref y)] [.ref x])) rfl (rest := []) rfl (hb hbytes d26)
    have hh9 := q9.trans hh7
    have c10 : Steps p.tables e below (s₁.setTop (entryFrame m #[.ref x, .ref y] 3)) (T9.setTop (mkF m 30 #[.val (.ref x), .val (.ref y), .val (.ref y)] [.ref y, .int cd])) := (c8.trans (st9 _ (Steps.refl _))).trans (by
      refine XS.aloadN X9.here hexec rfl (hb hbytes d29) rfl rfl ?_
      exact Steps.refl _)
    obtain ⟨T11, X11, q11, st11⟩ := X9.hget hexec hown (wk W (.fieldLink "java/lang/String" 15 "java/lang/String" "coder" "B")) (hy.mv X9.warmed.alike hh9).2.2.1 (g := (mkF m 30 #[.val (.ref x), .val (.ref y), .val (.ref y)] [.ref y, .int cd])) rfl (rest := [.int cd]) rfl (hb hbytes d30)
    have hh11 := q11.trans hh9
    have c12 : Steps p.tables e below (s₁.setTop (entryFrame m #[.ref x, .ref y] 3)) (T11.setTop (mkF m 33 #[.val (.ref x), .val (.ref y), .val (.ref y)] [.int cd', .int cd])) := c10.trans (st11 _ (Steps.refl _))
    by_cases hcd : cd = cd'
    · subst hcd
      have c13 : Steps p.tables e below (s₁.setTop (entryFrame m #[.ref x, .ref y] 3)) (T11.setTop (mkF m 37 #[.val (.ref x), .val (.ref y), .val (.ref y)] [.ref x])) := c12.trans (by
        refine XS.icmpNo X11.here hexec rfl (hb hbytes d33) rfl (ii_ne_f rfl) ?_
        refine XS.aloadN X11.here hexec rfl (hb hbytes d36) rfl rfl ?_
        exact Steps.refl _)
      obtain ⟨T14, X14, q14, st14⟩ := X11.hget hexec hown (wk W (.fieldLink "java/lang/String" 9 "java/lang/String" "value" "[B")) (hx.mv X11.warmed.alike hh11).2.1 (g := (mkF m 37 #[.val (.ref x), .val (.ref y), .val (.ref y)] [.ref x])) rfl (rest := []) rfl (hb hbytes d37)
      have hh14 := q14.trans hh11
      have c15 : Steps p.tables e below (s₁.setTop (entryFrame m #[.ref x, .ref y] 3)) (T14.setTop (mkF m 41 #[.val (.ref x), .val (.ref y), .val (.ref y)] [.ref y, .ref t])) := (c13.trans (st14 _ (Steps.refl _))).trans (by
        refine XS.aloadN X14.here hexec rfl (hb hbytes d40) rfl rfl ?_
        exact Steps.refl _)
      obtain ⟨T16, X16, q16, st16⟩ := X14.hget hexec hown (wk W (.fieldLink "java/lang/String" 9 "java/lang/String" "value" "[B")) (hy.mv X14.warmed.alike hh14).2.1 (g := (mkF m 41 #[.val (.ref x), .val (.ref y), .val (.ref y)] [.ref y, .ref t])) rfl (rest := [.ref t]) rfl (hb hbytes d41)
      have hh16 := q16.trans hh14
      have c17 : Steps p.tables e below (s₁.setTop (entryFrame m #[.ref x, .ref y] 3)) (T16.setTop (mkF m 44 #[.val (.ref x), .val (.ref y), .val (.ref y)] [.ref t', .ref t])) := c15.trans (st16 _ (Steps.refl _))
      obtain ⟨v18, T18, X18, E18, g18⟩ := X16.callS hexec (LEq.law l t V t' V') hown (wks W (staticW "java/lang/String" 541 LEq.yN)) (wk W LEq.tab) (W := 0) (Nat.le_of_ble_eq_true rfl) (Nat.le_of_ble_eq_true rfl) (Nat.le_refl _) (Nat.le_refl _) (g := (mkF m 44 #[.val (.ref x), .val (.ref y), .val (.ref y)] [.ref t', .ref t])) rfl (by rw [hml]; rfl) c17 (argsL := [.ref t, .ref t']) (rest := []) rfl rfl (by show 2 * 0 + 0 ≤ _; decide) (hb hbytes d44) (⟨rfl, hx.2.2.2.1.mv X16.warmed.alike hh16, hx.2.2.2.2.1.ty, hy.2.2.2.1.mv X16.warmed.alike hh16, hy.2.2.2.2.1.ty⟩)
      obtain ⟨v, rfl, q18, hv⟩ := E18
      have iff := Cod.eqv hx.2.2.2.2.1 hy.2.2.2.2.1 hx.2.2.2.2.2 hy.2.2.2.2.2
      rcases hv with ⟨rfl, he⟩ | ⟨rfl, he⟩
      · have c19 : Steps p.tables e below (s₁.setTop (entryFrame m #[.ref x, .ref y] 3)) (T18.setTop (mkF m 55 #[.val (.ref x), .val (.ref y), .val (.ref y)] [.int 1])) := Steps.trans g18 (by
          refine XS.ifNo X18.here hexec rfl (hb hbytes d47) rfl (i0_eq_f (by decide)) ?_
          refine iconstV X18.here hexec rfl 1 (hb hbytes d50) (by decide) ?_
          refine XS.goto X18.here hexec rfl (pc0 := 51) rfl (hb hbytes d51) (by decide) rfl ?_
          exact Steps.refl _)
        exact ⟨T18, some (.int 1), _, _, _, X18, rfl, rfl, rfl, (fun h => by cases h), ⟨1, rfl, q18.trans hh16, Or.inl ⟨rfl, iff.mp he⟩⟩, fun fs hl => c19.trans (X18.ireturnOut hexec hret rfl (Or.inr (Or.inl rfl)) (hb hbytes d55) hl)⟩
      · have c19 : Steps p.tables e below (s₁.setTop (entryFrame m #[.ref x, .ref y] 3)) (T18.setTop (mkF m 55 #[.val (.ref x), .val (.ref y), .val (.ref y)] [.int 0])) := Steps.trans g18 (by
          refine XS.ifYes X18.here hexec rfl (pc0 := 47) rfl (hb hbytes d47) rfl (i0_eq_t rfl) (by decide) rfl ?_
          refine iconstV X18.here hexec rfl 0 (hb hbytes d54) (by decide) ?_
          exact Steps.refl _)
        exact ⟨T18, some (.int 0), _, _, _, X18, rfl, rfl, rfl, (fun h => by cases h), ⟨0, rfl, q18.trans hh16, Or.inr ⟨rfl, fun q => he (iff.mpr q)⟩⟩, fun fs hl => c19.trans (X18.ireturnOut hexec hret rfl (Or.inr (Or.inl rfl)) (hb hbytes d55) hl)⟩
    · have c13 : Steps p.tables e below (s₁.setTop (entryFrame m #[.ref x, .ref y] 3)) (T11.setTop (mkF m 55 #[.val (.ref x), .val (.ref y), .val (.ref y)] [.int 0])) := c12.trans (by
        refine XS.icmpYes X11.here hexec rfl (pc0 := 33) rfl (hb hbytes d33) rfl (ii_ne_t hcd) (by decide) rfl ?_
        refine iconstV X11.here hexec rfl 0 (hb hbytes d54) (by decide) ?_
        exact Steps.refl _)
      exact ⟨T11, some (.int 0), _, _, _, X11, rfl, rfl, rfl, (fun h => by cases h), ⟨0, rfl, hh11, Or.inr ⟨rfl, Cod.dif hx.2.2.2.2.1 hy.2.2.2.2.1 hcd⟩⟩, fun fs hl => c13.trans (X11.ireturnOut hexec hret rfl (Or.inr (Or.inl rfl)) (hb hbytes d55) hl)⟩
theorem pays {l : Launch} {R : Room} {p : Program} {e : Env} {below : List Frame} {s : State} {sargs : Array Value} {len W : Nat} (x t : Addr) (V : Cell) (cd : Int32) (n : Nat) (f : Nat → Int32) (y t' : Addr) (V' : Cell) (cd' : Int32) (k : Nat) (g : Nat → Int32) (z : Int32) (htab : tab.before sargs s = true) (hfr : 2 ≤ R.frames) (hlo : W + 28 ≤ R.locals) :
    Back l R p e below s sargs yN len W (fun A₁ a₁ => A₁.cells + 0 ≤ R.cells ∧ A₁.slots + 0 ≤ R.slots ∧ P x t V cd n f y t' V' cd' k g z a₁ A₁.U) (fun A₁ _ v₁ B₁ => Says01 (SameT n f k g) v₁ A₁.U B₁.U ∧ B₁.locs = A₁.locs ++ [] ∧ B₁.cells = A₁.cells + 0 ∧ B₁.slots = A₁.slots + 0) :=
  (law l x t V cd n f y t' V' cd' k g z).pays htab hfr (by omega)
end SEq
end StrChars
namespace StrChars.Road
open Jvm Sem ClassFile Op Lib Jvm.Stand Jvm.Free Jvm.Free.XT
open Jvm.Lib.Cold (StaticIs)
/-- the words of String.equals(Object) -/
abbrev wordsEq : List Jvm.Cond := [.code SEq.yN SEq.yB 3 (some .boolean), .initialized ST, .classLink ST 10 ST, .fieldLink ST 38 ST "COMPACT_STRINGS" "Z", .fieldLink ST 15 ST "coder" "B", .fieldLink ST 9 ST "value" "[B", .methodLink ST 541 LEq.yN, .static LEq.yN, .code LEq.yN LEq.yB 3 (some .boolean), .initialized "java/lang/StringLatin1"]
theorem tabEq_of {a : Array Value} {s : State} (h : ∀ w ∈ wordsEq, w.before a s = true) : SEq.tab.before a s = true := by
  have hl : LEq.tab.before a s = true := unparts (wk h (.code LEq.yN LEq.yB 3 (some .boolean))) (wks h (.initialized LEq.yN.cls :: LEq.site))
  have q := consq hl h
  exact unparts (wk q (.code SEq.yN SEq.yB 3 (some .boolean))) (wks q (.initialized SEq.yN.cls :: SEq.site))
theorem movedEq {Z s : State} {a0 args : Array Value} (hZ : Z.Warmed39 s.vm) (hw : ∀ d ∈ wordsEq, d.before a0 Z = true) : ∀ d ∈ wordsEq, d.before args s = true := fun d hd => by
  have t : ∀ d ∈ wordsEq, (d.onTables && d.keepsFace) = true := by decide +kernel
  exact RoadKit.mv hZ (hw d hd) (t d hd)
/-- the road's facts of a String, as the laws ask it -/
theorem txt_of {Z U : State} {a0 : Array Value} {kI : Nat} (wi : (Jvm.Cond.instantiable ST kI).before a0 Z = true) (al : Z.vm.Alike U.vm) {x t : Addr} {kb : ClassId} {cs : List Int32} {cd N2 : Int32} {vs : List Value} (E : RoadKit.Exa Z U.heap x ST) (V : RoadKit.Fld Z U.heap x ST "value" "[B" (.ref t)) (C : RoadKit.Fld Z U.heap x ST "coder" "B" (.int cd)) (K : RoadKit.Arv Z U.heap t kb .byte N2 vs (.int 0)) (hc : CodA cs cd N2 vs) (hb : ∀ c ∈ cs, ¬ c < 0 ∧ ¬ (65535 : Int32) < c) (l2 : cs.length ≤ 4000) :
    ∃ A, Txt x t A cd cs.length (fun j => cs.getD j 0) U := by
  obtain ⟨A, K1, K2, K3, K4, K5, K6⟩ := K
  have hcod := hc.cod (by omega) K3 K5
  obtain ⟨D, fV, fC, hB, F1, F2, g1, g2, -, -⟩ := strObj wi al E V C
  exact ⟨A, ⟨_, hB.2.2.1, D, hB.1, rfl, by cases q : D.vm <;> first | rfl | exact absurd q (hB.2.1.2 _)⟩, Has.of hB F1 g1, Has.of hB F2 g2, ⟨K1.1, State.isArrayOf_alike al K1.2.1, K1.2.2, by rcases hcod with ⟨-, q, -⟩ | ⟨-, q, -⟩ <;> omega⟩, hcod, fun j hj => by
    have e : cs.getD j 0 = cs[j] := by simp [List.getD_eq_getElem?_getD, hj]
    show ¬ cs.getD j 0 < 0 ∧ ¬ 65535 < cs.getD j 0
    rw [e]; exact hb _ (List.getElem_mem _)⟩
theorem same_list (cs ds : List Int32) : SameT cs.length (fun j => cs.getD j 0) ds.length (fun j => ds.getD j 0) ↔ cs = ds := by
  constructor
  · rintro ⟨e, q⟩
    refine List.ext_getElem e fun j h1 h2 => ?_
    have := q j h1
    simpa [List.getD_eq_getElem?_getD, h1, h2] using this
  · rintro rfl
    exact ⟨rfl, fun _ _ => rfl⟩
/-- **equals(Object) OF TWO SUCH STRINGS**: 1 just where the chars are the same -/
theorem eqW {p : Program} {l : Launch} {e : Env} {R : Room} {s : State} {args : Array Value} {below : List Frame} {len W : Nat} {Z : State} {a0 : Array Value} {h : Heap} (hZ : Z.Warmed39 s.vm) (hw : ∀ d ∈ wordsEq, d.before a0 Z = true) {kI : Nat} (wi : (Jvm.Cond.instantiable ST kI).before a0 Z = true)
    {x t : Addr} {kb : ClassId} {cs : List Int32} {cd N2 : Int32} {vs : List Value} (E : RoadKit.Exa Z h x ST) (V : RoadKit.Fld Z h x ST "value" "[B" (.ref t)) (C : RoadKit.Fld Z h x ST "coder" "B" (.int cd)) (K : RoadKit.Arv Z h t kb .byte N2 vs (.int 0)) (hc : CodA cs cd N2 vs) (hb : ∀ c ∈ cs, ¬ c < 0 ∧ ¬ (65535 : Int32) < c) (l2 : cs.length ≤ 4000)
    {y t' : Addr} {kb' : ClassId} {ds : List Int32} {cd' N2' : Int32} {vs' : List Value} (E' : RoadKit.Exa Z h y ST) (V' : RoadKit.Fld Z h y ST "value" "[B" (.ref t')) (C' : RoadKit.Fld Z h y ST "coder" "B" (.int cd')) (K' : RoadKit.Arv Z h t' kb' .byte N2' vs' (.int 0)) (hc' : CodA ds cd' N2' vs') (hb' : ∀ c ∈ ds, ¬ c < 0 ∧ ¬ (65535 : Int32) < c) (l2' : ds.length ≤ 4000)
    {z : Int32} (S : RoadKit.Sta Z h ST "COMPACT_STRINGS" "Z" (.int z)) (hz : ¬ z = 0) (hfr : 2 ≤ R.frames) (hlo : W + 28 ≤ R.locals) :
    Back l R p e below s args (⟨"java/lang/String", "equals", "(Ljava/lang/Object;)Z"⟩ : MethodName) len W (fun P a => a = #[.ref x, .ref y] ∧ P.U.heap = h ∧ P.cells + 0 ≤ R.cells ∧ P.slots + 0 ≤ R.slots)
      (fun P _ v B => ∃ L, (((v = some (.int 1) ∧ cs = ds) ∨ (v = some (.int 0) ∧ ¬ cs = ds)) ∧ L = [] ∧ B.U.heap = h) ∧ B.locs = P.locs ++ L ∧ B.cells = P.cells + 0 ∧ B.slots = P.slots + 0) := by
  intro m meth c P g ig mk a X hg hsize hdg hW hn hp'
  obtain ⟨rfl, rfl, r1, r2⟩ := hp'
  have al : Z.vm.Alike P.U.vm := hZ.alike.trans X.warmed.alike
  obtain ⟨A, hx⟩ := txt_of wi al E V C K hc hb l2
  obtain ⟨A', hy⟩ := txt_of wi al E' V' C' K' hc' hb' l2'
  obtain ⟨v, B, X', ⟨⟨w, hv, hh, hq⟩, hl, hk, hs⟩, st⟩ := SEq.pays x t A cd cs.length (fun j => cs.getD j 0) y t' A' cd' ds.length (fun j => ds.getD j 0) z (tabEq_of (movedEq hZ hw)) hfr hlo m meth c P g ig mk _ X hg hsize hdg hW hn ⟨r1, r2, rfl, hx, hy, sta_is al S, hz⟩
  refine ⟨v, B, X', ⟨[], ⟨?_, rfl, hh⟩, hl, hk, hs⟩, st⟩
  rcases hq with ⟨rfl, q⟩ | ⟨rfl, q⟩
  · exact Or.inl ⟨hv, (same_list cs ds).mp q⟩
  · exact Or.inr ⟨hv, fun e => q ((same_list cs ds).mpr e)⟩
end StrChars.Road
namespace StrChars.Road
open Jvm Sem ClassFile Op Lib Jvm.Stand Jvm.Free Jvm.Free.XT
open Jvm.Lib.Cold (StaticIs)
/-- what backV says of its String, as the contracts of this text ask it: cs's low bytes, coder 0 -/
theorem codOf {cs : List Int32} {n : Nat} (hn : cs.length = n) (hb : ∀ c ∈ cs, ¬ 255 < c) : CodA cs 0 (Int32.ofNat n) ((cs.map lo8).map Value.int) := Or.inl ⟨rfl, by rw [hn], by simp [List.map_map, Function.comp_def], hb⟩
end StrChars.Road
end Jvm.Pilot.@@N@@

namespace Jvm.Pilot.@@N@@
namespace Own
open Jvm Jvm.ClassFile Sem Op Lib Jvm.Free Jvm.Stand Jvm.LawKit Jvm.RoadKit
section Kit
variable {p : Program} {l : Launch} {e : Env} {R : Room} {s : State} {m : MethodId} {args : Array Value} {below : List Frame} {meth : Method} {c : Code} {T : State} {locs : List Loc} {cells slots : Nat} {Z : State} {a0 : Array Value} {h : Heap}
/-- what is left to show from a state S on: the run comes to the method's end, with Q of what it returned, the heap and the places written -/
def Gl (p : Program) (e : Env) (below : List Frame) (s : State) (rc rs : Nat) (Q : Option Value → Heap → List Loc → Prop) (S : State) : Prop :=
  ∃ s₂ o, Steps p.tables e below S s₂ ∧ s₂.status = .running ∧ Ended s₂ below o ∧ ∃ v L, o = .returned v ∧ Q v s₂.heap L ∧ FrameEnd s o s₂ L rc rs
variable {rc rs : Nat} {Q : Option Value → Heap → List Loc → Prop} {S S' : State}
theorem Gl.by (k : ∀ t, Steps p.tables e below S' t → Steps p.tables e below S t) (g : Gl p e below s rc rs Q S') : Gl p e below s rc rs Q S := by
  obtain ⟨t, o, h1, h2⟩ := g
  exact ⟨t, o, k t h1, h2⟩
theorem Gl.tr (k : Steps p.tables e below S S') (g : Gl p e below s rc rs Q S') : Gl p e below s rc rs Q S := Gl.by (fun _ q => k.trans q) g
theorem Gl.mono {Q' : Option Value → Heap → List Loc → Prop} (hq : ∀ v h L, Q v h L → Q' v h L) (g : Gl p e below s rc rs Q S) : Gl p e below s rc rs Q' S := by
  obtain ⟨t, o, h1, h2, h3, v, L, h4, h5, h6⟩ := g
  exact ⟨t, o, h1, h2, h3, v, L, h4, hq _ _ _ h5, h6⟩
theorem wider {c' n' : Nat} (X : Stand p l e R s m args below meth c T locs cells slots) (hc : cells ≤ c') (hn : slots ≤ n') : Stand p l e R s m args below meth c T locs c' n' :=
  { X with same := X.same.mono hc hn }
theorem Gl.retZ (X : Stand p l e R s m args below meth c T locs cells slots) (hx : p.tables.exec = Jvm.exec) (hlk : meth.locks = false) {t : FieldType} (hret : meth.sig.returnType = some t) (ht : t = .boolean ∨ t = .byte ∨ t = .char ∨ t = .short)
    {pc : Nat} {Ls : Array Slot} {z : Int32} {rest : List Value} (hd : decode c.code pc = .ok (.ireturn, 1)) (hc : cells ≤ rc) (hs : slots ≤ rs) (hq : Q (some (.int (nar t z))) T.heap locs) :
    Gl p e below s rc rs Q (T.setTop (mkF m pc Ls (.int z :: rest))) := by
  obtain ⟨fs, hr, hrun, hended, hW, hsame⟩ := X.leave (v := some (.int (nar t z))) (fun h => by rw [hret] at h; cases h) hlk
  exact ⟨_, _, retN X hx hret ht hd hr, hrun, hended, _, _, rfl, hq, ⟨_, rfl⟩, hW, hsame.mono hc hs⟩
theorem Gl.retI (X : Stand p l e R s m args below meth c T locs cells slots) (hx : p.tables.exec = Jvm.exec) (hlk : meth.locks = false) (hret : meth.sig.returnType = some .int)
    {pc : Nat} {Ls : Array Slot} {z : Int32} {rest : List Value} (hd : decode c.code pc = .ok (.ireturn, 1)) (hc : cells ≤ rc) (hs : slots ≤ rs) (hq : Q (some (.int z)) T.heap locs) :
    Gl p e below s rc rs Q (T.setTop (mkF m pc Ls (.int z :: rest))) := by
  obtain ⟨fs, hr, hrun, hended, hW, hsame⟩ := X.leave (v := some (.int z)) (fun h => by rw [hret] at h; cases h) hlk
  refine ⟨_, _, ?_, hrun, hended, _, _, rfl, hq, ⟨_, rfl⟩, hW, hsame.mono hc hs⟩
  have hm' : T.vm.method? m = some meth := X.method'
  have hn : narrow .int (.int z) = .int z := rfl
  show Steps p.tables e below (T.setTop { method := m, pc := pc, locals := Ls, stack := _ :: rest, locked := none }) _
  jvm_step X.here [X.here.top, hx, hd, hm', hret, hn]
  first | (intro acts; rw [hr _ acts rfl rfl rfl]) | rw [hr _ _ rfl rfl rfl]
  exact Steps.refl _
theorem Gl.retA (X : Stand p l e R s m args below meth c T locs cells slots) (hx : p.tables.exec = Jvm.exec) (hlk : meth.locks = false) {t : FieldType} (hret : meth.sig.returnType = some t) (ht : t.isReference = true)
    {pc : Nat} {Ls : Array Slot} {w : Value} {rest : List Value} (hv : w.isRef = true) (hd : decode c.code pc = .ok (.areturn, 1)) (hc : cells ≤ rc) (hs : slots ≤ rs) (hq : Q (some w) T.heap locs) :
    Gl p e below s rc rs Q (T.setTop (mkF m pc Ls (w :: rest))) := by
  obtain ⟨fs, hr, hrun, hended, hW, hsame⟩ := X.leave (v := some w) (fun h => by rw [hret] at h; cases h) hlk
  refine ⟨_, _, ?_, hrun, hended, _, _, rfl, hq, ⟨_, rfl⟩, hW, hsame.mono hc hs⟩
  have hm' : T.vm.method? m = some meth := X.method'
  show Steps p.tables e below (T.setTop { method := m, pc := pc, locals := Ls, stack := _ :: rest, locked := none }) _
  jvm_step X.here [X.here.top, hx, hd, hm', hret, hv, ht]
  first | (intro acts; rw [hr _ acts rfl rfl rfl]) | rw [hr _ _ rfl rfl rfl]
  exact Steps.refl _
theorem Gl.retV (X : Stand p l e R s m args below meth c T locs cells slots) (hx : p.tables.exec = Jvm.exec) (hlk : meth.locks = false) (hret : meth.sig.returnType = none)
    {pc : Nat} {Ls : Array Slot} (hd : decode c.code pc = .ok (.return_, 1)) (hc : cells ≤ rc) (hs : slots ≤ rs) (hq : Q none T.heap locs) :
    Gl p e below s rc rs Q (T.setTop (mkF m pc Ls [])) := by
  obtain ⟨fs, hr, hrun, hended, hW, hsame⟩ := X.leave (v := none) (fun _ => rfl) hlk
  exact ⟨_, _, X.returnOut hx hret hd hr, hrun, hended, _, _, rfl, hq, ⟨_, rfl⟩, hW, hsame.mono hc hs⟩
/-- a body's contract -/
abbrev Ctr (l : Launch) (Z : State) (y : MethodName) (bytes : ByteArray) (maxL : Nat) (ret : Option FieldType) (ws : List Jvm.Cond) (rm : Room) (as' : Array Value) (h : Heap) (Q : Option Value → Heap → List Loc → Prop) : Prop :=
  MetFree l y (head1 (Jvm.Cond.code y bytes maxL ret :: ws) rm) (fun a U => a = as' ∧ Z.Warmed39 U.vm ∧ U.heap = h) (fun _ _ _ _ _ => True) (fun _ U o U' => ∃ v L, o = .returned v ∧ Q v U'.heap L ∧ FrameEnd U o U' L rm.cells rm.slots)
theorem Ctr.intro {y : MethodName} {bytes : ByteArray} {maxL : Nat} {ret : Option FieldType} {ws : List Jvm.Cond} {rm : Room} {as' : Array Value} (hpn : plainName y.cls = true) (Ls : Array Slot) (hef : ∀ m, entryFrame m as' maxL = mkF m 0 Ls [])
    (body : ∀ (p : Program) (e : Env) (s : State) (m : MethodId) (below : List Frame) (meth : Method) (c : Code) (T : State), p.tables.exec = Jvm.exec → c.code = bytes → c.maxLocals = maxL → s.vm.findClass y.cls = some m.cls → meth.name = y.name → meth.sig.returnType = ret → meth.locks = false → Z.Warmed39 s.vm →
      Stand p l e rm s m as' below meth c T [] 0 0 → T.heap = h → Gl p e below s rm.cells rm.slots Q (T.setTop (mkF m 0 Ls []))) : Ctr l Z y bytes maxL ret ws rm as' h Q := by
  refine MetFree.of_bodySF (plainFor_of_name hpn) hisR ?_
  intro p e s m args below meth c s₁ Bd hml0 hP hK
  obtain ⟨rfl, hZ, hh⟩ := hP
  have g := body p e s m below meth c s₁ Bd.exec Bd.bytes hml0 (findClass_of_methodNamed Bd.named) (name_of_methodNamed Bd.named Bd.method).1 Bd.returns (BodyLoose.notSynchronized Bd) hZ (Stand.of_body Bd) (by rw [← hh, Bd.state]; rfl)
  rw [← hef m] at g
  exact g
/-- a call's payer, by what it leaves -/
abbrev BackQ (l : Launch) (R : Room) (p : Program) (e : Env) (below : List Frame) (s : State) (args : Array Value) (y : MethodName) (len W : Nat) (as' : Array Value) (h : Heap) (kc ks : Nat) (Qc : Option Value → Heap → List Loc → Prop) : Prop :=
  Back l R p e below s args y len W (fun A a => a = as' ∧ A.U.heap = h ∧ A.cells + kc ≤ R.cells ∧ A.slots + ks ≤ R.slots) (fun A _ v B => ∃ L, Qc v B.U.heap L ∧ B.locs = A.locs ++ L ∧ B.cells = A.cells + kc ∧ B.slots = A.slots + ks)
theorem backC {y : MethodName} {bytes : ByteArray} {maxL : Nat} {ret : Option FieldType} {rm : Room} {len W : Nat} {as' : Array Value} {Qc : Option Value → Heap → List Loc → Prop} (hM : Ctr l Z y bytes maxL ret [] rm as' h Qc)
    (hZ : Z.Warmed39 s.vm) (wc : (Jvm.Cond.code y bytes maxL ret).before a0 Z = true) (wz : (Jvm.Cond.initialized y.cls).before a0 Z = true) (hf : rm.frames + 1 ≤ R.frames) (hl : W + (maxL + 11) + rm.locals ≤ R.locals) :
    BackQ l R p e below s args y len W as' h rm.cells rm.slots Qc := backOf hM hZ wc wz hf hl
variable {W kc ks : Nat} {as' : Array Value} {Qc : Option Value → Heap → List Loc → Prop}
theorem Gl.stat (X : Stand p l e R s m args below meth c T locs cells slots) (hx : p.tables.exec = Jvm.exec) (hZ : Z.Warmed39 s.vm) {own : String} {index : Nat} {y : MethodName} {bytes : ByteArray} {maxL : Nat} {ret : Option FieldType}
    (hown : s.vm.findClass own = some m.cls) (w1 : (Jvm.Cond.methodLink own index y).before a0 Z = true) (w2 : (Jvm.Cond.static y).before a0 Z = true) (w3 : (Jvm.Cond.initialized y.cls).before a0 Z = true)
    (w4 : (Jvm.Cond.code y bytes maxL ret).before a0 Z = true) (hy : y.cls ≠ "java/lang/invoke/MethodHandle" ∧ y.cls ≠ "java/lang/invoke/VarHandle")
    (hK : BackQ l R p e below s args y 3 W as' h kc ks Qc) (eT : T.heap = h) {pc : Nat} {Ls : Array Slot} {st : List Value} (hd : decode c.code pc = .ok (.invokestatic index, 3)) (hsz : Ls.size = c.maxLocals) (argsL rest : List Value)
    (hlen : ∀ sig, parseMethodDescriptor y.desc = some sig → argsL.length = sig.parameters.length) (hst : st = argsL.reverse ++ rest) (has : argsL.toArray = as') (hW : (rest.map fun v => v.category).sum ≤ W) (hc : cells + kc ≤ R.cells) (hs : slots + ks ≤ R.slots)
    (k : ∀ v T' L, Stand p l e R s m args below meth c T' (locs ++ L) (cells + kc) (slots + ks) → Qc v T'.heap L → Gl p e below s rc rs Q (T'.setTop (mkF m (pc + 3) Ls (v.toList ++ rest)))) :
    Gl p e below s rc rs Q (T.setTop (mkF m pc Ls st)) := by
  obtain ⟨v, vm₁, ⟨U', ls, cc, sl⟩, hW₁, X', ⟨L, q1, q2, q3, q4⟩, stp⟩ := Jvm.LawKit.callS X hx hown (mvT hZ w1) (mvT hZ w2) (mvT hZ w3) (mvT hZ w4) hy hK (g := mkF m pc Ls st) rfl hsz hlen hst (by show 2 * 0 + _ ≤ _; omega) hd (fun _ _ => ⟨has, eT, hc, hs⟩)
  dsimp only [Pt.U, Pt.locs, Pt.cells, Pt.slots] at X' q1 q2 q3 q4 stp
  subst q2 q3 q4
  exact Gl.by stp (k v U' L X' q1)
theorem Gl.spec (X : Stand p l e R s m args below meth c T locs cells slots) (hx : p.tables.exec = Jvm.exec) (hZ : Z.Warmed39 s.vm) {own : String} {index : Nat} {y : MethodName} {bytes : ByteArray} {maxL : Nat} (hy1 : y.name = "<init>")
    (hown : s.vm.findClass own = some m.cls) (w1 : (Jvm.Cond.methodLink own index y).before a0 Z = true) (w2 : (Jvm.Cond.instanceMethod y).before a0 Z = true)
    (w4 : (Jvm.Cond.code y bytes maxL none).before a0 Z = true) (hy : y.cls ≠ "java/lang/invoke/MethodHandle" ∧ y.cls ≠ "java/lang/invoke/VarHandle")
    (hK : BackQ l R p e below s args y 3 W as' h kc ks Qc) (eT : T.heap = h) {pc : Nat} {Ls : Array Slot} {st : List Value} (hd : decode c.code pc = .ok (.invokespecial index, 3)) (hsz : Ls.size = c.maxLocals) (a : Addr) (argsL rest : List Value)
    (hlen : ∀ sig, parseMethodDescriptor y.desc = some sig → argsL.length = sig.parameters.length) (hst : st = argsL.reverse ++ .ref a :: rest) (has : (.ref a :: argsL).toArray = as') (hW : (rest.map fun v => v.category).sum ≤ W) (hc : cells + kc ≤ R.cells) (hs : slots + ks ≤ R.slots)
    (k : ∀ v T' L, Stand p l e R s m args below meth c T' (locs ++ L) (cells + kc) (slots + ks) → Qc v T'.heap L → Gl p e below s rc rs Q (T'.setTop (mkF m (pc + 3) Ls (v.toList ++ rest)))) :
    Gl p e below s rc rs Q (T.setTop (mkF m pc Ls st)) := by
  obtain ⟨v, vm₁, ⟨U', ls, cc, sl⟩, hW₁, X', ⟨L, q1, q2, q3, q4⟩, stp⟩ := X.specialBack hx hy1 hown (mvT hZ w1) (mvT hZ w2) (mvT hZ w4) hy hK (g := mkF m pc Ls st) rfl hsz (Steps.refl _) hlen hst (by show 2 * 0 + _ ≤ _; omega) hd (fun _ _ => ⟨has, eT, hc, hs⟩)
  dsimp only [Pt.U, Pt.locs, Pt.cells, Pt.slots] at X' q1 q2 q3 q4 stp
  subst q2 q3 q4
  exact Gl.tr stp (k v U' L X' q1)
theorem Gl.virt (X : Stand p l e R s m args below meth c T locs cells slots) (hx : p.tables.exec = Jvm.exec) (hZ : Z.Warmed39 s.vm) {own C : String} {index : Nat} {y z : MethodName}
    (hown : s.vm.findClass own = some m.cls) (w1 : (Jvm.Cond.methodLink own index y).before a0 Z = true) (w2 : (Jvm.Cond.declares y).before a0 Z = true) (w3 : (Jvm.Cond.selects C y z).before a0 Z = true) (w4 : (Jvm.Cond.instanceMethod z).before a0 Z = true) (nf : NotFace s y)
    (hy : y.cls ≠ "java/lang/invoke/MethodHandle" ∧ y.cls ≠ "java/lang/invoke/VarHandle") {a : Addr} (E : Exa Z h a C)
    (hK : BackQ l R p e below s args z 3 W as' h kc ks Qc) (eT : T.heap = h) {pc : Nat} {Ls : Array Slot} {st : List Value} (hd : decode c.code pc = .ok (.invokevirtual index, 3)) (hsz : Ls.size = c.maxLocals) (argsL rest : List Value)
    (hlen : ∀ sig, parseMethodDescriptor y.desc = some sig → argsL.length = sig.parameters.length) (hst : st = argsL.reverse ++ .ref a :: rest) (has : (.ref a :: argsL).toArray = as') (hW : (rest.map fun v => v.category).sum ≤ W) (hc : cells + kc ≤ R.cells) (hs : slots + ks ≤ R.slots)
    (k : ∀ v T' L, Stand p l e R s m args below meth c T' (locs ++ L) (cells + kc) (slots + ks) → Qc v T'.heap L → Gl p e below s rc rs Q (T'.setTop (mkF m (pc + 3) Ls (v.toList ++ rest)))) :
    Gl p e below s rc rs Q (T.setTop (mkF m pc Ls st)) := by
  obtain ⟨cq, kq, i1, i2, i3⟩ := isOf hZ eT E
  obtain ⟨v, vm₁, ⟨U', ls, cc, sl⟩, hW₁, X', ⟨L, q1, q2, q3, q4⟩, stp⟩ := X.virtualBack hx hown (mvT hZ w1) (mvT hZ w2) nf (mvT hZ w3) (mvT hZ w4) hy hK i1 i3 (g := mkF m pc Ls st) rfl hsz (Steps.refl _) hlen hst (by show 2 * 0 + _ ≤ _; omega) hd (fun _ _ => ⟨has, eT, hc, hs⟩)
  dsimp only [Pt.U, Pt.locs, Pt.cells, Pt.slots] at X' q1 q2 q3 q4 stp
  subst q2 q3 q4
  exact Gl.tr stp (k v U' L X' q1)
theorem Gl.face (X : Stand p l e R s m args below meth c T locs cells slots) (hx : p.tables.exec = Jvm.exec) (hZ : Z.Warmed39 s.vm) {own C : String} {index count : Nat} {y z : MethodName}
    (hown : s.vm.findClass own = some m.cls) (w1 : (Jvm.Cond.methodLink own index y).before a0 Z = true) (w2 : (Jvm.Cond.declares y).before a0 Z = true) (w3 : (Jvm.Cond.interfaceMethod y.cls y.cls y.name y.desc).before args s = true) (w4 : (Jvm.Cond.selects C y z).before a0 Z = true) (w5 : (Jvm.Cond.instanceMethod z).before a0 Z = true)
    (w6 : (Jvm.Cond.publicMethod z).before a0 Z = true) (w7 : (Jvm.Cond.unhidden C y.name y.desc).before a0 Z = true) (w8 : (Jvm.Cond.castable C y.cls).before a0 Z = true)
    (hy : y.cls ≠ "java/lang/invoke/MethodHandle" ∧ y.cls ≠ "java/lang/invoke/VarHandle") {a : Addr} (E : Exa Z h a C)
    (hK : BackQ l R p e below s args z 5 W as' h kc ks Qc) (eT : T.heap = h) {pc : Nat} {Ls : Array Slot} {st : List Value} (hd : decode c.code pc = .ok (.invokeinterface index count, 5)) (hsz : Ls.size = c.maxLocals) (argsL rest : List Value)
    (hlen : ∀ sig, parseMethodDescriptor y.desc = some sig → argsL.length = sig.parameters.length) (hst : st = argsL.reverse ++ .ref a :: rest) (has : (.ref a :: argsL).toArray = as') (hW : (rest.map fun v => v.category).sum ≤ W) (hc : cells + kc ≤ R.cells) (hs : slots + ks ≤ R.slots)
    (k : ∀ v T' L, Stand p l e R s m args below meth c T' (locs ++ L) (cells + kc) (slots + ks) → Qc v T'.heap L → Gl p e below s rc rs Q (T'.setTop (mkF m (pc + 5) Ls (v.toList ++ rest)))) :
    Gl p e below s rc rs Q (T.setTop (mkF m pc Ls st)) := by
  obtain ⟨cq, kq, i1, i2, i3⟩ := isOf hZ eT E
  obtain ⟨v, vm₁, ⟨U', ls, cc, sl⟩, hW₁, X', ⟨L, q1, q2, q3, q4⟩, stp⟩ := X.interfaceBack hx (xi := y) (y := z) hown (mvT hZ w1) (mvT hZ w2) w3 (mvT hZ w4) (mvT hZ w5) (mvT hZ w6) (mvT hZ w7) (mvT hZ w8) hy hK i1 i2 i3 (g := mkF m pc Ls st) rfl hsz (Steps.refl _) hlen hst (by show 2 * 0 + _ ≤ _; omega) hd (fun _ _ => ⟨has, eT, hc, hs⟩)
  dsimp only [Pt.U, Pt.locs, Pt.cells, Pt.slots] at X' q1 q2 q3 q4 stp
  subst q2 q3 q4
  exact Gl.tr stp (k v U' L X' q1)
theorem Gl.priv (X : Stand p l e R s m args below meth c T locs cells slots) (hx : p.tables.exec = Jvm.exec) (hZ : Z.Warmed39 s.vm) {own C : String} {index : Nat} {y : MethodName} {bytes : ByteArray} {maxL : Nat} {ret : Option FieldType}
    (hown : s.vm.findClass own = some m.cls) (w1 : (Jvm.Cond.methodLink own index y).before a0 Z = true) (w2 : (Jvm.Cond.instanceMethod y).before a0 Z = true) (w3 : (Jvm.Cond.selects y.cls y y).before a0 Z = true) (w4 : (Jvm.Cond.privateMethod y).before a0 Z = true) (w5 : (Jvm.Cond.code y bytes maxL ret).before a0 Z = true)
    (hy : y.cls ≠ "java/lang/invoke/MethodHandle" ∧ y.cls ≠ "java/lang/invoke/VarHandle") {a : Addr} (E : Exa Z h a C)
    (hK : BackQ l R p e below s args y 3 W as' h kc ks Qc) (eT : T.heap = h) {pc : Nat} {Ls : Array Slot} {st : List Value} (hd : decode c.code pc = .ok (.invokevirtual index, 3)) (hsz : Ls.size = c.maxLocals) (argsL rest : List Value)
    (hlen : ∀ sig, parseMethodDescriptor y.desc = some sig → argsL.length = sig.parameters.length) (hst : st = argsL.reverse ++ .ref a :: rest) (has : (.ref a :: argsL).toArray = as') (hW : (rest.map fun v => v.category).sum ≤ W) (hc : cells + kc ≤ R.cells) (hs : slots + ks ≤ R.slots)
    (k : ∀ v T' L, Stand p l e R s m args below meth c T' (locs ++ L) (cells + kc) (slots + ks) → Qc v T'.heap L → Gl p e below s rc rs Q (T'.setTop (mkF m (pc + 3) Ls (v.toList ++ rest)))) :
    Gl p e below s rc rs Q (T.setTop (mkF m pc Ls st)) := by
  obtain ⟨cq, i1, i2⟩ := E.cell
  obtain ⟨v, vm₁, ⟨U', ls, cc, sl⟩, hW₁, X', ⟨L, q1, q2, q3, q4⟩, stp⟩ := X.privateBack hx hown (mvT hZ w1) (mvT hZ w2) (mvT hZ w3) (Cond.privateMethod_at (mvP hZ w4 (args := #[]))) (mvT hZ w5) hy hK (g := mkF m pc Ls st) rfl hsz (Steps.refl _) (by rw [eT]; exact i1) i2 hlen hst (by show 2 * 0 + _ ≤ _; omega) hd (fun _ _ => ⟨has, eT, hc, hs⟩)
  dsimp only [Pt.U, Pt.locs, Pt.cells, Pt.slots] at X' q1 q2 q3 q4 stp
  subst q2 q3 q4
  exact Gl.tr stp (k v U' L X' q1)
theorem nf_of_sel {C : String} {y z y' : MethodName} (hsel : (Jvm.Cond.selects C y z).before args s = true) (hc : z.cls = y'.cls) : NotFace s y' := fun r0 h0 => by
  obtain ⟨c2, r2, m2, q1, q2, q3, q4, kP, hkP, hkPi⟩ := Cond.selects_spec hsel
  have a := findClass_of_methodNamed h0
  have b := findClass_of_methodNamed q3
  rw [hc] at b
  have e : r0.cls = m2.cls := Option.some.inj (a.symm.trans b)
  exact ⟨kP, by rw [e]; exact hkP, hkPi⟩
theorem nea {a b : Nat} (h : a < b ∨ b < a) : a ≠ b := by omega
theorem fitsR {C : String} {v : Value} (h : v.isRef = true) : fits (.object C) v = true := by cases v <;> first | rfl | (simp [Value.isRef] at h)
theorem narR {C : String} {v : Value} : narrow (.object C) v = v := by cases v <;> rfl
theorem isref_cat {v : Value} (h : v.isRef = true) : v.category = 1 := by cases v <;> first | rfl | (simp [Value.isRef] at h)
theorem notAssign {C O K : String} {n : Nat} (w0 : (Jvm.Cond.noSuperclass O).before a0 Z = true) (w1 : (Jvm.Cond.superclass C O).before a0 Z = true) (wi : (Jvm.Cond.instantiable K n).before a0 Z = true) (hn : C ≠ K) (hn' : O ≠ K) :
    ∃ c t, Z.vm.findClass C = some c ∧ Z.vm.findClass K = some t ∧ Z.vm.assignable c t = false := by
  obtain ⟨t, kt, t1, t2, t3, t4, -⟩ := Cond.instantiable_spec wi
  obtain ⟨o, ko, o1, o2, o3, -, -⟩ := Cond.noSuperclass_spec w0
  obtain ⟨c, h0⟩ := found_sup w1
  obtain ⟨p, k, kp, h1, h2, h3, h4, h5, -, h7⟩ := Cond.superclass_spec h0 w1
  cases o1.symm.trans h1
  have ne1 : c ≠ t := ids_ne h0 t1 hn
  have ne2 : o ≠ t := ids_ne o1 t1 hn'
  have t5 : kt.isInterface = false := by
    cases q : kt.isInterface with
    | false => rfl
    | true => rw [q] at t4; cases t4
  have n2 : ∀ fuel, Z.vm.isSubclassAux fuel o t = false := fun fuel => by
    cases fuel with
    | zero => rfl
    | succ f => simp [Vm.isSubclassAux, ne2, o2, o3]
  have n3 : ∀ fuel, Z.vm.isSubclassAux fuel c t = false := fun fuel => by
    cases fuel with
    | zero => rfl
    | succ f => simp [Vm.isSubclassAux, ne1, h2, h4, n2]
  refine ⟨c, t, h0, t1, ?_⟩
  show Z.vm.assignableAux (255 + 1) c t = false
  simp [Vm.assignableAux, ne1, h2, t2, h5, t3, t5, Vm.isSubclass, n3]
end Kit
end Own
end Jvm.Pilot.@@N@@

namespace Jvm.Pilot.@@N@@
namespace Own
open Jvm Jvm.ClassFile Sem Op Lib Jvm.Free Jvm.Stand Jvm.LawKit Jvm.RoadKit
section StrKit
variable {p : Program} {l : Launch} {e : Env} {R : Room} {s : State} {m : MethodId} {args : Array Value} {below : List Frame} {Z : State} {a0 : Array Value} {h h' : Heap} {W n0 : Nat}
/-- a Latin-1 String whose chars are cs -/
def Str (Z : State) (h : Heap) (x : Addr) (cs : List Int32) : Prop :=
  Exa Z h x "java/lang/String" ∧ (∀ c ∈ cs, ¬ c < 0 ∧ ¬ (255 : Int32) < c) ∧ cs.length ≤ 4000 ∧ Fld Z h x "java/lang/String" "coder" "B" (.int 0) ∧
  ∃ (t : Addr) (kb : ClassId), Fld Z h x "java/lang/String" "value" "[B" (.ref t) ∧ Arv Z h t kb .byte (Int32.ofNat cs.length) ((cs.map (fun c => c.toInt8.toInt32)).map Value.int) (.int 0)
theorem Str.exa {x : Addr} {cs : List Int32} (F : Str Z h x cs) : Exa Z h x "java/lang/String" := F.1
theorem Str.lt {x : Addr} {cs : List Int32} (F : Str Z h x cs) : x < h.size := F.1.lt
theorem Str.ext {x : Addr} {cs : List Int32} (F : Str Z h x cs) (E : Ext h h') : Str Z h' x cs := by
  obtain ⟨h1, h2, h3, h4, t, kb, h5, h6⟩ := F
  exact ⟨h1.ext E, h2, h3, h4.ext E, t, kb, h5.ext E, h6.ext E⟩
/-- over a Keep whose written objects are new, or objects of another class -/
theorem Str.keep {x : Addr} {cs : List Int32} {ws : List Addr} (F : Str Z h x cs) (K : Keep h h' ws) (q : ∀ b ∈ ws, h.size ≤ b ∨ ∃ C k, C ≠ "java/lang/String" ∧ Exa Z h b C ∧ (Jvm.Cond.instantiable C k).before a0 Z = true) : Str Z h' x cs := by
  obtain ⟨h1, h2, h3, h4, t, kb, h5, h6⟩ := F
  have n1 : x ∉ ws := fun hx => by
    rcases q x hx with q | ⟨C, k, q1, q2, q3⟩
    · exact absurd h1.lt (Nat.not_lt.mpr q)
    · exact ne_exa q2 h1 q1 rfl
  have n2 : t ∉ ws := fun hx => by
    rcases q t hx with q | ⟨C, k, q1, q2, q3⟩
    · exact absurd h6.lt (Nat.not_lt.mpr q)
    · obtain ⟨c, A, -⟩ := h6
      exact ne_arr q2 q3 A rfl
  exact ⟨h1.keep K, h2, h3, h4.keep K n1, t, kb, h5.keep K n1, h6.keep K n2⟩
theorem Str.keep0 {x : Addr} {cs : List Int32} (F : Str Z h x cs) (K : Keep h h' []) : Str Z h' x cs := F.keep (a0 := #[]) K (fun b hb => nomatch hb)
theorem up255 (cs : List Int32) (h : ∀ c ∈ cs, ¬ c < 0 ∧ ¬ (255 : Int32) < c) : ∀ c ∈ cs, ¬ c < 0 ∧ ¬ (65535 : Int32) < c := fun c hc => ⟨(h c hc).1, fun q => (h c hc).2 (by rw [Int32.lt_iff_toInt_lt] at q ⊢; have e1 : (65535 : Int32).toInt = 65535 := rfl; have e2 : (255 : Int32).toInt = 255 := rfl; omega)⟩
theorem and255_fin (x : Int32) : (x &&& 255) = Int32.ofNat (x &&& 255).toBitVec.toNat ∧ (x &&& 255).toBitVec.toNat < 256 := by
  constructor
  · apply Int32.toBitVec_inj.mp
    show _ = BitVec.ofNat 32 _
    rw [BitVec.ofNat_toNat]; simp
  · simp only [Int32.toBitVec_and, BitVec.toNat_and]
    exact Nat.lt_succ_of_le Nat.and_le_right
theorem and255_char (x : Int32) : (x &&& (255 : Int32)).toUInt32.toUInt16.toUInt32.toInt32 = x &&& 255 ∧ nar .char (x &&& 255) = x &&& 255 ∧ ¬ (x &&& 255) < 0 ∧ ¬ (255 : Int32) < (x &&& 255) := by
  have t : ∀ k : Fin 256, (Int32.ofNat k.val).toUInt32.toUInt16.toUInt32.toInt32 = Int32.ofNat k.val ∧ nar .char (Int32.ofNat k.val) = Int32.ofNat k.val ∧ ¬ (Int32.ofNat k.val) < 0 ∧ ¬ (255 : Int32) < (Int32.ofNat k.val) := by decide +kernel
  obtain ⟨e, hl⟩ := and255_fin x
  rw [e]
  exact t ⟨_, hl⟩
end StrKit
end Own
end Jvm.Pilot.@@N@@

namespace Jvm.Pilot.@@N@@
namespace Own
open Jvm Jvm.ClassFile Sem Op Lib Jvm.Free Jvm.Stand Jvm.LawKit Jvm.RoadKit
theorem payNew {p : Program} {l : Launch} {e : Env} {R : Room} {s : State} {args : Array Value} {below : List Frame} {Z : State} {a0 : Array Value} {h : Heap} {len W n0 n : Nat} (hZ : Z.Warmed39 s.vm) (hw : ∀ d ∈ StrChars.Road.words, d.before a0 Z = true) {kI : Nat} (wi : (Jvm.Cond.instantiable "java/lang/String" kI).before a0 Z = true)
    {x b : Addr} {kC : ClassId} {d v0 c0 : Value} {z N : Int32} (cs : List Int32) (hx0 : n0 ≤ x) (hh0 : n0 ≤ h.size) (E : Exa Z h x "java/lang/String") (V : Fld Z h x "java/lang/String" "value" "[B" v0) (C : Fld Z h x "java/lang/String" "coder" "B" c0) (K : Arv Z h b kC .char N (cs.map Value.int) d)
    (S : Sta Z Z.heap "java/lang/String" "COMPACT_STRINGS" "Z" (.int z)) (hz : ¬ z = 0) (X : Old Z n0 h) (hn : cs.length = n) (hN : N = Int32.ofNat n) (l0 : 0 < n) (l2 : n ≤ 4000) (hp : ∀ c ∈ cs, ¬ c < 0 ∧ ¬ (255 : Int32) < c) (hfr : 4 ≤ R.frames) (hlo : W + 65 ≤ R.locals) :
    BackQ l R p e below s args (⟨"java/lang/String", "<init>", "([C)V"⟩ : MethodName) len W #[.ref x, .ref b] h 1 n (fun v h' L => v = none ∧ Fr n0 L ∧ Keep h h' [x] ∧ Str Z h' x cs) := by
  subst hn hN
  refine Back.mono (StrChars.Road.backV (W := W) hZ hw wi (cs := cs) (bs := cs.map (fun c => c.toInt8.toInt32)) (n := cs.length) hx0 hh0 E V C K (S.ext X.2) hz rfl rfl l0 l2 hp rfl hfr hlo) (fun P a hp => hp) (fun P a v B _ hq => ?_)
  obtain ⟨L, ⟨q1, q2, q3, q4, q5, t, kb, -, -, -, q6, q7⟩, hl, hc, hs⟩ := hq
  exact ⟨L, ⟨q1, q2, q3, q4, hp, l2, q5, t, kb, q6, q7⟩, hl, hc, hs⟩
end Own
end Jvm.Pilot.@@N@@

namespace Jvm.Pilot.@@N@@
namespace Own
open Jvm Jvm.ClassFile Sem Op Lib Jvm.Free Jvm.Stand Jvm.LawKit Jvm.RoadKit
theorem payEq {p : Program} {l : Launch} {e : Env} {R : Room} {s : State} {args : Array Value} {below : List Frame} {Z : State} {a0 : Array Value} {h : Heap} {len W n0 : Nat} (hZ : Z.Warmed39 s.vm) (hw : ∀ d ∈ StrChars.Road.wordsEq, d.before a0 Z = true) {kI : Nat} (wi : (Jvm.Cond.instantiable "java/lang/String" kI).before a0 Z = true)
    {x y : Addr} {cs ds : List Int32} {z : Int32} (A : Str Z h x cs) (B : Str Z h y ds) (S : Sta Z Z.heap "java/lang/String" "COMPACT_STRINGS" "Z" (.int z)) (hz : ¬ z = 0) (X : Old Z n0 h) (hfr : 2 ≤ R.frames) (hlo : W + 28 ≤ R.locals) :
    BackQ l R p e below s args (⟨"java/lang/String", "equals", "(Ljava/lang/Object;)Z"⟩ : MethodName) len W #[.ref x, .ref y] h 0 0 (fun v h' L => ((v = some (.int 1) ∧ cs = ds) ∨ (v = some (.int 0) ∧ ¬ cs = ds)) ∧ L = [] ∧ h' = h) := by
  obtain ⟨h1, h2, h3, h4, t, kb, h5, h6⟩ := A
  obtain ⟨g1, g2, g3, g4, t', kb', g5, g6⟩ := B
  exact StrChars.Road.eqW (W := W) hZ hw wi h1 h5 h4 h6 (StrChars.Road.codOf rfl (fun c hc => (h2 c hc).2)) (up255 _ h2) h3 g1 g5 g4 g6 (StrChars.Road.codOf rfl (fun c hc => (g2 c hc).2)) (up255 _ g2) g3 (S.ext X.2) hz hfr hlo
end Own
end Jvm.Pilot.@@N@@

namespace Jvm.Pilot.@@N@@
open Jvm Jvm.ClassFile Sem Op Lib Jvm.Free Jvm.Stand Jvm.LawKit Jvm.RoadKit Bundle Jvm.Pilot.@@N@@.Jvm.D Jvm.Pilot.@@N@@.Own
theorem pd_0 : parseMethodDescriptor "([C)V" = some ⟨[(.array .char)], none⟩ := by decide +kernel
theorem pd_1 : parseMethodDescriptor "(Ljava/lang/Object;)Z" = some ⟨[(.object "java/lang/Object")], some .boolean⟩ := by decide +kernel
theorem pd_2 : parseMethodDescriptor "(I)Ljava/lang/String;" = some ⟨[.int], some (.object "java/lang/String")⟩ := by decide +kernel
theorem pd_3 : parseMethodDescriptor "(Ljava/lang/String;Ljava/lang/String;Ljava/lang/String;)V" = some ⟨[(.object "java/lang/String"), (.object "java/lang/String"), (.object "java/lang/String")], none⟩ := by decide +kernel
theorem pd_4 : parseMethodDescriptor "(II)Z" = some ⟨[.int, .int], some .boolean⟩ := by decide +kernel
theorem pn_0 : plainName "com/example/gather/gather/service/ozs/OzsMessageEqualsPinLaw" = true := by first | (simp [plainName, overriddenIn]; done) | decide +kernel
theorem pn_1 : plainName "com/example/gather/gather/service/ozs/OzsMessage" = true := by first | (simp [plainName, overriddenIn]; done) | decide +kernel
theorem d1_0 : decode method_3_code 0 = .ok (.iload_n 0, 1) := by decide +kernel
theorem d1_1 : decode method_3_code 1 = .ok (.iconst 1, 1) := by decide +kernel
theorem d1_2 : decode method_3_code 2 = .ok (.iushr, 1) := by decide +kernel
theorem d1_3 : decode method_3_code 3 = .ok (.sipush 255, 3) := by decide +kernel
theorem d1_6 : decode method_3_code 6 = .ok (.iand, 1) := by decide +kernel
theorem d1_7 : decode method_3_code 7 = .ok (.i2c, 1) := by decide +kernel
theorem d1_8 : decode method_3_code 8 = .ok (.istore_n 1, 1) := by decide +kernel
theorem d1_9 : decode method_3_code 9 = .ok (.iload_n 0, 1) := by decide +kernel
theorem d1_10 : decode method_3_code 10 = .ok (.iconst 1, 1) := by decide +kernel
theorem d1_11 : decode method_3_code 11 = .ok (.iand, 1) := by decide +kernel
theorem d1_12 : decode method_3_code 12 = .ok (.ifCond .ne 18, 3) := by decide +kernel
theorem d1_15 : decode method_3_code 15 = .ok (.new 28, 3) := by decide +kernel
theorem d1_18 : decode method_3_code 18 = .ok (.dup, 1) := by decide +kernel
theorem d1_19 : decode method_3_code 19 = .ok (.iconst 1, 1) := by decide +kernel
theorem d1_20 : decode method_3_code 20 = .ok (.newarray .char, 2) := by decide +kernel
theorem d1_22 : decode method_3_code 22 = .ok (.dup, 1) := by decide +kernel
theorem d1_23 : decode method_3_code 23 = .ok (.iconst 0, 1) := by decide +kernel
theorem d1_24 : decode method_3_code 24 = .ok (.iload_n 1, 1) := by decide +kernel
theorem d1_25 : decode method_3_code 25 = .ok (.castore, 1) := by decide +kernel
theorem d1_26 : decode method_3_code 26 = .ok (.invokespecial 30, 3) := by decide +kernel
theorem d1_29 : decode method_3_code 29 = .ok (.areturn, 1) := by decide +kernel
theorem d1_30 : decode method_3_code 30 = .ok (.iload_n 0, 1) := by decide +kernel
theorem d1_31 : decode method_3_code 31 = .ok (.bipush 9, 2) := by decide +kernel
theorem d1_33 : decode method_3_code 33 = .ok (.iushr, 1) := by decide +kernel
theorem d1_34 : decode method_3_code 34 = .ok (.sipush 255, 3) := by decide +kernel
theorem d1_37 : decode method_3_code 37 = .ok (.iand, 1) := by decide +kernel
theorem d1_38 : decode method_3_code 38 = .ok (.i2c, 1) := by decide +kernel
theorem d1_39 : decode method_3_code 39 = .ok (.istore_n 2, 1) := by decide +kernel
theorem d1_40 : decode method_3_code 40 = .ok (.new 28, 3) := by decide +kernel
theorem d1_43 : decode method_3_code 43 = .ok (.dup, 1) := by decide +kernel
theorem d1_44 : decode method_3_code 44 = .ok (.iconst 2, 1) := by decide +kernel
theorem d1_45 : decode method_3_code 45 = .ok (.newarray .char, 2) := by decide +kernel
theorem d1_47 : decode method_3_code 47 = .ok (.dup, 1) := by decide +kernel
theorem d1_48 : decode method_3_code 48 = .ok (.iconst 0, 1) := by decide +kernel
theorem d1_49 : decode method_3_code 49 = .ok (.iload_n 1, 1) := by decide +kernel
theorem d1_50 : decode method_3_code 50 = .ok (.castore, 1) := by decide +kernel
theorem d1_51 : decode method_3_code 51 = .ok (.dup, 1) := by decide +kernel
theorem d1_52 : decode method_3_code 52 = .ok (.iconst 1, 1) := by decide +kernel
theorem d1_53 : decode method_3_code 53 = .ok (.iload_n 2, 1) := by decide +kernel
theorem d1_54 : decode method_3_code 54 = .ok (.castore, 1) := by decide +kernel
theorem d1_55 : decode method_3_code 55 = .ok (.invokespecial 30, 3) := by decide +kernel
theorem d1_58 : decode method_3_code 58 = .ok (.areturn, 1) := by decide +kernel
theorem d8_0 : decode prog_61_method_1_code 0 = .ok (.aload_n 0, 1) := by decide +kernel
theorem d8_1 : decode prog_61_method_1_code 1 = .ok (.invokespecial 1, 3) := by decide +kernel
theorem d8_4 : decode prog_61_method_1_code 4 = .ok (.aload_n 0, 1) := by decide +kernel
theorem d8_5 : decode prog_61_method_1_code 5 = .ok (.aload_n 1, 1) := by decide +kernel
theorem d8_6 : decode prog_61_method_1_code 6 = .ok (.putfield 7, 3) := by decide +kernel
theorem d8_9 : decode prog_61_method_1_code 9 = .ok (.aload_n 0, 1) := by decide +kernel
theorem d8_10 : decode prog_61_method_1_code 10 = .ok (.aload_n 2, 1) := by decide +kernel
theorem d8_11 : decode prog_61_method_1_code 11 = .ok (.putfield 13, 3) := by decide +kernel
theorem d8_14 : decode prog_61_method_1_code 14 = .ok (.aload_n 0, 1) := by decide +kernel
theorem d8_15 : decode prog_61_method_1_code 15 = .ok (.aload_n 3, 1) := by decide +kernel
theorem d8_16 : decode prog_61_method_1_code 16 = .ok (.putfield 16, 3) := by decide +kernel
theorem d8_19 : decode prog_61_method_1_code 19 = .ok (.return_, 1) := by decide +kernel
theorem d9_0 : decode method_4_code 0 = .ok (.iload_n 0, 1) := by decide +kernel
theorem d9_1 : decode method_4_code 1 = .ok (.iconst 1, 1) := by decide +kernel
theorem d9_2 : decode method_4_code 2 = .ok (.iand, 1) := by decide +kernel
theorem d9_3 : decode method_4_code 3 = .ok (.iload_n 1, 1) := by decide +kernel
theorem d9_4 : decode method_4_code 4 = .ok (.iconst 1, 1) := by decide +kernel
theorem d9_5 : decode method_4_code 5 = .ok (.iand, 1) := by decide +kernel
theorem d9_6 : decode method_4_code 6 = .ok (.if_icmp .eq 5, 3) := by decide +kernel
theorem d9_9 : decode method_4_code 9 = .ok (.iconst 0, 1) := by decide +kernel
theorem d9_10 : decode method_4_code 10 = .ok (.ireturn, 1) := by decide +kernel
theorem d9_11 : decode method_4_code 11 = .ok (.iload_n 0, 1) := by decide +kernel
theorem d9_12 : decode method_4_code 12 = .ok (.iconst 1, 1) := by decide +kernel
theorem d9_13 : decode method_4_code 13 = .ok (.iushr, 1) := by decide +kernel
theorem d9_14 : decode method_4_code 14 = .ok (.sipush 255, 3) := by decide +kernel
theorem d9_17 : decode method_4_code 17 = .ok (.iand, 1) := by decide +kernel
theorem d9_18 : decode method_4_code 18 = .ok (.iload_n 1, 1) := by decide +kernel
theorem d9_19 : decode method_4_code 19 = .ok (.iconst 1, 1) := by decide +kernel
theorem d9_20 : decode method_4_code 20 = .ok (.iushr, 1) := by decide +kernel
theorem d9_21 : decode method_4_code 21 = .ok (.sipush 255, 3) := by decide +kernel
theorem d9_24 : decode method_4_code 24 = .ok (.iand, 1) := by decide +kernel
theorem d9_25 : decode method_4_code 25 = .ok (.if_icmp .eq 5, 3) := by decide +kernel
theorem d9_28 : decode method_4_code 28 = .ok (.iconst 0, 1) := by decide +kernel
theorem d9_29 : decode method_4_code 29 = .ok (.ireturn, 1) := by decide +kernel
theorem d9_30 : decode method_4_code 30 = .ok (.iload_n 0, 1) := by decide +kernel
theorem d9_31 : decode method_4_code 31 = .ok (.iconst 1, 1) := by decide +kernel
theorem d9_32 : decode method_4_code 32 = .ok (.iand, 1) := by decide +kernel
theorem d9_33 : decode method_4_code 33 = .ok (.ifCond .ne 5, 3) := by decide +kernel
theorem d9_36 : decode method_4_code 36 = .ok (.iconst 1, 1) := by decide +kernel
theorem d9_37 : decode method_4_code 37 = .ok (.ireturn, 1) := by decide +kernel
theorem d9_38 : decode method_4_code 38 = .ok (.iload_n 0, 1) := by decide +kernel
theorem d9_39 : decode method_4_code 39 = .ok (.bipush 9, 2) := by decide +kernel
theorem d9_41 : decode method_4_code 41 = .ok (.iushr, 1) := by decide +kernel
theorem d9_42 : decode method_4_code 42 = .ok (.sipush 255, 3) := by decide +kernel
theorem d9_45 : decode method_4_code 45 = .ok (.iand, 1) := by decide +kernel
theorem d9_46 : decode method_4_code 46 = .ok (.iload_n 1, 1) := by decide +kernel
theorem d9_47 : decode method_4_code 47 = .ok (.bipush 9, 2) := by decide +kernel
theorem d9_49 : decode method_4_code 49 = .ok (.iushr, 1) := by decide +kernel
theorem d9_50 : decode method_4_code 50 = .ok (.sipush 255, 3) := by decide +kernel
theorem d9_53 : decode method_4_code 53 = .ok (.iand, 1) := by decide +kernel
theorem d9_54 : decode method_4_code 54 = .ok (.if_icmp .ne 7, 3) := by decide +kernel
theorem d9_57 : decode method_4_code 57 = .ok (.iconst 1, 1) := by decide +kernel
theorem d9_58 : decode method_4_code 58 = .ok (.goto 4, 3) := by decide +kernel
theorem d9_61 : decode method_4_code 61 = .ok (.iconst 0, 1) := by decide +kernel
theorem d9_62 : decode method_4_code 62 = .ok (.ireturn, 1) := by decide +kernel
theorem d10_0 : decode prog_61_method_6_code 0 = .ok (.aload_n 1, 1) := by decide +kernel
theorem d10_1 : decode prog_61_method_6_code 1 = .ok (.instanceof 8, 3) := by decide +kernel
theorem d10_4 : decode prog_61_method_6_code 4 = .ok (.ifCond .ne 5, 3) := by decide +kernel
theorem d10_7 : decode prog_61_method_6_code 7 = .ok (.iconst 0, 1) := by decide +kernel
theorem d10_8 : decode prog_61_method_6_code 8 = .ok (.ireturn, 1) := by decide +kernel
theorem d10_9 : decode prog_61_method_6_code 9 = .ok (.aload_n 1, 1) := by decide +kernel
theorem d10_10 : decode prog_61_method_6_code 10 = .ok (.checkcast 8, 3) := by decide +kernel
theorem d10_13 : decode prog_61_method_6_code 13 = .ok (.astore_n 2, 1) := by decide +kernel
theorem d10_14 : decode prog_61_method_6_code 14 = .ok (.aload_n 0, 1) := by decide +kernel
theorem d10_15 : decode prog_61_method_6_code 15 = .ok (.getfield 7, 3) := by decide +kernel
theorem d10_18 : decode prog_61_method_6_code 18 = .ok (.aload_n 2, 1) := by decide +kernel
theorem d10_19 : decode prog_61_method_6_code 19 = .ok (.getfield 7, 3) := by decide +kernel
theorem d10_22 : decode prog_61_method_6_code 22 = .ok (.invokevirtual 23, 3) := by decide +kernel
theorem d10_25 : decode prog_61_method_6_code 25 = .ok (.ifCond .eq 35, 3) := by decide +kernel
theorem d10_28 : decode prog_61_method_6_code 28 = .ok (.aload_n 0, 1) := by decide +kernel
theorem d10_29 : decode prog_61_method_6_code 29 = .ok (.getfield 13, 3) := by decide +kernel
theorem d10_32 : decode prog_61_method_6_code 32 = .ok (.aload_n 2, 1) := by decide +kernel
theorem d10_33 : decode prog_61_method_6_code 33 = .ok (.getfield 13, 3) := by decide +kernel
theorem d10_36 : decode prog_61_method_6_code 36 = .ok (.invokevirtual 23, 3) := by decide +kernel
theorem d10_39 : decode prog_61_method_6_code 39 = .ok (.ifCond .eq 21, 3) := by decide +kernel
theorem d10_42 : decode prog_61_method_6_code 42 = .ok (.aload_n 0, 1) := by decide +kernel
theorem d10_43 : decode prog_61_method_6_code 43 = .ok (.getfield 16, 3) := by decide +kernel
theorem d10_46 : decode prog_61_method_6_code 46 = .ok (.aload_n 2, 1) := by decide +kernel
theorem d10_47 : decode prog_61_method_6_code 47 = .ok (.getfield 16, 3) := by decide +kernel
theorem d10_50 : decode prog_61_method_6_code 50 = .ok (.invokevirtual 23, 3) := by decide +kernel
theorem d10_53 : decode prog_61_method_6_code 53 = .ok (.ifCond .eq 7, 3) := by decide +kernel
theorem d10_56 : decode prog_61_method_6_code 56 = .ok (.iconst 1, 1) := by decide +kernel
theorem d10_57 : decode prog_61_method_6_code 57 = .ok (.goto 4, 3) := by decide +kernel
theorem d10_60 : decode prog_61_method_6_code 60 = .ok (.iconst 0, 1) := by decide +kernel
theorem d10_61 : decode prog_61_method_6_code 61 = .ok (.ireturn, 1) := by decide +kernel
theorem own_words {Z : State} {a0 : Array Value} (hw : ∀ d ∈ tables_1, d.before a0 Z = true) : ∀ d ∈ StrChars.Road.words, d.before a0 Z = true := fun d hd => hw d ((by decide +kernel : ∀ d ∈ StrChars.Road.words, d ∈ tables_1) d hd)
theorem own_wordsEq {Z : State} {a0 : Array Value} (hw : ∀ d ∈ tables_1, d.before a0 Z = true) : ∀ d ∈ StrChars.Road.wordsEq, d.before a0 Z = true := fun d hd => hw d ((by decide +kernel : ∀ d ∈ StrChars.Road.wordsEq, d ∈ tables_1) d hd)
def own_c0 (v : Int32) : Int32 := ((v.toUInt32 >>> ((1 : Int32) &&& 31).toUInt32).toInt32) &&& (255 : Int32)
def own_c1 (v : Int32) : Int32 := ((v.toUInt32 >>> ((9 : Int32) &&& 31).toUInt32).toInt32) &&& (255 : Int32)
def own_mkc (v : Int32) : List Int32 := if v &&& 1 = 0 then [own_c0 v] else [own_c0 v, own_c1 v]
abbrev own_rMk : Room := { frames := 4, cells := 3, slots := 8, locals := 66 }
abbrev own_rIn : Room := { frames := 1, cells := 0, slots := 0, locals := 12 }
abbrev own_r0 : Room := { frames := 0, cells := 0, slots := 0, locals := 0 }
abbrev own_rEq : Room := { frames := 2, cells := 0, slots := 0, locals := 28 }
set_option maxRecDepth 65536 in
set_option maxHeartbeats 40000000 in
theorem own_mk (l : Launch) (Z : State) (a0 : Array Value) (hw : ∀ d ∈ tables_1, d.before a0 Z = true) (p1 : Int32) (z : Int32) (h0 : Heap) (n0 : Nat) (Z0 : n0 ≤ h0.size) (S : Sta Z Z.heap "java/lang/String" "COMPACT_STRINGS" "Z" (.int z)) (hz : ¬ z = 0) (O : Old Z n0 h0) :
    Ctr l Z (⟨"com/example/gather/gather/service/ozs/OzsMessageEqualsPinLaw", "mk", "(I)Ljava/lang/String;"⟩ : MethodName) method_3_code 3 (some (.object "java/lang/String")) [] own_rMk #[(.int p1)] h0 (fun v h L => Fr n0 L ∧ Keep h0 h [] ∧ ∃ x, v = some (.ref x) ∧ h0.size ≤ x ∧ Str Z h x (own_mkc p1)) := by
  refine Ctr.intro pn_0 #[.val (.int p1), .unset, .unset] (fun m => by first | rfl | (simp [entryFrame, mkF, argsToLocals, Value.category]; done)) ?_
  intro p e s m below meth c T hx hby hml hown hnm hret hlk hZ X eT
  have hown : s.vm.findClass "com/example/gather/gather/service/ozs/OzsMessageEqualsPinLaw" = some m.cls := hown
  have N := Fr.nil n0
  obtain ⟨-, ra, sa⟩ := and255_char ((p1.toUInt32 >>> ((1 : Int32) &&& 31).toUInt32).toInt32)
  obtain ⟨-, rb, sb⟩ := and255_char ((p1.toUInt32 >>> ((9 : Int32) &&& 31).toUInt32).toInt32)
  show Gl p e below s _ _ _ (T.setTop (mkF m 0 #[.val (.int p1), .unset, .unset] []))
  refine Gl.by (fun t k => XS.iloadN X.here hx rfl (hb hby d1_0) rfl k) ?_
  show Gl p e below s _ _ _ (T.setTop (mkF m 1 #[.val (.int p1), .unset, .unset] [(.int p1)]))
  refine Gl.by (fun t k => XS.iconst X.here hx rfl (hb hby d1_1) k) ?_
  show Gl p e below s _ _ _ (T.setTop (mkF m 2 #[.val (.int p1), .unset, .unset] [(.int (1 : Int32)), (.int p1)]))
  refine Gl.by (fun t k => XS.iushr X.here hx rfl (hb hby d1_2) rfl k) ?_
  show Gl p e below s _ _ _ (T.setTop (mkF m 3 #[.val (.int p1), .unset, .unset] [(.int ((p1.toUInt32 >>> ((1 : Int32) &&& 31).toUInt32).toInt32))]))
  refine Gl.by (fun t k => XS.sipush X.here hx rfl (hb hby d1_3) k) ?_
  show Gl p e below s _ _ _ (T.setTop (mkF m 6 #[.val (.int p1), .unset, .unset] [(.int (255 : Int32)), (.int ((p1.toUInt32 >>> ((1 : Int32) &&& 31).toUInt32).toInt32))]))
  refine Gl.by (fun t k => XS.iand X.here hx rfl (hb hby d1_6) rfl k) ?_
  show Gl p e below s _ _ _ (T.setTop (mkF m 7 #[.val (.int p1), .unset, .unset] [(.int (((p1.toUInt32 >>> ((1 : Int32) &&& 31).toUInt32).toInt32) &&& (255 : Int32)))]))
  refine Gl.by (fun t k => XS.i2c X.here hx rfl (hb hby d1_7) rfl k) ?_
  show Gl p e below s _ _ _ (T.setTop (mkF m 8 #[.val (.int p1), .unset, .unset] [(.int ((((p1.toUInt32 >>> ((1 : Int32) &&& 31).toUInt32).toInt32) &&& (255 : Int32)).toUInt32.toUInt16.toUInt32.toInt32))]))
  rw [(and255_char ((p1.toUInt32 >>> ((1 : Int32) &&& 31).toUInt32).toInt32)).1]
  show Gl p e below s _ _ _ (T.setTop (mkF m 8 #[.val (.int p1), .unset, .unset] [(.int (((p1.toUInt32 >>> ((1 : Int32) &&& 31).toUInt32).toInt32) &&& (255 : Int32)))]))
  refine Gl.by (fun t k => XS.istoreN X.here hx rfl (hb hby d1_8) rfl (l' := #[.val (.int p1), .val (.int (((p1.toUInt32 >>> ((1 : Int32) &&& 31).toUInt32).toInt32) &&& (255 : Int32))), .unset]) rfl k) ?_
  show Gl p e below s _ _ _ (T.setTop (mkF m 9 #[.val (.int p1), .val (.int (((p1.toUInt32 >>> ((1 : Int32) &&& 31).toUInt32).toInt32) &&& (255 : Int32))), .unset] []))
  refine Gl.by (fun t k => XS.iloadN X.here hx rfl (hb hby d1_9) rfl k) ?_
  show Gl p e below s _ _ _ (T.setTop (mkF m 10 #[.val (.int p1), .val (.int (((p1.toUInt32 >>> ((1 : Int32) &&& 31).toUInt32).toInt32) &&& (255 : Int32))), .unset] [(.int p1)]))
  refine Gl.by (fun t k => XS.iconst X.here hx rfl (hb hby d1_10) k) ?_
  show Gl p e below s _ _ _ (T.setTop (mkF m 11 #[.val (.int p1), .val (.int (((p1.toUInt32 >>> ((1 : Int32) &&& 31).toUInt32).toInt32) &&& (255 : Int32))), .unset] [(.int (1 : Int32)), (.int p1)]))
  refine Gl.by (fun t k => XS.iand X.here hx rfl (hb hby d1_11) rfl k) ?_
  show Gl p e below s _ _ _ (T.setTop (mkF m 12 #[.val (.int p1), .val (.int (((p1.toUInt32 >>> ((1 : Int32) &&& 31).toUInt32).toInt32) &&& (255 : Int32))), .unset] [(.int (p1 &&& (1 : Int32)))]))
  by_cases hc : (p1 &&& (1 : Int32)) = (0 : Int32)
  · refine Gl.by (fun t k => XS.ifNo X.here hx rfl (hb hby d1_12) rfl ((if0 _ _).trans (teq hc).2) k) ?_
    show Gl p e below s _ _ _ (T.setTop (mkF m 15 #[.val (.int p1), .val (.int (((p1.toUInt32 >>> ((1 : Int32) &&& 31).toUInt32).toInt32) &&& (255 : Int32))), .unset] []))
    obtain ⟨T, h1, X, eT, E1, A1, D1, -, st⟩ := newO X hx hZ hown (hw _ (List.mem_of_getElem? (i := 8) rfl)) (hw _ (List.mem_of_getElem? (i := 9) rfl)) (hw _ (List.mem_of_getElem? (i := 10) rfl)) eT (g := (mkF m 15 #[.val (.int p1), .val (.int (((p1.toUInt32 >>> ((1 : Int32) &&& 31).toUInt32).toInt32) &&& (255 : Int32))), .unset] [])) rfl (hb hby d1_15) (by decide) (by decide)
    obtain ⟨b2, g1⟩ : ∃ z, z = h0.size := ⟨_, rfl⟩
    rw [← g1] at A1 D1 st
    have sz1 := E1.1
    have lt1 : b2 < h1.size := A1.lt
    refine Gl.by st ?_
    have F1_coder : Fld Z h1 b2 "java/lang/String" "coder" "B" (.int (0 : Int32)) := D1 (Or.inr (hw _ (List.mem_of_getElem? (i := 35) rfl))) (ty := .byte) (by decide)
    have F1_value : Fld Z h1 b2 "java/lang/String" "value" "[B" .null := D1 (Or.inr (hw _ (List.mem_of_getElem? (i := 37) rfl))) (ty := (.array .byte)) (by decide)
    show Gl p e below s _ _ _ (T.setTop (mkF m 18 #[.val (.int p1), .val (.int (((p1.toUInt32 >>> ((1 : Int32) &&& 31).toUInt32).toInt32) &&& (255 : Int32))), .unset] [(.ref b2)]))
    refine Gl.by (fun t k => XS.dup X.here hx rfl (hb hby d1_18) rfl rfl k) ?_
    show Gl p e below s _ _ _ (T.setTop (mkF m 19 #[.val (.int p1), .val (.int (((p1.toUInt32 >>> ((1 : Int32) &&& 31).toUInt32).toInt32) &&& (255 : Int32))), .unset] [(.ref b2), (.ref b2)]))
    refine Gl.by (fun t k => XS.iconst X.here hx rfl (hb hby d1_19) k) ?_
    show Gl p e below s _ _ _ (T.setTop (mkF m 20 #[.val (.int p1), .val (.int (((p1.toUInt32 >>> ((1 : Int32) &&& 31).toUInt32).toInt32) &&& (255 : Int32))), .unset] [(.int (1 : Int32)), (.ref b2), (.ref b2)]))
    obtain ⟨T, h2, k2, X, eT, E2, A2, st⟩ := newP X hx hZ (hw _ (List.mem_of_getElem? (i := 11) rfl)) eT (g := (mkF m 20 #[.val (.int p1), .val (.int (((p1.toUInt32 >>> ((1 : Int32) &&& 31).toUInt32).toInt32) &&& (255 : Int32))), .unset] [(.int (1 : Int32)), (.ref b2), (.ref b2)])) rfl (hb hby d1_20) rfl (by decide) (cap := 1) (by decide) (by decide) (by decide) (by decide)
    obtain ⟨b3, g2⟩ : ∃ z, z = h1.size := ⟨_, rfl⟩
    rw [← g2] at A2 st
    have sz2 := E2.1
    have lt2 : b3 < h2.size := A2.lt
    have V2 : Arv Z h2 b3 k2 .char (1 : Int32) [(.int (0 : Int32))] (.int (0 : Int32)) := (Arv.new A2 (by decide)).pad (pad_rep [] (.int (0 : Int32)) 1)
    refine Gl.by st ?_
    show Gl p e below s _ _ _ (T.setTop (mkF m 22 #[.val (.int p1), .val (.int (((p1.toUInt32 >>> ((1 : Int32) &&& 31).toUInt32).toInt32) &&& (255 : Int32))), .unset] [(.ref b3), (.ref b2), (.ref b2)]))
    refine Gl.by (fun t k => XS.dup X.here hx rfl (hb hby d1_22) rfl rfl k) ?_
    show Gl p e below s _ _ _ (T.setTop (mkF m 23 #[.val (.int p1), .val (.int (((p1.toUInt32 >>> ((1 : Int32) &&& 31).toUInt32).toInt32) &&& (255 : Int32))), .unset] [(.ref b3), (.ref b3), (.ref b2), (.ref b2)]))
    refine Gl.by (fun t k => XS.iconst X.here hx rfl (hb hby d1_23) k) ?_
    show Gl p e below s _ _ _ (T.setTop (mkF m 24 #[.val (.int p1), .val (.int (((p1.toUInt32 >>> ((1 : Int32) &&& 31).toUInt32).toInt32) &&& (255 : Int32))), .unset] [(.int (0 : Int32)), (.ref b3), (.ref b3), (.ref b2), (.ref b2)]))
    refine Gl.by (fun t k => XS.iloadN X.here hx rfl (hb hby d1_24) rfl k) ?_
    show Gl p e below s _ _ _ (T.setTop (mkF m 25 #[.val (.int p1), .val (.int (((p1.toUInt32 >>> ((1 : Int32) &&& 31).toUInt32).toInt32) &&& (255 : Int32))), .unset] [(.int (((p1.toUInt32 >>> ((1 : Int32) &&& 31).toUInt32).toInt32) &&& (255 : Int32))), (.int (0 : Int32)), (.ref b3), (.ref b3), (.ref b2), (.ref b2)]))
    obtain ⟨cl3, Ar3, q3, S3, M3, H3, G3⟩ := (V2 : Arv Z h2 b3 k2 .char (1 : Int32) [(.int (0 : Int32))] (.int (0 : Int32)))
    obtain ⟨T, h3, X, eT, W3, st⟩ := stC X hx hZ eT Ar3 (j := (0 : Int32)) (inb_of S3 ⟨by decide, by decide⟩) (g := (mkF m 25 #[.val (.int p1), .val (.int (((p1.toUInt32 >>> ((1 : Int32) &&& 31).toUInt32).toInt32) &&& (255 : Int32))), .unset] [(.int (((p1.toUInt32 >>> ((1 : Int32) &&& 31).toUInt32).toInt32) &&& (255 : Int32))), (.int (0 : Int32)), (.ref b3), (.ref b3), (.ref b2), (.ref b2)])) rfl rfl (hb hby d1_25)
    have V3 : Arv Z h3 b3 k2 .char (1 : Int32) [(.int (nar .char (((p1.toUInt32 >>> ((1 : Int32) &&& 31).toUInt32).toInt32) &&& (255 : Int32))))] (.int (0 : Int32)) := Arv.set Ar3 q3 S3 M3 H3 G3 (fits_nar_char _) W3 0 rfl (Nat.le_of_ble_eq_true rfl)
    have sz3 := (Keep.of_wr W3).1
    have N := Fr.snoc X N (by omega)
    refine Gl.by st ?_
    show Gl p e below s _ _ _ (T.setTop (mkF m 26 #[.val (.int p1), .val (.int (((p1.toUInt32 >>> ((1 : Int32) &&& 31).toUInt32).toInt32) &&& (255 : Int32))), .unset] [(.ref b3), (.ref b2), (.ref b2)]))
    have V4 : Arv Z h3 b3 k2 .char (1 : Int32) (([own_c0 p1] : List Int32).map Value.int) (.int 0) := by
      have q := V3
      rw [ra] at q
      exact q
    have O4 := (((O.ext E1).ext E2).wr W3 (by omega))
    have hp : ∀ c ∈ ([own_c0 p1] : List Int32), ¬ c < 0 ∧ ¬ (255 : Int32) < c := by
      intro c hc
      simp only [List.mem_cons, List.not_mem_nil, or_false] at hc
      subst hc; exact sa
    refine Gl.spec X hx hZ rfl hown (hw _ (List.mem_of_getElem? (i := 12) rfl)) (hw _ (List.mem_of_getElem? (i := 13) rfl)) (hw _ (List.mem_of_getElem? (i := 14) rfl)) (by decide) (W := 1) (payNew (n := 1) (n0 := n0) hZ (own_words hw) (hw _ (List.mem_of_getElem? (i := 9) rfl)) ([own_c0 p1] : List Int32) (by omega) (by omega) ((A1.ext E2).wr W3) ((F1_value.ext E2).other W3 (Or.inl (nea (by omega)))) ((F1_coder.ext E2).other W3 (Or.inl (nea (by omega)))) V4 S hz O4 rfl rfl (by decide) (by decide) hp (by decide) (by decide)) eT (hb hby d1_26) (by rw [hml]; rfl) b2 [(.ref b3)] [(.ref b2)] (lenOf pd_0 rfl) rfl rfl (Nat.le_of_eq rfl) (by decide) (by decide) ?_
    intro v T L X hq
    obtain ⟨rfl, NQ, KQ, SQ⟩ := hq
    have N := Fr.app N NQ
    have eT := (rfl : T.heap = T.heap)
    show Gl p e below s _ _ _ (T.setTop (mkF m 29 #[.val (.int p1), .val (.int (((p1.toUInt32 >>> ((1 : Int32) &&& 31).toUInt32).toInt32) &&& (255 : Int32))), .unset] [(.ref b2)]))
    refine Gl.retA X hx hlk hret rfl rfl (hb hby d1_29) (by decide) (by decide) ⟨N, (((((Keep.refl h0 []).ext E1).ext E2).wr W3 (Or.inr (by omega))).trans KQ (allS (Or.inr (by omega)) all0)), b2, rfl, by omega, ?_⟩
    show Str Z T.heap b2 (own_mkc p1)
    rw [own_mkc, if_pos hc]
    exact SQ
  · refine Gl.by (fun t k => XS.ifYes X.here hx rfl (pc0 := 12) (pc' := 30) rfl (hb hby d1_12) rfl ((if0 _ _).trans (feq hc).2) (by decide) (by decide) k) ?_
    show Gl p e below s _ _ _ (T.setTop (mkF m 30 #[.val (.int p1), .val (.int (((p1.toUInt32 >>> ((1 : Int32) &&& 31).toUInt32).toInt32) &&& (255 : Int32))), .unset] []))
    refine Gl.by (fun t k => XS.iloadN X.here hx rfl (hb hby d1_30) rfl k) ?_
    show Gl p e below s _ _ _ (T.setTop (mkF m 31 #[.val (.int p1), .val (.int (((p1.toUInt32 >>> ((1 : Int32) &&& 31).toUInt32).toInt32) &&& (255 : Int32))), .unset] [(.int p1)]))
    refine Gl.by (fun t k => XS.bipush X.here hx rfl (hb hby d1_31) k) ?_
    show Gl p e below s _ _ _ (T.setTop (mkF m 33 #[.val (.int p1), .val (.int (((p1.toUInt32 >>> ((1 : Int32) &&& 31).toUInt32).toInt32) &&& (255 : Int32))), .unset] [(.int (9 : Int32)), (.int p1)]))
    refine Gl.by (fun t k => XS.iushr X.here hx rfl (hb hby d1_33) rfl k) ?_
    show Gl p e below s _ _ _ (T.setTop (mkF m 34 #[.val (.int p1), .val (.int (((p1.toUInt32 >>> ((1 : Int32) &&& 31).toUInt32).toInt32) &&& (255 : Int32))), .unset] [(.int ((p1.toUInt32 >>> ((9 : Int32) &&& 31).toUInt32).toInt32))]))
    refine Gl.by (fun t k => XS.sipush X.here hx rfl (hb hby d1_34) k) ?_
    show Gl p e below s _ _ _ (T.setTop (mkF m 37 #[.val (.int p1), .val (.int (((p1.toUInt32 >>> ((1 : Int32) &&& 31).toUInt32).toInt32) &&& (255 : Int32))), .unset] [(.int (255 : Int32)), (.int ((p1.toUInt32 >>> ((9 : Int32) &&& 31).toUInt32).toInt32))]))
    refine Gl.by (fun t k => XS.iand X.here hx rfl (hb hby d1_37) rfl k) ?_
    show Gl p e below s _ _ _ (T.setTop (mkF m 38 #[.val (.int p1), .val (.int (((p1.toUInt32 >>> ((1 : Int32) &&& 31).toUInt32).toInt32) &&& (255 : Int32))), .unset] [(.int (((p1.toUInt32 >>> ((9 : Int32) &&& 31).toUInt32).toInt32) &&& (255 : Int32)))]))
    refine Gl.by (fun t k => XS.i2c X.here hx rfl (hb hby d1_38) rfl k) ?_
    show Gl p e below s _ _ _ (T.setTop (mkF m 39 #[.val (.int p1), .val (.int (((p1.toUInt32 >>> ((1 : Int32) &&& 31).toUInt32).toInt32) &&& (255 : Int32))), .unset] [(.int ((((p1.toUInt32 >>> ((9 : Int32) &&& 31).toUInt32).toInt32) &&& (255 : Int32)).toUInt32.toUInt16.toUInt32.toInt32))]))
    rw [(and255_char ((p1.toUInt32 >>> ((9 : Int32) &&& 31).toUInt32).toInt32)).1]
    show Gl p e below s _ _ _ (T.setTop (mkF m 39 #[.val (.int p1), .val (.int (((p1.toUInt32 >>> ((1 : Int32) &&& 31).toUInt32).toInt32) &&& (255 : Int32))), .unset] [(.int (((p1.toUInt32 >>> ((9 : Int32) &&& 31).toUInt32).toInt32) &&& (255 : Int32)))]))
    refine Gl.by (fun t k => XS.istoreN X.here hx rfl (hb hby d1_39) rfl (l' := #[.val (.int p1), .val (.int (((p1.toUInt32 >>> ((1 : Int32) &&& 31).toUInt32).toInt32) &&& (255 : Int32))), .val (.int (((p1.toUInt32 >>> ((9 : Int32) &&& 31).toUInt32).toInt32) &&& (255 : Int32)))]) rfl k) ?_
    show Gl p e below s _ _ _ (T.setTop (mkF m 40 #[.val (.int p1), .val (.int (((p1.toUInt32 >>> ((1 : Int32) &&& 31).toUInt32).toInt32) &&& (255 : Int32))), .val (.int (((p1.toUInt32 >>> ((9 : Int32) &&& 31).toUInt32).toInt32) &&& (255 : Int32)))] []))
    obtain ⟨T, h5, X, eT, E5, A5, D5, -, st⟩ := newO X hx hZ hown (hw _ (List.mem_of_getElem? (i := 8) rfl)) (hw _ (List.mem_of_getElem? (i := 9) rfl)) (hw _ (List.mem_of_getElem? (i := 10) rfl)) eT (g := (mkF m 40 #[.val (.int p1), .val (.int (((p1.toUInt32 >>> ((1 : Int32) &&& 31).toUInt32).toInt32) &&& (255 : Int32))), .val (.int (((p1.toUInt32 >>> ((9 : Int32) &&& 31).toUInt32).toInt32) &&& (255 : Int32)))] [])) rfl (hb hby d1_40) (by decide) (by decide)
    obtain ⟨b2, g5⟩ : ∃ z, z = h0.size := ⟨_, rfl⟩
    rw [← g5] at A5 D5 st
    have sz5 := E5.1
    have lt5 : b2 < h5.size := A5.lt
    refine Gl.by st ?_
    have F5_coder : Fld Z h5 b2 "java/lang/String" "coder" "B" (.int (0 : Int32)) := D5 (Or.inr (hw _ (List.mem_of_getElem? (i := 35) rfl))) (ty := .byte) (by decide)
    have F5_value : Fld Z h5 b2 "java/lang/String" "value" "[B" .null := D5 (Or.inr (hw _ (List.mem_of_getElem? (i := 37) rfl))) (ty := (.array .byte)) (by decide)
    show Gl p e below s _ _ _ (T.setTop (mkF m 43 #[.val (.int p1), .val (.int (((p1.toUInt32 >>> ((1 : Int32) &&& 31).toUInt32).toInt32) &&& (255 : Int32))), .val (.int (((p1.toUInt32 >>> ((9 : Int32) &&& 31).toUInt32).toInt32) &&& (255 : Int32)))] [(.ref b2)]))
    refine Gl.by (fun t k => XS.dup X.here hx rfl (hb hby d1_43) rfl rfl k) ?_
    show Gl p e below s _ _ _ (T.setTop (mkF m 44 #[.val (.int p1), .val (.int (((p1.toUInt32 >>> ((1 : Int32) &&& 31).toUInt32).toInt32) &&& (255 : Int32))), .val (.int (((p1.toUInt32 >>> ((9 : Int32) &&& 31).toUInt32).toInt32) &&& (255 : Int32)))] [(.ref b2), (.ref b2)]))
    refine Gl.by (fun t k => XS.iconst X.here hx rfl (hb hby d1_44) k) ?_
    show Gl p e below s _ _ _ (T.setTop (mkF m 45 #[.val (.int p1), .val (.int (((p1.toUInt32 >>> ((1 : Int32) &&& 31).toUInt32).toInt32) &&& (255 : Int32))), .val (.int (((p1.toUInt32 >>> ((9 : Int32) &&& 31).toUInt32).toInt32) &&& (255 : Int32)))] [(.int (2 : Int32)), (.ref b2), (.ref b2)]))
    obtain ⟨T, h6, k6, X, eT, E6, A6, st⟩ := newP X hx hZ (hw _ (List.mem_of_getElem? (i := 11) rfl)) eT (g := (mkF m 45 #[.val (.int p1), .val (.int (((p1.toUInt32 >>> ((1 : Int32) &&& 31).toUInt32).toInt32) &&& (255 : Int32))), .val (.int (((p1.toUInt32 >>> ((9 : Int32) &&& 31).toUInt32).toInt32) &&& (255 : Int32)))] [(.int (2 : Int32)), (.ref b2), (.ref b2)])) rfl (hb hby d1_45) rfl (by decide) (cap := 2) (by decide) (by decide) (by decide) (by decide)
    obtain ⟨b3, g6⟩ : ∃ z, z = h5.size := ⟨_, rfl⟩
    rw [← g6] at A6 st
    have sz6 := E6.1
    have lt6 : b3 < h6.size := A6.lt
    have V6 : Arv Z h6 b3 k6 .char (2 : Int32) [(.int (0 : Int32)), (.int (0 : Int32))] (.int (0 : Int32)) := (Arv.new A6 (by decide)).pad (pad_rep [] (.int (0 : Int32)) 2)
    refine Gl.by st ?_
    show Gl p e below s _ _ _ (T.setTop (mkF m 47 #[.val (.int p1), .val (.int (((p1.toUInt32 >>> ((1 : Int32) &&& 31).toUInt32).toInt32) &&& (255 : Int32))), .val (.int (((p1.toUInt32 >>> ((9 : Int32) &&& 31).toUInt32).toInt32) &&& (255 : Int32)))] [(.ref b3), (.ref b2), (.ref b2)]))
    refine Gl.by (fun t k => XS.dup X.here hx rfl (hb hby d1_47) rfl rfl k) ?_
    show Gl p e below s _ _ _ (T.setTop (mkF m 48 #[.val (.int p1), .val (.int (((p1.toUInt32 >>> ((1 : Int32) &&& 31).toUInt32).toInt32) &&& (255 : Int32))), .val (.int (((p1.toUInt32 >>> ((9 : Int32) &&& 31).toUInt32).toInt32) &&& (255 : Int32)))] [(.ref b3), (.ref b3), (.ref b2), (.ref b2)]))
    refine Gl.by (fun t k => XS.iconst X.here hx rfl (hb hby d1_48) k) ?_
    show Gl p e below s _ _ _ (T.setTop (mkF m 49 #[.val (.int p1), .val (.int (((p1.toUInt32 >>> ((1 : Int32) &&& 31).toUInt32).toInt32) &&& (255 : Int32))), .val (.int (((p1.toUInt32 >>> ((9 : Int32) &&& 31).toUInt32).toInt32) &&& (255 : Int32)))] [(.int (0 : Int32)), (.ref b3), (.ref b3), (.ref b2), (.ref b2)]))
    refine Gl.by (fun t k => XS.iloadN X.here hx rfl (hb hby d1_49) rfl k) ?_
    show Gl p e below s _ _ _ (T.setTop (mkF m 50 #[.val (.int p1), .val (.int (((p1.toUInt32 >>> ((1 : Int32) &&& 31).toUInt32).toInt32) &&& (255 : Int32))), .val (.int (((p1.toUInt32 >>> ((9 : Int32) &&& 31).toUInt32).toInt32) &&& (255 : Int32)))] [(.int (((p1.toUInt32 >>> ((1 : Int32) &&& 31).toUInt32).toInt32) &&& (255 : Int32))), (.int (0 : Int32)), (.ref b3), (.ref b3), (.ref b2), (.ref b2)]))
    obtain ⟨cl7, Ar7, q7, S7, M7, H7, G7⟩ := (V6 : Arv Z h6 b3 k6 .char (2 : Int32) [(.int (0 : Int32)), (.int (0 : Int32))] (.int (0 : Int32)))
    obtain ⟨T, h7, X, eT, W7, st⟩ := stC X hx hZ eT Ar7 (j := (0 : Int32)) (inb_of S7 ⟨by decide, by decide⟩) (g := (mkF m 50 #[.val (.int p1), .val (.int (((p1.toUInt32 >>> ((1 : Int32) &&& 31).toUInt32).toInt32) &&& (255 : Int32))), .val (.int (((p1.toUInt32 >>> ((9 : Int32) &&& 31).toUInt32).toInt32) &&& (255 : Int32)))] [(.int (((p1.toUInt32 >>> ((1 : Int32) &&& 31).toUInt32).toInt32) &&& (255 : Int32))), (.int (0 : Int32)), (.ref b3), (.ref b3), (.ref b2), (.ref b2)])) rfl rfl (hb hby d1_50)
    have V7 : Arv Z h7 b3 k6 .char (2 : Int32) [(.int (nar .char (((p1.toUInt32 >>> ((1 : Int32) &&& 31).toUInt32).toInt32) &&& (255 : Int32)))), (.int (0 : Int32))] (.int (0 : Int32)) := Arv.set Ar7 q7 S7 M7 H7 G7 (fits_nar_char _) W7 0 rfl (Nat.le_of_ble_eq_true rfl)
    have sz7 := (Keep.of_wr W7).1
    have N := Fr.snoc X N (by omega)
    refine Gl.by st ?_
    show Gl p e below s _ _ _ (T.setTop (mkF m 51 #[.val (.int p1), .val (.int (((p1.toUInt32 >>> ((1 : Int32) &&& 31).toUInt32).toInt32) &&& (255 : Int32))), .val (.int (((p1.toUInt32 >>> ((9 : Int32) &&& 31).toUInt32).toInt32) &&& (255 : Int32)))] [(.ref b3), (.ref b2), (.ref b2)]))
    refine Gl.by (fun t k => XS.dup X.here hx rfl (hb hby d1_51) rfl rfl k) ?_
    show Gl p e below s _ _ _ (T.setTop (mkF m 52 #[.val (.int p1), .val (.int (((p1.toUInt32 >>> ((1 : Int32) &&& 31).toUInt32).toInt32) &&& (255 : Int32))), .val (.int (((p1.toUInt32 >>> ((9 : Int32) &&& 31).toUInt32).toInt32) &&& (255 : Int32)))] [(.ref b3), (.ref b3), (.ref b2), (.ref b2)]))
    refine Gl.by (fun t k => XS.iconst X.here hx rfl (hb hby d1_52) k) ?_
    show Gl p e below s _ _ _ (T.setTop (mkF m 53 #[.val (.int p1), .val (.int (((p1.toUInt32 >>> ((1 : Int32) &&& 31).toUInt32).toInt32) &&& (255 : Int32))), .val (.int (((p1.toUInt32 >>> ((9 : Int32) &&& 31).toUInt32).toInt32) &&& (255 : Int32)))] [(.int (1 : Int32)), (.ref b3), (.ref b3), (.ref b2), (.ref b2)]))
    refine Gl.by (fun t k => XS.iloadN X.here hx rfl (hb hby d1_53) rfl k) ?_
    show Gl p e below s _ _ _ (T.setTop (mkF m 54 #[.val (.int p1), .val (.int (((p1.toUInt32 >>> ((1 : Int32) &&& 31).toUInt32).toInt32) &&& (255 : Int32))), .val (.int (((p1.toUInt32 >>> ((9 : Int32) &&& 31).toUInt32).toInt32) &&& (255 : Int32)))] [(.int (((p1.toUInt32 >>> ((9 : Int32) &&& 31).toUInt32).toInt32) &&& (255 : Int32))), (.int (1 : Int32)), (.ref b3), (.ref b3), (.ref b2), (.ref b2)]))
    obtain ⟨cl8, Ar8, q8, S8, M8, H8, G8⟩ := (V7 : Arv Z h7 b3 k6 .char (2 : Int32) [(.int (nar .char (((p1.toUInt32 >>> ((1 : Int32) &&& 31).toUInt32).toInt32) &&& (255 : Int32)))), (.int (0 : Int32))] (.int (0 : Int32)))
    obtain ⟨T, h8, X, eT, W8, st⟩ := stC X hx hZ eT Ar8 (j := (1 : Int32)) (inb_of S8 ⟨by decide, by decide⟩) (g := (mkF m 54 #[.val (.int p1), .val (.int (((p1.toUInt32 >>> ((1 : Int32) &&& 31).toUInt32).toInt32) &&& (255 : Int32))), .val (.int (((p1.toUInt32 >>> ((9 : Int32) &&& 31).toUInt32).toInt32) &&& (255 : Int32)))] [(.int (((p1.toUInt32 >>> ((9 : Int32) &&& 31).toUInt32).toInt32) &&& (255 : Int32))), (.int (1 : Int32)), (.ref b3), (.ref b3), (.ref b2), (.ref b2)])) rfl rfl (hb hby d1_54)
    have V8 : Arv Z h8 b3 k6 .char (2 : Int32) [(.int (nar .char (((p1.toUInt32 >>> ((1 : Int32) &&& 31).toUInt32).toInt32) &&& (255 : Int32)))), (.int (nar .char (((p1.toUInt32 >>> ((9 : Int32) &&& 31).toUInt32).toInt32) &&& (255 : Int32))))] (.int (0 : Int32)) := Arv.set Ar8 q8 S8 M8 H8 G8 (fits_nar_char _) W8 1 rfl (Nat.le_of_ble_eq_true rfl)
    have sz8 := (Keep.of_wr W8).1
    have N := Fr.snoc X N (by omega)
    refine Gl.by st ?_
    show Gl p e below s _ _ _ (T.setTop (mkF m 55 #[.val (.int p1), .val (.int (((p1.toUInt32 >>> ((1 : Int32) &&& 31).toUInt32).toInt32) &&& (255 : Int32))), .val (.int (((p1.toUInt32 >>> ((9 : Int32) &&& 31).toUInt32).toInt32) &&& (255 : Int32)))] [(.ref b3), (.ref b2), (.ref b2)]))
    have V9 : Arv Z h8 b3 k6 .char (2 : Int32) (([own_c0 p1, own_c1 p1] : List Int32).map Value.int) (.int 0) := by
      have q := V8
      rw [ra, rb] at q
      exact q
    have O9 := ((((O.ext E5).ext E6).wr W7 (by omega)).wr W8 (by omega))
    have hp : ∀ c ∈ ([own_c0 p1, own_c1 p1] : List Int32), ¬ c < 0 ∧ ¬ (255 : Int32) < c := by
      intro c hc
      simp only [List.mem_cons, List.not_mem_nil, or_false] at hc
      rcases hc with rfl | rfl
      · exact sa
      · exact sb
    refine Gl.spec X hx hZ rfl hown (hw _ (List.mem_of_getElem? (i := 12) rfl)) (hw _ (List.mem_of_getElem? (i := 13) rfl)) (hw _ (List.mem_of_getElem? (i := 14) rfl)) (by decide) (W := 1) (payNew (n := 2) (n0 := n0) hZ (own_words hw) (hw _ (List.mem_of_getElem? (i := 9) rfl)) ([own_c0 p1, own_c1 p1] : List Int32) (by omega) (by omega) (((A5.ext E6).wr W7).wr W8) (((F5_value.ext E6).other W7 (Or.inl (nea (by omega)))).other W8 (Or.inl (nea (by omega)))) (((F5_coder.ext E6).other W7 (Or.inl (nea (by omega)))).other W8 (Or.inl (nea (by omega)))) V9 S hz O9 rfl rfl (by decide) (by decide) hp (by decide) (by decide)) eT (hb hby d1_55) (by rw [hml]; rfl) b2 [(.ref b3)] [(.ref b2)] (lenOf pd_0 rfl) rfl rfl (Nat.le_of_eq rfl) (by decide) (by decide) ?_
    intro v T L X hq
    obtain ⟨rfl, NQ, KQ, SQ⟩ := hq
    have N := Fr.app N NQ
    have eT := (rfl : T.heap = T.heap)
    show Gl p e below s _ _ _ (T.setTop (mkF m 58 #[.val (.int p1), .val (.int (((p1.toUInt32 >>> ((1 : Int32) &&& 31).toUInt32).toInt32) &&& (255 : Int32))), .val (.int (((p1.toUInt32 >>> ((9 : Int32) &&& 31).toUInt32).toInt32) &&& (255 : Int32)))] [(.ref b2)]))
    refine Gl.retA X hx hlk hret rfl rfl (hb hby d1_58) (by decide) (by decide) ⟨N, ((((((Keep.refl h0 []).ext E5).ext E6).wr W7 (Or.inr (by omega))).wr W8 (Or.inr (by omega))).trans KQ (allS (Or.inr (by omega)) all0)), b2, rfl, by omega, ?_⟩
    show Str Z T.heap b2 (own_mkc p1)
    rw [own_mkc, if_neg hc]
    exact SQ
set_option maxRecDepth 65536 in
set_option maxHeartbeats 40000000 in
theorem own_init (l : Launch) (Z : State) (a0 : Array Value) (hw : ∀ d ∈ tables_1, d.before a0 Z = true) (a s1 s2 s3 : Addr) (h0 : Heap) (n0 : Nat) (Z0 : n0 ≤ a) (E : Exa Z h0 a "com/example/gather/gather/service/ozs/OzsMessage") (F_code : Fld Z h0 a "com/example/gather/gather/service/ozs/OzsMessage" "code" "Ljava/lang/String;" .null) (F_level : Fld Z h0 a "com/example/gather/gather/service/ozs/OzsMessage" "level" "Ljava/lang/String;" .null) (F_text : Fld Z h0 a "com/example/gather/gather/service/ozs/OzsMessage" "text" "Ljava/lang/String;" .null) :
    Ctr l Z (⟨"com/example/gather/gather/service/ozs/OzsMessage", "<init>", "(Ljava/lang/String;Ljava/lang/String;Ljava/lang/String;)V"⟩ : MethodName) prog_61_method_1_code 4 none [] own_rIn #[(.ref a), (.ref s1), (.ref s2), (.ref s3)] h0 (fun v h L => v = none ∧ Fr n0 L ∧ Keep h0 h [a] ∧ Exa Z h a "com/example/gather/gather/service/ozs/OzsMessage" ∧ Fld Z h a "com/example/gather/gather/service/ozs/OzsMessage" "code" "Ljava/lang/String;" (.ref s1) ∧ Fld Z h a "com/example/gather/gather/service/ozs/OzsMessage" "level" "Ljava/lang/String;" (.ref s2) ∧ Fld Z h a "com/example/gather/gather/service/ozs/OzsMessage" "text" "Ljava/lang/String;" (.ref s3)) := by
  refine Ctr.intro pn_1 #[.val (.ref a), .val (.ref s1), .val (.ref s2), .val (.ref s3)] (fun m => by first | rfl | (simp [entryFrame, mkF, argsToLocals, Value.category]; done)) ?_
  intro p e s m below meth c T hx hby hml hown hnm hret hlk hZ X eT
  have hown : s.vm.findClass "com/example/gather/gather/service/ozs/OzsMessage" = some m.cls := hown
  have N := Fr.nil n0
  show Gl p e below s _ _ _ (T.setTop (mkF m 0 #[.val (.ref a), .val (.ref s1), .val (.ref s2), .val (.ref s3)] []))
  refine Gl.by (fun t k => XS.aloadN X.here hx rfl (hb hby d8_0) rfl rfl k) ?_
  show Gl p e below s _ _ _ (T.setTop (mkF m 1 #[.val (.ref a), .val (.ref s1), .val (.ref s2), .val (.ref s3)] [(.ref a)]))
  obtain ⟨T, X, eT, st⟩ := initO X hx hZ hown (hw _ (List.mem_of_getElem? (i := 41) rfl)) (hw _ (List.mem_of_getElem? (i := 20) rfl)) (hw _ (List.mem_of_getElem? (i := 21) rfl)) eT (g := (mkF m 1 #[.val (.ref a), .val (.ref s1), .val (.ref s2), .val (.ref s3)] [(.ref a)])) rfl (by rw [hml]; rfl) rfl (hb hby d8_1) (by decide) (W := 0) (by show 2 * 0 + _ ≤ _; exact Nat.le_of_eq rfl) (by decide)
  refine Gl.by st ?_
  show Gl p e below s _ _ _ (T.setTop (mkF m 4 #[.val (.ref a), .val (.ref s1), .val (.ref s2), .val (.ref s3)] []))
  refine Gl.by (fun t k => XS.aloadN X.here hx rfl (hb hby d8_4) rfl rfl k) ?_
  show Gl p e below s _ _ _ (T.setTop (mkF m 5 #[.val (.ref a), .val (.ref s1), .val (.ref s2), .val (.ref s3)] [(.ref a)]))
  refine Gl.by (fun t k => XS.aloadN X.here hx rfl (hb hby d8_5) rfl rfl k) ?_
  show Gl p e below s _ _ _ (T.setTop (mkF m 6 #[.val (.ref a), .val (.ref s1), .val (.ref s2), .val (.ref s3)] [(.ref s1), (.ref a)]))
  obtain ⟨T, h1, X, eT, W1, st⟩ := putF X hx hZ hown (host := "") (Or.inl (hw _ (List.mem_of_getElem? (i := 42) rfl))) Via.refl eT F_code E (Or.inr ⟨(hw _ (List.mem_of_getElem? (i := 43) rfl)), rfl, hnm⟩) (hw _ (List.mem_of_getElem? (i := 2) rfl)) (ty := (.object "java/lang/String")) (by decide) rfl rfl (g := (mkF m 6 #[.val (.ref a), .val (.ref s1), .val (.ref s2), .val (.ref s3)] [(.ref s1), (.ref a)])) rfl rfl (hb hby d8_6)
  have F1_code : Fld Z h1 a "com/example/gather/gather/service/ozs/OzsMessage" "code" "Ljava/lang/String;" (.ref s1) := Fld.same W1 F_code
  have sz1 := (Keep.of_wr W1).1
  have N := Fr.snoc X N (by omega)
  refine Gl.by st ?_
  show Gl p e below s _ _ _ (T.setTop (mkF m 9 #[.val (.ref a), .val (.ref s1), .val (.ref s2), .val (.ref s3)] []))
  refine Gl.by (fun t k => XS.aloadN X.here hx rfl (hb hby d8_9) rfl rfl k) ?_
  show Gl p e below s _ _ _ (T.setTop (mkF m 10 #[.val (.ref a), .val (.ref s1), .val (.ref s2), .val (.ref s3)] [(.ref a)]))
  refine Gl.by (fun t k => XS.aloadN X.here hx rfl (hb hby d8_10) rfl rfl k) ?_
  show Gl p e below s _ _ _ (T.setTop (mkF m 11 #[.val (.ref a), .val (.ref s1), .val (.ref s2), .val (.ref s3)] [(.ref s2), (.ref a)]))
  obtain ⟨T, h2, X, eT, W2, st⟩ := putF X hx hZ hown (host := "") (Or.inl (hw _ (List.mem_of_getElem? (i := 44) rfl))) Via.refl eT (F_level.other W1 (Or.inr (slot_ne (C := "com/example/gather/gather/service/ozs/OzsMessage") (Or.inr (hw _ (List.mem_of_getElem? (i := 45) rfl))) (Or.inr (hw _ (List.mem_of_getElem? (i := 43) rfl))) (by decide) (t := (.object "java/lang/String")) (t' := (.object "java/lang/String")) (by decide) (by decide)))) (E.wr W1) (Or.inr ⟨(hw _ (List.mem_of_getElem? (i := 45) rfl)), rfl, hnm⟩) (hw _ (List.mem_of_getElem? (i := 2) rfl)) (ty := (.object "java/lang/String")) (by decide) rfl rfl (g := (mkF m 11 #[.val (.ref a), .val (.ref s1), .val (.ref s2), .val (.ref s3)] [(.ref s2), (.ref a)])) rfl rfl (hb hby d8_11)
  have F2_level : Fld Z h2 a "com/example/gather/gather/service/ozs/OzsMessage" "level" "Ljava/lang/String;" (.ref s2) := Fld.same W2 (F_level.other W1 (Or.inr (slot_ne (C := "com/example/gather/gather/service/ozs/OzsMessage") (Or.inr (hw _ (List.mem_of_getElem? (i := 45) rfl))) (Or.inr (hw _ (List.mem_of_getElem? (i := 43) rfl))) (by decide) (t := (.object "java/lang/String")) (t' := (.object "java/lang/String")) (by decide) (by decide))))
  have sz2 := (Keep.of_wr W2).1
  have N := Fr.snoc X N (by omega)
  refine Gl.by st ?_
  show Gl p e below s _ _ _ (T.setTop (mkF m 14 #[.val (.ref a), .val (.ref s1), .val (.ref s2), .val (.ref s3)] []))
  refine Gl.by (fun t k => XS.aloadN X.here hx rfl (hb hby d8_14) rfl rfl k) ?_
  show Gl p e below s _ _ _ (T.setTop (mkF m 15 #[.val (.ref a), .val (.ref s1), .val (.ref s2), .val (.ref s3)] [(.ref a)]))
  refine Gl.by (fun t k => XS.aloadN X.here hx rfl (hb hby d8_15) rfl rfl k) ?_
  show Gl p e below s _ _ _ (T.setTop (mkF m 16 #[.val (.ref a), .val (.ref s1), .val (.ref s2), .val (.ref s3)] [(.ref s3), (.ref a)]))
  obtain ⟨T, h3, X, eT, W3, st⟩ := putF X hx hZ hown (host := "") (Or.inl (hw _ (List.mem_of_getElem? (i := 46) rfl))) Via.refl eT ((F_text.other W1 (Or.inr (slot_ne (C := "com/example/gather/gather/service/ozs/OzsMessage") (Or.inr (hw _ (List.mem_of_getElem? (i := 47) rfl))) (Or.inr (hw _ (List.mem_of_getElem? (i := 43) rfl))) (by decide) (t := (.object "java/lang/String")) (t' := (.object "java/lang/String")) (by decide) (by decide)))).other W2 (Or.inr (slot_ne (C := "com/example/gather/gather/service/ozs/OzsMessage") (Or.inr (hw _ (List.mem_of_getElem? (i := 47) rfl))) (Or.inr (hw _ (List.mem_of_getElem? (i := 45) rfl))) (by decide) (t := (.object "java/lang/String")) (t' := (.object "java/lang/String")) (by decide) (by decide)))) ((E.wr W1).wr W2) (Or.inr ⟨(hw _ (List.mem_of_getElem? (i := 47) rfl)), rfl, hnm⟩) (hw _ (List.mem_of_getElem? (i := 2) rfl)) (ty := (.object "java/lang/String")) (by decide) rfl rfl (g := (mkF m 16 #[.val (.ref a), .val (.ref s1), .val (.ref s2), .val (.ref s3)] [(.ref s3), (.ref a)])) rfl rfl (hb hby d8_16)
  have F3_text : Fld Z h3 a "com/example/gather/gather/service/ozs/OzsMessage" "text" "Ljava/lang/String;" (.ref s3) := Fld.same W3 ((F_text.other W1 (Or.inr (slot_ne (C := "com/example/gather/gather/service/ozs/OzsMessage") (Or.inr (hw _ (List.mem_of_getElem? (i := 47) rfl))) (Or.inr (hw _ (List.mem_of_getElem? (i := 43) rfl))) (by decide) (t := (.object "java/lang/String")) (t' := (.object "java/lang/String")) (by decide) (by decide)))).other W2 (Or.inr (slot_ne (C := "com/example/gather/gather/service/ozs/OzsMessage") (Or.inr (hw _ (List.mem_of_getElem? (i := 47) rfl))) (Or.inr (hw _ (List.mem_of_getElem? (i := 45) rfl))) (by decide) (t := (.object "java/lang/String")) (t' := (.object "java/lang/String")) (by decide) (by decide))))
  have sz3 := (Keep.of_wr W3).1
  have N := Fr.snoc X N (by omega)
  refine Gl.by st ?_
  show Gl p e below s _ _ _ (T.setTop (mkF m 19 #[.val (.ref a), .val (.ref s1), .val (.ref s2), .val (.ref s3)] []))
  refine Gl.retV X hx hlk hret (hb hby d8_19) (by decide) (by decide) ?_
  rw [eT]
  exact ⟨rfl, N, ((((Keep.refl h0 [a]).wr W1 (Or.inl (by simp))).wr W2 (Or.inl (by simp))).wr W3 (Or.inl (by simp))), (((E.wr W1).wr W2).wr W3), ((F1_code.other W2 (Or.inr (slot_ne (C := "com/example/gather/gather/service/ozs/OzsMessage") (Or.inr (hw _ (List.mem_of_getElem? (i := 43) rfl))) (Or.inr (hw _ (List.mem_of_getElem? (i := 45) rfl))) (by decide) (t := (.object "java/lang/String")) (t' := (.object "java/lang/String")) (by decide) (by decide)))).other W3 (Or.inr (slot_ne (C := "com/example/gather/gather/service/ozs/OzsMessage") (Or.inr (hw _ (List.mem_of_getElem? (i := 43) rfl))) (Or.inr (hw _ (List.mem_of_getElem? (i := 47) rfl))) (by decide) (t := (.object "java/lang/String")) (t' := (.object "java/lang/String")) (by decide) (by decide)))), (F2_level.other W3 (Or.inr (slot_ne (C := "com/example/gather/gather/service/ozs/OzsMessage") (Or.inr (hw _ (List.mem_of_getElem? (i := 45) rfl))) (Or.inr (hw _ (List.mem_of_getElem? (i := 47) rfl))) (by decide) (t := (.object "java/lang/String")) (t' := (.object "java/lang/String")) (by decide) (by decide)))), F3_text⟩
theorem own_bit (x : Int32) : x &&& 1 = 0 ∨ x &&& 1 = 1 := by
  have h : (x &&& 1).toBitVec.toNat < 2 := by
    simp only [Int32.toBitVec_and, BitVec.toNat_and]
    exact Nat.lt_succ_of_le Nat.and_le_right
  have e : (x &&& 1) = Int32.ofNat (x &&& 1).toBitVec.toNat := by
    apply Int32.toBitVec_inj.mp
    show _ = BitVec.ofNat 32 _
    rw [BitVec.ofNat_toNat]; simp
  rw [e]
  have t : ∀ k : Fin 2, Int32.ofNat k.val = 0 ∨ Int32.ofNat k.val = 1 := by decide
  exact t ⟨_, h⟩
theorem own_ne1 {u v : Int32} (h1 : ¬ (u &&& (1 : Int32)) = (v &&& (1 : Int32))) : ¬ own_mkc u = own_mkc v := by
  intro h
  unfold own_mkc at h
  rcases own_bit u with a | a <;> rcases own_bit v with b | b
  · exact h1 (a.trans b.symm)
  · rw [if_pos a, if_neg (by rw [b]; decide)] at h; exact absurd (congrArg List.length h) (by simp)
  · rw [if_neg (by rw [a]; decide), if_pos b] at h; exact absurd (congrArg List.length h) (by simp)
  · exact h1 (a.trans b.symm)
theorem own_head (u : Int32) : (own_mkc u).head? = some (own_c0 u) := by unfold own_mkc; split <;> rfl
theorem own_ne2 {u v : Int32} (h2 : ¬ own_c0 u = own_c0 v) : ¬ own_mkc u = own_mkc v := fun h => h2 (Option.some.inj ((own_head u).symm.trans ((congrArg List.head? h).trans (own_head v))))
theorem own_eq3 {u v : Int32} (h1 : (u &&& (1 : Int32)) = (v &&& (1 : Int32))) (h2 : own_c0 u = own_c0 v) (h3 : (u &&& (1 : Int32)) = (0 : Int32)) : own_mkc u = own_mkc v := by
  unfold own_mkc; rw [if_pos h3, if_pos (h1 ▸ h3), h2]
theorem own_eq4 {u v : Int32} (h1 : (u &&& (1 : Int32)) = (v &&& (1 : Int32))) (h2 : own_c0 u = own_c0 v) (h4 : own_c1 u = own_c1 v) : own_mkc u = own_mkc v := by
  unfold own_mkc; rw [h1, h2, h4]
theorem own_ne4 {u v : Int32} (h1 : (u &&& (1 : Int32)) = (v &&& (1 : Int32))) (h3 : ¬ (u &&& (1 : Int32)) = (0 : Int32)) (h4 : ¬ own_c1 u = own_c1 v) : ¬ own_mkc u = own_mkc v := by
  intro h
  unfold own_mkc at h
  rw [if_neg h3, if_neg (h1 ▸ h3)] at h
  injection h with _ h
  injection h with h _
  exact h4 h
set_option maxRecDepth 65536 in
set_option maxHeartbeats 40000000 in
theorem own_same (l : Launch) (Z : State) (a0 : Array Value) (hw : ∀ d ∈ tables_1, d.before a0 Z = true) (u v : Int32) (h0 : Heap) (n0 : Nat)  :
    Ctr l Z (⟨"com/example/gather/gather/service/ozs/OzsMessageEqualsPinLaw", "same", "(II)Z"⟩ : MethodName) method_4_code 2 (some .boolean) [] own_r0 #[(.int u), (.int v)] h0 (fun w h L => w = some (.int (if own_mkc u = own_mkc v then 1 else 0)) ∧ L = [] ∧ h = h0) := by
  refine Ctr.intro pn_0 #[.val (.int u), .val (.int v)] (fun m => by first | rfl | (simp [entryFrame, mkF, argsToLocals, Value.category]; done)) ?_
  intro p e s m below meth c T hx hby hml hown hnm hret hlk hZ X eT
  have hown : s.vm.findClass "com/example/gather/gather/service/ozs/OzsMessageEqualsPinLaw" = some m.cls := hown
  have N := Fr.nil n0
  show Gl p e below s _ _ _ (T.setTop (mkF m 0 #[.val (.int u), .val (.int v)] []))
  refine Gl.by (fun t k => XS.iloadN X.here hx rfl (hb hby d9_0) rfl k) ?_
  show Gl p e below s _ _ _ (T.setTop (mkF m 1 #[.val (.int u), .val (.int v)] [(.int u)]))
  refine Gl.by (fun t k => XS.iconst X.here hx rfl (hb hby d9_1) k) ?_
  show Gl p e below s _ _ _ (T.setTop (mkF m 2 #[.val (.int u), .val (.int v)] [(.int (1 : Int32)), (.int u)]))
  refine Gl.by (fun t k => XS.iand X.here hx rfl (hb hby d9_2) rfl k) ?_
  show Gl p e below s _ _ _ (T.setTop (mkF m 3 #[.val (.int u), .val (.int v)] [(.int (u &&& (1 : Int32)))]))
  refine Gl.by (fun t k => XS.iloadN X.here hx rfl (hb hby d9_3) rfl k) ?_
  show Gl p e below s _ _ _ (T.setTop (mkF m 4 #[.val (.int u), .val (.int v)] [(.int v), (.int (u &&& (1 : Int32)))]))
  refine Gl.by (fun t k => XS.iconst X.here hx rfl (hb hby d9_4) k) ?_
  show Gl p e below s _ _ _ (T.setTop (mkF m 5 #[.val (.int u), .val (.int v)] [(.int (1 : Int32)), (.int v), (.int (u &&& (1 : Int32)))]))
  refine Gl.by (fun t k => XS.iand X.here hx rfl (hb hby d9_5) rfl k) ?_
  show Gl p e below s _ _ _ (T.setTop (mkF m 6 #[.val (.int u), .val (.int v)] [(.int (v &&& (1 : Int32))), (.int (u &&& (1 : Int32)))]))
  by_cases h1 : (u &&& (1 : Int32)) = (v &&& (1 : Int32))
  · refine Gl.by (fun t k => XS.icmpYes X.here hx rfl (pc0 := 6) (pc' := 11) rfl (hb hby d9_6) rfl (teq h1).1 (by decide) (by decide) k) ?_
    show Gl p e below s _ _ _ (T.setTop (mkF m 11 #[.val (.int u), .val (.int v)] []))
    refine Gl.by (fun t k => XS.iloadN X.here hx rfl (hb hby d9_11) rfl k) ?_
    show Gl p e below s _ _ _ (T.setTop (mkF m 12 #[.val (.int u), .val (.int v)] [(.int u)]))
    refine Gl.by (fun t k => XS.iconst X.here hx rfl (hb hby d9_12) k) ?_
    show Gl p e below s _ _ _ (T.setTop (mkF m 13 #[.val (.int u), .val (.int v)] [(.int (1 : Int32)), (.int u)]))
    refine Gl.by (fun t k => XS.iushr X.here hx rfl (hb hby d9_13) rfl k) ?_
    show Gl p e below s _ _ _ (T.setTop (mkF m 14 #[.val (.int u), .val (.int v)] [(.int ((u.toUInt32 >>> ((1 : Int32) &&& 31).toUInt32).toInt32))]))
    refine Gl.by (fun t k => XS.sipush X.here hx rfl (hb hby d9_14) k) ?_
    show Gl p e below s _ _ _ (T.setTop (mkF m 17 #[.val (.int u), .val (.int v)] [(.int (255 : Int32)), (.int ((u.toUInt32 >>> ((1 : Int32) &&& 31).toUInt32).toInt32))]))
    refine Gl.by (fun t k => XS.iand X.here hx rfl (hb hby d9_17) rfl k) ?_
    show Gl p e below s _ _ _ (T.setTop (mkF m 18 #[.val (.int u), .val (.int v)] [(.int (((u.toUInt32 >>> ((1 : Int32) &&& 31).toUInt32).toInt32) &&& (255 : Int32)))]))
    refine Gl.by (fun t k => XS.iloadN X.here hx rfl (hb hby d9_18) rfl k) ?_
    show Gl p e below s _ _ _ (T.setTop (mkF m 19 #[.val (.int u), .val (.int v)] [(.int v), (.int (((u.toUInt32 >>> ((1 : Int32) &&& 31).toUInt32).toInt32) &&& (255 : Int32)))]))
    refine Gl.by (fun t k => XS.iconst X.here hx rfl (hb hby d9_19) k) ?_
    show Gl p e below s _ _ _ (T.setTop (mkF m 20 #[.val (.int u), .val (.int v)] [(.int (1 : Int32)), (.int v), (.int (((u.toUInt32 >>> ((1 : Int32) &&& 31).toUInt32).toInt32) &&& (255 : Int32)))]))
    refine Gl.by (fun t k => XS.iushr X.here hx rfl (hb hby d9_20) rfl k) ?_
    show Gl p e below s _ _ _ (T.setTop (mkF m 21 #[.val (.int u), .val (.int v)] [(.int ((v.toUInt32 >>> ((1 : Int32) &&& 31).toUInt32).toInt32)), (.int (((u.toUInt32 >>> ((1 : Int32) &&& 31).toUInt32).toInt32) &&& (255 : Int32)))]))
    refine Gl.by (fun t k => XS.sipush X.here hx rfl (hb hby d9_21) k) ?_
    show Gl p e below s _ _ _ (T.setTop (mkF m 24 #[.val (.int u), .val (.int v)] [(.int (255 : Int32)), (.int ((v.toUInt32 >>> ((1 : Int32) &&& 31).toUInt32).toInt32)), (.int (((u.toUInt32 >>> ((1 : Int32) &&& 31).toUInt32).toInt32) &&& (255 : Int32)))]))
    refine Gl.by (fun t k => XS.iand X.here hx rfl (hb hby d9_24) rfl k) ?_
    show Gl p e below s _ _ _ (T.setTop (mkF m 25 #[.val (.int u), .val (.int v)] [(.int (((v.toUInt32 >>> ((1 : Int32) &&& 31).toUInt32).toInt32) &&& (255 : Int32))), (.int (((u.toUInt32 >>> ((1 : Int32) &&& 31).toUInt32).toInt32) &&& (255 : Int32)))]))
    by_cases h2 : (((u.toUInt32 >>> ((1 : Int32) &&& 31).toUInt32).toInt32) &&& (255 : Int32)) = (((v.toUInt32 >>> ((1 : Int32) &&& 31).toUInt32).toInt32) &&& (255 : Int32))
    · refine Gl.by (fun t k => XS.icmpYes X.here hx rfl (pc0 := 25) (pc' := 30) rfl (hb hby d9_25) rfl (teq h2).1 (by decide) (by decide) k) ?_
      show Gl p e below s _ _ _ (T.setTop (mkF m 30 #[.val (.int u), .val (.int v)] []))
      refine Gl.by (fun t k => XS.iloadN X.here hx rfl (hb hby d9_30) rfl k) ?_
      show Gl p e below s _ _ _ (T.setTop (mkF m 31 #[.val (.int u), .val (.int v)] [(.int u)]))
      refine Gl.by (fun t k => XS.iconst X.here hx rfl (hb hby d9_31) k) ?_
      show Gl p e below s _ _ _ (T.setTop (mkF m 32 #[.val (.int u), .val (.int v)] [(.int (1 : Int32)), (.int u)]))
      refine Gl.by (fun t k => XS.iand X.here hx rfl (hb hby d9_32) rfl k) ?_
      show Gl p e below s _ _ _ (T.setTop (mkF m 33 #[.val (.int u), .val (.int v)] [(.int (u &&& (1 : Int32)))]))
      by_cases h3 : (u &&& (1 : Int32)) = (0 : Int32)
      · refine Gl.by (fun t k => XS.ifNo X.here hx rfl (hb hby d9_33) rfl ((if0 _ _).trans (teq h3).2) k) ?_
        show Gl p e below s _ _ _ (T.setTop (mkF m 36 #[.val (.int u), .val (.int v)] []))
        refine Gl.by (fun t k => XS.iconst X.here hx rfl (hb hby d9_36) k) ?_
        show Gl p e below s _ _ _ (T.setTop (mkF m 37 #[.val (.int u), .val (.int v)] [(.int (1 : Int32))]))
        refine Gl.retZ X hx hlk hret (by simp) (hb hby d9_37) (by decide) (by decide) ⟨?_, rfl, eT⟩
        rw [if_pos (own_eq3 h1 h2 h3)]; rfl
      · refine Gl.by (fun t k => XS.ifYes X.here hx rfl (pc0 := 33) (pc' := 38) rfl (hb hby d9_33) rfl ((if0 _ _).trans (feq h3).2) (by decide) (by decide) k) ?_
        show Gl p e below s _ _ _ (T.setTop (mkF m 38 #[.val (.int u), .val (.int v)] []))
        refine Gl.by (fun t k => XS.iloadN X.here hx rfl (hb hby d9_38) rfl k) ?_
        show Gl p e below s _ _ _ (T.setTop (mkF m 39 #[.val (.int u), .val (.int v)] [(.int u)]))
        refine Gl.by (fun t k => XS.bipush X.here hx rfl (hb hby d9_39) k) ?_
        show Gl p e below s _ _ _ (T.setTop (mkF m 41 #[.val (.int u), .val (.int v)] [(.int (9 : Int32)), (.int u)]))
        refine Gl.by (fun t k => XS.iushr X.here hx rfl (hb hby d9_41) rfl k) ?_
        show Gl p e below s _ _ _ (T.setTop (mkF m 42 #[.val (.int u), .val (.int v)] [(.int ((u.toUInt32 >>> ((9 : Int32) &&& 31).toUInt32).toInt32))]))
        refine Gl.by (fun t k => XS.sipush X.here hx rfl (hb hby d9_42) k) ?_
        show Gl p e below s _ _ _ (T.setTop (mkF m 45 #[.val (.int u), .val (.int v)] [(.int (255 : Int32)), (.int ((u.toUInt32 >>> ((9 : Int32) &&& 31).toUInt32).toInt32))]))
        refine Gl.by (fun t k => XS.iand X.here hx rfl (hb hby d9_45) rfl k) ?_
        show Gl p e below s _ _ _ (T.setTop (mkF m 46 #[.val (.int u), .val (.int v)] [(.int (((u.toUInt32 >>> ((9 : Int32) &&& 31).toUInt32).toInt32) &&& (255 : Int32)))]))
        refine Gl.by (fun t k => XS.iloadN X.here hx rfl (hb hby d9_46) rfl k) ?_
        show Gl p e below s _ _ _ (T.setTop (mkF m 47 #[.val (.int u), .val (.int v)] [(.int v), (.int (((u.toUInt32 >>> ((9 : Int32) &&& 31).toUInt32).toInt32) &&& (255 : Int32)))]))
        refine Gl.by (fun t k => XS.bipush X.here hx rfl (hb hby d9_47) k) ?_
        show Gl p e below s _ _ _ (T.setTop (mkF m 49 #[.val (.int u), .val (.int v)] [(.int (9 : Int32)), (.int v), (.int (((u.toUInt32 >>> ((9 : Int32) &&& 31).toUInt32).toInt32) &&& (255 : Int32)))]))
        refine Gl.by (fun t k => XS.iushr X.here hx rfl (hb hby d9_49) rfl k) ?_
        show Gl p e below s _ _ _ (T.setTop (mkF m 50 #[.val (.int u), .val (.int v)] [(.int ((v.toUInt32 >>> ((9 : Int32) &&& 31).toUInt32).toInt32)), (.int (((u.toUInt32 >>> ((9 : Int32) &&& 31).toUInt32).toInt32) &&& (255 : Int32)))]))
        refine Gl.by (fun t k => XS.sipush X.here hx rfl (hb hby d9_50) k) ?_
        show Gl p e below s _ _ _ (T.setTop (mkF m 53 #[.val (.int u), .val (.int v)] [(.int (255 : Int32)), (.int ((v.toUInt32 >>> ((9 : Int32) &&& 31).toUInt32).toInt32)), (.int (((u.toUInt32 >>> ((9 : Int32) &&& 31).toUInt32).toInt32) &&& (255 : Int32)))]))
        refine Gl.by (fun t k => XS.iand X.here hx rfl (hb hby d9_53) rfl k) ?_
        show Gl p e below s _ _ _ (T.setTop (mkF m 54 #[.val (.int u), .val (.int v)] [(.int (((v.toUInt32 >>> ((9 : Int32) &&& 31).toUInt32).toInt32) &&& (255 : Int32))), (.int (((u.toUInt32 >>> ((9 : Int32) &&& 31).toUInt32).toInt32) &&& (255 : Int32)))]))
        by_cases h4 : (((u.toUInt32 >>> ((9 : Int32) &&& 31).toUInt32).toInt32) &&& (255 : Int32)) = (((v.toUInt32 >>> ((9 : Int32) &&& 31).toUInt32).toInt32) &&& (255 : Int32))
        · refine Gl.by (fun t k => XS.icmpNo X.here hx rfl (hb hby d9_54) rfl (teq h4).2 k) ?_
          show Gl p e below s _ _ _ (T.setTop (mkF m 57 #[.val (.int u), .val (.int v)] []))
          refine Gl.by (fun t k => XS.iconst X.here hx rfl (hb hby d9_57) k) ?_
          show Gl p e below s _ _ _ (T.setTop (mkF m 58 #[.val (.int u), .val (.int v)] [(.int (1 : Int32))]))
          refine Gl.by (fun t k => XS.goto X.here hx rfl (pc0 := 58) (pc' := 62) rfl (hb hby d9_58) (by decide) (by decide) k) ?_
          show Gl p e below s _ _ _ (T.setTop (mkF m 62 #[.val (.int u), .val (.int v)] [(.int (1 : Int32))]))
          refine Gl.retZ X hx hlk hret (by simp) (hb hby d9_62) (by decide) (by decide) ⟨?_, rfl, eT⟩
          rw [if_pos (own_eq4 h1 h2 h4)]; rfl
        · refine Gl.by (fun t k => XS.icmpYes X.here hx rfl (pc0 := 54) (pc' := 61) rfl (hb hby d9_54) rfl (feq h4).2 (by decide) (by decide) k) ?_
          show Gl p e below s _ _ _ (T.setTop (mkF m 61 #[.val (.int u), .val (.int v)] []))
          refine Gl.by (fun t k => XS.iconst X.here hx rfl (hb hby d9_61) k) ?_
          show Gl p e below s _ _ _ (T.setTop (mkF m 62 #[.val (.int u), .val (.int v)] [(.int (0 : Int32))]))
          refine Gl.retZ X hx hlk hret (by simp) (hb hby d9_62) (by decide) (by decide) ⟨?_, rfl, eT⟩
          rw [if_neg (own_ne4 h1 h3 h4)]; rfl
    · refine Gl.by (fun t k => XS.icmpNo X.here hx rfl (hb hby d9_25) rfl (feq h2).1 k) ?_
      show Gl p e below s _ _ _ (T.setTop (mkF m 28 #[.val (.int u), .val (.int v)] []))
      refine Gl.by (fun t k => XS.iconst X.here hx rfl (hb hby d9_28) k) ?_
      show Gl p e below s _ _ _ (T.setTop (mkF m 29 #[.val (.int u), .val (.int v)] [(.int (0 : Int32))]))
      refine Gl.retZ X hx hlk hret (by simp) (hb hby d9_29) (by decide) (by decide) ⟨?_, rfl, eT⟩
      rw [if_neg (own_ne2 h2)]; rfl
  · refine Gl.by (fun t k => XS.icmpNo X.here hx rfl (hb hby d9_6) rfl (feq h1).1 k) ?_
    show Gl p e below s _ _ _ (T.setTop (mkF m 9 #[.val (.int u), .val (.int v)] []))
    refine Gl.by (fun t k => XS.iconst X.here hx rfl (hb hby d9_9) k) ?_
    show Gl p e below s _ _ _ (T.setTop (mkF m 10 #[.val (.int u), .val (.int v)] [(.int (0 : Int32))]))
    refine Gl.retZ X hx hlk hret (by simp) (hb hby d9_10) (by decide) (by decide) ⟨?_, rfl, eT⟩
    rw [if_neg (own_ne1 h1)]; rfl
def own_eqv (a b c d e f : List Int32) : Int32 := if a = b ∧ c = d ∧ e = f then 1 else 0
set_option maxRecDepth 65536 in
set_option maxHeartbeats 40000000 in
theorem own_equals0 (l : Launch) (Z : State) (a0 : Array Value) (hw : ∀ d ∈ tables_1, d.before a0 Z = true) (a : Addr) (h0 : Heap) (n0 : Nat)  :
    Ctr l Z (⟨"com/example/gather/gather/service/ozs/OzsMessage", "equals", "(Ljava/lang/Object;)Z"⟩ : MethodName) prog_61_method_6_code 3 (some .boolean) [] own_rEq #[(.ref a), .null] h0 (fun v h L => v = some (.int 0) ∧ L = [] ∧ h = h0) := by
  refine Ctr.intro pn_1 #[.val (.ref a), .val .null, .unset] (fun m => by first | rfl | (simp [entryFrame, mkF, argsToLocals, Value.category]; done)) ?_
  intro p e s m below meth c T hx hby hml hown hnm hret hlk hZ X eT
  have hown : s.vm.findClass "com/example/gather/gather/service/ozs/OzsMessage" = some m.cls := hown
  have N := Fr.nil n0
  show Gl p e below s _ _ _ (T.setTop (mkF m 0 #[.val (.ref a), .val .null, .unset] []))
  refine Gl.by (fun t k => XS.aloadN X.here hx rfl (hb hby d10_0) rfl rfl k) ?_
  show Gl p e below s _ _ _ (T.setTop (mkF m 1 #[.val (.ref a), .val .null, .unset] [.null]))
  refine Gl.by (fun t k => X.instanceofNull hx (g := mkF m 1 #[.val (.ref a), .val .null, .unset] [.null]) rfl rfl (hb hby d10_1) _ k) ?_
  show Gl p e below s _ _ _ (T.setTop (mkF m 4 #[.val (.ref a), .val .null, .unset] [(.int (0 : Int32))]))
  refine Gl.by (fun t k => XS.ifNo X.here hx rfl (hb hby d10_4) rfl ((if0 _ _).trans (teq (rfl : (0 : Int32) = 0)).2) k) ?_
  show Gl p e below s _ _ _ (T.setTop (mkF m 7 #[.val (.ref a), .val .null, .unset] []))
  refine Gl.by (fun t k => XS.iconst X.here hx rfl (hb hby d10_7) k) ?_
  show Gl p e below s _ _ _ (T.setTop (mkF m 8 #[.val (.ref a), .val .null, .unset] [(.int (0 : Int32))]))
  exact Gl.retZ X hx hlk hret (by simp) (hb hby d10_8) (by decide) (by decide) ⟨rfl, rfl, eT⟩
set_option maxRecDepth 65536 in
set_option maxHeartbeats 40000000 in
theorem own_equalsS (l : Launch) (Z : State) (a0 : Array Value) (hw : ∀ d ∈ tables_1, d.before a0 Z = true) (a b : Addr) (h0 : Heap) (n0 : Nat) (B : Exa Z h0 b "java/lang/String") :
    Ctr l Z (⟨"com/example/gather/gather/service/ozs/OzsMessage", "equals", "(Ljava/lang/Object;)Z"⟩ : MethodName) prog_61_method_6_code 3 (some .boolean) [] own_rEq #[(.ref a), (.ref b)] h0 (fun v h L => v = some (.int 0) ∧ L = [] ∧ h = h0) := by
  refine Ctr.intro pn_1 #[.val (.ref a), .val (.ref b), .unset] (fun m => by first | rfl | (simp [entryFrame, mkF, argsToLocals, Value.category]; done)) ?_
  intro p e s m below meth c T hx hby hml hown hnm hret hlk hZ X eT
  have hown : s.vm.findClass "com/example/gather/gather/service/ozs/OzsMessage" = some m.cls := hown
  have N := Fr.nil n0
  show Gl p e below s _ _ _ (T.setTop (mkF m 0 #[.val (.ref a), .val (.ref b), .unset] []))
  refine Gl.by (fun t k => XS.aloadN X.here hx rfl (hb hby d10_0) rfl rfl k) ?_
  show Gl p e below s _ _ _ (T.setTop (mkF m 1 #[.val (.ref a), .val (.ref b), .unset] [(.ref b)]))
  obtain ⟨T, X, eT, st⟩ := instNo X hx hZ hown (hw _ (List.mem_of_getElem? (i := 56) rfl)) eT B (notAssign (hw _ (List.mem_of_getElem? (i := 69) rfl)) (hw _ (List.mem_of_getElem? (i := 68) rfl)) (hw _ (List.mem_of_getElem? (i := 2) rfl)) (by decide) (by decide)) (g := (mkF m 1 #[.val (.ref a), .val (.ref b), .unset] [(.ref b)])) rfl rfl (hb hby d10_1)
  refine Gl.by st ?_
  show Gl p e below s _ _ _ (T.setTop (mkF m 4 #[.val (.ref a), .val (.ref b), .unset] [(.int (0 : Int32))]))
  refine Gl.by (fun t k => XS.ifNo X.here hx rfl (hb hby d10_4) rfl ((if0 _ _).trans (teq (rfl : (0 : Int32) = 0)).2) k) ?_
  show Gl p e below s _ _ _ (T.setTop (mkF m 7 #[.val (.ref a), .val (.ref b), .unset] []))
  refine Gl.by (fun t k => XS.iconst X.here hx rfl (hb hby d10_7) k) ?_
  show Gl p e below s _ _ _ (T.setTop (mkF m 8 #[.val (.ref a), .val (.ref b), .unset] [(.int (0 : Int32))]))
  exact Gl.retZ X hx hlk hret (by simp) (hb hby d10_8) (by decide) (by decide) ⟨rfl, rfl, eT⟩
set_option maxRecDepth 65536 in
set_option maxHeartbeats 40000000 in
theorem own_equals (l : Launch) (Z : State) (a0 : Array Value) (hw : ∀ d ∈ tables_1, d.before a0 Z = true) (a b as0 as1 as2 bs0 bs1 bs2 : Addr) (ca0 ca1 ca2 cb0 cb1 cb2 : List Int32) (z : Int32) (h0 : Heap) (n0 : Nat) (A : Exa Z h0 a "com/example/gather/gather/service/ozs/OzsMessage") (B : Exa Z h0 b "com/example/gather/gather/service/ozs/OzsMessage") (Fa0 : Fld Z h0 a "com/example/gather/gather/service/ozs/OzsMessage" "code" "Ljava/lang/String;" (.ref as0)) (Sa0 : Str Z h0 as0 ca0) (Fa1 : Fld Z h0 a "com/example/gather/gather/service/ozs/OzsMessage" "level" "Ljava/lang/String;" (.ref as1)) (Sa1 : Str Z h0 as1 ca1) (Fa2 : Fld Z h0 a "com/example/gather/gather/service/ozs/OzsMessage" "text" "Ljava/lang/String;" (.ref as2)) (Sa2 : Str Z h0 as2 ca2) (Fb0 : Fld Z h0 b "com/example/gather/gather/service/ozs/OzsMessage" "code" "Ljava/lang/String;" (.ref bs0)) (Sb0 : Str Z h0 bs0 cb0) (Fb1 : Fld Z h0 b "com/example/gather/gather/service/ozs/OzsMessage" "level" "Ljava/lang/String;" (.ref bs1)) (Sb1 : Str Z h0 bs1 cb1) (Fb2 : Fld Z h0 b "com/example/gather/gather/service/ozs/OzsMessage" "text" "Ljava/lang/String;" (.ref bs2)) (Sb2 : Str Z h0 bs2 cb2) (Z0 : n0 ≤ h0.size) (S : Sta Z Z.heap "java/lang/String" "COMPACT_STRINGS" "Z" (.int z)) (hz : ¬ z = 0) (O : Old Z n0 h0) :
    Ctr l Z (⟨"com/example/gather/gather/service/ozs/OzsMessage", "equals", "(Ljava/lang/Object;)Z"⟩ : MethodName) prog_61_method_6_code 3 (some .boolean) [] own_rEq #[(.ref a), (.ref b)] h0 (fun v h L => v = some (.int (own_eqv ca0 cb0 ca1 cb1 ca2 cb2)) ∧ Fr n0 L ∧ h = h0) := by
  refine Ctr.intro pn_1 #[.val (.ref a), .val (.ref b), .unset] (fun m => by first | rfl | (simp [entryFrame, mkF, argsToLocals, Value.category]; done)) ?_
  intro p e s m below meth c T hx hby hml hown hnm hret hlk hZ X eT
  have hown : s.vm.findClass "com/example/gather/gather/service/ozs/OzsMessage" = some m.cls := hown
  have N := Fr.nil n0
  show Gl p e below s _ _ _ (T.setTop (mkF m 0 #[.val (.ref a), .val (.ref b), .unset] []))
  refine Gl.by (fun t k => XS.aloadN X.here hx rfl (hb hby d10_0) rfl rfl k) ?_
  show Gl p e below s _ _ _ (T.setTop (mkF m 1 #[.val (.ref a), .val (.ref b), .unset] [(.ref b)]))
  obtain ⟨T, X, eT, st⟩ := instY X hx hZ hown (hw _ (List.mem_of_getElem? (i := 56) rfl)) eT (Ins.self B) (g := (mkF m 1 #[.val (.ref a), .val (.ref b), .unset] [(.ref b)])) rfl rfl (hb hby d10_1)
  refine Gl.by st ?_
  show Gl p e below s _ _ _ (T.setTop (mkF m 4 #[.val (.ref a), .val (.ref b), .unset] [(.int (1 : Int32))]))
  refine Gl.by (fun t k => XS.ifYes X.here hx rfl (pc0 := 4) (pc' := 9) rfl (hb hby d10_4) rfl ((if0 _ _).trans (feq (by decide : ¬ (1 : Int32) = 0)).2) (by decide) (by decide) k) ?_
  show Gl p e below s _ _ _ (T.setTop (mkF m 9 #[.val (.ref a), .val (.ref b), .unset] []))
  refine Gl.by (fun t k => XS.aloadN X.here hx rfl (hb hby d10_9) rfl rfl k) ?_
  show Gl p e below s _ _ _ (T.setTop (mkF m 10 #[.val (.ref a), .val (.ref b), .unset] [(.ref b)]))
  obtain ⟨T, X, eT, st⟩ := castY X hx hZ hown (hw _ (List.mem_of_getElem? (i := 56) rfl)) eT (Ins.self B) (g := (mkF m 10 #[.val (.ref a), .val (.ref b), .unset] [(.ref b)])) rfl rfl (hb hby d10_10)
  refine Gl.by st ?_
  show Gl p e below s _ _ _ (T.setTop (mkF m 13 #[.val (.ref a), .val (.ref b), .unset] [(.ref b)]))
  refine Gl.by (fun t k => XS.astoreN X.here hx rfl (hb hby d10_13) rfl rfl (l' := #[.val (.ref a), .val (.ref b), .val (.ref b)]) rfl k) ?_
  show Gl p e below s _ _ _ (T.setTop (mkF m 14 #[.val (.ref a), .val (.ref b), .val (.ref b)] []))
  refine Gl.by (fun t k => XS.aloadN X.here hx rfl (hb hby d10_14) rfl rfl k) ?_
  show Gl p e below s _ _ _ (T.setTop (mkF m 15 #[.val (.ref a), .val (.ref b), .val (.ref b)] [(.ref a)]))
  obtain ⟨T, X, eT, st⟩ := getF X hx hZ hown (host := "") (Or.inl (hw _ (List.mem_of_getElem? (i := 42) rfl))) Via.refl eT Fa0 (g := (mkF m 15 #[.val (.ref a), .val (.ref b), .val (.ref b)] [(.ref a)])) rfl rfl (hb hby d10_15)
  refine Gl.by st ?_
  show Gl p e below s _ _ _ (T.setTop (mkF m 18 #[.val (.ref a), .val (.ref b), .val (.ref b)] [(.ref as0)]))
  refine Gl.by (fun t k => XS.aloadN X.here hx rfl (hb hby d10_18) rfl rfl k) ?_
  show Gl p e below s _ _ _ (T.setTop (mkF m 19 #[.val (.ref a), .val (.ref b), .val (.ref b)] [(.ref b), (.ref as0)]))
  obtain ⟨T, X, eT, st⟩ := getF X hx hZ hown (host := "") (Or.inl (hw _ (List.mem_of_getElem? (i := 42) rfl))) Via.refl eT Fb0 (g := (mkF m 19 #[.val (.ref a), .val (.ref b), .val (.ref b)] [(.ref b), (.ref as0)])) rfl rfl (hb hby d10_19)
  refine Gl.by st ?_
  show Gl p e below s _ _ _ (T.setTop (mkF m 22 #[.val (.ref a), .val (.ref b), .val (.ref b)] [(.ref bs0), (.ref as0)]))
  refine Gl.virt X hx hZ hown (hw _ (List.mem_of_getElem? (i := 58) rfl)) (hw _ (List.mem_of_getElem? (i := 59) rfl)) (hw _ (List.mem_of_getElem? (i := 61) rfl)) (hw _ (List.mem_of_getElem? (i := 60) rfl)) (notFace_of_selects (args := #[]) (mvT hZ (hw _ (List.mem_of_getElem? (i := 61) rfl)))) (by decide) Sa0.exa (W := 0) (payEq (n0 := n0) hZ (own_wordsEq hw) (hw _ (List.mem_of_getElem? (i := 9) rfl)) Sa0 Sb0 S hz O (by decide) (by decide)) eT (hb hby d10_22) (by rw [hml]; rfl) [(.ref bs0)] [] (lenOf pd_1 rfl) rfl rfl (Nat.le_of_eq rfl) (by decide) (by decide) ?_
  intro v T L X hq
  obtain ⟨hv, rfl, eT⟩ := hq
  have N := Fr.app N (Fr.nil n0)
  rcases hv with ⟨rfl, q0⟩ | ⟨rfl, q0⟩
  · show Gl p e below s _ _ _ (T.setTop (mkF m 25 #[.val (.ref a), .val (.ref b), .val (.ref b)] [(.int (1 : Int32))]))
    refine Gl.by (fun t k => XS.ifNo X.here hx rfl (hb hby d10_25) rfl ((if0 _ _).trans (feq (by decide : ¬ (1 : Int32) = 0)).1) k) ?_
    show Gl p e below s _ _ _ (T.setTop (mkF m 28 #[.val (.ref a), .val (.ref b), .val (.ref b)] []))
    refine Gl.by (fun t k => XS.aloadN X.here hx rfl (hb hby d10_28) rfl rfl k) ?_
    show Gl p e below s _ _ _ (T.setTop (mkF m 29 #[.val (.ref a), .val (.ref b), .val (.ref b)] [(.ref a)]))
    obtain ⟨T, X, eT, st⟩ := getF X hx hZ hown (host := "") (Or.inl (hw _ (List.mem_of_getElem? (i := 44) rfl))) Via.refl eT Fa1 (g := (mkF m 29 #[.val (.ref a), .val (.ref b), .val (.ref b)] [(.ref a)])) rfl rfl (hb hby d10_29)
    refine Gl.by st ?_
    show Gl p e below s _ _ _ (T.setTop (mkF m 32 #[.val (.ref a), .val (.ref b), .val (.ref b)] [(.ref as1)]))
    refine Gl.by (fun t k => XS.aloadN X.here hx rfl (hb hby d10_32) rfl rfl k) ?_
    show Gl p e below s _ _ _ (T.setTop (mkF m 33 #[.val (.ref a), .val (.ref b), .val (.ref b)] [(.ref b), (.ref as1)]))
    obtain ⟨T, X, eT, st⟩ := getF X hx hZ hown (host := "") (Or.inl (hw _ (List.mem_of_getElem? (i := 44) rfl))) Via.refl eT Fb1 (g := (mkF m 33 #[.val (.ref a), .val (.ref b), .val (.ref b)] [(.ref b), (.ref as1)])) rfl rfl (hb hby d10_33)
    refine Gl.by st ?_
    show Gl p e below s _ _ _ (T.setTop (mkF m 36 #[.val (.ref a), .val (.ref b), .val (.ref b)] [(.ref bs1), (.ref as1)]))
    refine Gl.virt X hx hZ hown (hw _ (List.mem_of_getElem? (i := 58) rfl)) (hw _ (List.mem_of_getElem? (i := 59) rfl)) (hw _ (List.mem_of_getElem? (i := 61) rfl)) (hw _ (List.mem_of_getElem? (i := 60) rfl)) (notFace_of_selects (args := #[]) (mvT hZ (hw _ (List.mem_of_getElem? (i := 61) rfl)))) (by decide) Sa1.exa (W := 0) (payEq (n0 := n0) hZ (own_wordsEq hw) (hw _ (List.mem_of_getElem? (i := 9) rfl)) Sa1 Sb1 S hz O (by decide) (by decide)) eT (hb hby d10_36) (by rw [hml]; rfl) [(.ref bs1)] [] (lenOf pd_1 rfl) rfl rfl (Nat.le_of_eq rfl) (by decide) (by decide) ?_
    intro v T L X hq
    obtain ⟨hv, rfl, eT⟩ := hq
    have N := Fr.app N (Fr.nil n0)
    rcases hv with ⟨rfl, q1⟩ | ⟨rfl, q1⟩
    · show Gl p e below s _ _ _ (T.setTop (mkF m 39 #[.val (.ref a), .val (.ref b), .val (.ref b)] [(.int (1 : Int32))]))
      refine Gl.by (fun t k => XS.ifNo X.here hx rfl (hb hby d10_39) rfl ((if0 _ _).trans (feq (by decide : ¬ (1 : Int32) = 0)).1) k) ?_
      show Gl p e below s _ _ _ (T.setTop (mkF m 42 #[.val (.ref a), .val (.ref b), .val (.ref b)] []))
      refine Gl.by (fun t k => XS.aloadN X.here hx rfl (hb hby d10_42) rfl rfl k) ?_
      show Gl p e below s _ _ _ (T.setTop (mkF m 43 #[.val (.ref a), .val (.ref b), .val (.ref b)] [(.ref a)]))
      obtain ⟨T, X, eT, st⟩ := getF X hx hZ hown (host := "") (Or.inl (hw _ (List.mem_of_getElem? (i := 46) rfl))) Via.refl eT Fa2 (g := (mkF m 43 #[.val (.ref a), .val (.ref b), .val (.ref b)] [(.ref a)])) rfl rfl (hb hby d10_43)
      refine Gl.by st ?_
      show Gl p e below s _ _ _ (T.setTop (mkF m 46 #[.val (.ref a), .val (.ref b), .val (.ref b)] [(.ref as2)]))
      refine Gl.by (fun t k => XS.aloadN X.here hx rfl (hb hby d10_46) rfl rfl k) ?_
      show Gl p e below s _ _ _ (T.setTop (mkF m 47 #[.val (.ref a), .val (.ref b), .val (.ref b)] [(.ref b), (.ref as2)]))
      obtain ⟨T, X, eT, st⟩ := getF X hx hZ hown (host := "") (Or.inl (hw _ (List.mem_of_getElem? (i := 46) rfl))) Via.refl eT Fb2 (g := (mkF m 47 #[.val (.ref a), .val (.ref b), .val (.ref b)] [(.ref b), (.ref as2)])) rfl rfl (hb hby d10_47)
      refine Gl.by st ?_
      show Gl p e below s _ _ _ (T.setTop (mkF m 50 #[.val (.ref a), .val (.ref b), .val (.ref b)] [(.ref bs2), (.ref as2)]))
      refine Gl.virt X hx hZ hown (hw _ (List.mem_of_getElem? (i := 58) rfl)) (hw _ (List.mem_of_getElem? (i := 59) rfl)) (hw _ (List.mem_of_getElem? (i := 61) rfl)) (hw _ (List.mem_of_getElem? (i := 60) rfl)) (notFace_of_selects (args := #[]) (mvT hZ (hw _ (List.mem_of_getElem? (i := 61) rfl)))) (by decide) Sa2.exa (W := 0) (payEq (n0 := n0) hZ (own_wordsEq hw) (hw _ (List.mem_of_getElem? (i := 9) rfl)) Sa2 Sb2 S hz O (by decide) (by decide)) eT (hb hby d10_50) (by rw [hml]; rfl) [(.ref bs2)] [] (lenOf pd_1 rfl) rfl rfl (Nat.le_of_eq rfl) (by decide) (by decide) ?_
      intro v T L X hq
      obtain ⟨hv, rfl, eT⟩ := hq
      have N := Fr.app N (Fr.nil n0)
      rcases hv with ⟨rfl, q2⟩ | ⟨rfl, q2⟩
      · show Gl p e below s _ _ _ (T.setTop (mkF m 53 #[.val (.ref a), .val (.ref b), .val (.ref b)] [(.int (1 : Int32))]))
        refine Gl.by (fun t k => XS.ifNo X.here hx rfl (hb hby d10_53) rfl ((if0 _ _).trans (feq (by decide : ¬ (1 : Int32) = 0)).1) k) ?_
        show Gl p e below s _ _ _ (T.setTop (mkF m 56 #[.val (.ref a), .val (.ref b), .val (.ref b)] []))
        refine Gl.by (fun t k => XS.iconst X.here hx rfl (hb hby d10_56) k) ?_
        show Gl p e below s _ _ _ (T.setTop (mkF m 57 #[.val (.ref a), .val (.ref b), .val (.ref b)] [(.int (1 : Int32))]))
        refine Gl.by (fun t k => XS.goto X.here hx rfl (pc0 := 57) (pc' := 61) rfl (hb hby d10_57) (by decide) (by decide) k) ?_
        show Gl p e below s _ _ _ (T.setTop (mkF m 61 #[.val (.ref a), .val (.ref b), .val (.ref b)] [(.int (1 : Int32))]))
        refine Gl.retZ X hx hlk hret (by simp) (hb hby d10_61) (by decide) (by decide) ⟨?_, N, eT⟩
        rw [own_eqv, if_pos ⟨q0, q1, q2⟩]; rfl
      · show Gl p e below s _ _ _ (T.setTop (mkF m 53 #[.val (.ref a), .val (.ref b), .val (.ref b)] [(.int (0 : Int32))]))
        refine Gl.by (fun t k => XS.ifYes X.here hx rfl (pc0 := 53) (pc' := 60) rfl (hb hby d10_53) rfl ((if0 _ _).trans (teq (rfl : (0 : Int32) = 0)).1) (by decide) (by decide) k) ?_
        show Gl p e below s _ _ _ (T.setTop (mkF m 60 #[.val (.ref a), .val (.ref b), .val (.ref b)] []))
        refine Gl.by (fun t k => XS.iconst X.here hx rfl (hb hby d10_60) k) ?_
        show Gl p e below s _ _ _ (T.setTop (mkF m 61 #[.val (.ref a), .val (.ref b), .val (.ref b)] [(.int (0 : Int32))]))
        refine Gl.retZ X hx hlk hret (by simp) (hb hby d10_61) (by decide) (by decide) ⟨?_, N, eT⟩
        rw [own_eqv, if_neg (fun q => q2 q.2.2)]; rfl
    · show Gl p e below s _ _ _ (T.setTop (mkF m 39 #[.val (.ref a), .val (.ref b), .val (.ref b)] [(.int (0 : Int32))]))
      refine Gl.by (fun t k => XS.ifYes X.here hx rfl (pc0 := 39) (pc' := 60) rfl (hb hby d10_39) rfl ((if0 _ _).trans (teq (rfl : (0 : Int32) = 0)).1) (by decide) (by decide) k) ?_
      show Gl p e below s _ _ _ (T.setTop (mkF m 60 #[.val (.ref a), .val (.ref b), .val (.ref b)] []))
      refine Gl.by (fun t k => XS.iconst X.here hx rfl (hb hby d10_60) k) ?_
      show Gl p e below s _ _ _ (T.setTop (mkF m 61 #[.val (.ref a), .val (.ref b), .val (.ref b)] [(.int (0 : Int32))]))
      refine Gl.retZ X hx hlk hret (by simp) (hb hby d10_61) (by decide) (by decide) ⟨?_, N, eT⟩
      rw [own_eqv, if_neg (fun q => q1 q.2.1)]; rfl
  · show Gl p e below s _ _ _ (T.setTop (mkF m 25 #[.val (.ref a), .val (.ref b), .val (.ref b)] [(.int (0 : Int32))]))
    refine Gl.by (fun t k => XS.ifYes X.here hx rfl (pc0 := 25) (pc' := 60) rfl (hb hby d10_25) rfl ((if0 _ _).trans (teq (rfl : (0 : Int32) = 0)).1) (by decide) (by decide) k) ?_
    show Gl p e below s _ _ _ (T.setTop (mkF m 60 #[.val (.ref a), .val (.ref b), .val (.ref b)] []))
    refine Gl.by (fun t k => XS.iconst X.here hx rfl (hb hby d10_60) k) ?_
    show Gl p e below s _ _ _ (T.setTop (mkF m 61 #[.val (.ref a), .val (.ref b), .val (.ref b)] [(.int (0 : Int32))]))
    refine Gl.retZ X hx hlk hret (by simp) (hb hby d10_61) (by decide) (by decide) ⟨?_, N, eT⟩
    rw [own_eqv, if_neg (fun q => q0 q.1)]; rfl
theorem own_eqvc {a b c d e f : List Int32} : own_eqv b a d c f e = own_eqv a b c d e f := by
  unfold own_eqv
  by_cases h : a = b ∧ c = d ∧ e = f
  · obtain ⟨rfl, rfl, rfl⟩ := h; rfl
  · rw [if_neg h, if_neg (fun q => h ⟨q.1.symm, q.2.1.symm, q.2.2.symm⟩)]
set_option maxRecDepth 65536 in
set_option maxHeartbeats 40000000 in
theorem own_law (l : Launch) (Z : State) (a0 : Array Value) (hw : ∀ d ∈ tables_1, d.before a0 Z = true) (ws : List Jvm.Cond) (p0 p1 p2 : Int64) (p3 : Int32) (h0 : Heap) (n0 : Nat) (z : Int32) (Z0 : n0 ≤ h0.size) (S : Sta Z Z.heap "java/lang/String" "COMPACT_STRINGS" "Z" (.int z)) (hz : ¬ z = 0) (O : Old Z n0 h0) :
    Ctr l Z x code maxLocals ret ws room_1 #[(.long p0), (.long p1), (.long p2), (.int p3)] h0 (fun v h L => v = some (.int 1) ∧ Fr n0 L) := by
  refine Ctr.intro pn_0 #[.val (.long p0), .second, .val (.long p1), .second, .val (.long p2), .second, .val (.int p3), .unset, .unset, .unset, .unset, .unset, .unset, .unset, .unset, .unset, .unset] (fun m => by first | rfl | (simp [entryFrame, mkF, argsToLocals, Value.category, maxLocals]; done)) ?_
  intro p e s m below meth c T hx hby hml hown hnm hret hlk hZ X eT
  have hown : s.vm.findClass "com/example/gather/gather/service/ozs/OzsMessageEqualsPinLaw" = some m.cls := hown
  have N := Fr.nil n0
  have j95 : ∀ c1 l1 t1 c2 l2 t2 : Int32, Gl p e below s room_1.cells room_1.slots (fun v h L => v = some (.int 1) ∧ Fr n0 L) (T.setTop (mkF m 95 #[.val (.long p0), .second, .val (.long p1), .second, .val (.long p2), .second, .val (.int p3), .val (.int c1), .val (.int l1), .val (.int t1), .val (.int c2), .val (.int l2), .val (.int t2), .unset, .unset, .unset, .unset] [])) := by
    intro c1 l1 t1 c2 l2 t2
    obtain ⟨T, h1, X, eT, E1, A1, D1, -, st⟩ := newO X hx hZ hown (hw _ (List.mem_of_getElem? (i := 1) rfl)) (hw _ (List.mem_of_getElem? (i := 2) rfl)) (hw _ (List.mem_of_getElem? (i := 3) rfl)) eT (g := (mkF m 95 #[.val (.long p0), .second, .val (.long p1), .second, .val (.long p2), .second, .val (.int p3), .val (.int c1), .val (.int l1), .val (.int t1), .val (.int c2), .val (.int l2), .val (.int t2), .unset, .unset, .unset, .unset] [])) rfl (hb hby at_95) (by decide) (by decide)
    obtain ⟨m1, g1⟩ : ∃ z, z = h0.size := ⟨_, rfl⟩
    rw [← g1] at A1 D1 st
    have sz1 := E1.1
    have lt1 : m1 < h1.size := A1.lt
    refine Gl.by st ?_
    have F1_code : Fld Z h1 m1 "com/example/gather/gather/service/ozs/OzsMessage" "code" "Ljava/lang/String;" .null := D1 (Or.inr (hw _ (List.mem_of_getElem? (i := 43) rfl))) (ty := (.object "java/lang/String")) (by decide)
    have F1_level : Fld Z h1 m1 "com/example/gather/gather/service/ozs/OzsMessage" "level" "Ljava/lang/String;" .null := D1 (Or.inr (hw _ (List.mem_of_getElem? (i := 45) rfl))) (ty := (.object "java/lang/String")) (by decide)
    have F1_text : Fld Z h1 m1 "com/example/gather/gather/service/ozs/OzsMessage" "text" "Ljava/lang/String;" .null := D1 (Or.inr (hw _ (List.mem_of_getElem? (i := 47) rfl))) (ty := (.object "java/lang/String")) (by decide)
    show Gl p e below s room_1.cells room_1.slots (fun v h L => v = some (.int 1) ∧ Fr n0 L) (T.setTop (mkF m 98 #[.val (.long p0), .second, .val (.long p1), .second, .val (.long p2), .second, .val (.int p3), .val (.int c1), .val (.int l1), .val (.int t1), .val (.int c2), .val (.int l2), .val (.int t2), .unset, .unset, .unset, .unset] [(.ref m1)]))
    refine Gl.by (fun t k => XS.dup X.here hx rfl (hb hby at_98) rfl rfl k) ?_
    show Gl p e below s room_1.cells room_1.slots (fun v h L => v = some (.int 1) ∧ Fr n0 L) (T.setTop (mkF m 99 #[.val (.long p0), .second, .val (.long p1), .second, .val (.long p2), .second, .val (.int p3), .val (.int c1), .val (.int l1), .val (.int t1), .val (.int c2), .val (.int l2), .val (.int t2), .unset, .unset, .unset, .unset] [(.ref m1), (.ref m1)]))
    refine Gl.by (fun t k => XS.iload X.here hx rfl (hb hby at_99) rfl k) ?_
    show Gl p e below s room_1.cells room_1.slots (fun v h L => v = some (.int 1) ∧ Fr n0 L) (T.setTop (mkF m 101 #[.val (.long p0), .second, .val (.long p1), .second, .val (.long p2), .second, .val (.int p3), .val (.int c1), .val (.int l1), .val (.int t1), .val (.int c2), .val (.int l2), .val (.int t2), .unset, .unset, .unset, .unset] [(.int c1), (.ref m1), (.ref m1)]))
    have O2 := (O.ext E1)
    refine Gl.stat X hx hZ hown (hw _ (List.mem_of_getElem? (i := 4) rfl)) (hw _ (List.mem_of_getElem? (i := 5) rfl)) (hw _ (List.mem_of_getElem? (i := 6) rfl)) (hw _ (List.mem_of_getElem? (i := 7) rfl)) (by decide) (W := 2) (backC (own_mk l Z a0 hw c1 z h1 n0 (by omega) S hz O2) hZ (hw _ (List.mem_of_getElem? (i := 7) rfl)) (hw _ (List.mem_of_getElem? (i := 6) rfl)) (by decide) (by decide)) eT (hb hby at_101) (by rw [hml]; rfl) [(.int c1)] [(.ref m1), (.ref m1)] (lenOf pd_2 rfl) rfl rfl (Nat.le_of_eq rfl) (by decide) (by decide) ?_
    intro v T L X hq
    obtain ⟨NQ, K2, x1, rfl, g2, Sx1⟩ := hq
    have N := Fr.app N NQ
    obtain ⟨h2, eT⟩ : ∃ z, T.heap = z := ⟨_, rfl⟩
    rw [eT] at K2 Sx1
    have sz2 := K2.1
    have lt2 := Sx1.lt
    show Gl p e below s room_1.cells room_1.slots (fun v h L => v = some (.int 1) ∧ Fr n0 L) (T.setTop (mkF m 104 #[.val (.long p0), .second, .val (.long p1), .second, .val (.long p2), .second, .val (.int p3), .val (.int c1), .val (.int l1), .val (.int t1), .val (.int c2), .val (.int l2), .val (.int t2), .unset, .unset, .unset, .unset] [(.ref x1), (.ref m1), (.ref m1)]))
    refine Gl.by (fun t k => XS.iload X.here hx rfl (hb hby at_104) rfl k) ?_
    show Gl p e below s room_1.cells room_1.slots (fun v h L => v = some (.int 1) ∧ Fr n0 L) (T.setTop (mkF m 106 #[.val (.long p0), .second, .val (.long p1), .second, .val (.long p2), .second, .val (.int p3), .val (.int c1), .val (.int l1), .val (.int t1), .val (.int c2), .val (.int l2), .val (.int t2), .unset, .unset, .unset, .unset] [(.int l1), (.ref x1), (.ref m1), (.ref m1)]))
    have O3 := (O2.keep K2 all0)
    refine Gl.stat X hx hZ hown (hw _ (List.mem_of_getElem? (i := 4) rfl)) (hw _ (List.mem_of_getElem? (i := 5) rfl)) (hw _ (List.mem_of_getElem? (i := 6) rfl)) (hw _ (List.mem_of_getElem? (i := 7) rfl)) (by decide) (W := 3) (backC (own_mk l Z a0 hw l1 z h2 n0 (by omega) S hz O3) hZ (hw _ (List.mem_of_getElem? (i := 7) rfl)) (hw _ (List.mem_of_getElem? (i := 6) rfl)) (by decide) (by decide)) eT (hb hby at_106) (by rw [hml]; rfl) [(.int l1)] [(.ref x1), (.ref m1), (.ref m1)] (lenOf pd_2 rfl) rfl rfl (Nat.le_of_eq rfl) (by decide) (by decide) ?_
    intro v T L X hq
    obtain ⟨NQ, K3, x2, rfl, g3, Sx2⟩ := hq
    have N := Fr.app N NQ
    obtain ⟨h3, eT⟩ : ∃ z, T.heap = z := ⟨_, rfl⟩
    rw [eT] at K3 Sx2
    have sz3 := K3.1
    have lt3 := Sx2.lt
    show Gl p e below s room_1.cells room_1.slots (fun v h L => v = some (.int 1) ∧ Fr n0 L) (T.setTop (mkF m 109 #[.val (.long p0), .second, .val (.long p1), .second, .val (.long p2), .second, .val (.int p3), .val (.int c1), .val (.int l1), .val (.int t1), .val (.int c2), .val (.int l2), .val (.int t2), .unset, .unset, .unset, .unset] [(.ref x2), (.ref x1), (.ref m1), (.ref m1)]))
    refine Gl.by (fun t k => XS.iload X.here hx rfl (hb hby at_109) rfl k) ?_
    show Gl p e below s room_1.cells room_1.slots (fun v h L => v = some (.int 1) ∧ Fr n0 L) (T.setTop (mkF m 111 #[.val (.long p0), .second, .val (.long p1), .second, .val (.long p2), .second, .val (.int p3), .val (.int c1), .val (.int l1), .val (.int t1), .val (.int c2), .val (.int l2), .val (.int t2), .unset, .unset, .unset, .unset] [(.int t1), (.ref x2), (.ref x1), (.ref m1), (.ref m1)]))
    have O4 := (O3.keep K3 all0)
    refine Gl.stat X hx hZ hown (hw _ (List.mem_of_getElem? (i := 4) rfl)) (hw _ (List.mem_of_getElem? (i := 5) rfl)) (hw _ (List.mem_of_getElem? (i := 6) rfl)) (hw _ (List.mem_of_getElem? (i := 7) rfl)) (by decide) (W := 4) (backC (own_mk l Z a0 hw t1 z h3 n0 (by omega) S hz O4) hZ (hw _ (List.mem_of_getElem? (i := 7) rfl)) (hw _ (List.mem_of_getElem? (i := 6) rfl)) (by decide) (by decide)) eT (hb hby at_111) (by rw [hml]; rfl) [(.int t1)] [(.ref x2), (.ref x1), (.ref m1), (.ref m1)] (lenOf pd_2 rfl) rfl rfl (Nat.le_of_eq rfl) (by decide) (by decide) ?_
    intro v T L X hq
    obtain ⟨NQ, K4, x3, rfl, g4, Sx3⟩ := hq
    have N := Fr.app N NQ
    obtain ⟨h4, eT⟩ : ∃ z, T.heap = z := ⟨_, rfl⟩
    rw [eT] at K4 Sx3
    have sz4 := K4.1
    have lt4 := Sx3.lt
    show Gl p e below s room_1.cells room_1.slots (fun v h L => v = some (.int 1) ∧ Fr n0 L) (T.setTop (mkF m 114 #[.val (.long p0), .second, .val (.long p1), .second, .val (.long p2), .second, .val (.int p3), .val (.int c1), .val (.int l1), .val (.int t1), .val (.int c2), .val (.int l2), .val (.int t2), .unset, .unset, .unset, .unset] [(.ref x3), (.ref x2), (.ref x1), (.ref m1), (.ref m1)]))
    refine Gl.spec X hx hZ rfl hown (hw _ (List.mem_of_getElem? (i := 38) rfl)) (hw _ (List.mem_of_getElem? (i := 39) rfl)) (hw _ (List.mem_of_getElem? (i := 40) rfl)) (by decide) (W := 1) (backC (own_init l Z a0 hw m1 x1 x2 x3 h4 n0 (by omega) (((A1.keep K2).keep K3).keep K4) (((F1_code.keep K2 nin0).keep K3 nin0).keep K4 nin0) (((F1_level.keep K2 nin0).keep K3 nin0).keep K4 nin0) (((F1_text.keep K2 nin0).keep K3 nin0).keep K4 nin0)) hZ (hw _ (List.mem_of_getElem? (i := 40) rfl)) (hw _ (List.mem_of_getElem? (i := 3) rfl)) (by decide) (by decide)) eT (hb hby at_114) (by rw [hml]; rfl) m1 [(.ref x1), (.ref x2), (.ref x3)] [(.ref m1)] (lenOf pd_3 rfl) rfl rfl (Nat.le_of_eq rfl) (by decide) (by decide) ?_
    intro v T L X hq
    obtain ⟨rfl, NQ, K5, E5, F5_code, F5_level, F5_text⟩ := hq
    have N := Fr.app N NQ
    obtain ⟨h5, eT⟩ : ∃ z, T.heap = z := ⟨_, rfl⟩
    rw [eT] at K5 E5 F5_code F5_level F5_text
    have sz5 := K5.1
    show Gl p e below s room_1.cells room_1.slots (fun v h L => v = some (.int 1) ∧ Fr n0 L) (T.setTop (mkF m 117 #[.val (.long p0), .second, .val (.long p1), .second, .val (.long p2), .second, .val (.int p3), .val (.int c1), .val (.int l1), .val (.int t1), .val (.int c2), .val (.int l2), .val (.int t2), .unset, .unset, .unset, .unset] [(.ref m1)]))
    refine Gl.by (fun t k => XS.astore X.here hx rfl (hb hby at_117) rfl rfl (l' := #[.val (.long p0), .second, .val (.long p1), .second, .val (.long p2), .second, .val (.int p3), .val (.int c1), .val (.int l1), .val (.int t1), .val (.int c2), .val (.int l2), .val (.int t2), .val (.ref m1), .unset, .unset, .unset]) rfl k) ?_
    show Gl p e below s room_1.cells room_1.slots (fun v h L => v = some (.int 1) ∧ Fr n0 L) (T.setTop (mkF m 119 #[.val (.long p0), .second, .val (.long p1), .second, .val (.long p2), .second, .val (.int p3), .val (.int c1), .val (.int l1), .val (.int t1), .val (.int c2), .val (.int l2), .val (.int t2), .val (.ref m1), .unset, .unset, .unset] []))
    obtain ⟨T, h6, X, eT, E6, A6, D6, -, st⟩ := newO X hx hZ hown (hw _ (List.mem_of_getElem? (i := 1) rfl)) (hw _ (List.mem_of_getElem? (i := 2) rfl)) (hw _ (List.mem_of_getElem? (i := 3) rfl)) eT (g := (mkF m 119 #[.val (.long p0), .second, .val (.long p1), .second, .val (.long p2), .second, .val (.int p3), .val (.int c1), .val (.int l1), .val (.int t1), .val (.int c2), .val (.int l2), .val (.int t2), .val (.ref m1), .unset, .unset, .unset] [])) rfl (hb hby at_119) (by decide) (by decide)
    obtain ⟨m2, g6⟩ : ∃ z, z = h5.size := ⟨_, rfl⟩
    rw [← g6] at A6 D6 st
    have sz6 := E6.1
    have lt6 : m2 < h6.size := A6.lt
    refine Gl.by st ?_
    have F6_code : Fld Z h6 m2 "com/example/gather/gather/service/ozs/OzsMessage" "code" "Ljava/lang/String;" .null := D6 (Or.inr (hw _ (List.mem_of_getElem? (i := 43) rfl))) (ty := (.object "java/lang/String")) (by decide)
    have F6_level : Fld Z h6 m2 "com/example/gather/gather/service/ozs/OzsMessage" "level" "Ljava/lang/String;" .null := D6 (Or.inr (hw _ (List.mem_of_getElem? (i := 45) rfl))) (ty := (.object "java/lang/String")) (by decide)
    have F6_text : Fld Z h6 m2 "com/example/gather/gather/service/ozs/OzsMessage" "text" "Ljava/lang/String;" .null := D6 (Or.inr (hw _ (List.mem_of_getElem? (i := 47) rfl))) (ty := (.object "java/lang/String")) (by decide)
    show Gl p e below s room_1.cells room_1.slots (fun v h L => v = some (.int 1) ∧ Fr n0 L) (T.setTop (mkF m 122 #[.val (.long p0), .second, .val (.long p1), .second, .val (.long p2), .second, .val (.int p3), .val (.int c1), .val (.int l1), .val (.int t1), .val (.int c2), .val (.int l2), .val (.int t2), .val (.ref m1), .unset, .unset, .unset] [(.ref m2)]))
    refine Gl.by (fun t k => XS.dup X.here hx rfl (hb hby at_122) rfl rfl k) ?_
    show Gl p e below s room_1.cells room_1.slots (fun v h L => v = some (.int 1) ∧ Fr n0 L) (T.setTop (mkF m 123 #[.val (.long p0), .second, .val (.long p1), .second, .val (.long p2), .second, .val (.int p3), .val (.int c1), .val (.int l1), .val (.int t1), .val (.int c2), .val (.int l2), .val (.int t2), .val (.ref m1), .unset, .unset, .unset] [(.ref m2), (.ref m2)]))
    refine Gl.by (fun t k => XS.iload X.here hx rfl (hb hby at_123) rfl k) ?_
    show Gl p e below s room_1.cells room_1.slots (fun v h L => v = some (.int 1) ∧ Fr n0 L) (T.setTop (mkF m 125 #[.val (.long p0), .second, .val (.long p1), .second, .val (.long p2), .second, .val (.int p3), .val (.int c1), .val (.int l1), .val (.int t1), .val (.int c2), .val (.int l2), .val (.int t2), .val (.ref m1), .unset, .unset, .unset] [(.int c2), (.ref m2), (.ref m2)]))
    have O7 := (((O4.keep K4 all0).keep K5 (allS (by omega) all0)).ext E6)
    refine Gl.stat X hx hZ hown (hw _ (List.mem_of_getElem? (i := 4) rfl)) (hw _ (List.mem_of_getElem? (i := 5) rfl)) (hw _ (List.mem_of_getElem? (i := 6) rfl)) (hw _ (List.mem_of_getElem? (i := 7) rfl)) (by decide) (W := 2) (backC (own_mk l Z a0 hw c2 z h6 n0 (by omega) S hz O7) hZ (hw _ (List.mem_of_getElem? (i := 7) rfl)) (hw _ (List.mem_of_getElem? (i := 6) rfl)) (by decide) (by decide)) eT (hb hby at_125) (by rw [hml]; rfl) [(.int c2)] [(.ref m2), (.ref m2)] (lenOf pd_2 rfl) rfl rfl (Nat.le_of_eq rfl) (by decide) (by decide) ?_
    intro v T L X hq
    obtain ⟨NQ, K7, y1, rfl, g7, Sy1⟩ := hq
    have N := Fr.app N NQ
    obtain ⟨h7, eT⟩ : ∃ z, T.heap = z := ⟨_, rfl⟩
    rw [eT] at K7 Sy1
    have sz7 := K7.1
    have lt7 := Sy1.lt
    show Gl p e below s room_1.cells room_1.slots (fun v h L => v = some (.int 1) ∧ Fr n0 L) (T.setTop (mkF m 128 #[.val (.long p0), .second, .val (.long p1), .second, .val (.long p2), .second, .val (.int p3), .val (.int c1), .val (.int l1), .val (.int t1), .val (.int c2), .val (.int l2), .val (.int t2), .val (.ref m1), .unset, .unset, .unset] [(.ref y1), (.ref m2), (.ref m2)]))
    refine Gl.by (fun t k => XS.iload X.here hx rfl (hb hby at_128) rfl k) ?_
    show Gl p e below s room_1.cells room_1.slots (fun v h L => v = some (.int 1) ∧ Fr n0 L) (T.setTop (mkF m 130 #[.val (.long p0), .second, .val (.long p1), .second, .val (.long p2), .second, .val (.int p3), .val (.int c1), .val (.int l1), .val (.int t1), .val (.int c2), .val (.int l2), .val (.int t2), .val (.ref m1), .unset, .unset, .unset] [(.int l2), (.ref y1), (.ref m2), (.ref m2)]))
    have O8 := (O7.keep K7 all0)
    refine Gl.stat X hx hZ hown (hw _ (List.mem_of_getElem? (i := 4) rfl)) (hw _ (List.mem_of_getElem? (i := 5) rfl)) (hw _ (List.mem_of_getElem? (i := 6) rfl)) (hw _ (List.mem_of_getElem? (i := 7) rfl)) (by decide) (W := 3) (backC (own_mk l Z a0 hw l2 z h7 n0 (by omega) S hz O8) hZ (hw _ (List.mem_of_getElem? (i := 7) rfl)) (hw _ (List.mem_of_getElem? (i := 6) rfl)) (by decide) (by decide)) eT (hb hby at_130) (by rw [hml]; rfl) [(.int l2)] [(.ref y1), (.ref m2), (.ref m2)] (lenOf pd_2 rfl) rfl rfl (Nat.le_of_eq rfl) (by decide) (by decide) ?_
    intro v T L X hq
    obtain ⟨NQ, K8, y2, rfl, g8, Sy2⟩ := hq
    have N := Fr.app N NQ
    obtain ⟨h8, eT⟩ : ∃ z, T.heap = z := ⟨_, rfl⟩
    rw [eT] at K8 Sy2
    have sz8 := K8.1
    have lt8 := Sy2.lt
    show Gl p e below s room_1.cells room_1.slots (fun v h L => v = some (.int 1) ∧ Fr n0 L) (T.setTop (mkF m 133 #[.val (.long p0), .second, .val (.long p1), .second, .val (.long p2), .second, .val (.int p3), .val (.int c1), .val (.int l1), .val (.int t1), .val (.int c2), .val (.int l2), .val (.int t2), .val (.ref m1), .unset, .unset, .unset] [(.ref y2), (.ref y1), (.ref m2), (.ref m2)]))
    refine Gl.by (fun t k => XS.iload X.here hx rfl (hb hby at_133) rfl k) ?_
    show Gl p e below s room_1.cells room_1.slots (fun v h L => v = some (.int 1) ∧ Fr n0 L) (T.setTop (mkF m 135 #[.val (.long p0), .second, .val (.long p1), .second, .val (.long p2), .second, .val (.int p3), .val (.int c1), .val (.int l1), .val (.int t1), .val (.int c2), .val (.int l2), .val (.int t2), .val (.ref m1), .unset, .unset, .unset] [(.int t2), (.ref y2), (.ref y1), (.ref m2), (.ref m2)]))
    have O9 := (O8.keep K8 all0)
    refine Gl.stat X hx hZ hown (hw _ (List.mem_of_getElem? (i := 4) rfl)) (hw _ (List.mem_of_getElem? (i := 5) rfl)) (hw _ (List.mem_of_getElem? (i := 6) rfl)) (hw _ (List.mem_of_getElem? (i := 7) rfl)) (by decide) (W := 4) (backC (own_mk l Z a0 hw t2 z h8 n0 (by omega) S hz O9) hZ (hw _ (List.mem_of_getElem? (i := 7) rfl)) (hw _ (List.mem_of_getElem? (i := 6) rfl)) (by decide) (by decide)) eT (hb hby at_135) (by rw [hml]; rfl) [(.int t2)] [(.ref y2), (.ref y1), (.ref m2), (.ref m2)] (lenOf pd_2 rfl) rfl rfl (Nat.le_of_eq rfl) (by decide) (by decide) ?_
    intro v T L X hq
    obtain ⟨NQ, K9, y3, rfl, g9, Sy3⟩ := hq
    have N := Fr.app N NQ
    obtain ⟨h9, eT⟩ : ∃ z, T.heap = z := ⟨_, rfl⟩
    rw [eT] at K9 Sy3
    have sz9 := K9.1
    have lt9 := Sy3.lt
    show Gl p e below s room_1.cells room_1.slots (fun v h L => v = some (.int 1) ∧ Fr n0 L) (T.setTop (mkF m 138 #[.val (.long p0), .second, .val (.long p1), .second, .val (.long p2), .second, .val (.int p3), .val (.int c1), .val (.int l1), .val (.int t1), .val (.int c2), .val (.int l2), .val (.int t2), .val (.ref m1), .unset, .unset, .unset] [(.ref y3), (.ref y2), (.ref y1), (.ref m2), (.ref m2)]))
    refine Gl.spec X hx hZ rfl hown (hw _ (List.mem_of_getElem? (i := 38) rfl)) (hw _ (List.mem_of_getElem? (i := 39) rfl)) (hw _ (List.mem_of_getElem? (i := 40) rfl)) (by decide) (W := 1) (backC (own_init l Z a0 hw m2 y1 y2 y3 h9 n0 (by omega) (((A6.keep K7).keep K8).keep K9) (((F6_code.keep K7 nin0).keep K8 nin0).keep K9 nin0) (((F6_level.keep K7 nin0).keep K8 nin0).keep K9 nin0) (((F6_text.keep K7 nin0).keep K8 nin0).keep K9 nin0)) hZ (hw _ (List.mem_of_getElem? (i := 40) rfl)) (hw _ (List.mem_of_getElem? (i := 3) rfl)) (by decide) (by decide)) eT (hb hby at_138) (by rw [hml]; rfl) m2 [(.ref y1), (.ref y2), (.ref y3)] [(.ref m2)] (lenOf pd_3 rfl) rfl rfl (Nat.le_of_eq rfl) (by decide) (by decide) ?_
    intro v T L X hq
    obtain ⟨rfl, NQ, K10, E10, F10_code, F10_level, F10_text⟩ := hq
    have N := Fr.app N NQ
    obtain ⟨h10, eT⟩ : ∃ z, T.heap = z := ⟨_, rfl⟩
    rw [eT] at K10 E10 F10_code F10_level F10_text
    have sz10 := K10.1
    show Gl p e below s room_1.cells room_1.slots (fun v h L => v = some (.int 1) ∧ Fr n0 L) (T.setTop (mkF m 141 #[.val (.long p0), .second, .val (.long p1), .second, .val (.long p2), .second, .val (.int p3), .val (.int c1), .val (.int l1), .val (.int t1), .val (.int c2), .val (.int l2), .val (.int t2), .val (.ref m1), .unset, .unset, .unset] [(.ref m2)]))
    refine Gl.by (fun t k => XS.astore X.here hx rfl (hb hby at_141) rfl rfl (l' := #[.val (.long p0), .second, .val (.long p1), .second, .val (.long p2), .second, .val (.int p3), .val (.int c1), .val (.int l1), .val (.int t1), .val (.int c2), .val (.int l2), .val (.int t2), .val (.ref m1), .val (.ref m2), .unset, .unset]) rfl k) ?_
    show Gl p e below s room_1.cells room_1.slots (fun v h L => v = some (.int 1) ∧ Fr n0 L) (T.setTop (mkF m 143 #[.val (.long p0), .second, .val (.long p1), .second, .val (.long p2), .second, .val (.int p3), .val (.int c1), .val (.int l1), .val (.int t1), .val (.int c2), .val (.int l2), .val (.int t2), .val (.ref m1), .val (.ref m2), .unset, .unset] []))
    refine Gl.by (fun t k => XS.iload X.here hx rfl (hb hby at_143) rfl k) ?_
    show Gl p e below s room_1.cells room_1.slots (fun v h L => v = some (.int 1) ∧ Fr n0 L) (T.setTop (mkF m 145 #[.val (.long p0), .second, .val (.long p1), .second, .val (.long p2), .second, .val (.int p3), .val (.int c1), .val (.int l1), .val (.int t1), .val (.int c2), .val (.int l2), .val (.int t2), .val (.ref m1), .val (.ref m2), .unset, .unset] [(.int p3)]))
    refine Gl.by (fun t k => XS.iconst X.here hx rfl (hb hby at_145) k) ?_
    show Gl p e below s room_1.cells room_1.slots (fun v h L => v = some (.int 1) ∧ Fr n0 L) (T.setTop (mkF m 146 #[.val (.long p0), .second, .val (.long p1), .second, .val (.long p2), .second, .val (.int p3), .val (.int c1), .val (.int l1), .val (.int t1), .val (.int c2), .val (.int l2), .val (.int t2), .val (.ref m1), .val (.ref m2), .unset, .unset] [(.int (3 : Int32)), (.int p3)]))
    refine Gl.by (fun t k => XS.iushr X.here hx rfl (hb hby at_146) rfl k) ?_
    show Gl p e below s room_1.cells room_1.slots (fun v h L => v = some (.int 1) ∧ Fr n0 L) (T.setTop (mkF m 147 #[.val (.long p0), .second, .val (.long p1), .second, .val (.long p2), .second, .val (.int p3), .val (.int c1), .val (.int l1), .val (.int t1), .val (.int c2), .val (.int l2), .val (.int t2), .val (.ref m1), .val (.ref m2), .unset, .unset] [(.int ((p3.toUInt32 >>> ((3 : Int32) &&& 31).toUInt32).toInt32))]))
    refine Gl.by (fun t k => XS.iconst X.here hx rfl (hb hby at_147) k) ?_
    show Gl p e below s room_1.cells room_1.slots (fun v h L => v = some (.int 1) ∧ Fr n0 L) (T.setTop (mkF m 148 #[.val (.long p0), .second, .val (.long p1), .second, .val (.long p2), .second, .val (.int p3), .val (.int c1), .val (.int l1), .val (.int t1), .val (.int c2), .val (.int l2), .val (.int t2), .val (.ref m1), .val (.ref m2), .unset, .unset] [(.int (3 : Int32)), (.int ((p3.toUInt32 >>> ((3 : Int32) &&& 31).toUInt32).toInt32))]))
    refine Gl.by (fun t k => XS.iand X.here hx rfl (hb hby at_148) rfl k) ?_
    show Gl p e below s room_1.cells room_1.slots (fun v h L => v = some (.int 1) ∧ Fr n0 L) (T.setTop (mkF m 149 #[.val (.long p0), .second, .val (.long p1), .second, .val (.long p2), .second, .val (.int p3), .val (.int c1), .val (.int l1), .val (.int t1), .val (.int c2), .val (.int l2), .val (.int t2), .val (.ref m1), .val (.ref m2), .unset, .unset] [(.int (((p3.toUInt32 >>> ((3 : Int32) &&& 31).toUInt32).toInt32) &&& (3 : Int32)))]))
    refine Gl.by (fun t k => XS.istore X.here hx rfl (hb hby at_149) rfl (l' := #[.val (.long p0), .second, .val (.long p1), .second, .val (.long p2), .second, .val (.int p3), .val (.int c1), .val (.int l1), .val (.int t1), .val (.int c2), .val (.int l2), .val (.int t2), .val (.ref m1), .val (.ref m2), .val (.int (((p3.toUInt32 >>> ((3 : Int32) &&& 31).toUInt32).toInt32) &&& (3 : Int32))), .unset]) rfl k) ?_
    show Gl p e below s room_1.cells room_1.slots (fun v h L => v = some (.int 1) ∧ Fr n0 L) (T.setTop (mkF m 151 #[.val (.long p0), .second, .val (.long p1), .second, .val (.long p2), .second, .val (.int p3), .val (.int c1), .val (.int l1), .val (.int t1), .val (.int c2), .val (.int l2), .val (.int t2), .val (.ref m1), .val (.ref m2), .val (.int (((p3.toUInt32 >>> ((3 : Int32) &&& 31).toUInt32).toInt32) &&& (3 : Int32))), .unset] []))
    generalize (((p3.toUInt32 >>> ((3 : Int32) &&& 31).toUInt32).toInt32) &&& (3 : Int32)) = kd
    show Gl p e below s room_1.cells room_1.slots (fun v h L => v = some (.int 1) ∧ Fr n0 L) (T.setTop (mkF m 151 #[.val (.long p0), .second, .val (.long p1), .second, .val (.long p2), .second, .val (.int p3), .val (.int c1), .val (.int l1), .val (.int t1), .val (.int c2), .val (.int l2), .val (.int t2), .val (.ref m1), .val (.ref m2), .val (.int kd), .unset] []))
    refine Gl.by (fun t k => XS.iload X.here hx rfl (hb hby at_151) rfl k) ?_
    show Gl p e below s room_1.cells room_1.slots (fun v h L => v = some (.int 1) ∧ Fr n0 L) (T.setTop (mkF m 153 #[.val (.long p0), .second, .val (.long p1), .second, .val (.long p2), .second, .val (.int p3), .val (.int c1), .val (.int l1), .val (.int t1), .val (.int c2), .val (.int l2), .val (.int t2), .val (.ref m1), .val (.ref m2), .val (.int kd), .unset] [(.int kd)]))
    refine Gl.by (fun t k => XS.iconst X.here hx rfl (hb hby at_153) k) ?_
    show Gl p e below s room_1.cells room_1.slots (fun v h L => v = some (.int 1) ∧ Fr n0 L) (T.setTop (mkF m 154 #[.val (.long p0), .second, .val (.long p1), .second, .val (.long p2), .second, .val (.int p3), .val (.int c1), .val (.int l1), .val (.int t1), .val (.int c2), .val (.int l2), .val (.int t2), .val (.ref m1), .val (.ref m2), .val (.int kd), .unset] [(.int (1 : Int32)), (.int kd)]))
    by_cases k1 : kd = (1 : Int32)
    · refine Gl.by (fun t k => XS.icmpNo X.here hx rfl (hb hby at_154) rfl (teq k1).2 k) ?_
      show Gl p e below s room_1.cells room_1.slots (fun v h L => v = some (.int 1) ∧ Fr n0 L) (T.setTop (mkF m 157 #[.val (.long p0), .second, .val (.long p1), .second, .val (.long p2), .second, .val (.int p3), .val (.int c1), .val (.int l1), .val (.int t1), .val (.int c2), .val (.int l2), .val (.int t2), .val (.ref m1), .val (.ref m2), .val (.int kd), .unset] []))
      refine Gl.by (fun t k => XS.aload X.here hx rfl (hb hby at_157) rfl rfl k) ?_
      show Gl p e below s room_1.cells room_1.slots (fun v h L => v = some (.int 1) ∧ Fr n0 L) (T.setTop (mkF m 159 #[.val (.long p0), .second, .val (.long p1), .second, .val (.long p2), .second, .val (.int p3), .val (.int c1), .val (.int l1), .val (.int t1), .val (.int c2), .val (.int l2), .val (.int t2), .val (.ref m1), .val (.ref m2), .val (.int kd), .unset] [(.ref m1)]))
      refine Gl.by (fun t k => XS.aconstNull X.here hx rfl (hb hby at_159) k) ?_
      show Gl p e below s room_1.cells room_1.slots (fun v h L => v = some (.int 1) ∧ Fr n0 L) (T.setTop (mkF m 160 #[.val (.long p0), .second, .val (.long p1), .second, .val (.long p2), .second, .val (.int p3), .val (.int c1), .val (.int l1), .val (.int t1), .val (.int c2), .val (.int l2), .val (.int t2), .val (.ref m1), .val (.ref m2), .val (.int kd), .unset] [.null, (.ref m1)]))
      refine Gl.virt X hx hZ hown (hw _ (List.mem_of_getElem? (i := 51) rfl)) (hw _ (List.mem_of_getElem? (i := 52) rfl)) (hw _ (List.mem_of_getElem? (i := 54) rfl)) (hw _ (List.mem_of_getElem? (i := 53) rfl)) (notFace_of_selects (args := #[]) (mvT hZ (hw _ (List.mem_of_getElem? (i := 54) rfl)))) (by decide) (((((((((A1.keep K2).keep K3).keep K4).keep K5).ext E6).keep K7).keep K8).keep K9).keep K10) (W := 0) (backC (own_equals0 l Z a0 hw m1 h10 n0) hZ (hw _ (List.mem_of_getElem? (i := 55) rfl)) (hw _ (List.mem_of_getElem? (i := 3) rfl)) (by decide) (by decide)) eT (hb hby at_160) (by rw [hml]; rfl) [.null] [] (lenOf pd_1 rfl) rfl rfl (Nat.le_of_eq rfl) (by decide) (by decide) ?_
      intro v T L X hq
      obtain ⟨rfl, rfl, eT⟩ := hq
      have N := Fr.app N (Fr.nil n0)
      show Gl p e below s room_1.cells room_1.slots (fun v h L => v = some (.int 1) ∧ Fr n0 L) (T.setTop (mkF m 163 #[.val (.long p0), .second, .val (.long p1), .second, .val (.long p2), .second, .val (.int p3), .val (.int c1), .val (.int l1), .val (.int t1), .val (.int c2), .val (.int l2), .val (.int t2), .val (.ref m1), .val (.ref m2), .val (.int kd), .unset] [(.int (0 : Int32))]))
      refine Gl.by (fun t k => XS.ifNo X.here hx rfl (hb hby at_163) rfl ((if0 _ _).trans (teq (rfl : (0 : Int32) = 0)).2) k) ?_
      show Gl p e below s room_1.cells room_1.slots (fun v h L => v = some (.int 1) ∧ Fr n0 L) (T.setTop (mkF m 166 #[.val (.long p0), .second, .val (.long p1), .second, .val (.long p2), .second, .val (.int p3), .val (.int c1), .val (.int l1), .val (.int t1), .val (.int c2), .val (.int l2), .val (.int t2), .val (.ref m1), .val (.ref m2), .val (.int kd), .unset] []))
      refine Gl.by (fun t k => XS.iconst X.here hx rfl (hb hby at_166) k) ?_
      show Gl p e below s room_1.cells room_1.slots (fun v h L => v = some (.int 1) ∧ Fr n0 L) (T.setTop (mkF m 167 #[.val (.long p0), .second, .val (.long p1), .second, .val (.long p2), .second, .val (.int p3), .val (.int c1), .val (.int l1), .val (.int t1), .val (.int c2), .val (.int l2), .val (.int t2), .val (.ref m1), .val (.ref m2), .val (.int kd), .unset] [(.int (1 : Int32))]))
      refine Gl.by (fun t k => XS.goto X.here hx rfl (pc0 := 167) (pc' := 171) rfl (hb hby at_167) (by decide) (by decide) k) ?_
      show Gl p e below s room_1.cells room_1.slots (fun v h L => v = some (.int 1) ∧ Fr n0 L) (T.setTop (mkF m 171 #[.val (.long p0), .second, .val (.long p1), .second, .val (.long p2), .second, .val (.int p3), .val (.int c1), .val (.int l1), .val (.int t1), .val (.int c2), .val (.int l2), .val (.int t2), .val (.ref m1), .val (.ref m2), .val (.int kd), .unset] [(.int (1 : Int32))]))
      exact Gl.retZ X hx hlk hret (by simp) (hb hby at_171) (by decide) (by decide) ⟨rfl, N⟩
    · refine Gl.by (fun t k => XS.icmpYes X.here hx rfl (pc0 := 154) (pc' := 172) rfl (hb hby at_154) rfl (feq k1).2 (by decide) (by decide) k) ?_
      show Gl p e below s room_1.cells room_1.slots (fun v h L => v = some (.int 1) ∧ Fr n0 L) (T.setTop (mkF m 172 #[.val (.long p0), .second, .val (.long p1), .second, .val (.long p2), .second, .val (.int p3), .val (.int c1), .val (.int l1), .val (.int t1), .val (.int c2), .val (.int l2), .val (.int t2), .val (.ref m1), .val (.ref m2), .val (.int kd), .unset] []))
      refine Gl.by (fun t k => XS.iload X.here hx rfl (hb hby at_172) rfl k) ?_
      show Gl p e below s room_1.cells room_1.slots (fun v h L => v = some (.int 1) ∧ Fr n0 L) (T.setTop (mkF m 174 #[.val (.long p0), .second, .val (.long p1), .second, .val (.long p2), .second, .val (.int p3), .val (.int c1), .val (.int l1), .val (.int t1), .val (.int c2), .val (.int l2), .val (.int t2), .val (.ref m1), .val (.ref m2), .val (.int kd), .unset] [(.int kd)]))
      refine Gl.by (fun t k => XS.iconst X.here hx rfl (hb hby at_174) k) ?_
      show Gl p e below s room_1.cells room_1.slots (fun v h L => v = some (.int 1) ∧ Fr n0 L) (T.setTop (mkF m 175 #[.val (.long p0), .second, .val (.long p1), .second, .val (.long p2), .second, .val (.int p3), .val (.int c1), .val (.int l1), .val (.int t1), .val (.int c2), .val (.int l2), .val (.int t2), .val (.ref m1), .val (.ref m2), .val (.int kd), .unset] [(.int (2 : Int32)), (.int kd)]))
      by_cases k2 : kd = (2 : Int32)
      · refine Gl.by (fun t k => XS.icmpNo X.here hx rfl (hb hby at_175) rfl (teq k2).2 k) ?_
        show Gl p e below s room_1.cells room_1.slots (fun v h L => v = some (.int 1) ∧ Fr n0 L) (T.setTop (mkF m 178 #[.val (.long p0), .second, .val (.long p1), .second, .val (.long p2), .second, .val (.int p3), .val (.int c1), .val (.int l1), .val (.int t1), .val (.int c2), .val (.int l2), .val (.int t2), .val (.ref m1), .val (.ref m2), .val (.int kd), .unset] []))
        refine Gl.by (fun t k => XS.aload X.here hx rfl (hb hby at_178) rfl rfl k) ?_
        show Gl p e below s room_1.cells room_1.slots (fun v h L => v = some (.int 1) ∧ Fr n0 L) (T.setTop (mkF m 180 #[.val (.long p0), .second, .val (.long p1), .second, .val (.long p2), .second, .val (.int p3), .val (.int c1), .val (.int l1), .val (.int t1), .val (.int c2), .val (.int l2), .val (.int t2), .val (.ref m1), .val (.ref m2), .val (.int kd), .unset] [(.ref m1)]))
        refine Gl.by (fun t k => XS.iload X.here hx rfl (hb hby at_180) rfl k) ?_
        show Gl p e below s room_1.cells room_1.slots (fun v h L => v = some (.int 1) ∧ Fr n0 L) (T.setTop (mkF m 182 #[.val (.long p0), .second, .val (.long p1), .second, .val (.long p2), .second, .val (.int p3), .val (.int c1), .val (.int l1), .val (.int t1), .val (.int c2), .val (.int l2), .val (.int t2), .val (.ref m1), .val (.ref m2), .val (.int kd), .unset] [(.int c1), (.ref m1)]))
        have O11 := ((O9.keep K9 all0).keep K10 (allS (by omega) all0))
        refine Gl.stat X hx hZ hown (hw _ (List.mem_of_getElem? (i := 4) rfl)) (hw _ (List.mem_of_getElem? (i := 5) rfl)) (hw _ (List.mem_of_getElem? (i := 6) rfl)) (hw _ (List.mem_of_getElem? (i := 7) rfl)) (by decide) (W := 1) (backC (own_mk l Z a0 hw c1 z h10 n0 (by omega) S hz O11) hZ (hw _ (List.mem_of_getElem? (i := 7) rfl)) (hw _ (List.mem_of_getElem? (i := 6) rfl)) (by decide) (by decide)) eT (hb hby at_182) (by rw [hml]; rfl) [(.int c1)] [(.ref m1)] (lenOf pd_2 rfl) rfl rfl (Nat.le_of_eq rfl) (by decide) (by decide) ?_
        intro v T L X hq
        obtain ⟨NQ, K11, x7, rfl, g11, Sx7⟩ := hq
        have N := Fr.app N NQ
        obtain ⟨h11, eT⟩ : ∃ z, T.heap = z := ⟨_, rfl⟩
        rw [eT] at K11 Sx7
        have sz11 := K11.1
        have lt11 := Sx7.lt
        show Gl p e below s room_1.cells room_1.slots (fun v h L => v = some (.int 1) ∧ Fr n0 L) (T.setTop (mkF m 185 #[.val (.long p0), .second, .val (.long p1), .second, .val (.long p2), .second, .val (.int p3), .val (.int c1), .val (.int l1), .val (.int t1), .val (.int c2), .val (.int l2), .val (.int t2), .val (.ref m1), .val (.ref m2), .val (.int kd), .unset] [(.ref x7), (.ref m1)]))
        refine Gl.virt X hx hZ hown (hw _ (List.mem_of_getElem? (i := 51) rfl)) (hw _ (List.mem_of_getElem? (i := 52) rfl)) (hw _ (List.mem_of_getElem? (i := 54) rfl)) (hw _ (List.mem_of_getElem? (i := 53) rfl)) (notFace_of_selects (args := #[]) (mvT hZ (hw _ (List.mem_of_getElem? (i := 54) rfl)))) (by decide) ((((((((((A1.keep K2).keep K3).keep K4).keep K5).ext E6).keep K7).keep K8).keep K9).keep K10).keep K11) (W := 0) (backC (own_equalsS l Z a0 hw m1 x7 h11 n0 Sx7.exa) hZ (hw _ (List.mem_of_getElem? (i := 55) rfl)) (hw _ (List.mem_of_getElem? (i := 3) rfl)) (by decide) (by decide)) eT (hb hby at_185) (by rw [hml]; rfl) [(.ref x7)] [] (lenOf pd_1 rfl) rfl rfl (Nat.le_of_eq rfl) (by decide) (by decide) ?_
        intro v T L X hq
        obtain ⟨rfl, rfl, eT⟩ := hq
        have N := Fr.app N (Fr.nil n0)
        show Gl p e below s room_1.cells room_1.slots (fun v h L => v = some (.int 1) ∧ Fr n0 L) (T.setTop (mkF m 188 #[.val (.long p0), .second, .val (.long p1), .second, .val (.long p2), .second, .val (.int p3), .val (.int c1), .val (.int l1), .val (.int t1), .val (.int c2), .val (.int l2), .val (.int t2), .val (.ref m1), .val (.ref m2), .val (.int kd), .unset] [(.int (0 : Int32))]))
        refine Gl.by (fun t k => XS.ifNo X.here hx rfl (hb hby at_188) rfl ((if0 _ _).trans (teq (rfl : (0 : Int32) = 0)).2) k) ?_
        show Gl p e below s room_1.cells room_1.slots (fun v h L => v = some (.int 1) ∧ Fr n0 L) (T.setTop (mkF m 191 #[.val (.long p0), .second, .val (.long p1), .second, .val (.long p2), .second, .val (.int p3), .val (.int c1), .val (.int l1), .val (.int t1), .val (.int c2), .val (.int l2), .val (.int t2), .val (.ref m1), .val (.ref m2), .val (.int kd), .unset] []))
        refine Gl.by (fun t k => XS.iconst X.here hx rfl (hb hby at_191) k) ?_
        show Gl p e below s room_1.cells room_1.slots (fun v h L => v = some (.int 1) ∧ Fr n0 L) (T.setTop (mkF m 192 #[.val (.long p0), .second, .val (.long p1), .second, .val (.long p2), .second, .val (.int p3), .val (.int c1), .val (.int l1), .val (.int t1), .val (.int c2), .val (.int l2), .val (.int t2), .val (.ref m1), .val (.ref m2), .val (.int kd), .unset] [(.int (1 : Int32))]))
        refine Gl.by (fun t k => XS.goto X.here hx rfl (pc0 := 192) (pc' := 196) rfl (hb hby at_192) (by decide) (by decide) k) ?_
        show Gl p e below s room_1.cells room_1.slots (fun v h L => v = some (.int 1) ∧ Fr n0 L) (T.setTop (mkF m 196 #[.val (.long p0), .second, .val (.long p1), .second, .val (.long p2), .second, .val (.int p3), .val (.int c1), .val (.int l1), .val (.int t1), .val (.int c2), .val (.int l2), .val (.int t2), .val (.ref m1), .val (.ref m2), .val (.int kd), .unset] [(.int (1 : Int32))]))
        exact Gl.retZ X hx hlk hret (by simp) (hb hby at_196) (by decide) (by decide) ⟨rfl, N⟩
      · refine Gl.by (fun t k => XS.icmpYes X.here hx rfl (pc0 := 175) (pc' := 197) rfl (hb hby at_175) rfl (feq k2).2 (by decide) (by decide) k) ?_
        show Gl p e below s room_1.cells room_1.slots (fun v h L => v = some (.int 1) ∧ Fr n0 L) (T.setTop (mkF m 197 #[.val (.long p0), .second, .val (.long p1), .second, .val (.long p2), .second, .val (.int p3), .val (.int c1), .val (.int l1), .val (.int t1), .val (.int c2), .val (.int l2), .val (.int t2), .val (.ref m1), .val (.ref m2), .val (.int kd), .unset] []))
        refine Gl.by (fun t k => XS.iload X.here hx rfl (hb hby at_197) rfl k) ?_
        show Gl p e below s room_1.cells room_1.slots (fun v h L => v = some (.int 1) ∧ Fr n0 L) (T.setTop (mkF m 199 #[.val (.long p0), .second, .val (.long p1), .second, .val (.long p2), .second, .val (.int p3), .val (.int c1), .val (.int l1), .val (.int t1), .val (.int c2), .val (.int l2), .val (.int t2), .val (.ref m1), .val (.ref m2), .val (.int kd), .unset] [(.int kd)]))
        refine Gl.by (fun t k => XS.iconst X.here hx rfl (hb hby at_199) k) ?_
        show Gl p e below s room_1.cells room_1.slots (fun v h L => v = some (.int 1) ∧ Fr n0 L) (T.setTop (mkF m 200 #[.val (.long p0), .second, .val (.long p1), .second, .val (.long p2), .second, .val (.int p3), .val (.int c1), .val (.int l1), .val (.int t1), .val (.int c2), .val (.int l2), .val (.int t2), .val (.ref m1), .val (.ref m2), .val (.int kd), .unset] [(.int (3 : Int32)), (.int kd)]))
        by_cases k3 : kd = (3 : Int32)
        · refine Gl.by (fun t k => XS.icmpNo X.here hx rfl (hb hby at_200) rfl (teq k3).2 k) ?_
          show Gl p e below s room_1.cells room_1.slots (fun v h L => v = some (.int 1) ∧ Fr n0 L) (T.setTop (mkF m 203 #[.val (.long p0), .second, .val (.long p1), .second, .val (.long p2), .second, .val (.int p3), .val (.int c1), .val (.int l1), .val (.int t1), .val (.int c2), .val (.int l2), .val (.int t2), .val (.ref m1), .val (.ref m2), .val (.int kd), .unset] []))
          refine Gl.by (fun t k => XS.aload X.here hx rfl (hb hby at_203) rfl rfl k) ?_
          show Gl p e below s room_1.cells room_1.slots (fun v h L => v = some (.int 1) ∧ Fr n0 L) (T.setTop (mkF m 205 #[.val (.long p0), .second, .val (.long p1), .second, .val (.long p2), .second, .val (.int p3), .val (.int c1), .val (.int l1), .val (.int t1), .val (.int c2), .val (.int l2), .val (.int t2), .val (.ref m1), .val (.ref m2), .val (.int kd), .unset] [(.ref m1)]))
          refine Gl.by (fun t k => XS.aload X.here hx rfl (hb hby at_205) rfl rfl k) ?_
          show Gl p e below s room_1.cells room_1.slots (fun v h L => v = some (.int 1) ∧ Fr n0 L) (T.setTop (mkF m 207 #[.val (.long p0), .second, .val (.long p1), .second, .val (.long p2), .second, .val (.int p3), .val (.int c1), .val (.int l1), .val (.int t1), .val (.int c2), .val (.int l2), .val (.int t2), .val (.ref m1), .val (.ref m2), .val (.int kd), .unset] [(.ref m1), (.ref m1)]))
          have O12 := ((O9.keep K9 all0).keep K10 (allS (by omega) all0))
          refine Gl.virt X hx hZ hown (hw _ (List.mem_of_getElem? (i := 51) rfl)) (hw _ (List.mem_of_getElem? (i := 52) rfl)) (hw _ (List.mem_of_getElem? (i := 54) rfl)) (hw _ (List.mem_of_getElem? (i := 53) rfl)) (notFace_of_selects (args := #[]) (mvT hZ (hw _ (List.mem_of_getElem? (i := 54) rfl)))) (by decide) (((((((((A1.keep K2).keep K3).keep K4).keep K5).ext E6).keep K7).keep K8).keep K9).keep K10) (W := 0) (backC (own_equals l Z a0 hw m1 m1 x1 x2 x3 x1 x2 x3 (own_mkc c1) (own_mkc l1) (own_mkc t1) (own_mkc c1) (own_mkc l1) (own_mkc t1) z h10 n0 (((((((((A1.keep K2).keep K3).keep K4).keep K5).ext E6).keep K7).keep K8).keep K9).keep K10) (((((((((A1.keep K2).keep K3).keep K4).keep K5).ext E6).keep K7).keep K8).keep K9).keep K10) (((((F5_code.ext E6).keep K7 nin0).keep K8 nin0).keep K9 nin0).keep K10 (ninS (nea (by omega)) nin0)) (Str.keep (a0 := a0) Sx1 (((((((((Keep.refl h2 [m1]).trans K3 all0).trans K4 all0).trans K5 (allS (Or.inl (by simp)) all0)).ext E6).trans K7 all0).trans K8 all0).trans K9 all0).trans K10 (allS (Or.inr (by omega)) all0)) (allS (Or.inr ⟨_, _, (by decide), (A1.keep K2), (hw _ (List.mem_of_getElem? (i := 2) rfl))⟩) all0)) (((((F5_level.ext E6).keep K7 nin0).keep K8 nin0).keep K9 nin0).keep K10 (ninS (nea (by omega)) nin0)) (Str.keep (a0 := a0) Sx2 ((((((((Keep.refl h3 [m1]).trans K4 all0).trans K5 (allS (Or.inl (by simp)) all0)).ext E6).trans K7 all0).trans K8 all0).trans K9 all0).trans K10 (allS (Or.inr (by omega)) all0)) (allS (Or.inr ⟨_, _, (by decide), ((A1.keep K2).keep K3), (hw _ (List.mem_of_getElem? (i := 2) rfl))⟩) all0)) (((((F5_text.ext E6).keep K7 nin0).keep K8 nin0).keep K9 nin0).keep K10 (ninS (nea (by omega)) nin0)) (Str.keep (a0 := a0) Sx3 (((((((Keep.refl h4 [m1]).trans K5 (allS (Or.inl (by simp)) all0)).ext E6).trans K7 all0).trans K8 all0).trans K9 all0).trans K10 (allS (Or.inr (by omega)) all0)) (allS (Or.inr ⟨_, _, (by decide), (((A1.keep K2).keep K3).keep K4), (hw _ (List.mem_of_getElem? (i := 2) rfl))⟩) all0)) (((((F5_code.ext E6).keep K7 nin0).keep K8 nin0).keep K9 nin0).keep K10 (ninS (nea (by omega)) nin0)) (Str.keep (a0 := a0) Sx1 (((((((((Keep.refl h2 [m1]).trans K3 all0).trans K4 all0).trans K5 (allS (Or.inl (by simp)) all0)).ext E6).trans K7 all0).trans K8 all0).trans K9 all0).trans K10 (allS (Or.inr (by omega)) all0)) (allS (Or.inr ⟨_, _, (by decide), (A1.keep K2), (hw _ (List.mem_of_getElem? (i := 2) rfl))⟩) all0)) (((((F5_level.ext E6).keep K7 nin0).keep K8 nin0).keep K9 nin0).keep K10 (ninS (nea (by omega)) nin0)) (Str.keep (a0 := a0) Sx2 ((((((((Keep.refl h3 [m1]).trans K4 all0).trans K5 (allS (Or.inl (by simp)) all0)).ext E6).trans K7 all0).trans K8 all0).trans K9 all0).trans K10 (allS (Or.inr (by omega)) all0)) (allS (Or.inr ⟨_, _, (by decide), ((A1.keep K2).keep K3), (hw _ (List.mem_of_getElem? (i := 2) rfl))⟩) all0)) (((((F5_text.ext E6).keep K7 nin0).keep K8 nin0).keep K9 nin0).keep K10 (ninS (nea (by omega)) nin0)) (Str.keep (a0 := a0) Sx3 (((((((Keep.refl h4 [m1]).trans K5 (allS (Or.inl (by simp)) all0)).ext E6).trans K7 all0).trans K8 all0).trans K9 all0).trans K10 (allS (Or.inr (by omega)) all0)) (allS (Or.inr ⟨_, _, (by decide), (((A1.keep K2).keep K3).keep K4), (hw _ (List.mem_of_getElem? (i := 2) rfl))⟩) all0)) (by omega) S hz O12) hZ (hw _ (List.mem_of_getElem? (i := 55) rfl)) (hw _ (List.mem_of_getElem? (i := 3) rfl)) (by decide) (by decide)) eT (hb hby at_207) (by rw [hml]; rfl) [(.ref m1)] [] (lenOf pd_1 rfl) rfl rfl (Nat.le_of_eq rfl) (by decide) (by decide) ?_
          intro v T L X hq
          obtain ⟨rfl, NQ, eT⟩ := hq
          have N := Fr.app N NQ
          show Gl p e below s room_1.cells room_1.slots (fun v h L => v = some (.int 1) ∧ Fr n0 L) (T.setTop (mkF m 210 #[.val (.long p0), .second, .val (.long p1), .second, .val (.long p2), .second, .val (.int p3), .val (.int c1), .val (.int l1), .val (.int t1), .val (.int c2), .val (.int l2), .val (.int t2), .val (.ref m1), .val (.ref m2), .val (.int kd), .unset] [(.int (own_eqv (own_mkc c1) (own_mkc c1) (own_mkc l1) (own_mkc l1) (own_mkc t1) (own_mkc t1)))]))
          refine Gl.retZ X hx hlk hret (by simp) (hb hby at_210) (by decide) (by decide) ⟨?_, N⟩
          rw [own_eqv, if_pos ⟨rfl, rfl, rfl⟩]; rfl
        · refine Gl.by (fun t k => XS.icmpYes X.here hx rfl (pc0 := 200) (pc' := 211) rfl (hb hby at_200) rfl (feq k3).2 (by decide) (by decide) k) ?_
          show Gl p e below s room_1.cells room_1.slots (fun v h L => v = some (.int 1) ∧ Fr n0 L) (T.setTop (mkF m 211 #[.val (.long p0), .second, .val (.long p1), .second, .val (.long p2), .second, .val (.int p3), .val (.int c1), .val (.int l1), .val (.int t1), .val (.int c2), .val (.int l2), .val (.int t2), .val (.ref m1), .val (.ref m2), .val (.int kd), .unset] []))
          refine Gl.by (fun t k => XS.iload X.here hx rfl (hb hby at_211) rfl k) ?_
          show Gl p e below s room_1.cells room_1.slots (fun v h L => v = some (.int 1) ∧ Fr n0 L) (T.setTop (mkF m 213 #[.val (.long p0), .second, .val (.long p1), .second, .val (.long p2), .second, .val (.int p3), .val (.int c1), .val (.int l1), .val (.int t1), .val (.int c2), .val (.int l2), .val (.int t2), .val (.ref m1), .val (.ref m2), .val (.int kd), .unset] [(.int c1)]))
          refine Gl.by (fun t k => XS.iload X.here hx rfl (hb hby at_213) rfl k) ?_
          show Gl p e below s room_1.cells room_1.slots (fun v h L => v = some (.int 1) ∧ Fr n0 L) (T.setTop (mkF m 215 #[.val (.long p0), .second, .val (.long p1), .second, .val (.long p2), .second, .val (.int p3), .val (.int c1), .val (.int l1), .val (.int t1), .val (.int c2), .val (.int l2), .val (.int t2), .val (.ref m1), .val (.ref m2), .val (.int kd), .unset] [(.int c2), (.int c1)]))
          have j246 : ∀ (T : State) (locs : List Loc) (_ : Stand p l e room_1 s m #[(.long p0), (.long p1), (.long p2), (.int p3)] below meth c T locs 20 54) (_ : Fr n0 locs) (_ : T.heap = h10), Gl p e below s room_1.cells room_1.slots (fun v h L => v = some (.int 1) ∧ Fr n0 L) (T.setTop (mkF m 246 #[.val (.long p0), .second, .val (.long p1), .second, .val (.long p2), .second, .val (.int p3), .val (.int c1), .val (.int l1), .val (.int t1), .val (.int c2), .val (.int l2), .val (.int t2), .val (.ref m1), .val (.ref m2), .val (.int kd), .unset] [(.int (own_eqv (own_mkc c1) (own_mkc c2) (own_mkc l1) (own_mkc l2) (own_mkc t1) (own_mkc t2)))])) := by
            intro T locs X N eT
            refine Gl.by (fun t k => XS.istore X.here hx rfl (hb hby at_246) rfl (l' := #[.val (.long p0), .second, .val (.long p1), .second, .val (.long p2), .second, .val (.int p3), .val (.int c1), .val (.int l1), .val (.int t1), .val (.int c2), .val (.int l2), .val (.int t2), .val (.ref m1), .val (.ref m2), .val (.int kd), .val (.int (own_eqv (own_mkc c1) (own_mkc c2) (own_mkc l1) (own_mkc l2) (own_mkc t1) (own_mkc t2)))]) rfl k) ?_
            show Gl p e below s room_1.cells room_1.slots (fun v h L => v = some (.int 1) ∧ Fr n0 L) (T.setTop (mkF m 248 #[.val (.long p0), .second, .val (.long p1), .second, .val (.long p2), .second, .val (.int p3), .val (.int c1), .val (.int l1), .val (.int t1), .val (.int c2), .val (.int l2), .val (.int t2), .val (.ref m1), .val (.ref m2), .val (.int kd), .val (.int (own_eqv (own_mkc c1) (own_mkc c2) (own_mkc l1) (own_mkc l2) (own_mkc t1) (own_mkc t2)))] []))
            refine Gl.by (fun t k => XS.aload X.here hx rfl (hb hby at_248) rfl rfl k) ?_
            show Gl p e below s room_1.cells room_1.slots (fun v h L => v = some (.int 1) ∧ Fr n0 L) (T.setTop (mkF m 250 #[.val (.long p0), .second, .val (.long p1), .second, .val (.long p2), .second, .val (.int p3), .val (.int c1), .val (.int l1), .val (.int t1), .val (.int c2), .val (.int l2), .val (.int t2), .val (.ref m1), .val (.ref m2), .val (.int kd), .val (.int (own_eqv (own_mkc c1) (own_mkc c2) (own_mkc l1) (own_mkc l2) (own_mkc t1) (own_mkc t2)))] [(.ref m1)]))
            refine Gl.by (fun t k => XS.aload X.here hx rfl (hb hby at_250) rfl rfl k) ?_
            show Gl p e below s room_1.cells room_1.slots (fun v h L => v = some (.int 1) ∧ Fr n0 L) (T.setTop (mkF m 252 #[.val (.long p0), .second, .val (.long p1), .second, .val (.long p2), .second, .val (.int p3), .val (.int c1), .val (.int l1), .val (.int t1), .val (.int c2), .val (.int l2), .val (.int t2), .val (.ref m1), .val (.ref m2), .val (.int kd), .val (.int (own_eqv (own_mkc c1) (own_mkc c2) (own_mkc l1) (own_mkc l2) (own_mkc t1) (own_mkc t2)))] [(.ref m2), (.ref m1)]))
            have O13 := ((O9.keep K9 all0).keep K10 (allS (by omega) all0))
            refine Gl.virt X hx hZ hown (hw _ (List.mem_of_getElem? (i := 51) rfl)) (hw _ (List.mem_of_getElem? (i := 52) rfl)) (hw _ (List.mem_of_getElem? (i := 54) rfl)) (hw _ (List.mem_of_getElem? (i := 53) rfl)) (notFace_of_selects (args := #[]) (mvT hZ (hw _ (List.mem_of_getElem? (i := 54) rfl)))) (by decide) (((((((((A1.keep K2).keep K3).keep K4).keep K5).ext E6).keep K7).keep K8).keep K9).keep K10) (W := 0) (backC (own_equals l Z a0 hw m1 m2 x1 x2 x3 y1 y2 y3 (own_mkc c1) (own_mkc l1) (own_mkc t1) (own_mkc c2) (own_mkc l2) (own_mkc t2) z h10 n0 (((((((((A1.keep K2).keep K3).keep K4).keep K5).ext E6).keep K7).keep K8).keep K9).keep K10) ((((A6.keep K7).keep K8).keep K9).keep K10) (((((F5_code.ext E6).keep K7 nin0).keep K8 nin0).keep K9 nin0).keep K10 (ninS (nea (by omega)) nin0)) (Str.keep (a0 := a0) Sx1 (((((((((Keep.refl h2 [m1]).trans K3 all0).trans K4 all0).trans K5 (allS (Or.inl (by simp)) all0)).ext E6).trans K7 all0).trans K8 all0).trans K9 all0).trans K10 (allS (Or.inr (by omega)) all0)) (allS (Or.inr ⟨_, _, (by decide), (A1.keep K2), (hw _ (List.mem_of_getElem? (i := 2) rfl))⟩) all0)) (((((F5_level.ext E6).keep K7 nin0).keep K8 nin0).keep K9 nin0).keep K10 (ninS (nea (by omega)) nin0)) (Str.keep (a0 := a0) Sx2 ((((((((Keep.refl h3 [m1]).trans K4 all0).trans K5 (allS (Or.inl (by simp)) all0)).ext E6).trans K7 all0).trans K8 all0).trans K9 all0).trans K10 (allS (Or.inr (by omega)) all0)) (allS (Or.inr ⟨_, _, (by decide), ((A1.keep K2).keep K3), (hw _ (List.mem_of_getElem? (i := 2) rfl))⟩) all0)) (((((F5_text.ext E6).keep K7 nin0).keep K8 nin0).keep K9 nin0).keep K10 (ninS (nea (by omega)) nin0)) (Str.keep (a0 := a0) Sx3 (((((((Keep.refl h4 [m1]).trans K5 (allS (Or.inl (by simp)) all0)).ext E6).trans K7 all0).trans K8 all0).trans K9 all0).trans K10 (allS (Or.inr (by omega)) all0)) (allS (Or.inr ⟨_, _, (by decide), (((A1.keep K2).keep K3).keep K4), (hw _ (List.mem_of_getElem? (i := 2) rfl))⟩) all0)) F10_code (Str.keep (a0 := a0) Sy1 ((((Keep.refl h7 [m2]).trans K8 all0).trans K9 all0).trans K10 (allS (Or.inl (by simp)) all0)) (allS (Or.inr ⟨_, _, (by decide), (A6.keep K7), (hw _ (List.mem_of_getElem? (i := 2) rfl))⟩) all0)) F10_level (Str.keep (a0 := a0) Sy2 (((Keep.refl h8 [m2]).trans K9 all0).trans K10 (allS (Or.inl (by simp)) all0)) (allS (Or.inr ⟨_, _, (by decide), ((A6.keep K7).keep K8), (hw _ (List.mem_of_getElem? (i := 2) rfl))⟩) all0)) F10_text (Str.keep (a0 := a0) Sy3 ((Keep.refl h9 [m2]).trans K10 (allS (Or.inl (by simp)) all0)) (allS (Or.inr ⟨_, _, (by decide), (((A6.keep K7).keep K8).keep K9), (hw _ (List.mem_of_getElem? (i := 2) rfl))⟩) all0)) (by omega) S hz O13) hZ (hw _ (List.mem_of_getElem? (i := 55) rfl)) (hw _ (List.mem_of_getElem? (i := 3) rfl)) (by decide) (by decide)) eT (hb hby at_252) (by rw [hml]; rfl) [(.ref m2)] [] (lenOf pd_1 rfl) rfl rfl (Nat.le_of_eq rfl) (by decide) (by decide) ?_
            intro v T L X hq
            obtain ⟨rfl, NQ, eT⟩ := hq
            have N := Fr.app N NQ
            show Gl p e below s room_1.cells room_1.slots (fun v h L => v = some (.int 1) ∧ Fr n0 L) (T.setTop (mkF m 255 #[.val (.long p0), .second, .val (.long p1), .second, .val (.long p2), .second, .val (.int p3), .val (.int c1), .val (.int l1), .val (.int t1), .val (.int c2), .val (.int l2), .val (.int t2), .val (.ref m1), .val (.ref m2), .val (.int kd), .val (.int (own_eqv (own_mkc c1) (own_mkc c2) (own_mkc l1) (own_mkc l2) (own_mkc t1) (own_mkc t2)))] [(.int (own_eqv (own_mkc c1) (own_mkc c2) (own_mkc l1) (own_mkc l2) (own_mkc t1) (own_mkc t2)))]))
            refine Gl.by (fun t k => XS.iload X.here hx rfl (hb hby at_255) rfl k) ?_
            show Gl p e below s room_1.cells room_1.slots (fun v h L => v = some (.int 1) ∧ Fr n0 L) (T.setTop (mkF m 257 #[.val (.long p0), .second, .val (.long p1), .second, .val (.long p2), .second, .val (.int p3), .val (.int c1), .val (.int l1), .val (.int t1), .val (.int c2), .val (.int l2), .val (.int t2), .val (.ref m1), .val (.ref m2), .val (.int kd), .val (.int (own_eqv (own_mkc c1) (own_mkc c2) (own_mkc l1) (own_mkc l2) (own_mkc t1) (own_mkc t2)))] [(.int (own_eqv (own_mkc c1) (own_mkc c2) (own_mkc l1) (own_mkc l2) (own_mkc t1) (own_mkc t2))), (.int (own_eqv (own_mkc c1) (own_mkc c2) (own_mkc l1) (own_mkc l2) (own_mkc t1) (own_mkc t2)))]))
            refine Gl.by (fun t k => XS.icmpNo X.here hx rfl (hb hby at_257) rfl (teq (rfl : (own_eqv (own_mkc c1) (own_mkc c2) (own_mkc l1) (own_mkc l2) (own_mkc t1) (own_mkc t2)) = (own_eqv (own_mkc c1) (own_mkc c2) (own_mkc l1) (own_mkc l2) (own_mkc t1) (own_mkc t2)))).2 k) ?_
            show Gl p e below s room_1.cells room_1.slots (fun v h L => v = some (.int 1) ∧ Fr n0 L) (T.setTop (mkF m 260 #[.val (.long p0), .second, .val (.long p1), .second, .val (.long p2), .second, .val (.int p3), .val (.int c1), .val (.int l1), .val (.int t1), .val (.int c2), .val (.int l2), .val (.int t2), .val (.ref m1), .val (.ref m2), .val (.int kd), .val (.int (own_eqv (own_mkc c1) (own_mkc c2) (own_mkc l1) (own_mkc l2) (own_mkc t1) (own_mkc t2)))] []))
            refine Gl.by (fun t k => XS.aload X.here hx rfl (hb hby at_260) rfl rfl k) ?_
            show Gl p e below s room_1.cells room_1.slots (fun v h L => v = some (.int 1) ∧ Fr n0 L) (T.setTop (mkF m 262 #[.val (.long p0), .second, .val (.long p1), .second, .val (.long p2), .second, .val (.int p3), .val (.int c1), .val (.int l1), .val (.int t1), .val (.int c2), .val (.int l2), .val (.int t2), .val (.ref m1), .val (.ref m2), .val (.int kd), .val (.int (own_eqv (own_mkc c1) (own_mkc c2) (own_mkc l1) (own_mkc l2) (own_mkc t1) (own_mkc t2)))] [(.ref m2)]))
            refine Gl.by (fun t k => XS.aload X.here hx rfl (hb hby at_262) rfl rfl k) ?_
            show Gl p e below s room_1.cells room_1.slots (fun v h L => v = some (.int 1) ∧ Fr n0 L) (T.setTop (mkF m 264 #[.val (.long p0), .second, .val (.long p1), .second, .val (.long p2), .second, .val (.int p3), .val (.int c1), .val (.int l1), .val (.int t1), .val (.int c2), .val (.int l2), .val (.int t2), .val (.ref m1), .val (.ref m2), .val (.int kd), .val (.int (own_eqv (own_mkc c1) (own_mkc c2) (own_mkc l1) (own_mkc l2) (own_mkc t1) (own_mkc t2)))] [(.ref m1), (.ref m2)]))
            have O14 := O13
            refine Gl.virt X hx hZ hown (hw _ (List.mem_of_getElem? (i := 51) rfl)) (hw _ (List.mem_of_getElem? (i := 52) rfl)) (hw _ (List.mem_of_getElem? (i := 54) rfl)) (hw _ (List.mem_of_getElem? (i := 53) rfl)) (notFace_of_selects (args := #[]) (mvT hZ (hw _ (List.mem_of_getElem? (i := 54) rfl)))) (by decide) ((((A6.keep K7).keep K8).keep K9).keep K10) (W := 0) (backC (own_equals l Z a0 hw m2 m1 y1 y2 y3 x1 x2 x3 (own_mkc c2) (own_mkc l2) (own_mkc t2) (own_mkc c1) (own_mkc l1) (own_mkc t1) z h10 n0 ((((A6.keep K7).keep K8).keep K9).keep K10) (((((((((A1.keep K2).keep K3).keep K4).keep K5).ext E6).keep K7).keep K8).keep K9).keep K10) F10_code (Str.keep (a0 := a0) Sy1 ((((Keep.refl h7 [m2]).trans K8 all0).trans K9 all0).trans K10 (allS (Or.inl (by simp)) all0)) (allS (Or.inr ⟨_, _, (by decide), (A6.keep K7), (hw _ (List.mem_of_getElem? (i := 2) rfl))⟩) all0)) F10_level (Str.keep (a0 := a0) Sy2 (((Keep.refl h8 [m2]).trans K9 all0).trans K10 (allS (Or.inl (by simp)) all0)) (allS (Or.inr ⟨_, _, (by decide), ((A6.keep K7).keep K8), (hw _ (List.mem_of_getElem? (i := 2) rfl))⟩) all0)) F10_text (Str.keep (a0 := a0) Sy3 ((Keep.refl h9 [m2]).trans K10 (allS (Or.inl (by simp)) all0)) (allS (Or.inr ⟨_, _, (by decide), (((A6.keep K7).keep K8).keep K9), (hw _ (List.mem_of_getElem? (i := 2) rfl))⟩) all0)) (((((F5_code.ext E6).keep K7 nin0).keep K8 nin0).keep K9 nin0).keep K10 (ninS (nea (by omega)) nin0)) (Str.keep (a0 := a0) Sx1 (((((((((Keep.refl h2 [m1]).trans K3 all0).trans K4 all0).trans K5 (allS (Or.inl (by simp)) all0)).ext E6).trans K7 all0).trans K8 all0).trans K9 all0).trans K10 (allS (Or.inr (by omega)) all0)) (allS (Or.inr ⟨_, _, (by decide), (A1.keep K2), (hw _ (List.mem_of_getElem? (i := 2) rfl))⟩) all0)) (((((F5_level.ext E6).keep K7 nin0).keep K8 nin0).keep K9 nin0).keep K10 (ninS (nea (by omega)) nin0)) (Str.keep (a0 := a0) Sx2 ((((((((Keep.refl h3 [m1]).trans K4 all0).trans K5 (allS (Or.inl (by simp)) all0)).ext E6).trans K7 all0).trans K8 all0).trans K9 all0).trans K10 (allS (Or.inr (by omega)) all0)) (allS (Or.inr ⟨_, _, (by decide), ((A1.keep K2).keep K3), (hw _ (List.mem_of_getElem? (i := 2) rfl))⟩) all0)) (((((F5_text.ext E6).keep K7 nin0).keep K8 nin0).keep K9 nin0).keep K10 (ninS (nea (by omega)) nin0)) (Str.keep (a0 := a0) Sx3 (((((((Keep.refl h4 [m1]).trans K5 (allS (Or.inl (by simp)) all0)).ext E6).trans K7 all0).trans K8 all0).trans K9 all0).trans K10 (allS (Or.inr (by omega)) all0)) (allS (Or.inr ⟨_, _, (by decide), (((A1.keep K2).keep K3).keep K4), (hw _ (List.mem_of_getElem? (i := 2) rfl))⟩) all0)) (by omega) S hz O14) hZ (hw _ (List.mem_of_getElem? (i := 55) rfl)) (hw _ (List.mem_of_getElem? (i := 3) rfl)) (by decide) (by decide)) eT (hb hby at_264) (by rw [hml]; rfl) [(.ref m1)] [] (lenOf pd_1 rfl) rfl rfl (Nat.le_of_eq rfl) (by decide) (by decide) ?_
            intro v T L X hq
            obtain ⟨rfl, NQ, eT⟩ := hq
            have N := Fr.app N NQ
            show Gl p e below s room_1.cells room_1.slots (fun v h L => v = some (.int 1) ∧ Fr n0 L) (T.setTop (mkF m 267 #[.val (.long p0), .second, .val (.long p1), .second, .val (.long p2), .second, .val (.int p3), .val (.int c1), .val (.int l1), .val (.int t1), .val (.int c2), .val (.int l2), .val (.int t2), .val (.ref m1), .val (.ref m2), .val (.int kd), .val (.int (own_eqv (own_mkc c1) (own_mkc c2) (own_mkc l1) (own_mkc l2) (own_mkc t1) (own_mkc t2)))] [(.int (own_eqv (own_mkc c2) (own_mkc c1) (own_mkc l2) (own_mkc l1) (own_mkc t2) (own_mkc t1)))]))
            rw [(show (own_eqv (own_mkc c2) (own_mkc c1) (own_mkc l2) (own_mkc l1) (own_mkc t2) (own_mkc t1)) = (own_eqv (own_mkc c1) (own_mkc c2) (own_mkc l1) (own_mkc l2) (own_mkc t1) (own_mkc t2)) from own_eqvc)]
            show Gl p e below s room_1.cells room_1.slots (fun v h L => v = some (.int 1) ∧ Fr n0 L) (T.setTop (mkF m 267 #[.val (.long p0), .second, .val (.long p1), .second, .val (.long p2), .second, .val (.int p3), .val (.int c1), .val (.int l1), .val (.int t1), .val (.int c2), .val (.int l2), .val (.int t2), .val (.ref m1), .val (.ref m2), .val (.int kd), .val (.int (own_eqv (own_mkc c1) (own_mkc c2) (own_mkc l1) (own_mkc l2) (own_mkc t1) (own_mkc t2)))] [(.int (own_eqv (own_mkc c1) (own_mkc c2) (own_mkc l1) (own_mkc l2) (own_mkc t1) (own_mkc t2)))]))
            refine Gl.by (fun t k => XS.iload X.here hx rfl (hb hby at_267) rfl k) ?_
            show Gl p e below s room_1.cells room_1.slots (fun v h L => v = some (.int 1) ∧ Fr n0 L) (T.setTop (mkF m 269 #[.val (.long p0), .second, .val (.long p1), .second, .val (.long p2), .second, .val (.int p3), .val (.int c1), .val (.int l1), .val (.int t1), .val (.int c2), .val (.int l2), .val (.int t2), .val (.ref m1), .val (.ref m2), .val (.int kd), .val (.int (own_eqv (own_mkc c1) (own_mkc c2) (own_mkc l1) (own_mkc l2) (own_mkc t1) (own_mkc t2)))] [(.int (own_eqv (own_mkc c1) (own_mkc c2) (own_mkc l1) (own_mkc l2) (own_mkc t1) (own_mkc t2))), (.int (own_eqv (own_mkc c1) (own_mkc c2) (own_mkc l1) (own_mkc l2) (own_mkc t1) (own_mkc t2)))]))
            refine Gl.by (fun t k => XS.icmpNo X.here hx rfl (hb hby at_269) rfl (teq (rfl : (own_eqv (own_mkc c1) (own_mkc c2) (own_mkc l1) (own_mkc l2) (own_mkc t1) (own_mkc t2)) = (own_eqv (own_mkc c1) (own_mkc c2) (own_mkc l1) (own_mkc l2) (own_mkc t1) (own_mkc t2)))).2 k) ?_
            show Gl p e below s room_1.cells room_1.slots (fun v h L => v = some (.int 1) ∧ Fr n0 L) (T.setTop (mkF m 272 #[.val (.long p0), .second, .val (.long p1), .second, .val (.long p2), .second, .val (.int p3), .val (.int c1), .val (.int l1), .val (.int t1), .val (.int c2), .val (.int l2), .val (.int t2), .val (.ref m1), .val (.ref m2), .val (.int kd), .val (.int (own_eqv (own_mkc c1) (own_mkc c2) (own_mkc l1) (own_mkc l2) (own_mkc t1) (own_mkc t2)))] []))
            refine Gl.by (fun t k => XS.iconst X.here hx rfl (hb hby at_272) k) ?_
            show Gl p e below s room_1.cells room_1.slots (fun v h L => v = some (.int 1) ∧ Fr n0 L) (T.setTop (mkF m 273 #[.val (.long p0), .second, .val (.long p1), .second, .val (.long p2), .second, .val (.int p3), .val (.int c1), .val (.int l1), .val (.int t1), .val (.int c2), .val (.int l2), .val (.int t2), .val (.ref m1), .val (.ref m2), .val (.int kd), .val (.int (own_eqv (own_mkc c1) (own_mkc c2) (own_mkc l1) (own_mkc l2) (own_mkc t1) (own_mkc t2)))] [(.int (1 : Int32))]))
            refine Gl.by (fun t k => XS.goto X.here hx rfl (pc0 := 273) (pc' := 277) rfl (hb hby at_273) (by decide) (by decide) k) ?_
            show Gl p e below s room_1.cells room_1.slots (fun v h L => v = some (.int 1) ∧ Fr n0 L) (T.setTop (mkF m 277 #[.val (.long p0), .second, .val (.long p1), .second, .val (.long p2), .second, .val (.int p3), .val (.int c1), .val (.int l1), .val (.int t1), .val (.int c2), .val (.int l2), .val (.int t2), .val (.ref m1), .val (.ref m2), .val (.int kd), .val (.int (own_eqv (own_mkc c1) (own_mkc c2) (own_mkc l1) (own_mkc l2) (own_mkc t1) (own_mkc t2)))] [(.int (1 : Int32))]))
            exact Gl.retZ X hx hlk hret (by simp) (hb hby at_277) (by decide) (by decide) ⟨rfl, N⟩
          refine Gl.stat X hx hZ hown (hw _ (List.mem_of_getElem? (i := 48) rfl)) (hw _ (List.mem_of_getElem? (i := 49) rfl)) (hw _ (List.mem_of_getElem? (i := 6) rfl)) (hw _ (List.mem_of_getElem? (i := 50) rfl)) (by decide) (W := 0) (backC (own_same l Z a0 hw c1 c2 h10 n0) hZ (hw _ (List.mem_of_getElem? (i := 50) rfl)) (hw _ (List.mem_of_getElem? (i := 6) rfl)) (by decide) (by decide)) eT (hb hby at_215) (by rw [hml]; rfl) [(.int c1), (.int c2)] [] (lenOf pd_4 rfl) rfl rfl (Nat.le_of_eq rfl) (by decide) (by decide) ?_
          intro v T L X hq
          obtain ⟨rfl, rfl, eT⟩ := hq
          have N := Fr.app N (Fr.nil n0)
          by_cases q0 : own_mkc c1 = own_mkc c2
          · rw [if_pos q0]
            show Gl p e below s room_1.cells room_1.slots (fun v h L => v = some (.int 1) ∧ Fr n0 L) (T.setTop (mkF m 218 #[.val (.long p0), .second, .val (.long p1), .second, .val (.long p2), .second, .val (.int p3), .val (.int c1), .val (.int l1), .val (.int t1), .val (.int c2), .val (.int l2), .val (.int t2), .val (.ref m1), .val (.ref m2), .val (.int kd), .unset] [(.int (1 : Int32))]))
            refine Gl.by (fun t k => XS.ifNo X.here hx rfl (hb hby at_218) rfl ((if0 _ _).trans (feq (by decide : ¬ (1 : Int32) = 0)).1) k) ?_
            show Gl p e below s room_1.cells room_1.slots (fun v h L => v = some (.int 1) ∧ Fr n0 L) (T.setTop (mkF m 221 #[.val (.long p0), .second, .val (.long p1), .second, .val (.long p2), .second, .val (.int p3), .val (.int c1), .val (.int l1), .val (.int t1), .val (.int c2), .val (.int l2), .val (.int t2), .val (.ref m1), .val (.ref m2), .val (.int kd), .unset] []))
            refine Gl.by (fun t k => XS.iload X.here hx rfl (hb hby at_221) rfl k) ?_
            show Gl p e below s room_1.cells room_1.slots (fun v h L => v = some (.int 1) ∧ Fr n0 L) (T.setTop (mkF m 223 #[.val (.long p0), .second, .val (.long p1), .second, .val (.long p2), .second, .val (.int p3), .val (.int c1), .val (.int l1), .val (.int t1), .val (.int c2), .val (.int l2), .val (.int t2), .val (.ref m1), .val (.ref m2), .val (.int kd), .unset] [(.int l1)]))
            refine Gl.by (fun t k => XS.iload X.here hx rfl (hb hby at_223) rfl k) ?_
            show Gl p e below s room_1.cells room_1.slots (fun v h L => v = some (.int 1) ∧ Fr n0 L) (T.setTop (mkF m 225 #[.val (.long p0), .second, .val (.long p1), .second, .val (.long p2), .second, .val (.int p3), .val (.int c1), .val (.int l1), .val (.int t1), .val (.int c2), .val (.int l2), .val (.int t2), .val (.ref m1), .val (.ref m2), .val (.int kd), .unset] [(.int l2), (.int l1)]))
            refine Gl.stat X hx hZ hown (hw _ (List.mem_of_getElem? (i := 48) rfl)) (hw _ (List.mem_of_getElem? (i := 49) rfl)) (hw _ (List.mem_of_getElem? (i := 6) rfl)) (hw _ (List.mem_of_getElem? (i := 50) rfl)) (by decide) (W := 0) (backC (own_same l Z a0 hw l1 l2 h10 n0) hZ (hw _ (List.mem_of_getElem? (i := 50) rfl)) (hw _ (List.mem_of_getElem? (i := 6) rfl)) (by decide) (by decide)) eT (hb hby at_225) (by rw [hml]; rfl) [(.int l1), (.int l2)] [] (lenOf pd_4 rfl) rfl rfl (Nat.le_of_eq rfl) (by decide) (by decide) ?_
            intro v T L X hq
            obtain ⟨rfl, rfl, eT⟩ := hq
            have N := Fr.app N (Fr.nil n0)
            by_cases q1 : own_mkc l1 = own_mkc l2
            · rw [if_pos q1]
              show Gl p e below s room_1.cells room_1.slots (fun v h L => v = some (.int 1) ∧ Fr n0 L) (T.setTop (mkF m 228 #[.val (.long p0), .second, .val (.long p1), .second, .val (.long p2), .second, .val (.int p3), .val (.int c1), .val (.int l1), .val (.int t1), .val (.int c2), .val (.int l2), .val (.int t2), .val (.ref m1), .val (.ref m2), .val (.int kd), .unset] [(.int (1 : Int32))]))
              refine Gl.by (fun t k => XS.ifNo X.here hx rfl (hb hby at_228) rfl ((if0 _ _).trans (feq (by decide : ¬ (1 : Int32) = 0)).1) k) ?_
              show Gl p e below s room_1.cells room_1.slots (fun v h L => v = some (.int 1) ∧ Fr n0 L) (T.setTop (mkF m 231 #[.val (.long p0), .second, .val (.long p1), .second, .val (.long p2), .second, .val (.int p3), .val (.int c1), .val (.int l1), .val (.int t1), .val (.int c2), .val (.int l2), .val (.int t2), .val (.ref m1), .val (.ref m2), .val (.int kd), .unset] []))
              refine Gl.by (fun t k => XS.iload X.here hx rfl (hb hby at_231) rfl k) ?_
              show Gl p e below s room_1.cells room_1.slots (fun v h L => v = some (.int 1) ∧ Fr n0 L) (T.setTop (mkF m 233 #[.val (.long p0), .second, .val (.long p1), .second, .val (.long p2), .second, .val (.int p3), .val (.int c1), .val (.int l1), .val (.int t1), .val (.int c2), .val (.int l2), .val (.int t2), .val (.ref m1), .val (.ref m2), .val (.int kd), .unset] [(.int t1)]))
              refine Gl.by (fun t k => XS.iload X.here hx rfl (hb hby at_233) rfl k) ?_
              show Gl p e below s room_1.cells room_1.slots (fun v h L => v = some (.int 1) ∧ Fr n0 L) (T.setTop (mkF m 235 #[.val (.long p0), .second, .val (.long p1), .second, .val (.long p2), .second, .val (.int p3), .val (.int c1), .val (.int l1), .val (.int t1), .val (.int c2), .val (.int l2), .val (.int t2), .val (.ref m1), .val (.ref m2), .val (.int kd), .unset] [(.int t2), (.int t1)]))
              refine Gl.stat X hx hZ hown (hw _ (List.mem_of_getElem? (i := 48) rfl)) (hw _ (List.mem_of_getElem? (i := 49) rfl)) (hw _ (List.mem_of_getElem? (i := 6) rfl)) (hw _ (List.mem_of_getElem? (i := 50) rfl)) (by decide) (W := 0) (backC (own_same l Z a0 hw t1 t2 h10 n0) hZ (hw _ (List.mem_of_getElem? (i := 50) rfl)) (hw _ (List.mem_of_getElem? (i := 6) rfl)) (by decide) (by decide)) eT (hb hby at_235) (by rw [hml]; rfl) [(.int t1), (.int t2)] [] (lenOf pd_4 rfl) rfl rfl (Nat.le_of_eq rfl) (by decide) (by decide) ?_
              intro v T L X hq
              obtain ⟨rfl, rfl, eT⟩ := hq
              have N := Fr.app N (Fr.nil n0)
              by_cases q2 : own_mkc t1 = own_mkc t2
              · rw [if_pos q2]
                show Gl p e below s room_1.cells room_1.slots (fun v h L => v = some (.int 1) ∧ Fr n0 L) (T.setTop (mkF m 238 #[.val (.long p0), .second, .val (.long p1), .second, .val (.long p2), .second, .val (.int p3), .val (.int c1), .val (.int l1), .val (.int t1), .val (.int c2), .val (.int l2), .val (.int t2), .val (.ref m1), .val (.ref m2), .val (.int kd), .unset] [(.int (1 : Int32))]))
                refine Gl.by (fun t k => XS.ifNo X.here hx rfl (hb hby at_238) rfl ((if0 _ _).trans (feq (by decide : ¬ (1 : Int32) = 0)).1) k) ?_
                show Gl p e below s room_1.cells room_1.slots (fun v h L => v = some (.int 1) ∧ Fr n0 L) (T.setTop (mkF m 241 #[.val (.long p0), .second, .val (.long p1), .second, .val (.long p2), .second, .val (.int p3), .val (.int c1), .val (.int l1), .val (.int t1), .val (.int c2), .val (.int l2), .val (.int t2), .val (.ref m1), .val (.ref m2), .val (.int kd), .unset] []))
                refine Gl.by (fun t k => XS.iconst X.here hx rfl (hb hby at_241) k) ?_
                show Gl p e below s room_1.cells room_1.slots (fun v h L => v = some (.int 1) ∧ Fr n0 L) (T.setTop (mkF m 242 #[.val (.long p0), .second, .val (.long p1), .second, .val (.long p2), .second, .val (.int p3), .val (.int c1), .val (.int l1), .val (.int t1), .val (.int c2), .val (.int l2), .val (.int t2), .val (.ref m1), .val (.ref m2), .val (.int kd), .unset] [(.int (1 : Int32))]))
                refine Gl.by (fun t k => XS.goto X.here hx rfl (pc0 := 242) (pc' := 246) rfl (hb hby at_242) (by decide) (by decide) k) ?_
                show Gl p e below s room_1.cells room_1.slots (fun v h L => v = some (.int 1) ∧ Fr n0 L) (T.setTop (mkF m 246 #[.val (.long p0), .second, .val (.long p1), .second, .val (.long p2), .second, .val (.int p3), .val (.int c1), .val (.int l1), .val (.int t1), .val (.int c2), .val (.int l2), .val (.int t2), .val (.ref m1), .val (.ref m2), .val (.int kd), .unset] [(.int (1 : Int32))]))
                have ee : (own_eqv (own_mkc c1) (own_mkc c2) (own_mkc l1) (own_mkc l2) (own_mkc t1) (own_mkc t2)) = 1 := by rw [own_eqv, if_pos ⟨q0, q1, q2⟩]
                have g := j246 _ _ X N eT
                rw [ee] at g
                exact g
              · rw [if_neg q2]
                show Gl p e below s room_1.cells room_1.slots (fun v h L => v = some (.int 1) ∧ Fr n0 L) (T.setTop (mkF m 238 #[.val (.long p0), .second, .val (.long p1), .second, .val (.long p2), .second, .val (.int p3), .val (.int c1), .val (.int l1), .val (.int t1), .val (.int c2), .val (.int l2), .val (.int t2), .val (.ref m1), .val (.ref m2), .val (.int kd), .unset] [(.int (0 : Int32))]))
                refine Gl.by (fun t k => XS.ifYes X.here hx rfl (pc0 := 238) (pc' := 245) rfl (hb hby at_238) rfl ((if0 _ _).trans (teq (rfl : (0 : Int32) = 0)).1) (by decide) (by decide) k) ?_
                show Gl p e below s room_1.cells room_1.slots (fun v h L => v = some (.int 1) ∧ Fr n0 L) (T.setTop (mkF m 245 #[.val (.long p0), .second, .val (.long p1), .second, .val (.long p2), .second, .val (.int p3), .val (.int c1), .val (.int l1), .val (.int t1), .val (.int c2), .val (.int l2), .val (.int t2), .val (.ref m1), .val (.ref m2), .val (.int kd), .unset] []))
                refine Gl.by (fun t k => XS.iconst X.here hx rfl (hb hby at_245) k) ?_
                show Gl p e below s room_1.cells room_1.slots (fun v h L => v = some (.int 1) ∧ Fr n0 L) (T.setTop (mkF m 246 #[.val (.long p0), .second, .val (.long p1), .second, .val (.long p2), .second, .val (.int p3), .val (.int c1), .val (.int l1), .val (.int t1), .val (.int c2), .val (.int l2), .val (.int t2), .val (.ref m1), .val (.ref m2), .val (.int kd), .unset] [(.int (0 : Int32))]))
                have ee : (own_eqv (own_mkc c1) (own_mkc c2) (own_mkc l1) (own_mkc l2) (own_mkc t1) (own_mkc t2)) = 0 := by rw [own_eqv, if_neg (fun q => q2 q.2.2)]
                have g := j246 _ _ X N eT
                rw [ee] at g
                exact g
            · rw [if_neg q1]
              show Gl p e below s room_1.cells room_1.slots (fun v h L => v = some (.int 1) ∧ Fr n0 L) (T.setTop (mkF m 228 #[.val (.long p0), .second, .val (.long p1), .second, .val (.long p2), .second, .val (.int p3), .val (.int c1), .val (.int l1), .val (.int t1), .val (.int c2), .val (.int l2), .val (.int t2), .val (.ref m1), .val (.ref m2), .val (.int kd), .unset] [(.int (0 : Int32))]))
              refine Gl.by (fun t k => XS.ifYes X.here hx rfl (pc0 := 228) (pc' := 245) rfl (hb hby at_228) rfl ((if0 _ _).trans (teq (rfl : (0 : Int32) = 0)).1) (by decide) (by decide) k) ?_
              show Gl p e below s room_1.cells room_1.slots (fun v h L => v = some (.int 1) ∧ Fr n0 L) (T.setTop (mkF m 245 #[.val (.long p0), .second, .val (.long p1), .second, .val (.long p2), .second, .val (.int p3), .val (.int c1), .val (.int l1), .val (.int t1), .val (.int c2), .val (.int l2), .val (.int t2), .val (.ref m1), .val (.ref m2), .val (.int kd), .unset] []))
              refine Gl.by (fun t k => XS.iconst X.here hx rfl (hb hby at_245) k) ?_
              show Gl p e below s room_1.cells room_1.slots (fun v h L => v = some (.int 1) ∧ Fr n0 L) (T.setTop (mkF m 246 #[.val (.long p0), .second, .val (.long p1), .second, .val (.long p2), .second, .val (.int p3), .val (.int c1), .val (.int l1), .val (.int t1), .val (.int c2), .val (.int l2), .val (.int t2), .val (.ref m1), .val (.ref m2), .val (.int kd), .unset] [(.int (0 : Int32))]))
              have ee : (own_eqv (own_mkc c1) (own_mkc c2) (own_mkc l1) (own_mkc l2) (own_mkc t1) (own_mkc t2)) = 0 := by rw [own_eqv, if_neg (fun q => q1 q.2.1)]
              have g := j246 _ _ X N eT
              rw [ee] at g
              exact g
          · rw [if_neg q0]
            show Gl p e below s room_1.cells room_1.slots (fun v h L => v = some (.int 1) ∧ Fr n0 L) (T.setTop (mkF m 218 #[.val (.long p0), .second, .val (.long p1), .second, .val (.long p2), .second, .val (.int p3), .val (.int c1), .val (.int l1), .val (.int t1), .val (.int c2), .val (.int l2), .val (.int t2), .val (.ref m1), .val (.ref m2), .val (.int kd), .unset] [(.int (0 : Int32))]))
            refine Gl.by (fun t k => XS.ifYes X.here hx rfl (pc0 := 218) (pc' := 245) rfl (hb hby at_218) rfl ((if0 _ _).trans (teq (rfl : (0 : Int32) = 0)).1) (by decide) (by decide) k) ?_
            show Gl p e below s room_1.cells room_1.slots (fun v h L => v = some (.int 1) ∧ Fr n0 L) (T.setTop (mkF m 245 #[.val (.long p0), .second, .val (.long p1), .second, .val (.long p2), .second, .val (.int p3), .val (.int c1), .val (.int l1), .val (.int t1), .val (.int c2), .val (.int l2), .val (.int t2), .val (.ref m1), .val (.ref m2), .val (.int kd), .unset] []))
            refine Gl.by (fun t k => XS.iconst X.here hx rfl (hb hby at_245) k) ?_
            show Gl p e below s room_1.cells room_1.slots (fun v h L => v = some (.int 1) ∧ Fr n0 L) (T.setTop (mkF m 246 #[.val (.long p0), .second, .val (.long p1), .second, .val (.long p2), .second, .val (.int p3), .val (.int c1), .val (.int l1), .val (.int t1), .val (.int c2), .val (.int l2), .val (.int t2), .val (.ref m1), .val (.ref m2), .val (.int kd), .unset] [(.int (0 : Int32))]))
            have ee : (own_eqv (own_mkc c1) (own_mkc c2) (own_mkc l1) (own_mkc l2) (own_mkc t1) (own_mkc t2)) = 0 := by rw [own_eqv, if_neg (fun q => q0 q.1)]
            have g := j246 _ _ X N eT
            rw [ee] at g
            exact g
  have j71 : ∀ c1 l1 t1 c2 l2 : Int32, Gl p e below s room_1.cells room_1.slots (fun v h L => v = some (.int 1) ∧ Fr n0 L) (T.setTop (mkF m 71 #[.val (.long p0), .second, .val (.long p1), .second, .val (.long p2), .second, .val (.int p3), .val (.int c1), .val (.int l1), .val (.int t1), .val (.int c2), .val (.int l2), .unset, .unset, .unset, .unset, .unset] [])) := by
    intro c1 l1 t1 c2 l2
    refine Gl.by (fun t k => XS.iload X.here hx rfl (hb hby at_71) rfl k) ?_
    show Gl p e below s room_1.cells room_1.slots (fun v h L => v = some (.int 1) ∧ Fr n0 L) (T.setTop (mkF m 73 #[.val (.long p0), .second, .val (.long p1), .second, .val (.long p2), .second, .val (.int p3), .val (.int c1), .val (.int l1), .val (.int t1), .val (.int c2), .val (.int l2), .unset, .unset, .unset, .unset, .unset] [(.int p3)]))
    refine Gl.by (fun t k => XS.iconst X.here hx rfl (hb hby at_73) k) ?_
    show Gl p e below s room_1.cells room_1.slots (fun v h L => v = some (.int 1) ∧ Fr n0 L) (T.setTop (mkF m 74 #[.val (.long p0), .second, .val (.long p1), .second, .val (.long p2), .second, .val (.int p3), .val (.int c1), .val (.int l1), .val (.int t1), .val (.int c2), .val (.int l2), .unset, .unset, .unset, .unset, .unset] [(.int (4 : Int32)), (.int p3)]))
    refine Gl.by (fun t k => XS.iand X.here hx rfl (hb hby at_74) rfl k) ?_
    show Gl p e below s room_1.cells room_1.slots (fun v h L => v = some (.int 1) ∧ Fr n0 L) (T.setTop (mkF m 75 #[.val (.long p0), .second, .val (.long p1), .second, .val (.long p2), .second, .val (.int p3), .val (.int c1), .val (.int l1), .val (.int t1), .val (.int c2), .val (.int l2), .unset, .unset, .unset, .unset, .unset] [(.int (p3 &&& (4 : Int32)))]))
    by_cases hbit : (p3 &&& (4 : Int32)) = (0 : Int32)
    · refine Gl.by (fun t k => XS.ifYes X.here hx rfl (pc0 := 75) (pc' := 83) rfl (hb hby at_75) rfl ((if0 _ _).trans (teq hbit).1) (by decide) (by decide) k) ?_
      show Gl p e below s room_1.cells room_1.slots (fun v h L => v = some (.int 1) ∧ Fr n0 L) (T.setTop (mkF m 83 #[.val (.long p0), .second, .val (.long p1), .second, .val (.long p2), .second, .val (.int p3), .val (.int c1), .val (.int l1), .val (.int t1), .val (.int c2), .val (.int l2), .unset, .unset, .unset, .unset, .unset] []))
      refine Gl.by (fun t k => XS.lload X.here hx rfl (hb hby at_83) rfl k) ?_
      show Gl p e below s room_1.cells room_1.slots (fun v h L => v = some (.int 1) ∧ Fr n0 L) (T.setTop (mkF m 85 #[.val (.long p0), .second, .val (.long p1), .second, .val (.long p2), .second, .val (.int p3), .val (.int c1), .val (.int l1), .val (.int t1), .val (.int c2), .val (.int l2), .unset, .unset, .unset, .unset, .unset] [(.long p2)]))
      refine Gl.by (fun t k => XS.bipush X.here hx rfl (hb hby at_85) k) ?_
      show Gl p e below s room_1.cells room_1.slots (fun v h L => v = some (.int 1) ∧ Fr n0 L) (T.setTop (mkF m 87 #[.val (.long p0), .second, .val (.long p1), .second, .val (.long p2), .second, .val (.int p3), .val (.int c1), .val (.int l1), .val (.int t1), .val (.int c2), .val (.int l2), .unset, .unset, .unset, .unset, .unset] [(.int (32 : Int32)), (.long p2)]))
      refine Gl.by (fun t k => XS.lushr X.here hx rfl (hb hby at_87) rfl k) ?_
      show Gl p e below s room_1.cells room_1.slots (fun v h L => v = some (.int 1) ∧ Fr n0 L) (T.setTop (mkF m 88 #[.val (.long p0), .second, .val (.long p1), .second, .val (.long p2), .second, .val (.int p3), .val (.int c1), .val (.int l1), .val (.int t1), .val (.int c2), .val (.int l2), .unset, .unset, .unset, .unset, .unset] [(.long ((p2.toUInt64 >>> ((32 : Int32) &&& 0x3f).toInt64.toUInt64).toInt64))]))
      refine Gl.by (fun t k => X.ldc2Long hx hown (mvT hZ (hw _ (List.mem_of_getElem? (i := 0) rfl))) (g := (mkF m 88 #[.val (.long p0), .second, .val (.long p1), .second, .val (.long p2), .second, .val (.int p3), .val (.int c1), .val (.int l1), .val (.int t1), .val (.int c2), .val (.int l2), .unset, .unset, .unset, .unset, .unset] [(.long ((p2.toUInt64 >>> ((32 : Int32) &&& 0x3f).toInt64.toUInt64).toInt64))])) rfl (hb hby at_88) _ k) ?_
      show Gl p e below s room_1.cells room_1.slots (fun v h L => v = some (.int 1) ∧ Fr n0 L) (T.setTop (mkF m 91 #[.val (.long p0), .second, .val (.long p1), .second, .val (.long p2), .second, .val (.int p3), .val (.int c1), .val (.int l1), .val (.int t1), .val (.int c2), .val (.int l2), .unset, .unset, .unset, .unset, .unset] [(.long (131071 : Int64)), (.long ((p2.toUInt64 >>> ((32 : Int32) &&& 0x3f).toInt64.toUInt64).toInt64))]))
      refine Gl.by (fun t k => XS.land X.here hx rfl (hb hby at_91) rfl k) ?_
      show Gl p e below s room_1.cells room_1.slots (fun v h L => v = some (.int 1) ∧ Fr n0 L) (T.setTop (mkF m 92 #[.val (.long p0), .second, .val (.long p1), .second, .val (.long p2), .second, .val (.int p3), .val (.int c1), .val (.int l1), .val (.int t1), .val (.int c2), .val (.int l2), .unset, .unset, .unset, .unset, .unset] [(.long (((p2.toUInt64 >>> ((32 : Int32) &&& 0x3f).toInt64.toUInt64).toInt64) &&& (131071 : Int64)))]))
      refine Gl.by (fun t k => XS.l2i X.here hx rfl (hb hby at_92) rfl k) ?_
      show Gl p e below s room_1.cells room_1.slots (fun v h L => v = some (.int 1) ∧ Fr n0 L) (T.setTop (mkF m 93 #[.val (.long p0), .second, .val (.long p1), .second, .val (.long p2), .second, .val (.int p3), .val (.int c1), .val (.int l1), .val (.int t1), .val (.int c2), .val (.int l2), .unset, .unset, .unset, .unset, .unset] [(.int ((((p2.toUInt64 >>> ((32 : Int32) &&& 0x3f).toInt64.toUInt64).toInt64) &&& (131071 : Int64)).toInt32))]))
      refine Gl.by (fun t k => XS.istore X.here hx rfl (hb hby at_93) rfl (l' := #[.val (.long p0), .second, .val (.long p1), .second, .val (.long p2), .second, .val (.int p3), .val (.int c1), .val (.int l1), .val (.int t1), .val (.int c2), .val (.int l2), .val (.int ((((p2.toUInt64 >>> ((32 : Int32) &&& 0x3f).toInt64.toUInt64).toInt64) &&& (131071 : Int64)).toInt32)), .unset, .unset, .unset, .unset]) rfl k) ?_
      show Gl p e below s room_1.cells room_1.slots (fun v h L => v = some (.int 1) ∧ Fr n0 L) (T.setTop (mkF m 95 #[.val (.long p0), .second, .val (.long p1), .second, .val (.long p2), .second, .val (.int p3), .val (.int c1), .val (.int l1), .val (.int t1), .val (.int c2), .val (.int l2), .val (.int ((((p2.toUInt64 >>> ((32 : Int32) &&& 0x3f).toInt64.toUInt64).toInt64) &&& (131071 : Int64)).toInt32)), .unset, .unset, .unset, .unset] []))
      exact j95 _ _ _ _ _ _
    · refine Gl.by (fun t k => XS.ifNo X.here hx rfl (hb hby at_75) rfl ((if0 _ _).trans (feq hbit).1) k) ?_
      show Gl p e below s room_1.cells room_1.slots (fun v h L => v = some (.int 1) ∧ Fr n0 L) (T.setTop (mkF m 78 #[.val (.long p0), .second, .val (.long p1), .second, .val (.long p2), .second, .val (.int p3), .val (.int c1), .val (.int l1), .val (.int t1), .val (.int c2), .val (.int l2), .unset, .unset, .unset, .unset, .unset] []))
      refine Gl.by (fun t k => XS.iload X.here hx rfl (hb hby at_78) rfl k) ?_
      show Gl p e below s room_1.cells room_1.slots (fun v h L => v = some (.int 1) ∧ Fr n0 L) (T.setTop (mkF m 80 #[.val (.long p0), .second, .val (.long p1), .second, .val (.long p2), .second, .val (.int p3), .val (.int c1), .val (.int l1), .val (.int t1), .val (.int c2), .val (.int l2), .unset, .unset, .unset, .unset, .unset] [(.int t1)]))
      refine Gl.by (fun t k => XS.goto X.here hx rfl (pc0 := 80) (pc' := 93) rfl (hb hby at_80) (by decide) (by decide) k) ?_
      show Gl p e below s room_1.cells room_1.slots (fun v h L => v = some (.int 1) ∧ Fr n0 L) (T.setTop (mkF m 93 #[.val (.long p0), .second, .val (.long p1), .second, .val (.long p2), .second, .val (.int p3), .val (.int c1), .val (.int l1), .val (.int t1), .val (.int c2), .val (.int l2), .unset, .unset, .unset, .unset, .unset] [(.int t1)]))
      refine Gl.by (fun t k => XS.istore X.here hx rfl (hb hby at_93) rfl (l' := #[.val (.long p0), .second, .val (.long p1), .second, .val (.long p2), .second, .val (.int p3), .val (.int c1), .val (.int l1), .val (.int t1), .val (.int c2), .val (.int l2), .val (.int t1), .unset, .unset, .unset, .unset]) rfl k) ?_
      show Gl p e below s room_1.cells room_1.slots (fun v h L => v = some (.int 1) ∧ Fr n0 L) (T.setTop (mkF m 95 #[.val (.long p0), .second, .val (.long p1), .second, .val (.long p2), .second, .val (.int p3), .val (.int c1), .val (.int l1), .val (.int t1), .val (.int c2), .val (.int l2), .val (.int t1), .unset, .unset, .unset, .unset] []))
      exact j95 _ _ _ _ _ _
  have j48 : ∀ c1 l1 t1 c2 : Int32, Gl p e below s room_1.cells room_1.slots (fun v h L => v = some (.int 1) ∧ Fr n0 L) (T.setTop (mkF m 48 #[.val (.long p0), .second, .val (.long p1), .second, .val (.long p2), .second, .val (.int p3), .val (.int c1), .val (.int l1), .val (.int t1), .val (.int c2), .unset, .unset, .unset, .unset, .unset, .unset] [])) := by
    intro c1 l1 t1 c2
    refine Gl.by (fun t k => XS.iload X.here hx rfl (hb hby at_48) rfl k) ?_
    show Gl p e below s room_1.cells room_1.slots (fun v h L => v = some (.int 1) ∧ Fr n0 L) (T.setTop (mkF m 50 #[.val (.long p0), .second, .val (.long p1), .second, .val (.long p2), .second, .val (.int p3), .val (.int c1), .val (.int l1), .val (.int t1), .val (.int c2), .unset, .unset, .unset, .unset, .unset, .unset] [(.int p3)]))
    refine Gl.by (fun t k => XS.iconst X.here hx rfl (hb hby at_50) k) ?_
    show Gl p e below s room_1.cells room_1.slots (fun v h L => v = some (.int 1) ∧ Fr n0 L) (T.setTop (mkF m 51 #[.val (.long p0), .second, .val (.long p1), .second, .val (.long p2), .second, .val (.int p3), .val (.int c1), .val (.int l1), .val (.int t1), .val (.int c2), .unset, .unset, .unset, .unset, .unset, .unset] [(.int (2 : Int32)), (.int p3)]))
    refine Gl.by (fun t k => XS.iand X.here hx rfl (hb hby at_51) rfl k) ?_
    show Gl p e below s room_1.cells room_1.slots (fun v h L => v = some (.int 1) ∧ Fr n0 L) (T.setTop (mkF m 52 #[.val (.long p0), .second, .val (.long p1), .second, .val (.long p2), .second, .val (.int p3), .val (.int c1), .val (.int l1), .val (.int t1), .val (.int c2), .unset, .unset, .unset, .unset, .unset, .unset] [(.int (p3 &&& (2 : Int32)))]))
    by_cases hbit : (p3 &&& (2 : Int32)) = (0 : Int32)
    · refine Gl.by (fun t k => XS.ifYes X.here hx rfl (pc0 := 52) (pc' := 60) rfl (hb hby at_52) rfl ((if0 _ _).trans (teq hbit).1) (by decide) (by decide) k) ?_
      show Gl p e below s room_1.cells room_1.slots (fun v h L => v = some (.int 1) ∧ Fr n0 L) (T.setTop (mkF m 60 #[.val (.long p0), .second, .val (.long p1), .second, .val (.long p2), .second, .val (.int p3), .val (.int c1), .val (.int l1), .val (.int t1), .val (.int c2), .unset, .unset, .unset, .unset, .unset, .unset] []))
      refine Gl.by (fun t k => XS.lloadN X.here hx rfl (hb hby at_60) rfl k) ?_
      show Gl p e below s room_1.cells room_1.slots (fun v h L => v = some (.int 1) ∧ Fr n0 L) (T.setTop (mkF m 61 #[.val (.long p0), .second, .val (.long p1), .second, .val (.long p2), .second, .val (.int p3), .val (.int c1), .val (.int l1), .val (.int t1), .val (.int c2), .unset, .unset, .unset, .unset, .unset, .unset] [(.long p1)]))
      refine Gl.by (fun t k => XS.bipush X.here hx rfl (hb hby at_61) k) ?_
      show Gl p e below s room_1.cells room_1.slots (fun v h L => v = some (.int 1) ∧ Fr n0 L) (T.setTop (mkF m 63 #[.val (.long p0), .second, .val (.long p1), .second, .val (.long p2), .second, .val (.int p3), .val (.int c1), .val (.int l1), .val (.int t1), .val (.int c2), .unset, .unset, .unset, .unset, .unset, .unset] [(.int (32 : Int32)), (.long p1)]))
      refine Gl.by (fun t k => XS.lushr X.here hx rfl (hb hby at_63) rfl k) ?_
      show Gl p e below s room_1.cells room_1.slots (fun v h L => v = some (.int 1) ∧ Fr n0 L) (T.setTop (mkF m 64 #[.val (.long p0), .second, .val (.long p1), .second, .val (.long p2), .second, .val (.int p3), .val (.int c1), .val (.int l1), .val (.int t1), .val (.int c2), .unset, .unset, .unset, .unset, .unset, .unset] [(.long ((p1.toUInt64 >>> ((32 : Int32) &&& 0x3f).toInt64.toUInt64).toInt64))]))
      refine Gl.by (fun t k => X.ldc2Long hx hown (mvT hZ (hw _ (List.mem_of_getElem? (i := 0) rfl))) (g := (mkF m 64 #[.val (.long p0), .second, .val (.long p1), .second, .val (.long p2), .second, .val (.int p3), .val (.int c1), .val (.int l1), .val (.int t1), .val (.int c2), .unset, .unset, .unset, .unset, .unset, .unset] [(.long ((p1.toUInt64 >>> ((32 : Int32) &&& 0x3f).toInt64.toUInt64).toInt64))])) rfl (hb hby at_64) _ k) ?_
      show Gl p e below s room_1.cells room_1.slots (fun v h L => v = some (.int 1) ∧ Fr n0 L) (T.setTop (mkF m 67 #[.val (.long p0), .second, .val (.long p1), .second, .val (.long p2), .second, .val (.int p3), .val (.int c1), .val (.int l1), .val (.int t1), .val (.int c2), .unset, .unset, .unset, .unset, .unset, .unset] [(.long (131071 : Int64)), (.long ((p1.toUInt64 >>> ((32 : Int32) &&& 0x3f).toInt64.toUInt64).toInt64))]))
      refine Gl.by (fun t k => XS.land X.here hx rfl (hb hby at_67) rfl k) ?_
      show Gl p e below s room_1.cells room_1.slots (fun v h L => v = some (.int 1) ∧ Fr n0 L) (T.setTop (mkF m 68 #[.val (.long p0), .second, .val (.long p1), .second, .val (.long p2), .second, .val (.int p3), .val (.int c1), .val (.int l1), .val (.int t1), .val (.int c2), .unset, .unset, .unset, .unset, .unset, .unset] [(.long (((p1.toUInt64 >>> ((32 : Int32) &&& 0x3f).toInt64.toUInt64).toInt64) &&& (131071 : Int64)))]))
      refine Gl.by (fun t k => XS.l2i X.here hx rfl (hb hby at_68) rfl k) ?_
      show Gl p e below s room_1.cells room_1.slots (fun v h L => v = some (.int 1) ∧ Fr n0 L) (T.setTop (mkF m 69 #[.val (.long p0), .second, .val (.long p1), .second, .val (.long p2), .second, .val (.int p3), .val (.int c1), .val (.int l1), .val (.int t1), .val (.int c2), .unset, .unset, .unset, .unset, .unset, .unset] [(.int ((((p1.toUInt64 >>> ((32 : Int32) &&& 0x3f).toInt64.toUInt64).toInt64) &&& (131071 : Int64)).toInt32))]))
      refine Gl.by (fun t k => XS.istore X.here hx rfl (hb hby at_69) rfl (l' := #[.val (.long p0), .second, .val (.long p1), .second, .val (.long p2), .second, .val (.int p3), .val (.int c1), .val (.int l1), .val (.int t1), .val (.int c2), .val (.int ((((p1.toUInt64 >>> ((32 : Int32) &&& 0x3f).toInt64.toUInt64).toInt64) &&& (131071 : Int64)).toInt32)), .unset, .unset, .unset, .unset, .unset]) rfl k) ?_
      show Gl p e below s room_1.cells room_1.slots (fun v h L => v = some (.int 1) ∧ Fr n0 L) (T.setTop (mkF m 71 #[.val (.long p0), .second, .val (.long p1), .second, .val (.long p2), .second, .val (.int p3), .val (.int c1), .val (.int l1), .val (.int t1), .val (.int c2), .val (.int ((((p1.toUInt64 >>> ((32 : Int32) &&& 0x3f).toInt64.toUInt64).toInt64) &&& (131071 : Int64)).toInt32)), .unset, .unset, .unset, .unset, .unset] []))
      exact j71 _ _ _ _ _
    · refine Gl.by (fun t k => XS.ifNo X.here hx rfl (hb hby at_52) rfl ((if0 _ _).trans (feq hbit).1) k) ?_
      show Gl p e below s room_1.cells room_1.slots (fun v h L => v = some (.int 1) ∧ Fr n0 L) (T.setTop (mkF m 55 #[.val (.long p0), .second, .val (.long p1), .second, .val (.long p2), .second, .val (.int p3), .val (.int c1), .val (.int l1), .val (.int t1), .val (.int c2), .unset, .unset, .unset, .unset, .unset, .unset] []))
      refine Gl.by (fun t k => XS.iload X.here hx rfl (hb hby at_55) rfl k) ?_
      show Gl p e below s room_1.cells room_1.slots (fun v h L => v = some (.int 1) ∧ Fr n0 L) (T.setTop (mkF m 57 #[.val (.long p0), .second, .val (.long p1), .second, .val (.long p2), .second, .val (.int p3), .val (.int c1), .val (.int l1), .val (.int t1), .val (.int c2), .unset, .unset, .unset, .unset, .unset, .unset] [(.int l1)]))
      refine Gl.by (fun t k => XS.goto X.here hx rfl (pc0 := 57) (pc' := 69) rfl (hb hby at_57) (by decide) (by decide) k) ?_
      show Gl p e below s room_1.cells room_1.slots (fun v h L => v = some (.int 1) ∧ Fr n0 L) (T.setTop (mkF m 69 #[.val (.long p0), .second, .val (.long p1), .second, .val (.long p2), .second, .val (.int p3), .val (.int c1), .val (.int l1), .val (.int t1), .val (.int c2), .unset, .unset, .unset, .unset, .unset, .unset] [(.int l1)]))
      refine Gl.by (fun t k => XS.istore X.here hx rfl (hb hby at_69) rfl (l' := #[.val (.long p0), .second, .val (.long p1), .second, .val (.long p2), .second, .val (.int p3), .val (.int c1), .val (.int l1), .val (.int t1), .val (.int c2), .val (.int l1), .unset, .unset, .unset, .unset, .unset]) rfl k) ?_
      show Gl p e below s room_1.cells room_1.slots (fun v h L => v = some (.int 1) ∧ Fr n0 L) (T.setTop (mkF m 71 #[.val (.long p0), .second, .val (.long p1), .second, .val (.long p2), .second, .val (.int p3), .val (.int c1), .val (.int l1), .val (.int t1), .val (.int c2), .val (.int l1), .unset, .unset, .unset, .unset, .unset] []))
      exact j71 _ _ _ _ _
  show Gl p e below s room_1.cells room_1.slots (fun v h L => v = some (.int 1) ∧ Fr n0 L) (T.setTop (mkF m 0 #[.val (.long p0), .second, .val (.long p1), .second, .val (.long p2), .second, .val (.int p3), .unset, .unset, .unset, .unset, .unset, .unset, .unset, .unset, .unset, .unset] []))
  refine Gl.by (fun t k => XS.lloadN X.here hx rfl (hb hby at_0) rfl k) ?_
  show Gl p e below s room_1.cells room_1.slots (fun v h L => v = some (.int 1) ∧ Fr n0 L) (T.setTop (mkF m 1 #[.val (.long p0), .second, .val (.long p1), .second, .val (.long p2), .second, .val (.int p3), .unset, .unset, .unset, .unset, .unset, .unset, .unset, .unset, .unset, .unset] [(.long p0)]))
  refine Gl.by (fun t k => X.ldc2Long hx hown (mvT hZ (hw _ (List.mem_of_getElem? (i := 0) rfl))) (g := (mkF m 1 #[.val (.long p0), .second, .val (.long p1), .second, .val (.long p2), .second, .val (.int p3), .unset, .unset, .unset, .unset, .unset, .unset, .unset, .unset, .unset, .unset] [(.long p0)])) rfl (hb hby at_1) _ k) ?_
  show Gl p e below s room_1.cells room_1.slots (fun v h L => v = some (.int 1) ∧ Fr n0 L) (T.setTop (mkF m 4 #[.val (.long p0), .second, .val (.long p1), .second, .val (.long p2), .second, .val (.int p3), .unset, .unset, .unset, .unset, .unset, .unset, .unset, .unset, .unset, .unset] [(.long (131071 : Int64)), (.long p0)]))
  refine Gl.by (fun t k => XS.land X.here hx rfl (hb hby at_4) rfl k) ?_
  show Gl p e below s room_1.cells room_1.slots (fun v h L => v = some (.int 1) ∧ Fr n0 L) (T.setTop (mkF m 5 #[.val (.long p0), .second, .val (.long p1), .second, .val (.long p2), .second, .val (.int p3), .unset, .unset, .unset, .unset, .unset, .unset, .unset, .unset, .unset, .unset] [(.long (p0 &&& (131071 : Int64)))]))
  refine Gl.by (fun t k => XS.l2i X.here hx rfl (hb hby at_5) rfl k) ?_
  show Gl p e below s room_1.cells room_1.slots (fun v h L => v = some (.int 1) ∧ Fr n0 L) (T.setTop (mkF m 6 #[.val (.long p0), .second, .val (.long p1), .second, .val (.long p2), .second, .val (.int p3), .unset, .unset, .unset, .unset, .unset, .unset, .unset, .unset, .unset, .unset] [(.int ((p0 &&& (131071 : Int64)).toInt32))]))
  refine Gl.by (fun t k => XS.istore X.here hx rfl (hb hby at_6) rfl (l' := #[.val (.long p0), .second, .val (.long p1), .second, .val (.long p2), .second, .val (.int p3), .val (.int ((p0 &&& (131071 : Int64)).toInt32)), .unset, .unset, .unset, .unset, .unset, .unset, .unset, .unset, .unset]) rfl k) ?_
  show Gl p e below s room_1.cells room_1.slots (fun v h L => v = some (.int 1) ∧ Fr n0 L) (T.setTop (mkF m 8 #[.val (.long p0), .second, .val (.long p1), .second, .val (.long p2), .second, .val (.int p3), .val (.int ((p0 &&& (131071 : Int64)).toInt32)), .unset, .unset, .unset, .unset, .unset, .unset, .unset, .unset, .unset] []))
  refine Gl.by (fun t k => XS.lloadN X.here hx rfl (hb hby at_8) rfl k) ?_
  show Gl p e below s room_1.cells room_1.slots (fun v h L => v = some (.int 1) ∧ Fr n0 L) (T.setTop (mkF m 9 #[.val (.long p0), .second, .val (.long p1), .second, .val (.long p2), .second, .val (.int p3), .val (.int ((p0 &&& (131071 : Int64)).toInt32)), .unset, .unset, .unset, .unset, .unset, .unset, .unset, .unset, .unset] [(.long p1)]))
  refine Gl.by (fun t k => X.ldc2Long hx hown (mvT hZ (hw _ (List.mem_of_getElem? (i := 0) rfl))) (g := (mkF m 9 #[.val (.long p0), .second, .val (.long p1), .second, .val (.long p2), .second, .val (.int p3), .val (.int ((p0 &&& (131071 : Int64)).toInt32)), .unset, .unset, .unset, .unset, .unset, .unset, .unset, .unset, .unset] [(.long p1)])) rfl (hb hby at_9) _ k) ?_
  show Gl p e below s room_1.cells room_1.slots (fun v h L => v = some (.int 1) ∧ Fr n0 L) (T.setTop (mkF m 12 #[.val (.long p0), .second, .val (.long p1), .second, .val (.long p2), .second, .val (.int p3), .val (.int ((p0 &&& (131071 : Int64)).toInt32)), .unset, .unset, .unset, .unset, .unset, .unset, .unset, .unset, .unset] [(.long (131071 : Int64)), (.long p1)]))
  refine Gl.by (fun t k => XS.land X.here hx rfl (hb hby at_12) rfl k) ?_
  show Gl p e below s room_1.cells room_1.slots (fun v h L => v = some (.int 1) ∧ Fr n0 L) (T.setTop (mkF m 13 #[.val (.long p0), .second, .val (.long p1), .second, .val (.long p2), .second, .val (.int p3), .val (.int ((p0 &&& (131071 : Int64)).toInt32)), .unset, .unset, .unset, .unset, .unset, .unset, .unset, .unset, .unset] [(.long (p1 &&& (131071 : Int64)))]))
  refine Gl.by (fun t k => XS.l2i X.here hx rfl (hb hby at_13) rfl k) ?_
  show Gl p e below s room_1.cells room_1.slots (fun v h L => v = some (.int 1) ∧ Fr n0 L) (T.setTop (mkF m 14 #[.val (.long p0), .second, .val (.long p1), .second, .val (.long p2), .second, .val (.int p3), .val (.int ((p0 &&& (131071 : Int64)).toInt32)), .unset, .unset, .unset, .unset, .unset, .unset, .unset, .unset, .unset] [(.int ((p1 &&& (131071 : Int64)).toInt32))]))
  refine Gl.by (fun t k => XS.istore X.here hx rfl (hb hby at_14) rfl (l' := #[.val (.long p0), .second, .val (.long p1), .second, .val (.long p2), .second, .val (.int p3), .val (.int ((p0 &&& (131071 : Int64)).toInt32)), .val (.int ((p1 &&& (131071 : Int64)).toInt32)), .unset, .unset, .unset, .unset, .unset, .unset, .unset, .unset]) rfl k) ?_
  show Gl p e below s room_1.cells room_1.slots (fun v h L => v = some (.int 1) ∧ Fr n0 L) (T.setTop (mkF m 16 #[.val (.long p0), .second, .val (.long p1), .second, .val (.long p2), .second, .val (.int p3), .val (.int ((p0 &&& (131071 : Int64)).toInt32)), .val (.int ((p1 &&& (131071 : Int64)).toInt32)), .unset, .unset, .unset, .unset, .unset, .unset, .unset, .unset] []))
  refine Gl.by (fun t k => XS.lload X.here hx rfl (hb hby at_16) rfl k) ?_
  show Gl p e below s room_1.cells room_1.slots (fun v h L => v = some (.int 1) ∧ Fr n0 L) (T.setTop (mkF m 18 #[.val (.long p0), .second, .val (.long p1), .second, .val (.long p2), .second, .val (.int p3), .val (.int ((p0 &&& (131071 : Int64)).toInt32)), .val (.int ((p1 &&& (131071 : Int64)).toInt32)), .unset, .unset, .unset, .unset, .unset, .unset, .unset, .unset] [(.long p2)]))
  refine Gl.by (fun t k => X.ldc2Long hx hown (mvT hZ (hw _ (List.mem_of_getElem? (i := 0) rfl))) (g := (mkF m 18 #[.val (.long p0), .second, .val (.long p1), .second, .val (.long p2), .second, .val (.int p3), .val (.int ((p0 &&& (131071 : Int64)).toInt32)), .val (.int ((p1 &&& (131071 : Int64)).toInt32)), .unset, .unset, .unset, .unset, .unset, .unset, .unset, .unset] [(.long p2)])) rfl (hb hby at_18) _ k) ?_
  show Gl p e below s room_1.cells room_1.slots (fun v h L => v = some (.int 1) ∧ Fr n0 L) (T.setTop (mkF m 21 #[.val (.long p0), .second, .val (.long p1), .second, .val (.long p2), .second, .val (.int p3), .val (.int ((p0 &&& (131071 : Int64)).toInt32)), .val (.int ((p1 &&& (131071 : Int64)).toInt32)), .unset, .unset, .unset, .unset, .unset, .unset, .unset, .unset] [(.long (131071 : Int64)), (.long p2)]))
  refine Gl.by (fun t k => XS.land X.here hx rfl (hb hby at_21) rfl k) ?_
  show Gl p e below s room_1.cells room_1.slots (fun v h L => v = some (.int 1) ∧ Fr n0 L) (T.setTop (mkF m 22 #[.val (.long p0), .second, .val (.long p1), .second, .val (.long p2), .second, .val (.int p3), .val (.int ((p0 &&& (131071 : Int64)).toInt32)), .val (.int ((p1 &&& (131071 : Int64)).toInt32)), .unset, .unset, .unset, .unset, .unset, .unset, .unset, .unset] [(.long (p2 &&& (131071 : Int64)))]))
  refine Gl.by (fun t k => XS.l2i X.here hx rfl (hb hby at_22) rfl k) ?_
  show Gl p e below s room_1.cells room_1.slots (fun v h L => v = some (.int 1) ∧ Fr n0 L) (T.setTop (mkF m 23 #[.val (.long p0), .second, .val (.long p1), .second, .val (.long p2), .second, .val (.int p3), .val (.int ((p0 &&& (131071 : Int64)).toInt32)), .val (.int ((p1 &&& (131071 : Int64)).toInt32)), .unset, .unset, .unset, .unset, .unset, .unset, .unset, .unset] [(.int ((p2 &&& (131071 : Int64)).toInt32))]))
  refine Gl.by (fun t k => XS.istore X.here hx rfl (hb hby at_23) rfl (l' := #[.val (.long p0), .second, .val (.long p1), .second, .val (.long p2), .second, .val (.int p3), .val (.int ((p0 &&& (131071 : Int64)).toInt32)), .val (.int ((p1 &&& (131071 : Int64)).toInt32)), .val (.int ((p2 &&& (131071 : Int64)).toInt32)), .unset, .unset, .unset, .unset, .unset, .unset, .unset]) rfl k) ?_
  show Gl p e below s room_1.cells room_1.slots (fun v h L => v = some (.int 1) ∧ Fr n0 L) (T.setTop (mkF m 25 #[.val (.long p0), .second, .val (.long p1), .second, .val (.long p2), .second, .val (.int p3), .val (.int ((p0 &&& (131071 : Int64)).toInt32)), .val (.int ((p1 &&& (131071 : Int64)).toInt32)), .val (.int ((p2 &&& (131071 : Int64)).toInt32)), .unset, .unset, .unset, .unset, .unset, .unset, .unset] []))
  refine Gl.by (fun t k => XS.iload X.here hx rfl (hb hby at_25) rfl k) ?_
  show Gl p e below s room_1.cells room_1.slots (fun v h L => v = some (.int 1) ∧ Fr n0 L) (T.setTop (mkF m 27 #[.val (.long p0), .second, .val (.long p1), .second, .val (.long p2), .second, .val (.int p3), .val (.int ((p0 &&& (131071 : Int64)).toInt32)), .val (.int ((p1 &&& (131071 : Int64)).toInt32)), .val (.int ((p2 &&& (131071 : Int64)).toInt32)), .unset, .unset, .unset, .unset, .unset, .unset, .unset] [(.int p3)]))
  refine Gl.by (fun t k => XS.iconst X.here hx rfl (hb hby at_27) k) ?_
  show Gl p e below s room_1.cells room_1.slots (fun v h L => v = some (.int 1) ∧ Fr n0 L) (T.setTop (mkF m 28 #[.val (.long p0), .second, .val (.long p1), .second, .val (.long p2), .second, .val (.int p3), .val (.int ((p0 &&& (131071 : Int64)).toInt32)), .val (.int ((p1 &&& (131071 : Int64)).toInt32)), .val (.int ((p2 &&& (131071 : Int64)).toInt32)), .unset, .unset, .unset, .unset, .unset, .unset, .unset] [(.int (1 : Int32)), (.int p3)]))
  refine Gl.by (fun t k => XS.iand X.here hx rfl (hb hby at_28) rfl k) ?_
  show Gl p e below s room_1.cells room_1.slots (fun v h L => v = some (.int 1) ∧ Fr n0 L) (T.setTop (mkF m 29 #[.val (.long p0), .second, .val (.long p1), .second, .val (.long p2), .second, .val (.int p3), .val (.int ((p0 &&& (131071 : Int64)).toInt32)), .val (.int ((p1 &&& (131071 : Int64)).toInt32)), .val (.int ((p2 &&& (131071 : Int64)).toInt32)), .unset, .unset, .unset, .unset, .unset, .unset, .unset] [(.int (p3 &&& (1 : Int32)))]))
  by_cases hbit : (p3 &&& (1 : Int32)) = (0 : Int32)
  · refine Gl.by (fun t k => XS.ifYes X.here hx rfl (pc0 := 29) (pc' := 37) rfl (hb hby at_29) rfl ((if0 _ _).trans (teq hbit).1) (by decide) (by decide) k) ?_
    show Gl p e below s room_1.cells room_1.slots (fun v h L => v = some (.int 1) ∧ Fr n0 L) (T.setTop (mkF m 37 #[.val (.long p0), .second, .val (.long p1), .second, .val (.long p2), .second, .val (.int p3), .val (.int ((p0 &&& (131071 : Int64)).toInt32)), .val (.int ((p1 &&& (131071 : Int64)).toInt32)), .val (.int ((p2 &&& (131071 : Int64)).toInt32)), .unset, .unset, .unset, .unset, .unset, .unset, .unset] []))
    refine Gl.by (fun t k => XS.lloadN X.here hx rfl (hb hby at_37) rfl k) ?_
    show Gl p e below s room_1.cells room_1.slots (fun v h L => v = some (.int 1) ∧ Fr n0 L) (T.setTop (mkF m 38 #[.val (.long p0), .second, .val (.long p1), .second, .val (.long p2), .second, .val (.int p3), .val (.int ((p0 &&& (131071 : Int64)).toInt32)), .val (.int ((p1 &&& (131071 : Int64)).toInt32)), .val (.int ((p2 &&& (131071 : Int64)).toInt32)), .unset, .unset, .unset, .unset, .unset, .unset, .unset] [(.long p0)]))
    refine Gl.by (fun t k => XS.bipush X.here hx rfl (hb hby at_38) k) ?_
    show Gl p e below s room_1.cells room_1.slots (fun v h L => v = some (.int 1) ∧ Fr n0 L) (T.setTop (mkF m 40 #[.val (.long p0), .second, .val (.long p1), .second, .val (.long p2), .second, .val (.int p3), .val (.int ((p0 &&& (131071 : Int64)).toInt32)), .val (.int ((p1 &&& (131071 : Int64)).toInt32)), .val (.int ((p2 &&& (131071 : Int64)).toInt32)), .unset, .unset, .unset, .unset, .unset, .unset, .unset] [(.int (32 : Int32)), (.long p0)]))
    refine Gl.by (fun t k => XS.lushr X.here hx rfl (hb hby at_40) rfl k) ?_
    show Gl p e below s room_1.cells room_1.slots (fun v h L => v = some (.int 1) ∧ Fr n0 L) (T.setTop (mkF m 41 #[.val (.long p0), .second, .val (.long p1), .second, .val (.long p2), .second, .val (.int p3), .val (.int ((p0 &&& (131071 : Int64)).toInt32)), .val (.int ((p1 &&& (131071 : Int64)).toInt32)), .val (.int ((p2 &&& (131071 : Int64)).toInt32)), .unset, .unset, .unset, .unset, .unset, .unset, .unset] [(.long ((p0.toUInt64 >>> ((32 : Int32) &&& 0x3f).toInt64.toUInt64).toInt64))]))
    refine Gl.by (fun t k => X.ldc2Long hx hown (mvT hZ (hw _ (List.mem_of_getElem? (i := 0) rfl))) (g := (mkF m 41 #[.val (.long p0), .second, .val (.long p1), .second, .val (.long p2), .second, .val (.int p3), .val (.int ((p0 &&& (131071 : Int64)).toInt32)), .val (.int ((p1 &&& (131071 : Int64)).toInt32)), .val (.int ((p2 &&& (131071 : Int64)).toInt32)), .unset, .unset, .unset, .unset, .unset, .unset, .unset] [(.long ((p0.toUInt64 >>> ((32 : Int32) &&& 0x3f).toInt64.toUInt64).toInt64))])) rfl (hb hby at_41) _ k) ?_
    show Gl p e below s room_1.cells room_1.slots (fun v h L => v = some (.int 1) ∧ Fr n0 L) (T.setTop (mkF m 44 #[.val (.long p0), .second, .val (.long p1), .second, .val (.long p2), .second, .val (.int p3), .val (.int ((p0 &&& (131071 : Int64)).toInt32)), .val (.int ((p1 &&& (131071 : Int64)).toInt32)), .val (.int ((p2 &&& (131071 : Int64)).toInt32)), .unset, .unset, .unset, .unset, .unset, .unset, .unset] [(.long (131071 : Int64)), (.long ((p0.toUInt64 >>> ((32 : Int32) &&& 0x3f).toInt64.toUInt64).toInt64))]))
    refine Gl.by (fun t k => XS.land X.here hx rfl (hb hby at_44) rfl k) ?_
    show Gl p e below s room_1.cells room_1.slots (fun v h L => v = some (.int 1) ∧ Fr n0 L) (T.setTop (mkF m 45 #[.val (.long p0), .second, .val (.long p1), .second, .val (.long p2), .second, .val (.int p3), .val (.int ((p0 &&& (131071 : Int64)).toInt32)), .val (.int ((p1 &&& (131071 : Int64)).toInt32)), .val (.int ((p2 &&& (131071 : Int64)).toInt32)), .unset, .unset, .unset, .unset, .unset, .unset, .unset] [(.long (((p0.toUInt64 >>> ((32 : Int32) &&& 0x3f).toInt64.toUInt64).toInt64) &&& (131071 : Int64)))]))
    refine Gl.by (fun t k => XS.l2i X.here hx rfl (hb hby at_45) rfl k) ?_
    show Gl p e below s room_1.cells room_1.slots (fun v h L => v = some (.int 1) ∧ Fr n0 L) (T.setTop (mkF m 46 #[.val (.long p0), .second, .val (.long p1), .second, .val (.long p2), .second, .val (.int p3), .val (.int ((p0 &&& (131071 : Int64)).toInt32)), .val (.int ((p1 &&& (131071 : Int64)).toInt32)), .val (.int ((p2 &&& (131071 : Int64)).toInt32)), .unset, .unset, .unset, .unset, .unset, .unset, .unset] [(.int ((((p0.toUInt64 >>> ((32 : Int32) &&& 0x3f).toInt64.toUInt64).toInt64) &&& (131071 : Int64)).toInt32))]))
    refine Gl.by (fun t k => XS.istore X.here hx rfl (hb hby at_46) rfl (l' := #[.val (.long p0), .second, .val (.long p1), .second, .val (.long p2), .second, .val (.int p3), .val (.int ((p0 &&& (131071 : Int64)).toInt32)), .val (.int ((p1 &&& (131071 : Int64)).toInt32)), .val (.int ((p2 &&& (131071 : Int64)).toInt32)), .val (.int ((((p0.toUInt64 >>> ((32 : Int32) &&& 0x3f).toInt64.toUInt64).toInt64) &&& (131071 : Int64)).toInt32)), .unset, .unset, .unset, .unset, .unset, .unset]) rfl k) ?_
    show Gl p e below s room_1.cells room_1.slots (fun v h L => v = some (.int 1) ∧ Fr n0 L) (T.setTop (mkF m 48 #[.val (.long p0), .second, .val (.long p1), .second, .val (.long p2), .second, .val (.int p3), .val (.int ((p0 &&& (131071 : Int64)).toInt32)), .val (.int ((p1 &&& (131071 : Int64)).toInt32)), .val (.int ((p2 &&& (131071 : Int64)).toInt32)), .val (.int ((((p0.toUInt64 >>> ((32 : Int32) &&& 0x3f).toInt64.toUInt64).toInt64) &&& (131071 : Int64)).toInt32)), .unset, .unset, .unset, .unset, .unset, .unset] []))
    exact j48 _ _ _ _
  · refine Gl.by (fun t k => XS.ifNo X.here hx rfl (hb hby at_29) rfl ((if0 _ _).trans (feq hbit).1) k) ?_
    show Gl p e below s room_1.cells room_1.slots (fun v h L => v = some (.int 1) ∧ Fr n0 L) (T.setTop (mkF m 32 #[.val (.long p0), .second, .val (.long p1), .second, .val (.long p2), .second, .val (.int p3), .val (.int ((p0 &&& (131071 : Int64)).toInt32)), .val (.int ((p1 &&& (131071 : Int64)).toInt32)), .val (.int ((p2 &&& (131071 : Int64)).toInt32)), .unset, .unset, .unset, .unset, .unset, .unset, .unset] []))
    refine Gl.by (fun t k => XS.iload X.here hx rfl (hb hby at_32) rfl k) ?_
    show Gl p e below s room_1.cells room_1.slots (fun v h L => v = some (.int 1) ∧ Fr n0 L) (T.setTop (mkF m 34 #[.val (.long p0), .second, .val (.long p1), .second, .val (.long p2), .second, .val (.int p3), .val (.int ((p0 &&& (131071 : Int64)).toInt32)), .val (.int ((p1 &&& (131071 : Int64)).toInt32)), .val (.int ((p2 &&& (131071 : Int64)).toInt32)), .unset, .unset, .unset, .unset, .unset, .unset, .unset] [(.int ((p0 &&& (131071 : Int64)).toInt32))]))
    refine Gl.by (fun t k => XS.goto X.here hx rfl (pc0 := 34) (pc' := 46) rfl (hb hby at_34) (by decide) (by decide) k) ?_
    show Gl p e below s room_1.cells room_1.slots (fun v h L => v = some (.int 1) ∧ Fr n0 L) (T.setTop (mkF m 46 #[.val (.long p0), .second, .val (.long p1), .second, .val (.long p2), .second, .val (.int p3), .val (.int ((p0 &&& (131071 : Int64)).toInt32)), .val (.int ((p1 &&& (131071 : Int64)).toInt32)), .val (.int ((p2 &&& (131071 : Int64)).toInt32)), .unset, .unset, .unset, .unset, .unset, .unset, .unset] [(.int ((p0 &&& (131071 : Int64)).toInt32))]))
    refine Gl.by (fun t k => XS.istore X.here hx rfl (hb hby at_46) rfl (l' := #[.val (.long p0), .second, .val (.long p1), .second, .val (.long p2), .second, .val (.int p3), .val (.int ((p0 &&& (131071 : Int64)).toInt32)), .val (.int ((p1 &&& (131071 : Int64)).toInt32)), .val (.int ((p2 &&& (131071 : Int64)).toInt32)), .val (.int ((p0 &&& (131071 : Int64)).toInt32)), .unset, .unset, .unset, .unset, .unset, .unset]) rfl k) ?_
    show Gl p e below s room_1.cells room_1.slots (fun v h L => v = some (.int 1) ∧ Fr n0 L) (T.setTop (mkF m 48 #[.val (.long p0), .second, .val (.long p1), .second, .val (.long p2), .second, .val (.int p3), .val (.int ((p0 &&& (131071 : Int64)).toInt32)), .val (.int ((p1 &&& (131071 : Int64)).toInt32)), .val (.int ((p2 &&& (131071 : Int64)).toInt32)), .val (.int ((p0 &&& (131071 : Int64)).toInt32)), .unset, .unset, .unset, .unset, .unset, .unset] []))
    exact j48 _ _ _ _
set_option maxRecDepth 65536 in
set_option maxHeartbeats 40000000 in
theorem comes_1 {Post : Tables → Env → Array Value → State → Outcome → State → Prop} (hpost : ∀ tb e args s v u, (limb_1_1.after args s (.returned v) u = true ∧ limb_1_2.after args s (.returned v) u = true ∧ True) → FrameEnd s (.returned v) u (Jvm.fieldLocs frame_1_writes args s ++ Jvm.arrayLocs frame_1_arrays args s ++ Jvm.staticLocs frame_1_statics s) 56 192 → Post tb e args s (.returned v) u) :
    ArmFor flags0 classFile x code maxLocals ret World_1 tables_1 room_1 Calls_1 rest_1 Pre_1 Post := by
  intro l hfl _ _ p e ha hc hk s m args below hf hA hF happ hP
  obtain ⟨hcalls, hrest, hpre⟩ := hP
  obtain ⟨-, -, -, hnamed, -, -, -, hat⟩ := (Spec.applies_iff hf).mp happ
  obtain ⟨hg, hn⟩ := and_e (Cond.before_iff.mp (show (Jvm.Cond.and given_1 narrow_1).before args s = true from hpre))
  obtain ⟨hcnt, u0⟩ := and_e hg
  obtain ⟨a0, u1⟩ := and_e u0
  obtain ⟨a1, u2⟩ := and_e u1
  obtain ⟨a2, u3⟩ := and_e u2
  obtain ⟨w0, w1, w2, w3, rfl⟩ : ∃ w0 w1 w2 w3 : Value, args = #[w0, w1, w2, w3] := by
    have hs : args.size = 4 := by simpa [Cond.value, given_1] using hcnt
    obtain ⟨L⟩ := args
    match L, hs with
    | [w0, w1, w2, w3], _ => exact ⟨w0, w1, w2, w3, rfl⟩
  have hw := fun d (hd : d ∈ tables_1) => atoms_spec (ws := Jvm.Cond.code x code maxLocals ret :: tables_1) hat d (List.mem_cons_of_mem _ hd)
  obtain ⟨hsets, hown0⟩ := atoms_of _ (rest_1_c_eq ▸ (show rest_1_c.before _ s = true from hrest))
  have hfit : Fit s := fun {y c} hc i hi => by
    obtain ⟨ha, rfl⟩ := Array.getElem?_eq_some_iff.mp hc
    have q := List.all_eq_true.mp ((Array.all_eq_true_iff_forall_mem.mp hF) _ (Array.getElem_mem ha)) i (List.mem_range.mpr hi)
    simpa [Array.getElem?_eq_getElem hi] using q
  obtain ⟨p0, e0⟩ := isL_v a0
  obtain rfl : w0 = (.long p0) := Option.some.inj e0
  obtain ⟨p1, e1⟩ := isL_v a1
  obtain rfl : w1 = (.long p1) := Option.some.inj e1
  obtain ⟨p2, e2⟩ := isL_v a2
  obtain rfl : w2 = (.long p2) := Option.some.inj e2
  obtain ⟨p3, e3⟩ := is_v u3
  obtain rfl : w3 = (.int p3) := Option.some.inj e3
  have nz := not_v (Cond.before_iff.mp (hsets _ (List.mem_of_getElem? (i := 2) rfl)))
  obtain ⟨zc, ezc⟩ := is_v (Cond.before_iff.mp (hsets _ (List.mem_of_getElem? (i := 1) rfl)))
  have Szc : Sta s s.heap "java/lang/String" "COMPACT_STRINGS" "Z" (.int zc) := Sta.start ezc (Or.inl (hsets _ (List.mem_of_getElem? (i := 0) rfl)))
  have hzc : ¬ (zc = (0 : Int32)) := gotF (Cond.eq_ints ezc (Term.int_eval (0))) nz
  obtain ⟨n, o, h1, h2, h3, _, L, rfl, ⟨rfl, N⟩, hq⟩ := own_law l s _ hw tables_1 p0 p1 p2 p3 s.heap s.heap.size zc (Nat.le_refl _) Szc hzc (Old.start s) p e ha hc hk s m _ below hf ((Spec.applies_iff_loose hf).mp happ).1 ⟨rfl, State.Warmed39.refl s, rfl⟩ trivial
  refine ⟨n, _, h1, h2, h3, hpost _ _ _ _ _ _ ⟨Cond.after_iff.mpr rfl, Cond.after_iff.mpr (eq_i res_at (Term.int_eval (1)) rfl), trivial⟩ ⟨hq.1, hq.2.1, (hq.2.2.sift fun y hy => Or.inr (N y hy)).mono (by decide) (by decide)⟩⟩
theorem main_1_1 : Claimed_1_1 := comes_1 fun _ _ _ _ _ _ h hF => ⟨h.1, hF⟩
theorem main_1_2 : Claimed_1_2 := comes_1 fun _ _ _ _ _ _ h hF => ⟨h.2.1, hF⟩
end Jvm.Pilot.@@N@@
namespace Jvm.Pilot.@@N@@
open Jvm Jvm.ClassFile Sem Op Lib Jvm.Free Jvm.Stand Jvm.Pilot.@@N@@.Jvm.D
/-! MADE BY PROGRAM (witnessworld.py) out of the Statement's table words and the real class files: 20 classes; the members and pool entries that the words name. The judged class is class 1, her method 1. -/
namespace start1
open Jvm.ClassFile
def u (s : String) : CpInfo := .utf8 (stringToUtf16 s)
/-- a pool by its gaps: so many unusable entries, then the entry; so many at the end -/
def gap : Nat → List CpInfo → List CpInfo
  | 0, r => r
  | n + 1, r => .unusable :: gap n r
def poolList (es : List (Nat × CpInfo)) (last : Nat) : List CpInfo := es.foldr (fun e r => gap e.1 (e.2 :: r)) (gap last [])
def pool (es : List (Nat × CpInfo)) (last : Nat) : Array CpInfo := ⟨poolList es last⟩
def fileOf (pool : Array CpInfo) (this : Nat) (attrs : Array Attribute := #[]) (ms : Array MethodInfo := #[]) (fl : Nat := 33) (sup : Nat := 0) (ifs : Array Nat := #[]) (fds : Array FieldInfo := #[]) : ClassFile where
  minorVersion := 0
  majorVersion := 65
  constantPool := pool
  accessFlags := fl
  thisClass := this
  superClass := sup
  interfaces := ifs
  fields := fds
  methods := ms
  attributes := attrs
def plain (name : String) (sup : Option ClassId) : Class where
  name := name
  kind := .ordinary
  loader := none
  accessFlags := 33
  super := sup
  interfaces := #[]
  cf := none
  fields := #[]
  methods := #[]
  instanceTypes := #[]
  staticTypes := #[]
  resolved := #[]
  callSites := []
  init := .initialized
  statics := none
  mirror := none

def pool0 : Array CpInfo := pool [(5, u "<init>"), (0, u "()V"), (1, .class_ 10), (1, u "java/lang/Object")] 113

def k0c0 : Code := { maxStack := 0, maxLocals := 1, code := object_method_1_code, exceptionTable := #[], attributes := #[] }
def k0m0 : Method := { name := "<init>", desc := "()V", sig := { parameters := [], returnType := none }, accessFlags := 1, code := some k0c0 }
/-- java/lang/Object -/
def k0 : Class := { plain "java/lang/Object" none with
  accessFlags := 33
  interfaces := #[]
  cf := some (fileOf pool0 8 #[] #[{ accessFlags := 1, nameIndex := 5, descriptorIndex := 6, attributes := #[] }] 33 0 #[] #[])
  fields := #[]
  methods := #[k0m0]
  instanceTypes := #[]
  staticTypes := #[]
  resolved := Array.replicate 124 none
  statics := none }

def pool1 : Array CpInfo := pool [(2, .class_ 4), (1, u "java/lang/Object"), (0, u "<init>"), (0, u "()V"), (0, .long 131071), (1, .class_ 10), (0, u "com/example/gather/gather/service/ozs/OzsMessage"), (0, .methodref 12 13), (0, .class_ 14), (0, .nameAndType 15 16), (0, u "com/example/gather/gather/service/ozs/OzsMessageEqualsPinLaw"), (0, u "mk"), (0, u "(I)Ljava/lang/String;"), (0, .methodref 9 18), (0, .nameAndType 5 19), (0, u "(Ljava/lang/String;Ljava/lang/String;Ljava/lang/String;)V"), (0, .methodref 9 21), (0, .nameAndType 22 23), (0, u "equals"), (0, u "(Ljava/lang/Object;)Z"), (0, .methodref 12 25), (0, .nameAndType 26 27), (0, u "same"), (0, u "(II)Z"), (0, .class_ 29), (0, u "java/lang/String"), (0, .methodref 28 31), (0, .nameAndType 5 32), (0, u "([C)V"), (2, u "law"), (0, u "(JJJI)Z")] 3

def k1m0 : Method := { name := "<init>", desc := "()V", sig := { parameters := [], returnType := none }, accessFlags := 1, code := none }
def k1c1 : Code := { maxStack := 5, maxLocals := 17, code := code, exceptionTable := #[], attributes := #[] }
def k1m1 : Method := { name := "law", desc := "(JJJI)Z", sig := { parameters := [.long, .long, .long, .int], returnType := some .boolean }, accessFlags := 9, code := some k1c1 }
def k1c2 : Code := { maxStack := 6, maxLocals := 3, code := method_3_code, exceptionTable := #[], attributes := #[] }
def k1m2 : Method := { name := "mk", desc := "(I)Ljava/lang/String;", sig := { parameters := [.int], returnType := some (.object "java/lang/String") }, accessFlags := 10, code := some k1c2 }
def k1c3 : Code := { maxStack := 3, maxLocals := 2, code := method_4_code, exceptionTable := #[], attributes := #[] }
def k1m3 : Method := { name := "same", desc := "(II)Z", sig := { parameters := [.int, .int], returnType := some .boolean }, accessFlags := 10, code := some k1c3 }
/-- com/example/gather/gather/service/ozs/OzsMessageEqualsPinLaw -/
def k1 : Class := { plain "com/example/gather/gather/service/ozs/OzsMessageEqualsPinLaw" (some 0) with
  accessFlags := 49
  interfaces := #[]
  cf := some (fileOf pool1 12 #[] #[{ accessFlags := 1, nameIndex := 5, descriptorIndex := 6, attributes := #[] }, { accessFlags := 9, nameIndex := 35, descriptorIndex := 36, attributes := #[] }, { accessFlags := 10, nameIndex := 15, descriptorIndex := 16, attributes := #[] }, { accessFlags := 10, nameIndex := 26, descriptorIndex := 27, attributes := #[] }] 49 2 #[] #[])
  fields := #[]
  methods := #[k1m0, k1m1, k1m2, k1m3]
  instanceTypes := #[]
  staticTypes := #[]
  resolved := Array.replicate 40 none
  statics := none }

def pool2 : Array CpInfo := pool [(1, .methodref 2 3), (0, .class_ 4), (0, .nameAndType 5 6), (0, u "java/lang/Object"), (0, u "<init>"), (0, u "()V"), (0, .fieldref 8 9), (0, .class_ 10), (0, .nameAndType 11 12), (0, u "com/example/gather/gather/service/ozs/OzsMessage"), (0, u "code"), (0, u "Ljava/lang/String;"), (0, .fieldref 8 14), (0, .nameAndType 15 12), (0, u "level"), (0, .fieldref 8 17), (0, .nameAndType 18 12), (0, u "text"), (4, .methodref 24 25), (0, .class_ 26), (0, .nameAndType 27 28), (0, u "java/lang/String"), (0, u "equals"), (0, u "(Ljava/lang/Object;)Z"), (2, u "SUCCESS"), (0, u "Lcom/example/gather/gather/service/ozs/OzsMessage;"), (6, u "NO_DATA"), (16, u "(Ljava/lang/String;Ljava/lang/String;Ljava/lang/String;)V")] 17

def k2c0 : Code := { maxStack := 2, maxLocals := 4, code := prog_61_method_1_code, exceptionTable := #[], attributes := #[] }
def k2m0 : Method := { name := "<init>", desc := "(Ljava/lang/String;Ljava/lang/String;Ljava/lang/String;)V", sig := { parameters := [(.object "java/lang/String"), (.object "java/lang/String"), (.object "java/lang/String")], returnType := none }, accessFlags := 1, code := some k2c0 }
def k2c1 : Code := { maxStack := 2, maxLocals := 3, code := prog_61_method_6_code, exceptionTable := #[], attributes := #[] }
def k2m1 : Method := { name := "equals", desc := "(Ljava/lang/Object;)Z", sig := { parameters := [(.object "java/lang/Object")], returnType := some .boolean }, accessFlags := 1, code := some k2c1 }
/-- com/example/gather/gather/service/ozs/OzsMessage -/
def k2 : Class := { plain "com/example/gather/gather/service/ozs/OzsMessage" (some 0) with
  accessFlags := 33
  interfaces := #[]
  cf := some (fileOf pool2 8 #[] #[{ accessFlags := 1, nameIndex := 5, descriptorIndex := 56, attributes := #[] }, { accessFlags := 1, nameIndex := 27, descriptorIndex := 28, attributes := #[] }] 33 2 #[] #[{ accessFlags := 25, nameIndex := 31, descriptorIndex := 32, attributes := #[] }, { accessFlags := 25, nameIndex := 39, descriptorIndex := 32, attributes := #[] }, { accessFlags := 18, nameIndex := 11, descriptorIndex := 12, attributes := #[] }, { accessFlags := 18, nameIndex := 15, descriptorIndex := 12, attributes := #[] }, { accessFlags := 18, nameIndex := 18, descriptorIndex := 12, attributes := #[] }])
  fields := #[{ name := "SUCCESS", type := (.object "com/example/gather/gather/service/ozs/OzsMessage"), accessFlags := 25, slot := 0, constantValue := 0 }, { name := "NO_DATA", type := (.object "com/example/gather/gather/service/ozs/OzsMessage"), accessFlags := 25, slot := 1, constantValue := 0 }, { name := "code", type := (.object "java/lang/String"), accessFlags := 18, slot := 0, constantValue := 0 }, { name := "level", type := (.object "java/lang/String"), accessFlags := 18, slot := 1, constantValue := 0 }, { name := "text", type := (.object "java/lang/String"), accessFlags := 18, slot := 2, constantValue := 0 }]
  methods := #[k2m0, k2m1]
  instanceTypes := #[(.object "java/lang/String"), (.object "java/lang/String"), (.object "java/lang/String")]
  staticTypes := #[(.object "com/example/gather/gather/service/ozs/OzsMessage"), (.object "com/example/gather/gather/service/ozs/OzsMessage")]
  resolved := Array.replicate 74 none
  statics := none }

def pool3 : Array CpInfo := pool [(1, .class_ 2), (0, u "java/io/Serializable"), (0, .class_ 4), (0, u "java/lang/Object")] 2

/-- java/io/Serializable -/
def k3 : Class := { plain "java/io/Serializable" (some 0) with
  accessFlags := 1537
  interfaces := #[]
  cf := some (fileOf pool3 1 #[] #[] 1537 3 #[] #[])
  fields := #[]
  methods := #[]
  instanceTypes := #[]
  staticTypes := #[]
  resolved := Array.replicate 7 none
  statics := none }

def pool4 : Array CpInfo := pool [(1, .class_ 2), (0, u "java/lang/Comparable"), (0, .class_ 4), (0, u "java/lang/Object")] 7

/-- java/lang/Comparable -/
def k4 : Class := { plain "java/lang/Comparable" (some 0) with
  accessFlags := 1537
  interfaces := #[]
  cf := some (fileOf pool4 1 #[] #[] 1537 3 #[] #[])
  fields := #[]
  methods := #[]
  instanceTypes := #[]
  staticTypes := #[]
  resolved := Array.replicate 12 none
  statics := none }

def pool5 : Array CpInfo := pool [(2, .class_ 4), (1, u "java/lang/CharSequence"), (42, .class_ 48), (0, u "java/lang/CharSequence$1CodePointIterator"), (10, .class_ 60), (0, u "java/lang/CharSequence$1CharIterator"), (5, .class_ 67), (0, u "java/lang/Object")] 63

/-- java/lang/CharSequence -/
def k5 : Class := { plain "java/lang/CharSequence" (some 0) with
  accessFlags := 1537
  interfaces := #[]
  cf := some (fileOf pool5 2 #[.nestMembers #[47, 59]] #[] 1537 66 #[] #[])
  fields := #[]
  methods := #[]
  instanceTypes := #[]
  staticTypes := #[]
  resolved := Array.replicate 131 none
  statics := none }

def pool6 : Array CpInfo := pool [(1, .class_ 2), (0, u "java/lang/constant/Constable"), (0, .class_ 4), (0, u "java/lang/Object")] 6

/-- java/lang/constant/Constable -/
def k6 : Class := { plain "java/lang/constant/Constable" (some 0) with
  accessFlags := 1537
  interfaces := #[]
  cf := some (fileOf pool6 1 #[] #[] 1537 3 #[] #[])
  fields := #[]
  methods := #[]
  instanceTypes := #[]
  staticTypes := #[]
  resolved := Array.replicate 11 none
  statics := none }

def pool7 : Array CpInfo := pool [(1, .class_ 2), (0, u "java/lang/constant/ConstantDesc"), (0, .class_ 4), (0, u "java/lang/Object")] 32

/-- java/lang/constant/ConstantDesc -/
def k7 : Class := { plain "java/lang/constant/ConstantDesc" (some 0) with
  accessFlags := 1537
  interfaces := #[]
  cf := some (fileOf pool7 1 #[] #[] 1537 3 #[] #[])
  fields := #[]
  methods := #[]
  instanceTypes := #[]
  staticTypes := #[]
  resolved := Array.replicate 37 none
  statics := none }

def pool8 : Array CpInfo := pool [(1, .methodref 2 3), (0, .class_ 4), (0, .nameAndType 5 6), (0, u "java/lang/Object"), (0, u "<init>"), (0, u "()V"), (2, .fieldref 10 11), (0, .class_ 12), (0, .nameAndType 13 14), (0, u "java/lang/String"), (0, u "value"), (0, u "[B"), (0, .fieldref 10 16), (0, .nameAndType 17 18), (0, u "coder"), (0, u "B"), (2, u "hash"), (0, u "I"), (2, u "hashIsZero"), (0, u "Z"), (0, .methodref 10 28), (0, .nameAndType 5 29), (0, u "([CIILjava/lang/Void;)V"), (8, .fieldref 10 39), (0, .nameAndType 40 26), (0, u "COMPACT_STRINGS"), (1, .class_ 44), (1, u "java/lang/StringUTF16"), (0, u "compress"), (1, .methodref 42 48), (0, .nameAndType 49 50), (0, u "coderFromArrayLen"), (0, u "([BI)B"), (56, .class_ 109), (1, u "java/lang/StringLatin1"), (67, .methodref 42 178), (0, .nameAndType 45 179), (0, u "([CII)[B"), (361, .methodref 107 542), (0, .nameAndType 543 544), (0, u "equals"), (0, u "([B[B)Z"), (28, u "(Ljava/lang/Object;)Z"), (1, .class_ 576), (0, u "java/lang/CharSequence"), (22, u "CASE_INSENSITIVE_ORDER"), (0, u "Ljava/util/Comparator;"), (409, u "([C)V"), (90, u "serialPersistentFields"), (0, u "[Ljava/io/ObjectStreamField;"), (0, .class_ 1104), (0, u "java/lang/String$CaseInsensitiveComparator"), (1, .class_ 1107), (0, u "java/io/Serializable"), (0, .class_ 1109), (0, u "java/lang/Comparable"), (0, .class_ 1111), (0, u "java/lang/constant/Constable"), (0, .class_ 1113), (0, u "java/lang/constant/ConstantDesc"), (2, u "serialVersionUID"), (0, u "J"), (3, u "REPL"), (0, u "C"), (2, u "LATIN1"), (1, u "UTF16")] 323

def k8m0 : Method := { name := "<init>", desc := "()V", sig := { parameters := [], returnType := none }, accessFlags := 1, code := none }
def k8c1 : Code := { maxStack := 5, maxLocals := 2, code := jdk_42_method_3_code, exceptionTable := #[], attributes := #[] }
def k8m1 : Method := { name := "<init>", desc := "([C)V", sig := { parameters := [(.array .char)], returnType := none }, accessFlags := 1, code := some k8c1 }
def k8c2 : Code := { maxStack := 2, maxLocals := 3, code := jdk_42_method_66_code, exceptionTable := #[], attributes := #[] }
def k8m2 : Method := { name := "equals", desc := "(Ljava/lang/Object;)Z", sig := { parameters := [(.object "java/lang/Object")], returnType := some .boolean }, accessFlags := 1, code := some k8c2 }
def k8c3 : Code := { maxStack := 4, maxLocals := 6, code := jdk_42_method_149_code, exceptionTable := #[], attributes := #[] }
def k8m3 : Method := { name := "<init>", desc := "([CIILjava/lang/Void;)V", sig := { parameters := [(.array .char), .int, .int, (.object "java/lang/Void")], returnType := none }, accessFlags := 2, code := some k8c3 }
/-- java/lang/String -/
def k8 : Class := { plain "java/lang/String" (some 0) with
  accessFlags := 49
  interfaces := #[3, 4, 5, 6, 7]
  cf := some (fileOf pool8 10 #[.nestMembers #[1103]] #[{ accessFlags := 1, nameIndex := 5, descriptorIndex := 6, attributes := #[] }, { accessFlags := 1, nameIndex := 5, descriptorIndex := 1010, attributes := #[] }, { accessFlags := 1, nameIndex := 543, descriptorIndex := 573, attributes := #[] }, { accessFlags := 2, nameIndex := 5, descriptorIndex := 29, attributes := #[] }] 49 2 #[1106, 1108, 575, 1110, 1112] #[{ accessFlags := 18, nameIndex := 13, descriptorIndex := 14, attributes := #[] }, { accessFlags := 18, nameIndex := 17, descriptorIndex := 18, attributes := #[] }, { accessFlags := 2, nameIndex := 21, descriptorIndex := 22, attributes := #[] }, { accessFlags := 2, nameIndex := 25, descriptorIndex := 26, attributes := #[] }, { accessFlags := 26, nameIndex := 1116, descriptorIndex := 1117, attributes := #[] }, { accessFlags := 24, nameIndex := 40, descriptorIndex := 26, attributes := #[] }, { accessFlags := 26, nameIndex := 1101, descriptorIndex := 1102, attributes := #[] }, { accessFlags := 26, nameIndex := 1121, descriptorIndex := 1122, attributes := #[] }, { accessFlags := 25, nameIndex := 599, descriptorIndex := 600, attributes := #[] }, { accessFlags := 24, nameIndex := 1125, descriptorIndex := 18, attributes := #[] }, { accessFlags := 24, nameIndex := 1127, descriptorIndex := 18, attributes := #[] }])
  fields := #[{ name := "value", type := (.array .byte), accessFlags := 18, slot := 0, constantValue := 0 }, { name := "coder", type := .byte, accessFlags := 18, slot := 1, constantValue := 0 }, { name := "hash", type := .int, accessFlags := 2, slot := 2, constantValue := 0 }, { name := "hashIsZero", type := .boolean, accessFlags := 2, slot := 3, constantValue := 0 }, { name := "serialVersionUID", type := .long, accessFlags := 26, slot := 0, constantValue := 0 }, { name := "COMPACT_STRINGS", type := .boolean, accessFlags := 24, slot := 1, constantValue := 0 }, { name := "serialPersistentFields", type := (.array (.object "java/io/ObjectStreamField")), accessFlags := 26, slot := 2, constantValue := 0 }, { name := "REPL", type := .char, accessFlags := 26, slot := 3, constantValue := 0 }, { name := "CASE_INSENSITIVE_ORDER", type := (.object "java/util/Comparator"), accessFlags := 25, slot := 4, constantValue := 0 }, { name := "LATIN1", type := .byte, accessFlags := 24, slot := 5, constantValue := 0 }, { name := "UTF16", type := .byte, accessFlags := 24, slot := 6, constantValue := 0 }]
  methods := #[k8m0, k8m1, k8m2, k8m3]
  instanceTypes := #[(.array .byte), .byte, .int, .boolean]
  staticTypes := #[.long, .boolean, (.array (.object "java/io/ObjectStreamField")), .char, (.object "java/util/Comparator"), .byte, .byte]
  resolved := Array.replicate 1451 none
  statics := some 0 }

def pool9 : Array CpInfo := pool [(6, .class_ 8), (1, u "java/lang/Object"), (0, u "<init>"), (0, u "()V"), (1, .class_ 14), (1, u "java/lang/StringUTF16"), (31, u "$assertionsDisabled"), (0, u "Z"), (13, u "HI_BYTE_SHIFT"), (0, u "I"), (2, u "LO_BYTE_SHIFT"), (49, .methodref 12 116), (0, .nameAndType 117 118), (0, u "compress"), (0, u "([CI[BII)I"), (3, u "([CII)[B"), (138, u "coderFromArrayLen"), (0, u "([BI)B"), (106, .class_ 371), (1, u "java/lang/StringUTF16$LinesSpliterator"), (58, u "MAX_LENGTH"), (196, .class_ 628), (0, u "java/lang/StringUTF16$CodePointsSpliterator"), (0, .class_ 630), (0, u "java/lang/StringUTF16$CharsSpliterator")] 4

def k9m0 : Method := { name := "<init>", desc := "()V", sig := { parameters := [], returnType := none }, accessFlags := 0, code := none }
def k9c1 : Code := { maxStack := 2, maxLocals := 2, code := jdk_52_method_15_code, exceptionTable := #[], attributes := #[] }
def k9m1 : Method := { name := "coderFromArrayLen", desc := "([BI)B", sig := { parameters := [(.array .byte), .int], returnType := some .byte }, accessFlags := 8, code := some k9c1 }
def k9c2 : Code := { maxStack := 5, maxLocals := 6, code := jdk_52_method_16_code, exceptionTable := #[], attributes := #[] }
def k9m2 : Method := { name := "compress", desc := "([CII)[B", sig := { parameters := [(.array .char), .int, .int], returnType := some (.array .byte) }, accessFlags := 9, code := some k9c2 }
def k9c3 : Code := { maxStack := 3, maxLocals := 7, code := jdk_52_method_21_code, exceptionTable := #[], attributes := #[] }
def k9m3 : Method := { name := "compress", desc := "([CI[BII)I", sig := { parameters := [(.array .char), .int, (.array .byte), .int, .int], returnType := some .int }, accessFlags := 9, code := some k9c3 }
/-- java/lang/StringUTF16 -/
def k9 : Class := { plain "java/lang/StringUTF16" (some 0) with
  accessFlags := 48
  interfaces := #[]
  cf := some (fileOf pool9 12 #[.nestMembers #[627, 629, 369]] #[{ accessFlags := 0, nameIndex := 9, descriptorIndex := 10, attributes := #[] }, { accessFlags := 8, nameIndex := 261, descriptorIndex := 262, attributes := #[] }, { accessFlags := 9, nameIndex := 117, descriptorIndex := 122, attributes := #[] }, { accessFlags := 9, nameIndex := 117, descriptorIndex := 118, attributes := #[] }] 48 6 #[] #[{ accessFlags := 26, nameIndex := 61, descriptorIndex := 62, attributes := #[] }, { accessFlags := 26, nameIndex := 65, descriptorIndex := 62, attributes := #[] }, { accessFlags := 24, nameIndex := 430, descriptorIndex := 62, attributes := #[] }, { accessFlags := 4120, nameIndex := 46, descriptorIndex := 47, attributes := #[] }])
  fields := #[{ name := "HI_BYTE_SHIFT", type := .int, accessFlags := 26, slot := 0, constantValue := 0 }, { name := "LO_BYTE_SHIFT", type := .int, accessFlags := 26, slot := 1, constantValue := 0 }, { name := "MAX_LENGTH", type := .int, accessFlags := 24, slot := 2, constantValue := 0 }, { name := "$assertionsDisabled", type := .boolean, accessFlags := 4120, slot := 3, constantValue := 0 }]
  methods := #[k9m0, k9m1, k9m2, k9m3]
  instanceTypes := #[]
  staticTypes := #[.int, .int, .int, .boolean]
  resolved := Array.replicate 635 none
  statics := none }

def pool10 : Array CpInfo := pool [(4, .class_ 6), (1, u "java/lang/Object"), (0, u "<init>"), (0, u "()V"), (5, .class_ 16), (1, u "java/lang/StringLatin1"), (104, u "$assertionsDisabled"), (0, u "Z"), (98, .class_ 223), (1, u "java/lang/StringLatin1$LinesSpliterator"), (57, u "equals"), (0, u "([B[B)Z"), (107, .class_ 391), (0, u "java/lang/StringLatin1$CharsSpliterator")] 3

def k10m0 : Method := { name := "<init>", desc := "()V", sig := { parameters := [], returnType := none }, accessFlags := 0, code := none }
def k10c1 : Code := { maxStack := 3, maxLocals := 3, code := jdk_43_method_13_code, exceptionTable := #[], attributes := #[] }
def k10m1 : Method := { name := "equals", desc := "([B[B)Z", sig := { parameters := [(.array .byte), (.array .byte)], returnType := some .boolean }, accessFlags := 9, code := some k10c1 }
/-- java/lang/StringLatin1 -/
def k10 : Class := { plain "java/lang/StringLatin1" (some 0) with
  accessFlags := 48
  interfaces := #[]
  cf := some (fileOf pool10 14 #[.nestMembers #[390, 221]] #[{ accessFlags := 0, nameIndex := 7, descriptorIndex := 8, attributes := #[] }, { accessFlags := 9, nameIndex := 281, descriptorIndex := 282, attributes := #[] }] 48 4 #[] #[{ accessFlags := 4120, nameIndex := 121, descriptorIndex := 122, attributes := #[] }])
  fields := #[{ name := "$assertionsDisabled", type := .boolean, accessFlags := 4120, slot := 0, constantValue := 0 }]
  methods := #[k10m0, k10m1]
  instanceTypes := #[]
  staticTypes := #[.boolean]
  resolved := Array.replicate 395 none
  statics := none }

def pool11 : Array CpInfo := pool [(2, .class_ 4), (1, u "java/lang/Object"), (0, u "<init>"), (0, u "()V"), (17, .class_ 26), (1, u "jdk/internal/util/Preconditions"), (28, .class_ 56), (0, u "jdk/internal/util/Preconditions$4"), (57, .class_ 115), (0, u "jdk/internal/util/Preconditions$1"), (7, u "SIOOBE_FORMATTER"), (0, u "Ljava/util/function/BiFunction;"), (0, .class_ 126), (0, u "jdk/internal/util/Preconditions$2"), (3, u "AIOOBE_FORMATTER"), (0, .class_ 132), (0, u "jdk/internal/util/Preconditions$3"), (3, u "IOOBE_FORMATTER")] 57

def k11m0 : Method := { name := "<init>", desc := "()V", sig := { parameters := [], returnType := none }, accessFlags := 1, code := none }
/-- jdk/internal/util/Preconditions -/
def k11 : Class := { plain "jdk/internal/util/Preconditions" (some 0) with
  accessFlags := 33
  interfaces := #[]
  cf := some (fileOf pool11 24 #[.nestMembers #[55, 131, 125, 114]] #[{ accessFlags := 1, nameIndex := 5, descriptorIndex := 6, attributes := #[] }] 33 2 #[] #[{ accessFlags := 25, nameIndex := 123, descriptorIndex := 124, attributes := #[] }, { accessFlags := 25, nameIndex := 130, descriptorIndex := 124, attributes := #[] }, { accessFlags := 25, nameIndex := 136, descriptorIndex := 124, attributes := #[] }])
  fields := #[{ name := "SIOOBE_FORMATTER", type := (.object "java/util/function/BiFunction"), accessFlags := 25, slot := 0, constantValue := 0 }, { name := "AIOOBE_FORMATTER", type := (.object "java/util/function/BiFunction"), accessFlags := 25, slot := 1, constantValue := 0 }, { name := "IOOBE_FORMATTER", type := (.object "java/util/function/BiFunction"), accessFlags := 25, slot := 2, constantValue := 0 }]
  methods := #[k11m0]
  instanceTypes := #[]
  staticTypes := #[(.object "java/util/function/BiFunction"), (.object "java/util/function/BiFunction"), (.object "java/util/function/BiFunction")]
  resolved := Array.replicate 194 none
  statics := some 1 }

def pool12 : Array CpInfo := pool [(9, u "<init>"), (6, .class_ 18), (1, u "java/lang/Object"), (0, u "()V"), (1, .class_ 23), (1, u "jdk/internal/util/ArraysSupport"), (0, u "LOG2_ARRAY_LONG_INDEX_SCALE"), (0, u "I"), (2, u "U"), (0, u "Ljdk/internal/misc/Unsafe;"), (8, u "BIG_ENDIAN"), (0, u "Z"), (8, u "LOG2_BYTE_BIT_SIZE"), (4, u "LOG2_ARRAY_INT_INDEX_SCALE"), (54, u "JLA"), (0, u "Ljdk/internal/access/JavaLangAccess;"), (11, u "LOG2_ARRAY_BOOLEAN_INDEX_SCALE"), (9, u "LOG2_ARRAY_BYTE_INDEX_SCALE"), (5, u "LOG2_ARRAY_CHAR_INDEX_SCALE"), (5, u "LOG2_ARRAY_SHORT_INDEX_SCALE"), (18, u "LOG2_ARRAY_FLOAT_INDEX_SCALE"), (24, u "LOG2_ARRAY_DOUBLE_INDEX_SCALE"), (89, u "T_BOOLEAN"), (2, u "T_CHAR"), (1, u "T_FLOAT"), (1, u "T_DOUBLE"), (1, u "T_BYTE"), (1, u "T_SHORT"), (1, u "T_INT"), (1, u "T_LONG"), (1, u "SOFT_MAX_ARRAY_LENGTH")] 83

def k12m0 : Method := { name := "<init>", desc := "()V", sig := { parameters := [], returnType := none }, accessFlags := 2, code := none }
/-- jdk/internal/util/ArraysSupport -/
def k12 : Class := { plain "jdk/internal/util/ArraysSupport" (some 0) with
  accessFlags := 33
  interfaces := #[]
  cf := some (fileOf pool12 21 #[] #[{ accessFlags := 2, nameIndex := 9, descriptorIndex := 19, attributes := #[] }] 33 16 #[] #[{ accessFlags := 24, nameIndex := 28, descriptorIndex := 29, attributes := #[] }, { accessFlags := 26, nameIndex := 38, descriptorIndex := 39, attributes := #[] }, { accessFlags := 25, nameIndex := 121, descriptorIndex := 25, attributes := #[] }, { accessFlags := 25, nameIndex := 131, descriptorIndex := 25, attributes := #[] }, { accessFlags := 25, nameIndex := 137, descriptorIndex := 25, attributes := #[] }, { accessFlags := 25, nameIndex := 143, descriptorIndex := 25, attributes := #[] }, { accessFlags := 25, nameIndex := 53, descriptorIndex := 25, attributes := #[] }, { accessFlags := 25, nameIndex := 24, descriptorIndex := 25, attributes := #[] }, { accessFlags := 25, nameIndex := 162, descriptorIndex := 25, attributes := #[] }, { accessFlags := 25, nameIndex := 187, descriptorIndex := 25, attributes := #[] }, { accessFlags := 26, nameIndex := 48, descriptorIndex := 25, attributes := #[] }, { accessFlags := 25, nameIndex := 277, descriptorIndex := 25, attributes := #[] }, { accessFlags := 25, nameIndex := 280, descriptorIndex := 25, attributes := #[] }, { accessFlags := 25, nameIndex := 282, descriptorIndex := 25, attributes := #[] }, { accessFlags := 25, nameIndex := 284, descriptorIndex := 25, attributes := #[] }, { accessFlags := 25, nameIndex := 286, descriptorIndex := 25, attributes := #[] }, { accessFlags := 25, nameIndex := 288, descriptorIndex := 25, attributes := #[] }, { accessFlags := 25, nameIndex := 290, descriptorIndex := 25, attributes := #[] }, { accessFlags := 25, nameIndex := 292, descriptorIndex := 25, attributes := #[] }, { accessFlags := 26, nameIndex := 108, descriptorIndex := 109, attributes := #[] }, { accessFlags := 25, nameIndex := 294, descriptorIndex := 25, attributes := #[] }])
  fields := #[{ name := "U", type := (.object "jdk/internal/misc/Unsafe"), accessFlags := 24, slot := 0, constantValue := 0 }, { name := "BIG_ENDIAN", type := .boolean, accessFlags := 26, slot := 1, constantValue := 0 }, { name := "LOG2_ARRAY_BOOLEAN_INDEX_SCALE", type := .int, accessFlags := 25, slot := 2, constantValue := 0 }, { name := "LOG2_ARRAY_BYTE_INDEX_SCALE", type := .int, accessFlags := 25, slot := 3, constantValue := 0 }, { name := "LOG2_ARRAY_CHAR_INDEX_SCALE", type := .int, accessFlags := 25, slot := 4, constantValue := 0 }, { name := "LOG2_ARRAY_SHORT_INDEX_SCALE", type := .int, accessFlags := 25, slot := 5, constantValue := 0 }, { name := "LOG2_ARRAY_INT_INDEX_SCALE", type := .int, accessFlags := 25, slot := 6, constantValue := 0 }, { name := "LOG2_ARRAY_LONG_INDEX_SCALE", type := .int, accessFlags := 25, slot := 7, constantValue := 0 }, { name := "LOG2_ARRAY_FLOAT_INDEX_SCALE", type := .int, accessFlags := 25, slot := 8, constantValue := 0 }, { name := "LOG2_ARRAY_DOUBLE_INDEX_SCALE", type := .int, accessFlags := 25, slot := 9, constantValue := 0 }, { name := "LOG2_BYTE_BIT_SIZE", type := .int, accessFlags := 26, slot := 10, constantValue := 0 }, { name := "T_BOOLEAN", type := .int, accessFlags := 25, slot := 11, constantValue := 0 }, { name := "T_CHAR", type := .int, accessFlags := 25, slot := 12, constantValue := 0 }, { name := "T_FLOAT", type := .int, accessFlags := 25, slot := 13, constantValue := 0 }, { name := "T_DOUBLE", type := .int, accessFlags := 25, slot := 14, constantValue := 0 }, { name := "T_BYTE", type := .int, accessFlags := 25, slot := 15, constantValue := 0 }, { name := "T_SHORT", type := .int, accessFlags := 25, slot := 16, constantValue := 0 }, { name := "T_INT", type := .int, accessFlags := 25, slot := 17, constantValue := 0 }, { name := "T_LONG", type := .int, accessFlags := 25, slot := 18, constantValue := 0 }, { name := "JLA", type := (.object "jdk/internal/access/JavaLangAccess"), accessFlags := 26, slot := 19, constantValue := 0 }, { name := "SOFT_MAX_ARRAY_LENGTH", type := .int, accessFlags := 25, slot := 20, constantValue := 0 }]
  methods := #[k12m0]
  instanceTypes := #[]
  staticTypes := #[(.object "jdk/internal/misc/Unsafe"), .boolean, .int, .int, .int, .int, .int, .int, .int, .int, .int, .int, .int, .int, .int, .int, .int, .int, .int, (.object "jdk/internal/access/JavaLangAccess"), .int]
  resolved := Array.replicate 378 none
  statics := none }

def pool13 : Array CpInfo := pool [(1, u "java/lang/Cloneable"), (0, .class_ 1), (0, u "java/lang/Object"), (0, .class_ 3)] 3

/-- java/lang/Cloneable -/
def k13 : Class := { plain "java/lang/Cloneable" (some 0) with
  accessFlags := 1537
  interfaces := #[]
  cf := some (fileOf pool13 2 #[] #[] 1537 4 #[] #[])
  fields := #[]
  methods := #[]
  instanceTypes := #[]
  staticTypes := #[]
  resolved := Array.replicate 8 none
  statics := none }

/-- the primitive byte -/
def k14 : Class := { plain "byte" none with kind := .primitive 'B', accessFlags := 0x411 }
/-- [B -/
def k15 : Class := { plain "[B" (some 0) with kind := .array 14 .byte, interfaces := #[13, 3], accessFlags := 1041 }

/-- the primitive char -/
def k16 : Class := { plain "char" none with kind := .primitive 'C', accessFlags := 0x411 }
/-- [C -/
def k17 : Class := { plain "[C" (some 0) with kind := .array 16 .char, interfaces := #[13, 3], accessFlags := 1041 }

/-- the primitive int -/
def k18 : Class := { plain "int" none with kind := .primitive 'I', accessFlags := 0x411 }
/-- [I -/
def k19 : Class := { plain "[I" (some 0) with kind := .array 18 .int, interfaces := #[13, 3], accessFlags := 1041 }

def heap : Heap := #[{ cls := 8, slots := #[.long 0, .int 1, .null, .int 0, .null, .int 0, .int 0], vm := .statics 8 },
  { cls := 11, slots := #[.null, .null, .null], vm := .statics 11 }]
def classes : Array Class := #[k0, k1, k2, k3, k4, k5, k6, k7, k8, k9, k10, k11, k12, k13, k14, k15, k16, k17, k18, k19]
def interned : List (Array UInt16 × Addr) := []
def slotsUsed : Nat := 10
def theMethod : MethodId := ⟨1, 1⟩
def args0 : Array Value := #[.long 5, .long 6, .long 7, .int 1]
def aboutOver (below : List Frame) : State where
  vm := { classes := classes, interned := interned.toArray }
  heap := heap
  slotsUsed := slotsUsed
  threads := #[{ frames := .invoking theMethod args0 :: below }]
def below0 : List Frame := [.native { method := ⟨0, 0⟩, args := #[] }]
def about1 : State := aboutOver below0
def p0 : Program := .bare "" "" ""
def e0 : Env := launch0.env 0 0 0
theorem w_frames : about1.frames = Frame.invoking theMethod args0 :: below0 := rfl
set_option maxRecDepth 65536 in
theorem w_args : argsFit about1.vm theMethod args0 = true := by decide +kernel
set_option maxRecDepth 65536 in
theorem w_heap : heapFits about1 = true := by decide +kernel
set_option maxRecDepth 65536 in
theorem w_runnable : about1.curStatus? = some .runnable := by decide +kernel
set_option maxRecDepth 65536 in
theorem w_alone : about1.alone = true := by decide +kernel
set_option maxRecDepth 65536 in
theorem w_named : about1.methodNamed? x = some theMethod := by decide +kernel
set_option maxRecDepth 65536 in
theorem w_hears : about1.hears theMethod below0 = true := by decide +kernel
set_option maxRecDepth 65536 in
theorem w_ripe : about1.ripe theMethod args0 below0 = true := by decide +kernel
theorem w_running : about1.status = .running := rfl
set_option maxRecDepth 65536 in
theorem w_room : about1.hasRoom e0.platform room_1 = true :=
  launch0.hasRoom_least _ room_1 (by decide +kernel) (by decide +kernel) (by decide +kernel) (by decide +kernel) (by decide +kernel) (by decide +kernel)
theorem allAtoms_all (ts : List Jvm.Cond) (a : Array Jvm.Value) (st : Jvm.State) : (allAtoms ts).before a st = ts.all (fun c => c.before a st) := by
  induction ts with
  | nil => rfl
  | cons c t ih =>
    show (Jvm.Cond.and c (allAtoms t)).before a st = _
    rw [Jvm.Cond.before_and, ih, List.all_cons]
def words1 : List Jvm.Cond := Jvm.Cond.code x code maxLocals ret :: tables_1
/-- a 'code' word, met by the world's own term for the bytes: nothing is compared byte by byte -/
theorem code_word {y : MethodName} {bytes : ByteArray} {mx : Nat} {rt : Option FieldType} {a : Array Value} {s : State} {m : MethodId} {meth : Method} {c : Code} (h1 : s.methodNamed? y = some m) (h2 : s.vm.method? m = some meth) (h3 : meth.code = some c) (h4 : c.code = bytes)
    (h5 : (c.maxLocals == mx && c.exceptionTable.isEmpty && decide (c.maxStack ≤ mostOperands) && decide (meth.sig.returnType = rt) && !meth.locks && decide (parseMethodDescriptor y.desc = some meth.sig)) = true) : (Jvm.Cond.code y bytes mx rt).before a s = true := by
  simp only [Bool.and_eq_true, beq_iff_eq, Bool.not_eq_true', decide_eq_true_eq] at h5
  obtain ⟨⟨⟨⟨⟨g1, g2⟩, g3⟩, g4⟩, g5⟩, g6⟩ := h5
  simp [Cond.before, Cond.holds, Cond.value, h1, h2, h3, h4, g1, g2, g3, g4, g5, g6]
def isCode : Jvm.Cond → Bool
  | .code _ _ _ _ => true
  | _ => false
theorem all_split {L : List Jvm.Cond} {P : Jvm.Cond → Bool} (h1 : L.all (fun c => isCode c || P c) = true) (h2 : ∀ c ∈ L.filter isCode, P c = true) : L.all P = true := by
  refine List.all_eq_true.mpr fun c hc => ?_
  have h := List.all_eq_true.mp h1 c hc
  rcases Bool.eq_false_or_eq_true (isCode c) with hi | hi
  · exact h2 c (List.mem_filter.mpr ⟨hc, hi⟩)
  · simpa [hi] using h
set_option maxRecDepth 65536 in
theorem w_c0 : (Jvm.Cond.code x code maxLocals ret).before args0 about1 = true := code_word (m := ⟨1, 1⟩) (meth := k1m1) (c := k1c1) (by decide +kernel) rfl rfl rfl (by decide +kernel)
set_option maxRecDepth 65536 in
theorem w_c1 : (Jvm.Cond.code ({ cls := "com/example/gather/gather/service/ozs/OzsMessageEqualsPinLaw", name := "mk", desc := "(I)Ljava/lang/String;" } : Jvm.MethodName) method_3_code (3 : Nat) (Option.some (Jvm.ClassFile.FieldType.object "java/lang/String"))).before args0 about1 = true := code_word (m := ⟨1, 2⟩) (meth := k1m2) (c := k1c2) (by decide +kernel) rfl rfl rfl (by decide +kernel)
set_option maxRecDepth 65536 in
theorem w_c2 : (Jvm.Cond.code ({ cls := "java/lang/String", name := "<init>", desc := "([C)V" } : Jvm.MethodName) jdk_42_method_3_code (2 : Nat) (Option.none : Option Jvm.ClassFile.FieldType)).before args0 about1 = true := code_word (m := ⟨8, 1⟩) (meth := k8m1) (c := k8c1) (by decide +kernel) rfl rfl rfl (by decide +kernel)
set_option maxRecDepth 65536 in
theorem w_c3 : (Jvm.Cond.code ({ cls := "java/lang/String", name := "<init>", desc := "([CIILjava/lang/Void;)V" } : Jvm.MethodName) jdk_42_method_149_code (6 : Nat) (Option.none : Option Jvm.ClassFile.FieldType)).before args0 about1 = true := code_word (m := ⟨8, 3⟩) (meth := k8m3) (c := k8c3) (by decide +kernel) rfl rfl rfl (by decide +kernel)
set_option maxRecDepth 65536 in
theorem w_c4 : (Jvm.Cond.code ({ cls := "java/lang/Object", name := "<init>", desc := "()V" } : Jvm.MethodName) object_method_1_code (1 : Nat) (Option.none : Option Jvm.ClassFile.FieldType)).before args0 about1 = true := code_word (m := ⟨0, 0⟩) (meth := k0m0) (c := k0c0) (by decide +kernel) rfl rfl rfl (by decide +kernel)
set_option maxRecDepth 65536 in
theorem w_c5 : (Jvm.Cond.code ({ cls := "java/lang/StringUTF16", name := "compress", desc := "([CII)[B" } : Jvm.MethodName) jdk_52_method_16_code (6 : Nat) (Option.some (Jvm.ClassFile.FieldType.array Jvm.ClassFile.FieldType.byte))).before args0 about1 = true := code_word (m := ⟨9, 2⟩) (meth := k9m2) (c := k9c2) (by decide +kernel) rfl rfl rfl (by decide +kernel)
set_option maxRecDepth 65536 in
theorem w_c6 : (Jvm.Cond.code ({ cls := "java/lang/StringUTF16", name := "compress", desc := "([CI[BII)I" } : Jvm.MethodName) jdk_52_method_21_code (7 : Nat) (Option.some Jvm.ClassFile.FieldType.int)).before args0 about1 = true := code_word (m := ⟨9, 3⟩) (meth := k9m3) (c := k9c3) (by decide +kernel) rfl rfl rfl (by decide +kernel)
set_option maxRecDepth 65536 in
theorem w_c7 : (Jvm.Cond.code ({ cls := "java/lang/StringUTF16", name := "coderFromArrayLen", desc := "([BI)B" } : Jvm.MethodName) jdk_52_method_15_code (2 : Nat) (Option.some Jvm.ClassFile.FieldType.byte)).before args0 about1 = true := code_word (m := ⟨9, 1⟩) (meth := k9m1) (c := k9c1) (by decide +kernel) rfl rfl rfl (by decide +kernel)
set_option maxRecDepth 65536 in
theorem w_c8 : (Jvm.Cond.code ({ cls := "com/example/gather/gather/service/ozs/OzsMessage", name := "<init>", desc := "(Ljava/lang/String;Ljava/lang/String;Ljava/lang/String;)V" } : Jvm.MethodName) prog_61_method_1_code (4 : Nat) (Option.none : Option Jvm.ClassFile.FieldType)).before args0 about1 = true := code_word (m := ⟨2, 0⟩) (meth := k2m0) (c := k2c0) (by decide +kernel) rfl rfl rfl (by decide +kernel)
set_option maxRecDepth 65536 in
theorem w_c9 : (Jvm.Cond.code ({ cls := "com/example/gather/gather/service/ozs/OzsMessageEqualsPinLaw", name := "same", desc := "(II)Z" } : Jvm.MethodName) method_4_code (2 : Nat) (Option.some Jvm.ClassFile.FieldType.boolean)).before args0 about1 = true := code_word (m := ⟨1, 3⟩) (meth := k1m3) (c := k1c3) (by decide +kernel) rfl rfl rfl (by decide +kernel)
set_option maxRecDepth 65536 in
theorem w_c10 : (Jvm.Cond.code ({ cls := "com/example/gather/gather/service/ozs/OzsMessage", name := "equals", desc := "(Ljava/lang/Object;)Z" } : Jvm.MethodName) prog_61_method_6_code (3 : Nat) (Option.some Jvm.ClassFile.FieldType.boolean)).before args0 about1 = true := code_word (m := ⟨2, 1⟩) (meth := k2m1) (c := k2c1) (by decide +kernel) rfl rfl rfl (by decide +kernel)
set_option maxRecDepth 65536 in
theorem w_c11 : (Jvm.Cond.code ({ cls := "java/lang/String", name := "equals", desc := "(Ljava/lang/Object;)Z" } : Jvm.MethodName) jdk_42_method_66_code (3 : Nat) (Option.some Jvm.ClassFile.FieldType.boolean)).before args0 about1 = true := code_word (m := ⟨8, 2⟩) (meth := k8m2) (c := k8c2) (by decide +kernel) rfl rfl rfl (by decide +kernel)
set_option maxRecDepth 65536 in
theorem w_c12 : (Jvm.Cond.code ({ cls := "java/lang/StringLatin1", name := "equals", desc := "([B[B)Z" } : Jvm.MethodName) jdk_43_method_13_code (3 : Nat) (Option.some Jvm.ClassFile.FieldType.boolean)).before args0 about1 = true := code_word (m := ⟨10, 1⟩) (meth := k10m1) (c := k10c1) (by decide +kernel) rfl rfl rfl (by decide +kernel)
def codes1 : List Jvm.Cond := [Jvm.Cond.code x code maxLocals ret, Jvm.Cond.code ({ cls := "com/example/gather/gather/service/ozs/OzsMessageEqualsPinLaw", name := "mk", desc := "(I)Ljava/lang/String;" } : Jvm.MethodName) method_3_code (3 : Nat) (Option.some (Jvm.ClassFile.FieldType.object "java/lang/String")), Jvm.Cond.code ({ cls := "java/lang/String", name := "<init>", desc := "([C)V" } : Jvm.MethodName) jdk_42_method_3_code (2 : Nat) (Option.none : Option Jvm.ClassFile.FieldType), Jvm.Cond.code ({ cls := "java/lang/String", name := "<init>", desc := "([CIILjava/lang/Void;)V" } : Jvm.MethodName) jdk_42_method_149_code (6 : Nat) (Option.none : Option Jvm.ClassFile.FieldType), Jvm.Cond.code ({ cls := "java/lang/Object", name := "<init>", desc := "()V" } : Jvm.MethodName) object_method_1_code (1 : Nat) (Option.none : Option Jvm.ClassFile.FieldType), Jvm.Cond.code ({ cls := "java/lang/StringUTF16", name := "compress", desc := "([CII)[B" } : Jvm.MethodName) jdk_52_method_16_code (6 : Nat) (Option.some (Jvm.ClassFile.FieldType.array Jvm.ClassFile.FieldType.byte)), Jvm.Cond.code ({ cls := "java/lang/StringUTF16", name := "compress", desc := "([CI[BII)I" } : Jvm.MethodName) jdk_52_method_21_code (7 : Nat) (Option.some Jvm.ClassFile.FieldType.int), Jvm.Cond.code ({ cls := "java/lang/StringUTF16", name := "coderFromArrayLen", desc := "([BI)B" } : Jvm.MethodName) jdk_52_method_15_code (2 : Nat) (Option.some Jvm.ClassFile.FieldType.byte), Jvm.Cond.code ({ cls := "com/example/gather/gather/service/ozs/OzsMessage", name := "<init>", desc := "(Ljava/lang/String;Ljava/lang/String;Ljava/lang/String;)V" } : Jvm.MethodName) prog_61_method_1_code (4 : Nat) (Option.none : Option Jvm.ClassFile.FieldType), Jvm.Cond.code ({ cls := "com/example/gather/gather/service/ozs/OzsMessageEqualsPinLaw", name := "same", desc := "(II)Z" } : Jvm.MethodName) method_4_code (2 : Nat) (Option.some Jvm.ClassFile.FieldType.boolean), Jvm.Cond.code ({ cls := "com/example/gather/gather/service/ozs/OzsMessage", name := "equals", desc := "(Ljava/lang/Object;)Z" } : Jvm.MethodName) prog_61_method_6_code (3 : Nat) (Option.some Jvm.ClassFile.FieldType.boolean), Jvm.Cond.code ({ cls := "java/lang/String", name := "equals", desc := "(Ljava/lang/Object;)Z" } : Jvm.MethodName) jdk_42_method_66_code (3 : Nat) (Option.some Jvm.ClassFile.FieldType.boolean), Jvm.Cond.code ({ cls := "java/lang/StringLatin1", name := "equals", desc := "([B[B)Z" } : Jvm.MethodName) jdk_43_method_13_code (3 : Nat) (Option.some Jvm.ClassFile.FieldType.boolean)]
set_option maxRecDepth 65536 in
theorem codes_eq : words1.filter isCode = codes1 := rfl
theorem w_codes : ∀ c ∈ words1.filter isCode, c.before args0 about1 = true := by
  rw [codes_eq]
  intro c hc
  simp only [codes1, List.mem_cons, List.not_mem_nil, or_false] at hc
  rcases hc with rfl | rfl | rfl | rfl | rfl | rfl | rfl | rfl | rfl | rfl | rfl | rfl | rfl
  · exact w_c0
  · exact w_c1
  · exact w_c2
  · exact w_c3
  · exact w_c4
  · exact w_c5
  · exact w_c6
  · exact w_c7
  · exact w_c8
  · exact w_c9
  · exact w_c10
  · exact w_c11
  · exact w_c12
set_option maxRecDepth 65536 in
theorem w_t1 : (words1.take 24).all (fun c => isCode c || c.before args0 about1) = true := by decide +kernel
set_option maxRecDepth 65536 in
theorem w_t2 : ((words1.drop 24).take 24).all (fun c => isCode c || c.before args0 about1) = true := by decide +kernel
set_option maxRecDepth 65536 in
theorem w_t3 : ((words1.drop 24).drop 24).all (fun c => isCode c || c.before args0 about1) = true := by decide +kernel
theorem w_tables : (allAtoms (Jvm.Cond.code x code maxLocals ret :: tables_1)).before args0 about1 = true := by
  rw [allAtoms_all]
  show words1.all (fun c => c.before args0 about1) = true
  refine all_split ?_ w_codes
  rw [← List.take_append_drop 24 words1, List.all_append, w_t1, ← List.take_append_drop 24 (words1.drop 24), List.all_append, w_t2, w_t3]
  rfl
set_option maxRecDepth 65536 in
theorem w_rest : rest_1_c.before args0 about1 = true := by decide +kernel
set_option maxRecDepth 65536 in
theorem w_case : (Jvm.Cond.and given_1 narrow_1).before args0 about1 = true := by decide +kernel
theorem w_applies : (headSpec (Jvm.Cond.code x code maxLocals ret :: tables_1) room_1).applies x e0.platform about1 = true :=
  (Spec.applies_iff w_frames).mpr ⟨w_running, w_runnable, w_alone, w_named, w_hears, w_ripe, w_room, w_tables⟩
theorem atStart : AtStart classFile x code maxLocals ret World_1 tables_1 room_1 Calls_1 rest_1 Pre_1 launch0 p0 e0 about1 theMethod args0 below0 :=
  ⟨lists_1, trivial, launch0.admits_env _ _ _, launch0.least_env, fairChoices_fair.cas, fairChoices_fair.clock, w_frames, w_args, w_heap, w_applies, trivial, w_rest, w_case⟩
end start1
theorem witness_1 : WitnessClaimed_1 := ⟨start1.p0, start1.e0, start1.about1, start1.theMethod, start1.args0, start1.below0, start1.atStart⟩
end Jvm.Pilot.@@N@@
