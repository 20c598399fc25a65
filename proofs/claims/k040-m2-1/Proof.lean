import JvmDerived
import JvmDerived.Pilot.@@N@@Statement
import JvmDerived.Pilot.@@N@@Code
set_option linter.unusedVariables false
set_option linter.unusedSimpArgs false
/- laws to paste: Road.backV (cut by pick.py; bodies as the Statement names them) -/
namespace Jvm.Pilot.@@N@@
namespace StrChars
open Jvm Sem ClassFile Op Lib Jvm.Stand Jvm.Free.XT Jvm.Free.ALB Jvm.Free.JM Jvm.Free
open Jvm.Lib.Cold (StaticIs)
/-- a char array whose places are chars -/
def Ch (a : Addr) (A : Cell) (U : State) : Prop := Arr .char a A U ∧ Typed .char A
theorem Ch.mv {a : Addr} {A : Cell} {U U' : State} (h : Ch a A U) (hal : U.vm.Alike U'.vm) (hh : U'.heap = U.heap) : Ch a A U' := ⟨h.1.mv hal hh, h.2⟩
theorem Ch.keep {a : Addr} {A : Cell} {U U' : State} (h : Ch a A U) (hal : U.vm.Alike U'.vm) (hk : U'.heap[a]? = some A) : Ch a A U' := ⟨h.1.keep hal hk, h.2⟩
/-- what place i of a char[]'s cell holds -/
def cv (A : Cell) (i : Nat) : Int32 := match A.slots[i]? with | some (.int x) => x | _ => 0
theorem Ch.get {a : Addr} {A : Cell} {U : State} (h : Ch a A U) {i : Nat} (hi : i < A.slots.size) : A.slots[i]? = some (.int (cv A i)) := by
  have e := Array.getElem?_eq_getElem hi
  have f := h.2 i _ e
  unfold cv; rw [e]
  generalize A.slots[i] = v at f
  cases v <;> simp [fits] at f ⊢
/-- the byte that i2b leaves of a char -/
def lo8 (x : Int32) : Int32 := x.toInt8.toInt32
theorem fits_lo8 (y : Int32) : fits .byte (.int (lo8 y)) = true := by
  have h1 := y.toInt8.le_toInt
  have h2 := y.toInt8.toInt_lt
  simp only [lo8, fits, Bool.and_eq_true, decide_eq_true_eq, Int32.le_iff_toInt_le, Int8.toInt_toInt32, show (-128 : Int32).toInt = -128 from by decide, show (127 : Int32).toInt = 127 from by decide]
  omega
/-- A' is A but that each place j of lo .. hi - 1 holds f j -/
def Laid (A A' : Cell) (lo hi : Nat) (f : Nat → Value) : Prop := A'.cls = A.cls ∧ A'.vm = A.vm ∧ A'.slots.size = A.slots.size ∧ ∀ i, A'.slots[i]? = if lo ≤ i ∧ i < hi then some (f i) else A.slots[i]?
theorem Laid.zero (A : Cell) (lo : Nat) (f : Nat → Value) : Laid A A lo (lo + 0) f := ⟨rfl, rfl, rfl, fun i => by rw [if_neg (by omega)]⟩
theorem Laid.step {A Ak : Cell} {lo k : Nat} {f : Nat → Value} {v : Value} (h : Laid A Ak lo k f) (hlo : lo ≤ k) (hk : k < Ak.slots.size) (hv : v = f k) : Laid A (Ak.setSlot k v) lo (k + 1) f := by
  refine ⟨h.1, h.2.1, by simpa [Cell.setSlot] using h.2.2.1, fun i => ?_⟩
  by_cases e : k = i
  · subst e; rw [Cell.slots_setSlot_self v hk, if_pos (by omega), hv]
  · rw [Cell.slots_setSlot_ne v e, h.2.2.2 i]
    by_cases q : lo ≤ i ∧ i < k
    · rw [if_pos q, if_pos (by omega)]
    · rw [if_neg q, if_neg (by omega)]
def U16 : String := "java/lang/StringUTF16"
namespace Cmp5
def yN : MethodName := ⟨"java/lang/StringUTF16", "compress", "([CI[BII)I"⟩
abbrev yB : ByteArray := jdk_52_method_21_code
theorem d0 : decode yB 0 = .ok (.iconst 0, 1) := by decide +kernel
theorem d1 : decode yB 1 = .ok (.istore 5, 2) := by decide +kernel
theorem d3 : decode yB 3 = .ok (.iload 5, 2) := by decide +kernel
theorem d5 : decode yB 5 = .ok (.iload 4, 2) := by decide +kernel
theorem d7 : decode yB 7 = .ok (.if_icmp (.ge) 37, 3) := by decide +kernel
theorem d10 : decode yB 10 = .ok (.aload_n 0, 1) := by decide +kernel
theorem d11 : decode yB 11 = .ok (.iload_n 1, 1) := by decide +kernel
theorem d12 : decode yB 12 = .ok (.caload, 1) := by decide +kernel
theorem d13 : decode yB 13 = .ok (.istore 6, 2) := by decide +kernel
theorem d15 : decode yB 15 = .ok (.iload 6, 2) := by decide +kernel
theorem d17 : decode yB 17 = .ok (.sipush 255, 3) := by decide +kernel
theorem d20 : decode yB 20 = .ok (.if_icmp (.le) 6, 3) := by decide +kernel
theorem d26 : decode yB 26 = .ok (.aload_n 2, 1) := by decide +kernel
theorem d27 : decode yB 27 = .ok (.iload_n 3, 1) := by decide +kernel
theorem d28 : decode yB 28 = .ok (.iload 6, 2) := by decide +kernel
theorem d30 : decode yB 30 = .ok (.i2b, 1) := by decide +kernel
theorem d31 : decode yB 31 = .ok (.bastore, 1) := by decide +kernel
theorem d32 : decode yB 32 = .ok (.iinc 1 1, 3) := by decide +kernel
theorem d35 : decode yB 35 = .ok (.iinc 3 1, 3) := by decide +kernel
theorem d38 : decode yB 38 = .ok (.iinc 5 1, 3) := by decide +kernel
theorem d41 : decode yB 41 = .ok (.goto (-38), 3) := by decide +kernel
theorem d44 : decode yB 44 = .ok (.iload 4, 2) := by decide +kernel
theorem d46 : decode yB 46 = .ok (.ireturn, 1) := by decide +kernel
def site : List Cond := []
def tab : Cond := tabOf yN yB 7 (some .int) site
def P (b : Addr) (A : Cell) (d : Addr) (B : Cell) (o q len : Nat) (args : Array Value) (s : State) : Prop := args = #[.ref b, .int (Int32.ofNat o), .ref d, .int (Int32.ofNat q), .int (Int32.ofNat len)] ∧ Ch b A s ∧ Arr .byte d B s ∧ b ≠ d ∧ o + len ≤ A.slots.size ∧ q + len ≤ B.slots.size ∧ ∀ i, i < len → ¬ 255 < cv A (o + i)
def E (b : Addr) (A : Cell) (d : Addr) (B : Cell) (o q len : Nat) (r : Option Value) (s u : State) : Prop := r = some (.int (Int32.ofNat len)) ∧ ∃ B', Put d B' s u ∧ Laid B B' q (q + len) (fun j => Value.int (lo8 (cv A (o + (j - q)))))
/-- no char of the range above 255: len; the places written hold each char's low byte -/
theorem law (l : Launch) (b : Addr) (A : Cell) (d : Addr) (B : Cell) (o q len : Nat) : Law l yN 5 5 0 0 yB 7 (some .int) site (P b A d B o q len) (E b A d B o q len) (copyLocs d q len) 0 0 := by
  refine Law.of_walk (plainFor_of_name (by decide +kernel)) (by decide +kernel) (by decide +kernel) (by decide) (fun _ _ h => by rw [h.1]; rfl) (fun _ U U' hal hh h => ⟨h.1, h.2.1.mv hal hh, h.2.2.1.mv hal hh, h.2.2.2⟩) (fun r U U' V V' h1 hal h2 h => ⟨h.1, h.2.elim fun B' q => ⟨B', q.1.mv h1 h2, q.2⟩⟩) ?_
  intro p e s m args below meth c s₁ X0 hexec hbytes hml hret hlk hnm hown hh0 W hP
  obtain ⟨rfl, hA, hB, hne, l1, l2, hp⟩ := hP
  have c1 : Steps p.tables e below (s₁.setTop (entryFrame m #[.ref b, .int (Int32.ofNat o), .ref d, .int (Int32.ofNat q), .int (Int32.ofNat len)] 7)) (s₁.setTop (mkF m 0 #[.val (.ref b), .val (.int (Int32.ofNat o)), .val (.ref d), .val (.int (Int32.ofNat q)), .val (.int (Int32.ofNat len)), .unset, .unset] [])) := entry rfl
  have hA0 := hA.1.mv X0.warmed.alike hh0
  have hB0 := hB.mv X0.warmed.alike hh0
  have a31 := hA.1.2.2.2
  have c2 : Steps p.tables e below (s₁.setTop (entryFrame m #[.ref b, .int (Int32.ofNat o), .ref d, .int (Int32.ofNat q), .int (Int32.ofNat len)] 7)) (s₁.setTop (mkF m 3 #[.val (.ref b), .val (.int (Int32.ofNat o)), .val (.ref d), .val (.int (Int32.ofNat q)), .val (.int (Int32.ofNat len)), .val (.int 0), .unset] [])) := c1.trans (by
    refine iconstV X0.here hexec rfl 0 (hb hbytes d0) (by decide) ?_
    refine XS.istore X0.here hexec rfl (hb hbytes d1) rfl rfl ?_
    exact Steps.refl _)
  have loop : ∀ (r i : Nat), i + r = len → ∀ (z : Slot), (z = .unset ∨ ∃ w, z = .val w ∧ w.category = 1) → ∀ (Tl : State) (Bk : Cell), Stand p l e { frames := 0, locals := 0, cells := 0, slots := 0 } s m #[.ref b, .int (Int32.ofNat o), .ref d, .int (Int32.ofNat q), .int (Int32.ofNat len)] below meth c Tl ([] ++ copyLocs d q i) 0 0 → Put d Bk s₁ Tl → Laid B Bk q (q + i) (fun j => Value.int (lo8 (cv A (o + (j - q))))) →
      Steps p.tables e below (s₁.setTop (entryFrame m #[.ref b, .int (Int32.ofNat o), .ref d, .int (Int32.ofNat q), .int (Int32.ofNat len)] 7)) (Tl.setTop (mkF m 3 #[.val (.ref b), .val (.int (Int32.ofNat (o + i))), .val (.ref d), .val (.int (Int32.ofNat (q + i))), .val (.int (Int32.ofNat len)), .val (.int (Int32.ofNat i)), z] [])) → ∃ (T' : State) (B' : Cell) (z' : Slot), Stand p l e { frames := 0, locals := 0, cells := 0, slots := 0 } s m #[.ref b, .int (Int32.ofNat o), .ref d, .int (Int32.ofNat q), .int (Int32.ofNat len)] below meth c T' ([] ++ copyLocs d q len) 0 0 ∧ Put d B' s₁ T' ∧ Laid B B' q (q + len) (fun j => Value.int (lo8 (cv A (o + (j - q))))) ∧
      Steps p.tables e below (s₁.setTop (entryFrame m #[.ref b, .int (Int32.ofNat o), .ref d, .int (Int32.ofNat q), .int (Int32.ofNat len)] 7)) (T'.setTop (mkF m 3 #[.val (.ref b), .val (.int (Int32.ofNat (o + len))), .val (.ref d), .val (.int (Int32.ofNat (q + len))), .val (.int (Int32.ofNat len)), .val (.int (Int32.ofNat len)), z'] [])) := by
    intro r
    induction r with
    | zero =>
      intro i hi z hz Tl Bk Xl pl fl cl
      have hil : i = len := by omega
      rw [hil] at Xl fl cl
      exact ⟨Tl, Bk, z, Xl, pl, fl, cl⟩
    | succ r ih =>
      intro i hi z hz Tl Bk Xl pl fl cl
      have all := X0.warmed.alike.symm.trans Xl.warmed.alike
      have hAl := hA0.keep all (pl.other hne hA0.1)
      have hBk := hB0.like all pl.1 fl.1 fl.2.1 fl.2.2.1
      have hlt : q + i < Bk.slots.size := by rw [fl.2.2.1]; omega
      have c3 : Steps p.tables e below (s₁.setTop (entryFrame m #[.ref b, .int (Int32.ofNat o), .ref d, .int (Int32.ofNat q), .int (Int32.ofNat len)] 7)) (Tl.setTop (mkF m 12 #[.val (.ref b), .val (.int (Int32.ofNat (o + i))), .val (.ref d), .val (.int (Int32.ofNat (q + i))), .val (.int (Int32.ofNat len)), .val (.int (Int32.ofNat i)), z] [.int (Int32.ofNat (o + i)), .ref b])) := cl.trans (by
        refine XS.iload Xl.here hexec rfl (hb hbytes d3) rfl ?_
        refine XS.iload Xl.here hexec rfl (hb hbytes d5) rfl ?_
        refine XS.icmpNo Xl.here hexec rfl (hb hbytes d7) rfl (ii_ge_f (lt32 (by omega) (by omega))) ?_
        refine XS.aloadN Xl.here hexec rfl (hb hbytes d10) rfl rfl ?_
        refine XS.iloadN Xl.here hexec rfl (hb hbytes d11) rfl ?_
        exact Steps.refl _)
      have c4 : Steps p.tables e below (s₁.setTop (entryFrame m #[.ref b, .int (Int32.ofNat o), .ref d, .int (Int32.ofNat q), .int (Int32.ofNat len)] 7)) (Tl.setTop (mkF m 13 #[.val (.ref b), .val (.int (Int32.ofNat (o + i))), .val (.ref d), .val (.int (Int32.ofNat (q + i))), .val (.int (Int32.ofNat len)), .val (.int (Int32.ofNat i)), z] [.int (cv A (o + i))])) := c3.trans (by
        refine Xl.aget hexec hAl rfl (hA.get (i := o + i) (by omega)) rfl rfl (hb hbytes d12) ?_
        exact Steps.refl _)
      have c5 : Steps p.tables e below (s₁.setTop (entryFrame m #[.ref b, .int (Int32.ofNat o), .ref d, .int (Int32.ofNat q), .int (Int32.ofNat len)] 7)) (Tl.setTop (mkF m 15 #[.val (.ref b), .val (.int (Int32.ofNat (o + i))), .val (.ref d), .val (.int (Int32.ofNat (q + i))), .val (.int (Int32.ofNat len)), .val (.int (Int32.ofNat i)), .val (.int (cv A (o + i)))] [])) := c4.trans (by
        refine XS.istoreS Xl.here hexec rfl (hb hbytes d13) rfl rfl hz ?_
        exact Steps.refl _)
      have c6 : Steps p.tables e below (s₁.setTop (entryFrame m #[.ref b, .int (Int32.ofNat o), .ref d, .int (Int32.ofNat q), .int (Int32.ofNat len)] 7)) (Tl.setTop (mkF m 31 #[.val (.ref b), .val (.int (Int32.ofNat (o + i))), .val (.ref d), .val (.int (Int32.ofNat (q + i))), .val (.int (Int32.ofNat len)), .val (.int (Int32.ofNat i)), .val (.int (cv A (o + i)))] [.int (lo8 (cv A (o + i))), .int (Int32.ofNat (q + i)), .ref d])) := c5.trans (by
        refine XS.iload Xl.here hexec rfl (hb hbytes d15) rfl ?_
        refine sipushV Xl.here hexec rfl 255 (hb hbytes d17) (by decide) ?_
        refine XS.icmpYes Xl.here hexec rfl (pc0 := 20) rfl (hb hbytes d20) rfl (ii_le_t (hp i (by omega))) (by decide) rfl ?_
        refine XS.aloadN Xl.here hexec rfl (hb hbytes d26) rfl rfl ?_
        refine XS.iloadN Xl.here hexec rfl (hb hbytes d27) rfl ?_
        refine XS.iload Xl.here hexec rfl (hb hbytes d28) rfl ?_
        refine i2b Xl.here hexec rfl (hb hbytes d30) rfl ?_
        exact Steps.refl _)
      obtain ⟨T7, X7, p7, st7⟩ := Xl.aput hexec hBk rfl hlt rfl (fits_lo8 (cv A (o + i))) (g := (mkF m 31 #[.val (.ref b), .val (.int (Int32.ofNat (o + i))), .val (.ref d), .val (.int (Int32.ofNat (q + i))), .val (.int (Int32.ofNat len)), .val (.int (Int32.ofNat i)), .val (.int (cv A (o + i)))] [.int (lo8 (cv A (o + i))), .int (Int32.ofNat (q + i)), .ref d])) rfl (rest := []) rfl (hb hbytes d31)
      have c8 : Steps p.tables e below (s₁.setTop (entryFrame m #[.ref b, .int (Int32.ofNat o), .ref d, .int (Int32.ofNat q), .int (Int32.ofNat len)] 7)) (T7.setTop (mkF m 32 #[.val (.ref b), .val (.int (Int32.ofNat (o + i))), .val (.ref d), .val (.int (Int32.ofNat (q + i))), .val (.int (Int32.ofNat len)), .val (.int (Int32.ofNat i)), .val (.int (cv A (o + i)))] [])) := c6.trans (st7 _ (Steps.refl _))
      have c9 : Steps p.tables e below (s₁.setTop (entryFrame m #[.ref b, .int (Int32.ofNat o), .ref d, .int (Int32.ofNat q), .int (Int32.ofNat len)] 7)) (T7.setTop (mkF m 3 #[.val (.ref b), .val (.int (Int32.ofNat (o + i) + 1)), .val (.ref d), .val (.int (Int32.ofNat (q + i) + 1)), .val (.int (Int32.ofNat len)), .val (.int (Int32.ofNat i + 1)), .val (.int (cv A (o + i)))] [])) := c8.trans (by
        refine iincV X7.here hexec rfl 1 (hb hbytes d32) (by decide) rfl rfl ?_
        refine iincV X7.here hexec rfl 1 (hb hbytes d35) (by decide) rfl rfl ?_
        refine iincV X7.here hexec rfl 1 (hb hbytes d38) (by decide) rfl rfl ?_
        refine XS.goto X7.here hexec rfl (pc0 := 41) rfl (hb hbytes d41) (by decide) rfl ?_
        exact Steps.refl _)
      have c10 : Steps p.tables e below (s₁.setTop (entryFrame m #[.ref b, .int (Int32.ofNat o), .ref d, .int (Int32.ofNat q), .int (Int32.ofNat len)] 7)) (T7.setTop (mkF m 3 #[.val (.ref b), .val (.int (Int32.ofNat (o + (i + 1)))), .val (.ref d), .val (.int (Int32.ofNat (q + (i + 1)))), .val (.int (Int32.ofNat len)), .val (.int (Int32.ofNat (i + 1))), .val (.int (cv A (o + i)))] [])) := by
        have := c9
        rw [succ32, succ32, succ32] at this
        exact this
      exact ih (i + 1) (by omega) _ (Or.inr ⟨_, rfl, rfl⟩) T7 _ (by rw [copyLocs_step, ← List.append_assoc]; exact X7) (pl.trans p7) (fl.step (by omega) hlt (by simp)) c10
  obtain ⟨T9, B9, z9, X9, p9, f9, g9⟩ := loop len 0 (by omega) .unset (Or.inl rfl) s₁ B (by simpa [copyLocs] using X0) ⟨hB0.1, fun _ _ => rfl, rfl⟩ (Laid.zero _ _ _) c2
  have c11 : Steps p.tables e below (s₁.setTop (entryFrame m #[.ref b, .int (Int32.ofNat o), .ref d, .int (Int32.ofNat q), .int (Int32.ofNat len)] 7)) (T9.setTop (mkF m 46 #[.val (.ref b), .val (.int (Int32.ofNat (o + len))), .val (.ref d), .val (.int (Int32.ofNat (q + len))), .val (.int (Int32.ofNat len)), .val (.int (Int32.ofNat len)), z9] [.int (Int32.ofNat len)])) := g9.trans (by
    refine XS.iload X9.here hexec rfl (hb hbytes d3) rfl ?_
    refine XS.iload X9.here hexec rfl (hb hbytes d5) rfl ?_
    refine XS.icmpYes X9.here hexec rfl (pc0 := 7) rfl (hb hbytes d7) rfl (ii_ge_t (nlt32 (by omega) (Nat.le_refl _))) (by decide) rfl ?_
    refine XS.iload X9.here hexec rfl (hb hbytes d44) rfl ?_
    exact Steps.refl _)
  exact ⟨T9, some (.int (Int32.ofNat len)), _, _, _, X9, by simp, rfl, rfl, (fun h => by cases h), ⟨rfl, B9, p9.from hh0, f9⟩, fun fs hl => c11.trans (X9.ireturnOut hexec hret rfl (Or.inl rfl) (hb hbytes d46) hl)⟩
end Cmp5
namespace Cmp3
def yN : MethodName := ⟨"java/lang/StringUTF16", "compress", "([CII)[B"⟩
abbrev yB : ByteArray := jdk_52_method_16_code
theorem d0 : decode yB 0 = .ok (.iload_n 2, 1) := by decide +kernel
theorem d1 : decode yB 1 = .ok (.newarray .byte, 2) := by decide +kernel
theorem d3 : decode yB 3 = .ok (.astore_n 3, 1) := by decide +kernel
theorem d4 : decode yB 4 = .ok (.aload_n 0, 1) := by decide +kernel
theorem d5 : decode yB 5 = .ok (.iload_n 1, 1) := by decide +kernel
theorem d6 : decode yB 6 = .ok (.aload_n 3, 1) := by decide +kernel
theorem d7 : decode yB 7 = .ok (.iconst 0, 1) := by decide +kernel
theorem d8 : decode yB 8 = .ok (.iload_n 2, 1) := by decide +kernel
theorem d9 : decode yB 9 = .ok (.invokestatic 115, 3) := by decide +kernel
theorem d12 : decode yB 12 = .ok (.istore 4, 2) := by decide +kernel
theorem d14 : decode yB 14 = .ok (.iload 4, 2) := by decide +kernel
theorem d16 : decode yB 16 = .ok (.iload_n 2, 1) := by decide +kernel
theorem d17 : decode yB 17 = .ok (.if_icmp (.eq) 40, 3) := by decide +kernel
theorem d57 : decode yB 57 = .ok (.aload_n 3, 1) := by decide +kernel
theorem d58 : decode yB 58 = .ok (.areturn, 1) := by decide +kernel
def site : List Cond := [.arrayClass .byte, Cmp5.tab] ++ staticW U16 115 Cmp5.yN
def tab : Cond := tabOf yN yB 6 (some (.array .byte)) site
def P (b : Addr) (A : Cell) (o len : Nat) (args : Array Value) (s : State) : Prop := args = #[.ref b, .int (Int32.ofNat o), .int (Int32.ofNat len)] ∧ Ch b A s ∧ o + len ≤ A.slots.size ∧ len ≤ 536870912 ∧ ∀ i, i < len → ¬ 255 < cv A (o + i)
def E (b : Addr) (A : Cell) (o len : Nat) (r : Option Value) (s u : State) : Prop := NewArr .byte "[B" len (fun j => .int (lo8 (cv A (o + j)))) r s u ∧ u.heap.size = s.heap.size + 1
/-- no char of the range above 255: a new byte[] of their low bytes -/
theorem law (l : Launch) (b : Addr) (A : Cell) (o len : Nat) : Law l yN 3 3 1 18 yB 6 (some (.array .byte)) site (P b A o len) (E b A o len) [] 1 len := by
  refine Law.of_walk (plainFor_of_name (by decide +kernel)) (by decide +kernel) (by decide +kernel) (by decide) (fun _ _ h => by rw [h.1]; rfl) (fun _ U U' hal hh h => ⟨h.1, h.2.1.mv hal hh, h.2.2⟩) (fun r U U' V V' h1 hal h2 h => ⟨NewArr.mv r U U' V V' h1 hal h2 h.1, by rw [h1, h2]; exact h.2⟩) ?_
  intro p e s m args below meth c s₁ X0 hexec hbytes hml hret hlk hnm hown hh0 W hP
  obtain ⟨rfl, hA, l1, l2, hp⟩ := hP
  have a31 := hA.1.2.2.2
  have c1 : Steps p.tables e below (s₁.setTop (entryFrame m #[.ref b, .int (Int32.ofNat o), .int (Int32.ofNat len)] 6)) (s₁.setTop (mkF m 0 #[.val (.ref b), .val (.int (Int32.ofNat o)), .val (.int (Int32.ofNat len)), .unset, .unset, .unset] [])) := entry rfl
  have c2 : Steps p.tables e below (s₁.setTop (entryFrame m #[.ref b, .int (Int32.ofNat o), .int (Int32.ofNat len)] 6)) (s₁.setTop (mkF m 1 #[.val (.ref b), .val (.int (Int32.ofNat o)), .val (.int (Int32.ofNat len)), .unset, .unset, .unset] [.int (Int32.ofNat len)])) := c1.trans (by
    refine XS.iloadN X0.here hexec rfl (hb hbytes d0) rfl ?_
    exact Steps.refl _)
  obtain ⟨T3, B3, X3, ba3, bs3, bv3, bh3, bf3, st3⟩ := X0.anew hexec (atype := .byte) (wk W (.arrayClass .byte)) rfl (by show len * 1 ≤ _; omega) (by omega) (g := (mkF m 1 #[.val (.ref b), .val (.int (Int32.ofNat o)), .val (.int (Int32.ofNat len)), .unset, .unset, .unset] [.int (Int32.ofNat len)])) rfl (hb hbytes d1) (rest := []) rfl (Nat.le_refl _) (by show 0 + len ≤ len; omega)
  rw [hh0] at ba3 st3
  have kp3 : XT.Kept s T3 := (XT.Kept.of_eq hh0).push bh3
  have hA3 := hA.keep X3.warmed.alike (kp3 _ _ hA.1.1)
  have hne : b ≠ s.heap.size := hA.1.ne
  have c4 : Steps p.tables e below (s₁.setTop (entryFrame m #[.ref b, .int (Int32.ofNat o), .int (Int32.ofNat len)] 6)) (T3.setTop (mkF m 3 #[.val (.ref b), .val (.int (Int32.ofNat o)), .val (.int (Int32.ofNat len)), .unset, .unset, .unset] [.ref s.heap.size])) := c2.trans (st3 _ (Steps.refl _))
  have c5 : Steps p.tables e below (s₁.setTop (entryFrame m #[.ref b, .int (Int32.ofNat o), .int (Int32.ofNat len)] 6)) (T3.setTop (mkF m 9 #[.val (.ref b), .val (.int (Int32.ofNat o)), .val (.int (Int32.ofNat len)), .val (.ref s.heap.size), .unset, .unset] [.int (Int32.ofNat len), .int 0, .ref s.heap.size, .int (Int32.ofNat o), .ref b])) := c4.trans (by
    refine XS.astoreN X3.here hexec rfl (hb hbytes d3) rfl rfl rfl ?_
    refine XS.aloadN X3.here hexec rfl (hb hbytes d4) rfl rfl ?_
    refine XS.iloadN X3.here hexec rfl (hb hbytes d5) rfl ?_
    refine XS.aloadN X3.here hexec rfl (hb hbytes d6) rfl rfl ?_
    refine iconstV X3.here hexec rfl 0 (hb hbytes d7) (by decide) ?_
    refine XS.iloadN X3.here hexec rfl (hb hbytes d8) rfl ?_
    exact Steps.refl _)
  obtain ⟨v6, T6, X6, E6, g6⟩ := X3.callS hexec (Cmp5.law l b A s.heap.size B3 o 0 len) hown (wks W (staticW U16 115 Cmp5.yN)) (wk W Cmp5.tab) (W := 0) (Nat.le_of_ble_eq_true rfl) (Nat.le_of_ble_eq_true rfl) (Nat.le_refl _) (by show 0 + len + 0 ≤ len; omega) (g := (mkF m 9 #[.val (.ref b), .val (.int (Int32.ofNat o)), .val (.int (Int32.ofNat len)), .val (.ref s.heap.size), .unset, .unset] [.int (Int32.ofNat len), .int (Int32.ofNat 0), .ref s.heap.size, .int (Int32.ofNat o), .ref b])) rfl (by rw [hml]; rfl) c5 (argsL := [.ref b, .int (Int32.ofNat o), .ref s.heap.size, .int (Int32.ofNat 0), .int (Int32.ofNat len)]) (rest := []) rfl rfl (by show 2 * 0 + 0 ≤ _; decide) (hb hbytes d9) (⟨rfl, hA3, ba3, hne, l1, by rw [bs3]; simp, hp⟩)
  obtain ⟨rfl, B6, p6, f6⟩ := E6
  have c7 : Steps p.tables e below (s₁.setTop (entryFrame m #[.ref b, .int (Int32.ofNat o), .int (Int32.ofNat len)] 6)) (T6.setTop (mkF m 12 #[.val (.ref b), .val (.int (Int32.ofNat o)), .val (.int (Int32.ofNat len)), .val (.ref s.heap.size), .unset, .unset] [.int (Int32.ofNat len)])) := g6
  have c8 : Steps p.tables e below (s₁.setTop (entryFrame m #[.ref b, .int (Int32.ofNat o), .int (Int32.ofNat len)] 6)) (T6.setTop (mkF m 58 #[.val (.ref b), .val (.int (Int32.ofNat o)), .val (.int (Int32.ofNat len)), .val (.ref s.heap.size), .val (.int (Int32.ofNat len)), .unset] [.ref s.heap.size])) := c7.trans (by
    refine XS.istore X6.here hexec rfl (hb hbytes d12) rfl rfl ?_
    refine XS.iload X6.here hexec rfl (hb hbytes d14) rfl ?_
    refine XS.iloadN X6.here hexec rfl (hb hbytes d16) rfl ?_
    refine XS.icmpYes X6.here hexec rfl (pc0 := 17) rfl (hb hbytes d17) rfl (ii_eq_t rfl) (by decide) rfl ?_
    refine XS.aloadN X6.here hexec rfl (hb hbytes d57) rfl rfl ?_
    exact Steps.refl _)
  have X8 := X6.wide (L' := []) (cells' := 1) (slots' := len) (fun x hx hlt => by
    simp only [List.nil_append, copyLocs, List.mem_map, List.mem_range] at hx
    obtain ⟨i, -, rfl⟩ := hx
    exact absurd hlt (Nat.lt_irrefl _)) (Nat.le_refl _) (by omega)
  exact ⟨T6, some (.ref s.heap.size), _, _, _, X8, rfl, rfl, rfl, (fun h => by cases h), ⟨⟨rfl, B6, ba3.like (X3.warmed.alike.symm.trans X6.warmed.alike) p6.1 f6.1 f6.2.1 f6.2.2.1, f6.2.1.trans bv3, by rw [X6.warmed.alike.findClass, f6.1]; exact bf3, by rw [f6.2.2.1, bs3]; simp, fun j hj => by rw [f6.2.2.2 j, if_pos (by omega)]; rfl, kp3.put p6 (Nat.le_refl _)⟩, by rw [p6.2.2, bh3, hh0]; simp⟩, fun fs hl => c8.trans (X8.areturnOut hexec rfl hret rfl (hb hbytes d58) hl)⟩
end Cmp3
namespace CodL
def yN : MethodName := ⟨"java/lang/StringUTF16", "coderFromArrayLen", "([BI)B"⟩
abbrev yB : ByteArray := jdk_52_method_15_code
theorem d0 : decode yB 0 = .ok (.iload_n 1, 1) := by decide +kernel
theorem d1 : decode yB 1 = .ok (.aload_n 0, 1) := by decide +kernel
theorem d2 : decode yB 2 = .ok (.arraylength, 1) := by decide +kernel
theorem d3 : decode yB 3 = .ok (.isub, 1) := by decide +kernel
theorem d4 : decode yB 4 = .ok (.bipush 31, 2) := by decide +kernel
theorem d6 : decode yB 6 = .ok (.iushr, 1) := by decide +kernel
theorem d7 : decode yB 7 = .ok (.i2b, 1) := by decide +kernel
theorem d8 : decode yB 8 = .ok (.ireturn, 1) := by decide +kernel
def site : List Cond := []
def tab : Cond := tabOf yN yB 2 (some .byte) site
def P (d : Addr) (B : Cell) (args : Array Value) (s : State) : Prop := args = #[.ref d, .int (Int32.ofNat B.slots.size)] ∧ Arr .byte d B s
def E (r : Option Value) (s u : State) : Prop := XT.PureE (some (.int 0)) r s u
/-- an array as long as the number of chars: LATIN1 -/
theorem law (l : Launch) (d : Addr) (B : Cell) : Law l yN 2 2 0 0 yB 2 (some .byte) site (P d B) E [] 0 0 := by
  refine Law.of_walk (plainFor_of_name (by decide +kernel)) (by decide +kernel) (by decide +kernel) (by decide) (fun _ _ h => by rw [h.1]; rfl) (fun _ U U' hal hh h => ⟨h.1, h.2.mv hal hh⟩) (fun r U U' V V' h1 hal h2 h => XT.PureE.mv r U U' V V' h1 hal h2 h) ?_
  intro p e s m args below meth c s₁ X0 hexec hbytes hml hret hlk hnm hown hh0 W hP
  obtain ⟨rfl, hB⟩ := hP
  have hB0 := hB.mv X0.warmed.alike hh0
  have c1 : Steps p.tables e below (s₁.setTop (entryFrame m #[.ref d, .int (Int32.ofNat B.slots.size)] 2)) (s₁.setTop (mkF m 0 #[.val (.ref d), .val (.int (Int32.ofNat B.slots.size))] [])) := entry rfl
  have c2 : Steps p.tables e below (s₁.setTop (entryFrame m #[.ref d, .int (Int32.ofNat B.slots.size)] 2)) (s₁.setTop (mkF m 2 #[.val (.ref d), .val (.int (Int32.ofNat B.slots.size))] [.ref d, .int (Int32.ofNat B.slots.size)])) := c1.trans (by
    refine XS.iloadN X0.here hexec rfl (hb hbytes d0) rfl ?_
    refine XS.aloadN X0.here hexec rfl (hb hbytes d1) rfl rfl ?_
    exact Steps.refl _)
  have c3 : Steps p.tables e below (s₁.setTop (entryFrame m #[.ref d, .int (Int32.ofNat B.slots.size)] 2)) (s₁.setTop (mkF m 8 #[.val (.ref d), .val (.int (Int32.ofNat B.slots.size))] [.int (lo8 (ushr (Int32.ofNat B.slots.size - Int32.ofNat B.slots.size) 31))])) := c2.trans (by
    refine X0.alen hexec hB0 rfl rfl (hb hbytes d2) ?_
    refine XS.isub X0.here hexec rfl (hb hbytes d3) rfl ?_
    refine bipushV X0.here hexec rfl 31 (hb hbytes d4) (by decide) ?_
    refine iushr X0.here hexec rfl (hb hbytes d6) rfl ?_
    refine i2b X0.here hexec rfl (hb hbytes d7) rfl ?_
    exact Steps.refl _)
  have e0 : lo8 (ushr (Int32.ofNat B.slots.size - Int32.ofNat B.slots.size) 31) = 0 := by rw [Int32.sub_self]; decide
  rw [e0] at c3
  exact ⟨s₁, some (.int 0), _, _, _, X0, rfl, rfl, rfl, (fun h => by cases h), ⟨rfl, hh0⟩, fun fs hl => c3.trans (X0.ireturnOut hexec hret rfl (Or.inr (Or.inr (Or.inl rfl))) (hb hbytes d8) hl)⟩
end CodL
/-- the String at a is Latin-1 over a new byte[] (the heap's one new cell): the low bytes of the len chars of A from o on; every cell but a is kept -/
def Got (a : Addr) (D : Cell) (fV fC : Field) (A : Cell) (o len : Nat) (r : Option Value) (s u : State) : Prop := r = none ∧ ∃ D' V : Cell, Blank "java/lang/String" a D' u ∧ Same D D' [fV.slot, fC.slot] ∧ D'.slots[fV.slot]? = some (.ref s.heap.size) ∧ D'.slots[fC.slot]? = some (.int 0) ∧ Arr .byte s.heap.size V u ∧ V.vm = .none ∧ u.vm.findClass "[B" = some V.cls ∧ V.slots.size = len ∧ (∀ j, j < len → V.slots[j]? = some (.int (lo8 (cv A (o + j))))) ∧ (∀ (y : Addr) (c : Cell), y ≠ a → s.heap[y]? = some c → u.heap[y]? = some c) ∧ u.heap.size = s.heap.size + 1
theorem Got.mv {a : Addr} {D A : Cell} {fV fC : Field} {o len : Nat} : ∀ r (U U' V V' : State), U'.heap = U.heap → V.vm.Alike V'.vm → V'.heap = V.heap → Got a D fV fC A o len r U V → Got a D fV fC A o len r U' V' :=
  fun r U U' V V' h1 hal h2 ⟨e0, D', X, a1, a2, a3, a4, a5, a6, a7, a8, a9, a10, a11⟩ => ⟨e0, D', X, a1.mv hal h2, a2, by rw [h1]; exact a3, a4, by rw [h1]; exact a5.mv hal h2, a6, by rw [hal.findClass]; exact a7, a8, a9, by rw [h1, h2]; exact a10, by rw [h1, h2]; exact a11⟩
namespace New4
def yN : MethodName := ⟨"java/lang/String", "<init>", "([CIILjava/lang/Void;)V"⟩
abbrev yB : ByteArray := jdk_42_method_149_code
theorem d0 : decode yB 0 = .ok (.aload_n 0, 1) := by decide +kernel
theorem d1 : decode yB 1 = .ok (.invokespecial 1, 3) := by decide +kernel
theorem d4 : decode yB 4 = .ok (.iload_n 3, 1) := by decide +kernel
theorem d5 : decode yB 5 = .ok (.ifCond (.ne) 22, 3) := by decide +kernel
theorem d27 : decode yB 27 = .ok (.getstatic 38, 3) := by decide +kernel
theorem d30 : decode yB 30 = .ok (.ifCond (.eq) 28, 3) := by decide +kernel
theorem d33 : decode yB 33 = .ok (.aload_n 1, 1) := by decide +kernel
theorem d34 : decode yB 34 = .ok (.iload_n 2, 1) := by decide +kernel
theorem d35 : decode yB 35 = .ok (.iload_n 3, 1) := by decide +kernel
theorem d36 : decode yB 36 = .ok (.invokestatic 177, 3) := by decide +kernel
theorem d39 : decode yB 39 = .ok (.astore 5, 2) := by decide +kernel
theorem d41 : decode yB 41 = .ok (.aload_n 0, 1) := by decide +kernel
theorem d42 : decode yB 42 = .ok (.aload 5, 2) := by decide +kernel
theorem d44 : decode yB 44 = .ok (.iload_n 3, 1) := by decide +kernel
theorem d45 : decode yB 45 = .ok (.invokestatic 47, 3) := by decide +kernel
theorem d48 : decode yB 48 = .ok (.putfield 15, 3) := by decide +kernel
theorem d51 : decode yB 51 = .ok (.aload_n 0, 1) := by decide +kernel
theorem d52 : decode yB 52 = .ok (.aload 5, 2) := by decide +kernel
theorem d54 : decode yB 54 = .ok (.putfield 9, 3) := by decide +kernel
theorem d57 : decode yB 57 = .ok (.return_, 1) := by decide +kernel
def site : List Cond := [.fieldLink "java/lang/String" 38 "java/lang/String" "COMPACT_STRINGS" "Z", Cmp3.tab, CodL.tab, .laysFinal "java/lang/String" "java/lang/String" "value" "[B", .fieldLink "java/lang/String" 9 "java/lang/String" "value" "[B", .laysFinal "java/lang/String" "java/lang/String" "coder" "B", .fieldLink "java/lang/String" 15 "java/lang/String" "coder" "B"] ++ objW "java/lang/String" 1 ++ staticW "java/lang/String" 177 Cmp3.yN ++ staticW "java/lang/String" 47 CodL.yN
def tab : Cond := tabOf yN yB 6 none site
def P (a : Addr) (D : Cell) (fV fC : Field) (b : Addr) (A : Cell) (z : Int32) (o len : Nat) (args : Array Value) (s : State) : Prop := args = #[.ref a, .ref b, .int (Int32.ofNat o), .int (Int32.ofNat len), .null] ∧ Blank "java/lang/String" a D s ∧ Found "java/lang/String" "value" "[B" fV s ∧ Found "java/lang/String" "coder" "B" fC s ∧ Ch b A s ∧ StaticIs s "java/lang/String" "COMPACT_STRINGS" "Z" (.int z) ∧ ¬ z = 0 ∧ 0 < len ∧ o + len ≤ A.slots.size ∧ len ≤ 536870912 ∧ ∀ i, i < len → ¬ 255 < cv A (o + i)
def E (a : Addr) (D : Cell) (fV fC : Field) (A : Cell) (o len : Nat) (r : Option Value) (s u : State) : Prop := Got a D fV fC A o len r s u
/-- len > 0, no char of the range above 255: a Latin-1 String of their low bytes -/
theorem law (l : Launch) (a : Addr) (D : Cell) (fV fC : Field) (b : Addr) (A : Cell) (z : Int32) (o len : Nat) : Law l yN 5 4 2 35 yB 6 none site (P a D fV fC b A z o len) (E a D fV fC A o len) [⟨a, fC.slot⟩, ⟨a, fV.slot⟩] 1 len := by
  refine Law.of_walk (plainFor_of_name (by decide +kernel)) (by decide +kernel) (by decide +kernel) (by decide) (fun _ _ h => by rw [h.1]; rfl) (fun _ U U' hal hh h => ⟨h.1, h.2.1.mv hal hh, h.2.2.1.al hal, h.2.2.2.1.al hal, h.2.2.2.2.1.mv hal hh, h.2.2.2.2.2.1.there hal hh, h.2.2.2.2.2.2⟩) (fun r U U' V V' h1 hal h2 h => Got.mv r U U' V V' h1 hal h2 h) ?_
  intro p e s m args below meth c s₁ X0 hexec hbytes hml hret hlk hnm hown hh0 W hP
  obtain ⟨rfl, hB, f1, f2, hA, s1, hz, l0, l1, l2, hp⟩ := hP
  have a31 := hA.1.2.2.2
  have c1 : Steps p.tables e below (s₁.setTop (entryFrame m #[.ref a, .ref b, .int (Int32.ofNat o), .int (Int32.ofNat len), .null] 6)) (s₁.setTop (mkF m 0 #[.val (.ref a), .val (.ref b), .val (.int (Int32.ofNat o)), .val (.int (Int32.ofNat len)), .val .null, .unset] [])) := entry rfl
  have c2 : Steps p.tables e below (s₁.setTop (entryFrame m #[.ref a, .ref b, .int (Int32.ofNat o), .int (Int32.ofNat len), .null] 6)) (s₁.setTop (mkF m 1 #[.val (.ref a), .val (.ref b), .val (.int (Int32.ofNat o)), .val (.int (Int32.ofNat len)), .val .null, .unset] [.ref a])) := c1.trans (by
    refine XS.aloadN X0.here hexec rfl (hb hbytes d0) rfl rfl ?_
    exact Steps.refl _)
  obtain ⟨T3, X3, q3, st3⟩ := X0.oinit hexec hown (wks W (objW "java/lang/String" 1)) (g := (mkF m 1 #[.val (.ref a), .val (.ref b), .val (.int (Int32.ofNat o)), .val (.int (Int32.ofNat len)), .val .null, .unset] [.ref a])) rfl (by rw [hml]; rfl) (rest := []) rfl (hb hbytes d1) (W := 0) (by show 2 * 0 + 0 ≤ _; decide) (Nat.le_of_ble_eq_true rfl) (Nat.le_of_ble_eq_true rfl)
  have hh3 := q3.trans hh0
  have c4 : Steps p.tables e below (s₁.setTop (entryFrame m #[.ref a, .ref b, .int (Int32.ofNat o), .int (Int32.ofNat len), .null] 6)) (T3.setTop (mkF m 27 #[.val (.ref a), .val (.ref b), .val (.int (Int32.ofNat o)), .val (.int (Int32.ofNat len)), .val .null, .unset] [])) := (c2.trans (st3 _ (Steps.refl _))).trans (by
    refine XS.iloadN X3.here hexec rfl (hb hbytes d4) rfl ?_
    refine XS.ifYes X3.here hexec rfl (pc0 := 5) rfl (hb hbytes d5) rfl (i0_ne_t (nz32 (by omega) l0)) (by decide) rfl ?_
    exact Steps.refl _)
  obtain ⟨T5, X5, q5, st5⟩ := X3.sget hexec hown (wk W (.fieldLink "java/lang/String" 38 "java/lang/String" "COMPACT_STRINGS" "Z")) s1 (fun _ _ h => by rw [hh3]; exact h) (g := (mkF m 27 #[.val (.ref a), .val (.ref b), .val (.int (Int32.ofNat o)), .val (.int (Int32.ofNat len)), .val .null, .unset] [])) rfl (hb hbytes d27)
  have hh5 := q5.trans hh3
  have c6 : Steps p.tables e below (s₁.setTop (entryFrame m #[.ref a, .ref b, .int (Int32.ofNat o), .int (Int32.ofNat len), .null] 6)) (T5.setTop (mkF m 30 #[.val (.ref a), .val (.ref b), .val (.int (Int32.ofNat o)), .val (.int (Int32.ofNat len)), .val .null, .unset] [.int z])) := c4.trans (st5 _ (Steps.refl _))
  have c7 : Steps p.tables e below (s₁.setTop (entryFrame m #[.ref a, .ref b, .int (Int32.ofNat o), .int (Int32.ofNat len), .null] 6)) (T5.setTop (mkF m 36 #[.val (.ref a), .val (.ref b), .val (.int (Int32.ofNat o)), .val (.int (Int32.ofNat len)), .val .null, .unset] [.int (Int32.ofNat len), .int (Int32.ofNat o), .ref b])) := c6.trans (by
    refine XS.ifNo X5.here hexec rfl (hb hbytes d30) rfl (i0_eq_f hz) ?_
    refine XS.aloadN X5.here hexec rfl (hb hbytes d33) rfl rfl ?_
    refine XS.iloadN X5.here hexec rfl (hb hbytes d34) rfl ?_
    refine XS.iloadN X5.here hexec rfl (hb hbytes d35) rfl ?_
    exact Steps.refl _)
  obtain ⟨v8, T8, X8, E8, g8⟩ := X5.callS hexec (Cmp3.law l b A o len) hown (wks W (staticW "java/lang/String" 177 Cmp3.yN)) (wk W Cmp3.tab) (W := 0) (Nat.le_of_ble_eq_true rfl) (Nat.le_of_ble_eq_true rfl) (Nat.le_refl _) (by show 0 + len ≤ len; omega) (g := (mkF m 36 #[.val (.ref a), .val (.ref b), .val (.int (Int32.ofNat o)), .val (.int (Int32.ofNat len)), .val .null, .unset] [.int (Int32.ofNat len), .int (Int32.ofNat o), .ref b])) rfl (by rw [hml]; rfl) c7 (argsL := [.ref b, .int (Int32.ofNat o), .int (Int32.ofNat len)]) (rest := []) rfl rfl (by show 2 * 0 + 0 ≤ _; decide) (hb hbytes d36) (⟨rfl, hA.mv X5.warmed.alike hh5, l1, l2, hp⟩)
  obtain ⟨e8, z8⟩ := E8
  obtain ⟨rfl, N, n1, n2, n3, n4, n5, n6⟩ := NewArr.mv _ T5 s _ _ hh5.symm (Vm.Alike.refl _) rfl e8
  rw [hh5] at z8
  have hB1 := hB.keep X8.warmed.alike (n6 _ _ hB.1)
  have hne : s.heap.size ≠ a := (Nat.ne_of_lt (Array.getElem?_eq_some_iff.mp hB.1).1).symm
  have c9 : Steps p.tables e below (s₁.setTop (entryFrame m #[.ref a, .ref b, .int (Int32.ofNat o), .int (Int32.ofNat len), .null] 6)) (T8.setTop (mkF m 39 #[.val (.ref a), .val (.ref b), .val (.int (Int32.ofNat o)), .val (.int (Int32.ofNat len)), .val .null, .unset] [.ref s.heap.size])) := g8
  have c10 : Steps p.tables e below (s₁.setTop (entryFrame m #[.ref a, .ref b, .int (Int32.ofNat o), .int (Int32.ofNat len), .null] 6)) (T8.setTop (mkF m 45 #[.val (.ref a), .val (.ref b), .val (.int (Int32.ofNat o)), .val (.int (Int32.ofNat len)), .val .null, .val (.ref s.heap.size)] [.int (Int32.ofNat N.slots.size), .ref s.heap.size, .ref a])) := by
    have hc : Steps p.tables e below (s₁.setTop (entryFrame m #[.ref a, .ref b, .int (Int32.ofNat o), .int (Int32.ofNat len), .null] 6)) (T8.setTop (mkF m 45 #[.val (.ref a), .val (.ref b), .val (.int (Int32.ofNat o)), .val (.int (Int32.ofNat len)), .val .null, .val (.ref s.heap.size)] [.int (Int32.ofNat len), .ref s.heap.size, .ref a])) := c9.trans (by
      refine XS.astore X8.here hexec rfl (hb hbytes d39) rfl rfl rfl ?_
      refine XS.aloadN X8.here hexec rfl (hb hbytes d41) rfl rfl ?_
      refine XS.aload X8.here hexec rfl (hb hbytes d42) rfl rfl ?_
      refine XS.iloadN X8.here hexec rfl (hb hbytes d44) rfl ?_
      exact Steps.refl _)
    rw [n4]; exact hc
  obtain ⟨v11, T11, X11, E11, g11⟩ := X8.callS hexec (CodL.law l s.heap.size N) hown (wks W (staticW "java/lang/String" 47 CodL.yN)) (wk W CodL.tab) (W := 1) (Nat.le_of_ble_eq_true rfl) (Nat.le_of_ble_eq_true rfl) (Nat.le_refl _) (by show 0 + len + 0 ≤ len; omega) (g := (mkF m 45 #[.val (.ref a), .val (.ref b), .val (.int (Int32.ofNat o)), .val (.int (Int32.ofNat len)), .val .null, .val (.ref s.heap.size)] [.int (Int32.ofNat N.slots.size), .ref s.heap.size, .ref a])) rfl (by rw [hml]; rfl) c10 (argsL := [.ref s.heap.size, .int (Int32.ofNat N.slots.size)]) (rest := [.ref a]) rfl rfl (by show 2 * 0 + (1 + 0) ≤ _; decide) (hb hbytes d45) (⟨rfl, n1⟩)
  obtain ⟨rfl, q11⟩ := E11
  have hB11 := hB1.mv (X8.warmed.alike.symm.trans X11.warmed.alike) q11
  have c12 : Steps p.tables e below (s₁.setTop (entryFrame m #[.ref a, .ref b, .int (Int32.ofNat o), .int (Int32.ofNat len), .null] 6)) (T11.setTop (mkF m 48 #[.val (.ref a), .val (.ref b), .val (.int (Int32.ofNat o)), .val (.int (Int32.ofNat len)), .val .null, .val (.ref s.heap.size)] [.int 0, .ref a])) := g11
  obtain ⟨T13, X13, p13, bl13, sl13, st13⟩ := X11.finit hexec hown (wk W (.fieldLink "java/lang/String" 15 "java/lang/String" "coder" "B")) (Or.inr ⟨_, (wk W (.laysFinal "java/lang/String" "java/lang/String" "coder" "B"))⟩) (Or.inl ⟨rfl, hnm⟩) f2 (Or.inl rfl) hB11 (t := .byte) (by decide +kernel) rfl (g := (mkF m 48 #[.val (.ref a), .val (.ref b), .val (.int (Int32.ofNat o)), .val (.int (Int32.ofNat len)), .val .null, .val (.ref s.heap.size)] [.int 0, .ref a])) rfl (rest := []) rfl (hb hbytes d48)
  have c14 : Steps p.tables e below (s₁.setTop (entryFrame m #[.ref a, .ref b, .int (Int32.ofNat o), .int (Int32.ofNat len), .null] 6)) (T13.setTop (mkF m 54 #[.val (.ref a), .val (.ref b), .val (.int (Int32.ofNat o)), .val (.int (Int32.ofNat len)), .val .null, .val (.ref s.heap.size)] [.ref s.heap.size, .ref a])) := (c12.trans (st13 _ (Steps.refl _))).trans (by
    refine XS.aloadN X13.here hexec rfl (hb hbytes d51) rfl rfl ?_
    refine XS.aload X13.here hexec rfl (hb hbytes d52) rfl rfl ?_
    exact Steps.refl _)
  obtain ⟨T15, X15, p15, bl15, sl15, st15⟩ := X13.finit hexec hown (wk W (.fieldLink "java/lang/String" 9 "java/lang/String" "value" "[B")) (Or.inr ⟨_, (wk W (.laysFinal "java/lang/String" "java/lang/String" "value" "[B"))⟩) (Or.inl ⟨rfl, hnm⟩) f1 (Or.inl rfl) bl13 (t := (.array .byte)) (by decide +kernel) rfl (g := (mkF m 54 #[.val (.ref a), .val (.ref b), .val (.int (Int32.ofNat o)), .val (.int (Int32.ofNat len)), .val .null, .val (.ref s.heap.size)] [.ref s.heap.size, .ref a])) rfl (rest := []) rfl (hb hbytes d54)
  have c16 : Steps p.tables e below (s₁.setTop (entryFrame m #[.ref a, .ref b, .int (Int32.ofNat o), .int (Int32.ofNat len), .null] 6)) (T15.setTop (mkF m 57 #[.val (.ref a), .val (.ref b), .val (.int (Int32.ofNat o)), .val (.int (Int32.ofNat len)), .val .null, .val (.ref s.heap.size)] [])) := c14.trans (st15 _ (Steps.refl _))
  have ap := apart (Or.inr ⟨_, (wk W (.laysFinal "java/lang/String" "java/lang/String" "value" "[B"))⟩) (Or.inr ⟨_, (wk W (.laysFinal "java/lang/String" "java/lang/String" "coder" "B"))⟩) f1 f2 (t₁ := .array .byte) (t₂ := .byte) (by decide +kernel) (by decide +kernel) (by decide)
  have al := X8.warmed.alike.symm.trans X15.warmed.alike
  have n7 : T11.heap[s.heap.size]? = some N := by rw [q11]; exact n1.1
  exact ⟨T15, none, _, _, _, X15, by simp, rfl, by omega, (fun _ => rfl), ⟨rfl, _, N, bl15, ((Same.refl D _).set _ (by simp)).set _ (by simp), sl15, (Cell.slots_setSlot_ne _ ap).trans sl13, n1.keep al (p15.other hne (p13.other hne n7)), n2, by rw [al.findClass]; exact n3, n4, n5, fun y c h1 h2 => p15.other h1 (p13.other h1 (by rw [q11]; exact n6 y c h2)), by rw [p15.2.2, p13.2.2, q11]; exact z8⟩, fun fs hl => c16.trans (X15.returnOut hexec hret (hb hbytes d57) hl)⟩
end New4
namespace New1
def yN : MethodName := ⟨"java/lang/String", "<init>", "([C)V"⟩
abbrev yB : ByteArray := jdk_42_method_3_code
theorem d0 : decode yB 0 = .ok (.aload_n 0, 1) := by decide +kernel
theorem d1 : decode yB 1 = .ok (.aload_n 1, 1) := by decide +kernel
theorem d2 : decode yB 2 = .ok (.iconst 0, 1) := by decide +kernel
theorem d3 : decode yB 3 = .ok (.aload_n 1, 1) := by decide +kernel
theorem d4 : decode yB 4 = .ok (.arraylength, 1) := by decide +kernel
theorem d5 : decode yB 5 = .ok (.aconst_null, 1) := by decide +kernel
theorem d6 : decode yB 6 = .ok (.invokespecial 27, 3) := by decide +kernel
theorem d9 : decode yB 9 = .ok (.return_, 1) := by decide +kernel
def site : List Cond := [New4.tab] ++ initW "java/lang/String" 27 New4.yN
def tab : Cond := tabOf yN yB 2 none site
def P (a : Addr) (D : Cell) (fV fC : Field) (b : Addr) (A : Cell) (z : Int32) (args : Array Value) (s : State) : Prop := args = #[.ref a, .ref b] ∧ Blank "java/lang/String" a D s ∧ Found "java/lang/String" "value" "[B" fV s ∧ Found "java/lang/String" "coder" "B" fC s ∧ Ch b A s ∧ StaticIs s "java/lang/String" "COMPACT_STRINGS" "Z" (.int z) ∧ ¬ z = 0 ∧ 0 < A.slots.size ∧ A.slots.size ≤ 536870912 ∧ ∀ i, i < A.slots.size → ¬ 255 < cv A i
def E (a : Addr) (D : Cell) (fV fC : Field) (A : Cell) (r : Option Value) (s u : State) : Prop := Got a D fV fC A 0 A.slots.size r s u
/-- new String(chars), not empty, no char above 255: a Latin-1 String of their low bytes -/
theorem law (l : Launch) (a : Addr) (D : Cell) (fV fC : Field) (b : Addr) (A : Cell) (z : Int32) : Law l yN 2 1 3 52 yB 2 none site (P a D fV fC b A z) (E a D fV fC A) [⟨a, fC.slot⟩, ⟨a, fV.slot⟩] 1 A.slots.size := by
  refine Law.of_walk (plainFor_of_name (by decide +kernel)) (by decide +kernel) (by decide +kernel) (by decide) (fun _ _ h => by rw [h.1]; rfl) (fun _ U U' hal hh h => ⟨h.1, h.2.1.mv hal hh, h.2.2.1.al hal, h.2.2.2.1.al hal, h.2.2.2.2.1.mv hal hh, h.2.2.2.2.2.1.there hal hh, h.2.2.2.2.2.2⟩) (fun r U U' V V' h1 hal h2 h => Got.mv r U U' V V' h1 hal h2 h) ?_
  intro p e s m args below meth c s₁ X0 hexec hbytes hml hret hlk hnm hown hh0 W hP
  obtain ⟨rfl, hB, f1, f2, hA, s1, hz, l0, l2, hp⟩ := hP
  have c1 : Steps p.tables e below (s₁.setTop (entryFrame m #[.ref a, .ref b] 2)) (s₁.setTop (mkF m 0 #[.val (.ref a), .val (.ref b)] [])) := entry rfl
  have c2 : Steps p.tables e below (s₁.setTop (entryFrame m #[.ref a, .ref b] 2)) (s₁.setTop (mkF m 6 #[.val (.ref a), .val (.ref b)] [.null, .int (Int32.ofNat A.slots.size), .int 0, .ref b, .ref a])) := c1.trans (by
    refine XS.aloadN X0.here hexec rfl (hb hbytes d0) rfl rfl ?_
    refine XS.aloadN X0.here hexec rfl (hb hbytes d1) rfl rfl ?_
    refine iconstV X0.here hexec rfl 0 (hb hbytes d2) (by decide) ?_
    refine XS.aloadN X0.here hexec rfl (hb hbytes d3) rfl rfl ?_
    refine X0.alen hexec (hA.1.mv X0.warmed.alike hh0) rfl rfl (hb hbytes d4) ?_
    refine XS.aconstNull X0.here hexec rfl (hb hbytes d5) ?_
    exact Steps.refl _)
  obtain ⟨v3, T3, X3, E3, g3⟩ := X0.callN hexec (New4.law l a D fV fC b A z 0 A.slots.size) rfl hown (wks W (initW "java/lang/String" 27 New4.yN)) (W New4.tab (by simp only [site, List.mem_cons, List.mem_append, true_or, or_true])) (W := 0) (Nat.le_of_ble_eq_true rfl) (Nat.le_of_ble_eq_true rfl) (Nat.le_refl _) (by show 0 + A.slots.size ≤ A.slots.size; omega) (g := (mkF m 6 #[.val (.ref a), .val (.ref b)] [.null, .int (Int32.ofNat A.slots.size), .int (Int32.ofNat 0), .ref b, .ref a])) rfl (by rw [hml]; rfl) c2 (argsL := [.ref b, .int (Int32.ofNat 0), .int (Int32.ofNat A.slots.size), .null]) (rest := []) rfl rfl (by show 2 * 0 + 0 ≤ _; decide) (hb hbytes d6) (⟨rfl, hB.mv X0.warmed.alike hh0, f1.al X0.warmed.alike, f2.al X0.warmed.alike, hA.mv X0.warmed.alike hh0, s1.there X0.warmed.alike hh0, hz, l0, by omega, l2, fun i hi => by rw [Nat.zero_add]; exact hp i hi⟩)
  have e0 := Got.mv _ s₁ s _ _ hh0.symm (Vm.Alike.refl _) rfl E3
  obtain rfl := e0.1
  have c4 : Steps p.tables e below (s₁.setTop (entryFrame m #[.ref a, .ref b] 2)) (T3.setTop (mkF m 9 #[.val (.ref a), .val (.ref b)] [])) := g3
  exact ⟨T3, none, _, _, _, X3, by simp, rfl, by omega, (fun _ => rfl), e0, fun fs hl => c4.trans (X3.returnOut hexec hret (hb hbytes d9) hl)⟩
theorem pays {l : Launch} {R : Room} {p : Program} {e : Env} {below : List Frame} {s : State} {sargs : Array Value} {len W : Nat} (a : Addr) (D : Cell) (fV fC : Field) (b : Addr) (A : Cell) (z : Int32) (htab : tab.before sargs s = true) (hfr : 4 ≤ R.frames) (hlo : W + 65 ≤ R.locals) :
    Back l R p e below s sargs yN len W (fun A₁ a₁ => A₁.cells + 1 ≤ R.cells ∧ A₁.slots + A.slots.size ≤ R.slots ∧ P a D fV fC b A z a₁ A₁.U) (fun A₁ _ v₁ B₁ => E a D fV fC A v₁ A₁.U B₁.U ∧ B₁.locs = A₁.locs ++ [⟨a, fC.slot⟩, ⟨a, fV.slot⟩] ∧ B₁.cells = A₁.cells + 1 ∧ B₁.slots = A₁.slots + A.slots.size) :=
  (law l a D fV fC b A z).pays htab hfr (by omega)
end New1
end StrChars
namespace StrChars.Road
open Jvm Sem ClassFile Op Lib Jvm.Stand Jvm.Free Jvm.Free.XT
open Jvm.Lib.Cold (StaticIs)
abbrev ST : String := "java/lang/String"
/-- every table word that New1's law asks, flat -/
abbrev words : List Jvm.Cond := [.code New1.yN New1.yB 2 none, .initialized ST, .methodLink ST 27 New4.yN, .instanceMethod New4.yN,
  .code New4.yN New4.yB 6 none, .fieldLink ST 38 ST "COMPACT_STRINGS" "Z", .laysFinal ST ST "value" "[B", .fieldLink ST 9 ST "value" "[B", .laysFinal ST ST "coder" "B", .fieldLink ST 15 ST "coder" "B",
  .methodLink ST 1 Lib.objectInit, .instanceMethod Lib.objectInit, .code Lib.objectInit ⟨#[0xb1]⟩ 1 none, .methodLink ST 177 Cmp3.yN, .static Cmp3.yN, .methodLink ST 47 CodL.yN, .static CodL.yN,
  .code Cmp3.yN Cmp3.yB 6 (some (.array .byte)), .initialized U16, .arrayClass .byte, .methodLink U16 115 Cmp5.yN, .static Cmp5.yN, .code Cmp5.yN Cmp5.yB 7 (some .int), .code CodL.yN CodL.yB 2 (some .byte)]
theorem tab_of {a : Array Value} {s : State} (h : ∀ w ∈ words, w.before a s = true) : New1.tab.before a s = true := by
  have h5 : Cmp5.tab.before a s = true := unparts (wk h (.code Cmp5.yN Cmp5.yB 7 (some .int))) (wks h (.initialized Cmp5.yN.cls :: Cmp5.site))
  have hc : CodL.tab.before a s = true := unparts (wk h (.code CodL.yN CodL.yB 2 (some .byte))) (wks h (.initialized CodL.yN.cls :: CodL.site))
  have q5 : ∀ w ∈ Cmp5.tab :: words, w.before a s = true := fun w hw => (List.mem_cons.mp hw).elim (fun e => e ▸ h5) (h w)
  have h3 : Cmp3.tab.before a s = true := unparts (wk q5 (.code Cmp3.yN Cmp3.yB 6 (some (.array .byte)))) (wks q5 (.initialized Cmp3.yN.cls :: Cmp3.site))
  have q3 : ∀ w ∈ Cmp3.tab :: CodL.tab :: words, w.before a s = true := fun w hw => (List.mem_cons.mp hw).elim (fun e => e ▸ h3) fun hw => (List.mem_cons.mp hw).elim (fun e => e ▸ hc) (h w)
  have h4 : New4.tab.before a s = true := unparts (wk q3 (.code New4.yN New4.yB 6 none)) (wks q3 (.initialized New4.yN.cls :: New4.site))
  have q4 : ∀ w ∈ New4.tab :: words, w.before a s = true := fun w hw => (List.mem_cons.mp hw).elim (fun e => e ▸ h4) (h w)
  exact unparts (wk q4 (.code New1.yN New1.yB 2 none)) (wks q4 (.initialized New1.yN.cls :: New1.site))
/-- the words ride from the start Z to the walk's own state -/
theorem moved {Z s : State} {a0 args : Array Value} (hZ : Z.Warmed39 s.vm) (hw : ∀ d ∈ words, d.before a0 Z = true) : ∀ d ∈ words, d.before args s = true := fun d hd => by
  have q := hw d hd
  have t : ∀ d ∈ words, d = .arrayClass .byte ∨ (d.onTables && d.keepsFace) = true := by decide +kernel
  rcases t d hd with rfl | t
  · exact RoadKit.mvA hZ q
  · exact RoadKit.mv hZ q t
/-- WHAT COMES BACK, over the tables of the start Z: h the heap at the call, h' behind it -/
def Q (Z : State) (x : Addr) (A : Cell) (h : Heap) (v : Option Value) (h' : Heap) (L : List Loc) : Prop := v = none ∧ (∀ y ∈ L, y.base = x) ∧ RoadKit.Keep h h' [x] ∧ h'.size = h.size + 1 ∧ RoadKit.Exa Z h' x ST ∧ RoadKit.Fld Z h' x ST "value" "[B" (.ref h.size) ∧ RoadKit.Fld Z h' x ST "coder" "B" (.int 0) ∧
  (∃ V : Cell, RoadKit.Arr Z h' h.size V .byte ∧ V.vm = .none ∧ Z.vm.findClass "[B" = some V.cls ∧ V.slots.size = A.slots.size ∧ ∀ j, j < A.slots.size → V.slots[j]? = some (.int (lo8 (cv A j)))) ∧
  ∀ (O n d : String) (w : Value), RoadKit.Fld Z h x O n d w → RoadKit.slotOf Z O n d ≠ RoadKit.slotOf Z ST "value" "[B" → RoadKit.slotOf Z O n d ≠ RoadKit.slotOf Z ST "coder" "B" → RoadKit.Fld Z h' x O n d w
/-- **new String(chars) AT A CALL, IN THE ROAD'S FORM**: for specialBack behind newO: x the fresh String, b the char[] with the cell A -/
theorem back {p : Program} {l : Launch} {e : Env} {R : Room} {s : State} {args : Array Value} {below : List Frame} {len W : Nat} {Z : State} {a0 : Array Value} {h : Heap} (hZ : Z.Warmed39 s.vm) (hw : ∀ d ∈ words, d.before a0 Z = true) {kI : Nat} (wi : (Jvm.Cond.instantiable ST kI).before a0 Z = true)
    {x b : Addr} {A : Cell} {z : Int32} {v0 c0 : Value} (E : RoadKit.Exa Z h x ST) (V : RoadKit.Fld Z h x ST "value" "[B" v0) (C : RoadKit.Fld Z h x ST "coder" "B" c0) (K : RoadKit.Arr Z h b A .char) (hty : Typed .char A) (S : RoadKit.Sta Z h ST "COMPACT_STRINGS" "Z" (.int z)) (hz : ¬ z = 0)
    (l0 : 0 < A.slots.size) (l2 : A.slots.size ≤ 536870912) (hp : ∀ i, i < A.slots.size → ¬ 255 < cv A i) (hfr : 4 ≤ R.frames) (hlo : W + 65 ≤ R.locals) :
    Back l R p e below s args New1.yN len W (fun P a => a = #[.ref x, .ref b] ∧ P.U.heap = h ∧ P.cells + 1 ≤ R.cells ∧ P.slots + A.slots.size ≤ R.slots)
      (fun P _ v B => ∃ L, Q Z x A h v B.U.heap L ∧ B.locs = P.locs ++ L ∧ B.cells = P.cells + 1 ∧ B.slots = P.slots + A.slots.size) := by
  intro m meth c P g ig mk a X hg hsize hdg hW hn hp'
  obtain ⟨rfl, rfl, r1, r2⟩ := hp'
  have al : Z.vm.Alike P.U.vm := hZ.alike.trans X.warmed.alike
  obtain ⟨D, cfV, kV, iV, fV, hD, gV, stV, knV, obV, asV, slV⟩ := id V
  obtain ⟨D', cfC, kC, iC, fC, hD', gC, stC, -, -, asC, slC⟩ := id C
  cases hD.symm.trans hD'
  obtain ⟨D2, kD, e1, e2, e3, e4, e5⟩ := id E
  cases hD.symm.trans e1
  obtain ⟨c2, k2, i1, i2, i3, -⟩ := Cond.instantiable_spec wi
  cases e2.symm.trans i1
  cases e3.symm.trans i2
  obtain ⟨kU, u1, u2⟩ := al.2.2 _ _ e3
  have hB : Blank ST x D P.U := ⟨hD, ⟨knV, fun q hq => by rw [hq] at obV; cases obV⟩, by rw [al.findClass]; exact e2, kU, u1, by rw [u2]; exact i3, by rw [u2]; exact e5 i3⟩
  have F1 : Found ST "value" "[B" fV P.U := ⟨SBG.found_only al ⟨cfV, kV, iV, gV⟩, stV⟩
  have F2 : Found ST "coder" "B" fC P.U := ⟨SBG.found_only al ⟨cfC, kC, iC, gC⟩, stC⟩
  have hA : Ch b A P.U := ⟨⟨K.1, State.isArrayOf_alike al K.2.1, K.2.2, by omega⟩, hty⟩
  have hS : StaticIs P.U ST "COMPACT_STRINGS" "Z" (.int z) := by
    obtain ⟨cfS, iS, kS, fS, st, cS, t1, t2, t3, t4, t5, t6, t7⟩ := S
    exact StaticIs.there (s := { Z with heap := P.U.heap }) ⟨cfS, iS, kS, fS, st, cS, t1, t2, t3, t4, t5, (fun q => by rw [q] at t6; cases t6), t7⟩ al rfl
  obtain ⟨v, B, X', ⟨⟨hv, E', V', q1, q2, q3, q4, q5, q6, q7, q8, q9, q10, q11⟩, hl, hc, hs⟩, st⟩ := New1.pays x D fV fC b A z (tab_of (moved hZ hw)) hfr hlo m meth c P g ig mk _ X hg hsize hdg hW hn ⟨r1, r2, rfl, hB, F1, F2, hA, hS, hz, l0, l2, hp⟩
  have al' : Z.vm.Alike B.U.vm := hZ.alike.trans X'.warmed.alike
  have hsz : E'.slots.size = D.slots.size := by
    obtain ⟨-, -, -, kB, w1, w2, w3⟩ := q1
    obtain ⟨kB', y1, y2⟩ := al'.2.2 _ _ e3
    rw [q2.2.1] at w1
    cases w1.symm.trans y1
    rw [w3, e5 i3, y2]
  refine ⟨v, B, X', ⟨_, ⟨hv, ?_, ⟨by omega, fun y cy hy hn' => q10 y cy (by simpa using hn') hy, fun y cy hy => ?_⟩, q11, ⟨E', _, q1.1, by rw [q2.2.1]; exact e2, by rw [q2.2.1]; exact e3, by rw [q2.1]; exact obV, fun _ => by rw [hsz]; exact e5 i3⟩,
    ⟨E', cfV, kV, iV, fV, q1.1, gV, stV, by rw [q2.1]; exact knV, by rw [q2.1]; exact obV, by rw [q2.2.1]; exact asV, q3⟩, ⟨E', cfC, kC, iC, fC, q1.1, gC, stC, by rw [q2.1]; exact knV, by rw [q2.1]; exact obV, by rw [q2.2.1]; exact asC, q4⟩,
    ⟨V', ⟨q5.1, State.isArrayOf_alike al'.symm q5.2.1, q5.2.2.1⟩, q6, by rw [← al'.findClass]; exact q7, q8, fun j hj => by have := q9 j hj; rwa [Nat.zero_add] at this⟩, fun O n d w F n1 n2 => ?_⟩, hl, hc, hs⟩, st⟩
  · intro y hy
    simp only [List.mem_cons, List.not_mem_nil, or_false] at hy
    rcases hy with rfl | rfl <;> rfl
  · by_cases q : y = x
    · subst q
      cases hD.symm.trans hy
      exact ⟨E', q1.1, q2.2.1, q2.1, hsz⟩
    · exact ⟨cy, q10 y cy q hy, rfl, rfl, rfl⟩
  · obtain ⟨D3, cf, k, i, f, g1, g2, g3, g4, g5, g6, g7⟩ := F
    cases hD.symm.trans g1
    simp only [RoadKit.slotOf, g2, gV, gC, Option.map_some, Option.getD_some] at n1 n2
    exact ⟨E', cf, k, i, f, q1.1, g2, g3, by rw [q2.1]; exact g4, by rw [q2.1]; exact g5, by rw [q2.2.1]; exact g6, by rw [q2.2.2 f.slot (by simp [n1, n2])]; exact g7⟩
end StrChars.Road
namespace StrChars.Road
open Jvm Sem ClassFile Op Lib Jvm.Stand Jvm.Free Jvm.Free.XT
/-- WHAT COMES BACK, the byte[] as a list of values -/
def QA (Z : State) (x : Addr) (zn : Int32) (cs : List Int32) (h : Heap) (v : Option Value) (h' : Heap) (L : List Loc) : Prop := v = none ∧ (∀ y ∈ L, y.base = x) ∧ RoadKit.Keep h h' [x] ∧ h'.size = h.size + 1 ∧ RoadKit.Exa Z h' x ST ∧ RoadKit.Fld Z h' x ST "value" "[B" (.ref h.size) ∧ RoadKit.Fld Z h' x ST "coder" "B" (.int 0) ∧
  (∃ kb, Z.vm.findClass "[B" = some kb ∧ RoadKit.Arv Z h' h.size kb .byte zn (cs.map fun c => .int (lo8 c)) (.int 0)) ∧
  ∀ (O n d : String) (w : Value), RoadKit.Fld Z h x O n d w → RoadKit.slotOf Z O n d ≠ RoadKit.slotOf Z ST "value" "[B" → RoadKit.slotOf Z O n d ≠ RoadKit.slotOf Z ST "coder" "B" → RoadKit.Fld Z h' x O n d w
/-- **new String(chars) AT A CALL, THE ARRAYS AS LISTS**: the char[] at b holds cs, not empty, no char above 255 -/
theorem backArv {p : Program} {l : Launch} {e : Env} {R : Room} {s : State} {args : Array Value} {below : List Frame} {len W : Nat} {Z : State} {a0 : Array Value} {h : Heap} (hZ : Z.Warmed39 s.vm) (hw : ∀ d ∈ words, d.before a0 Z = true) {kI : Nat} (wi : (Jvm.Cond.instantiable ST kI).before a0 Z = true)
    {x b : Addr} {k : ClassId} {zn z : Int32} {cs : List Int32} {dv v0 c0 : Value} (E : RoadKit.Exa Z h x ST) (V : RoadKit.Fld Z h x ST "value" "[B" v0) (C : RoadKit.Fld Z h x ST "coder" "B" c0) (K : RoadKit.Arv Z h b k .char zn (cs.map Value.int) dv) (S : RoadKit.Sta Z h ST "COMPACT_STRINGS" "Z" (.int z)) (hz : ¬ z = 0)
    (hlen : zn.toNatClampNeg = cs.length) (h0 : 0 < cs.length) (hbig : cs.length ≤ 536870912) (hall : ∀ c ∈ cs, ¬ 255 < c) (hfr : 4 ≤ R.frames) (hlo : W + 65 ≤ R.locals) :
    Back l R p e below s args New1.yN len W (fun P a => a = #[.ref x, .ref b] ∧ P.U.heap = h ∧ P.cells + 1 ≤ R.cells ∧ P.slots + cs.length ≤ R.slots)
      (fun P _ v B => ∃ L, QA Z x zn cs h v B.U.heap L ∧ B.locs = P.locs ++ L ∧ B.cells = P.cells + 1 ∧ B.slots = P.slots + cs.length) := by
  obtain ⟨A, K1, K2, K3, K4, K5, K6⟩ := K
  have e : A.slots.size = cs.length := K3.trans hlen
  have hat : ∀ (i : Nat) (hi : i < cs.length), A.slots[i]? = some (.int cs[i]) := fun i hi => by rw [K5 i (by omega)]; simp [List.getD_eq_getElem?_getD, hi]
  have hcv : ∀ (i : Nat) (hi : i < cs.length), cv A i = cs[i] := fun i hi => by unfold cv; rw [hat i hi]
  have hty : Typed .char A := fun i v hv => by
    have hi : i < A.slots.size := (Array.getElem?_eq_some_iff.mp hv).1
    have q := K5 i hi
    rw [hv] at q
    rw [Option.some.inj q]
    exact K6 i hi
  refine Back.mono (back hZ hw wi E V C K1 hty S hz (by omega) (by omega) (fun i hi => by rw [hcv i (by omega)]; exact hall _ (List.getElem_mem _)) hfr hlo) (fun P a hp => ⟨hp.1, hp.2.1, hp.2.2.1, by rw [e]; exact hp.2.2.2⟩) (fun P a v B hp hq => ?_)
  obtain ⟨L, ⟨q1, q2, q3, q4, q5, q6, q7, ⟨V', v1, v2, v3, v4, v5⟩, q9⟩, hl, hc, hs⟩ := hq
  refine ⟨L, ⟨q1, q2, q3, q4, q5, q6, q7, ⟨V'.cls, v3, V', v1, rfl, by rw [v4, e, hlen], K4, fun i hi => ?_, fun i hi => ?_⟩, q9⟩, hl, hc, by rw [hs, e]⟩
  · have hi' : i < cs.length := by omega
    rw [v5 i (by omega), hcv i hi']; simp [List.getD_eq_getElem?_getD, hi']
  · have hi' : i < cs.length := by omega
    simp only [List.getD_eq_getElem?_getD, List.getElem?_map, List.getElem?_eq_getElem hi', Option.map_some, Option.getD_some]
    exact fits_lo8 _
end StrChars.Road
namespace StrChars.Road
open Jvm Sem ClassFile Op Lib Jvm.Stand Jvm.Free Jvm.Free.XT
/-- WHAT COMES BACK, in the writer's own shape -/
def QV (Z : State) (x : Addr) (N : Int32) (bs : List Int32) (h : Heap) (n0 : Nat) (v : Option Value) (h' : Heap) (L : List Loc) : Prop := v = none ∧ RoadKit.Fr n0 L ∧ RoadKit.Keep h h' [x] ∧ RoadKit.Exa Z h' x ST ∧ RoadKit.Fld Z h' x ST "coder" "B" (.int 0) ∧
  ∃ (t : Addr) (kb : ClassId), n0 ≤ t ∧ h.size ≤ t ∧ ¬ t = x ∧ RoadKit.Fld Z h' x ST "value" "[B" (.ref t) ∧ RoadKit.Arv Z h' t kb .byte N (bs.map Value.int) (.int 0)
/-- **new String(chars) AT A CALL, FOR THE WRITER**: a char[] of n known ints, each 0 to 255 -/
theorem backV {p : Program} {l : Launch} {e : Env} {R : Room} {s : State} {args : Array Value} {below : List Frame} {len W : Nat} {Z : State} {a0 : Array Value} {h : Heap} (hZ : Z.Warmed39 s.vm) (hw : ∀ d ∈ words, d.before a0 Z = true) {kI : Nat} (wi : (Jvm.Cond.instantiable ST kI).before a0 Z = true)
    {x b : Addr} {kC : ClassId} {cs bs : List Int32} {d v0 c0 : Value} {z N : Int32} {n n0 : Nat} (hx0 : n0 ≤ x) (hh0 : n0 ≤ h.size) (E : RoadKit.Exa Z h x ST) (V : RoadKit.Fld Z h x ST "value" "[B" v0) (C : RoadKit.Fld Z h x ST "coder" "B" c0) (K : RoadKit.Arv Z h b kC .char N (cs.map Value.int) d) (S : RoadKit.Sta Z h ST "COMPACT_STRINGS" "Z" (.int z)) (hz : ¬ z = 0)
    (hn : cs.length = n) (hN : N = Int32.ofNat n) (l0 : 0 < n) (l2 : n ≤ 4000) (hp : ∀ c ∈ cs, ¬ c < 0 ∧ ¬ (255 : Int32) < c) (hb : bs = cs.map (fun c => c.toInt8.toInt32)) (hfr : 4 ≤ R.frames) (hlo : W + 65 ≤ R.locals) :
    Back l R p e below s args (⟨"java/lang/String", "<init>", "([C)V"⟩ : MethodName) len W (fun P a => a = #[.ref x, .ref b] ∧ P.U.heap = h ∧ P.cells + 1 ≤ R.cells ∧ P.slots + n ≤ R.slots)
      (fun P _ v B => ∃ L, QV Z x N bs h n0 v B.U.heap L ∧ B.locs = P.locs ++ L ∧ B.cells = P.cells + 1 ∧ B.slots = P.slots + n) := by
  subst hn hN hb
  refine Back.mono (backArv hZ hw wi E V C K S hz (n32 (by omega)) l0 (by omega) (fun c hc => (hp c hc).2) hfr hlo) (fun P a hp => hp) (fun P a v B hp hq => ?_)
  obtain ⟨L, ⟨q1, q2, q3, q4, q5, q6, q7, ⟨kb, v1, v2⟩, q9⟩, hl, hc, hs⟩ := hq
  exact ⟨L, ⟨q1, fun y hy => by rw [q2 y hy]; exact hx0, q3, q5, q7, h.size, kb, hh0, Nat.le_refl _, Nat.ne_of_gt E.lt, q6, by rw [List.map_map]; exact v2⟩, hl, hc, hs⟩
end StrChars.Road
end Jvm.Pilot.@@N@@
namespace Jvm.Pilot.@@N@@
open Jvm Jvm.ClassFile Sem Op Lib Jvm.Free Jvm.Stand Jvm.LawKit Jvm.RoadKit Bundle Jvm.Pilot.@@N@@.Jvm.D
abbrev y1 : MethodName := ⟨"com/example/lease/lease/RoleNamedPinLaw", "role", "(I)Lcom/example/lease/lease/Role;"⟩
abbrev y2 : MethodName := ⟨"com/example/lease/lease/RoleNamedPinLaw", "word", "(I)[C"⟩
abbrev y3 : MethodName := ⟨"java/lang/String", "<init>", "([C)V"⟩
abbrev y4 : MethodName := ⟨"java/lang/String", "<init>", "([CIILjava/lang/Void;)V"⟩
abbrev y5 : MethodName := ⟨"java/lang/Object", "<init>", "()V"⟩
abbrev y6 : MethodName := ⟨"java/lang/StringUTF16", "compress", "([CII)[B"⟩
abbrev y7 : MethodName := ⟨"java/lang/StringUTF16", "compress", "([CI[BII)I"⟩
abbrev y8 : MethodName := ⟨"java/lang/StringUTF16", "coderFromArrayLen", "([BI)B"⟩
abbrev y9 : MethodName := ⟨"com/example/lease/lease/Role", "named", "(Ljava/lang/String;)Lcom/example/lease/lease/Role;"⟩
abbrev y10 : MethodName := ⟨"com/example/lease/lease/Role", "values", "()[Lcom/example/lease/lease/Role;"⟩
abbrev y11 : MethodName := ⟨"java/lang/String", "equals", "(Ljava/lang/Object;)Z"⟩
abbrev y12 : MethodName := ⟨"java/lang/StringLatin1", "equals", "([B[B)Z"⟩

abbrev jv (x : Int64) : Slot := .val (.long x)
abbrev un : Slot := .unset
abbrev se : Slot := .second
abbrev AT (p : Program) (e : Env) (below : List Frame) (T : State) (m : MethodId) (pc : Nat) (ls : Array Slot) (st : List Value) (tg : State) : Prop := Steps p.tables e below (T.setTop (mkF m pc ls st)) tg
theorem ow {Z : State} {a0 : Array Value} (hw : ∀ d ∈ tables_1, d.before a0 Z = true) (i : Nat) {d : Jvm.Cond} (h : tables_1[i]? = some d) : d.before a0 Z = true := hw _ (List.mem_of_getElem? h)
theorem own_lrem {p : Program} {l : Launch} {e : Env} {R : Room} {s : State} {m : MethodId} {args : Array Value} {below : List Frame} {meth : Method} {c : Code} {T : State} {locs : List Loc} {cells slots : Nat} {g : JFrame} {target : State} (X : Stand p l e R s m args below meth c T locs cells slots) (hx : p.tables.exec = Jvm.exec) (hg : g.method = m) {x y : Int64} {rest : List Value} (hd : decode c.code g.pc = .ok (.lrem, 1)) (hs : g.stack = .long y :: .long x :: rest) (hy : y ≠ 0)
    (hr : Steps p.tables e below (T.setTop { g with pc := g.pc + 1, stack := .long (x % y) :: rest }) target) : Steps p.tables e below (T.setTop g) target :=
  XS.lrem X.here hx hg hd hs hy (by rw [lrem_mod]; exact hr)
theorem own_eqInt {args : Array Value} {first s : State} {o : Option Outcome} {idx : List Nat} {t : Term} {n : Int32} (h : (Jvm.Cond.eq t (.int n)).value args first o s idx = some true) : t.eval args first o idx s = some (.int n) := by
  simp only [Cond.value, Term.eval] at h
  cases ht : t.eval args first o idx s with
  | none => simp [ht] at h
  | some v => cases v <;> simp [ht] at h ⊢; exact h
theorem own_eqLong {args : Array Value} {first s : State} {o : Option Outcome} {idx : List Nat} {t : Term} {n : Int64} (h : (Jvm.Cond.eq t (.long n)).value args first o s idx = some true) : t.eval args first o idx s = some (.long n) := by
  simp only [Cond.value, Term.eval] at h
  cases ht : t.eval args first o idx s with
  | none => simp [ht] at h
  | some v => cases v <;> simp [ht] at h ⊢; exact h
theorem own_eqRef {args : Array Value} {first s : State} {o : Option Outcome} {idx : List Nat} {t u : Term} {a : Addr} (hu : u.eval args first o idx s = some (.ref a)) (h : (Jvm.Cond.eq t u).value args first o s idx = some true) : t.eval args first o idx s = some (.ref a) := by
  simp only [Cond.value, hu] at h
  cases ht : t.eval args first o idx s with
  | none => simp [ht] at h
  | some v => cases v <;> simp [ht] at h ⊢; exact h

theorem own_x32 {a b : Int} (h : (a - b) % 4294967296 = 0) (r : -2147483648 ≤ a ∧ a ≤ 2147483647) (q : -2147483648 ≤ b ∧ b ≤ 2147483647) : a = b := by omega
theorem own_x64 {a b : Int} (h : (a - b) % 18446744073709551616 = 0) (r : -9223372036854775808 ≤ a ∧ a ≤ 9223372036854775807) (q : -9223372036854775808 ≤ b ∧ b ≤ 9223372036854775807) : a = b := by omega
theorem own_in {c : Cell} {n : Int32} (j : Int32) (S : c.slots.size = n.toNatClampNeg) (q : ¬ j < 0 ∧ j < n) : ¬ (j < 0 ∨ c.slots.size ≤ j.toNatClampNeg) := inb_of S q
theorem own_up {x a b : Int32} (h : x < a) (q : a.toInt ≤ b.toInt) : x < b := Int32.lt_iff_toInt_lt.mpr (Int.lt_of_lt_of_le (Int32.lt_iff_toInt_lt.mp h) q)
theorem own_dn {x a b : Int32} (h : ¬ x < a) (q : b.toInt ≤ a.toInt) : ¬ x < b := fun z => h (own_up z q)
theorem own_neInt {args : Array Value} {first s : State} {o : Option Outcome} {idx : List Nat} {t : Term} {x n : Int32} (ht : t.eval args first o idx s = some (.int x)) (h : (Jvm.Cond.not (Jvm.Cond.eq t (.int n))).value args first o s idx = some true) : ¬ x = n := by
  simpa [Cond.value, Term.eval, ht] using h

theorem own_len {Z : State} {args : Array Value} {t : Term} {a : Addr} {cl : Cell} {ty : FieldType} {n : Int32} (ev : t.eval args Z none [] Z = some (.ref a)) (A : Arr Z Z.heap a cl ty) (h : (Term.length t).eval args Z none [] Z = some (.int n)) : cl.slots.size < 2 ^ 31 ∧ cl.slots.size.toInt32 = n := by
  have q := A.fin (U := Z) (Vm.Alike.refl _)
  simp only [Term.eval, ev, q, Option.bind_eq_bind, Option.bind_some, Option.pure_def] at h
  split at h
  · rename_i hlt; exact ⟨hlt, by simpa using h⟩
  · simp at h

theorem own_nar {v : Value} {c : String} (h : v.isRef = true) : narrow (.object c) v = v := by cases v <;> first | rfl | simp [Value.isRef] at h
theorem own_fits {v : Value} {c : String} (h : v.isRef = true) : fits (.object c) v = true := by cases v <;> first | rfl | simp [Value.isRef] at h
theorem own_cat {v : Value} (h : v.isRef = true) : v.category = 1 := by cases v <;> first | rfl | simp [Value.isRef] at h

theorem own_notOf {Z : State} {a0 : Array Value} {C S K : String} {n : Nat} (w : (Jvm.Cond.superclass C S).before a0 Z = true) (w0 : (Jvm.Cond.noSuperclass S).before a0 Z = true) (wk : (Jvm.Cond.instantiable K n).before a0 Z = true) (h1 : C ≠ K) (h2 : S ≠ K) :
    ∃ c t, Z.vm.findClass C = some c ∧ Z.vm.findClass K = some t ∧ Z.vm.assignable c t = false := by
  obtain ⟨t, k', g0, g2, g5, g7, -⟩ := Cond.instantiable_spec wk
  obtain ⟨c, h0⟩ := found_sup w
  obtain ⟨p, k, kp, q1, q2, q3, q4, q5, q6, q7⟩ := Cond.superclass_spec h0 w
  obtain ⟨c0, k0, r1, r2, r3, -, -⟩ := Cond.noSuperclass_spec w0
  cases q1.symm.trans r1
  have ne1 := ids_ne h0 g0 h1
  have ne2 := ids_ne r1 g0 h2
  have g8 := (Bool.or_eq_false_iff.mp g7).1
  have n3 : ∀ fuel, Z.vm.isSubclassAux fuel c t = false := by
    intro fuel
    cases fuel with
    | zero => rfl
    | succ f =>
      cases f with
      | zero => simp [Vm.isSubclassAux, ne1, q2, q4]
      | succ g => simp [Vm.isSubclassAux, ne1, ne2, q2, q4, r2, r3]
  refine ⟨c, t, h0, g0, ?_⟩
  show Z.vm.assignableAux (255 + 1) c t = false
  simp [Vm.assignableAux, ne1, q2, g2, q5, g5, g8, Vm.isSubclass, n3]

theorem own_selP {Z s : State} {a0 args : Array Value} {y : MethodName} {n : Nat} (hZ : Z.Warmed39 s.vm) (wi : (Jvm.Cond.instantiable y.cls n).before a0 Z = true) (wp : (Jvm.Cond.privateMethod y).before a0 Z = true) (wm : (Jvm.Cond.instanceMethod y).before a0 Z = true) (hy : y.cls ≠ "java/lang/invoke/MethodHandle" ∧ y.cls ≠ "java/lang/invoke/VarHandle") : (Jvm.Cond.selects y.cls y y).before args s = true := by
  obtain ⟨c, k, hc, hk, -, hni, -⟩ := Cond.instantiable_spec (mvT (s := s) (args := args) hZ wi)
  exact selects_self_of_private hc hk (Bool.or_eq_false_iff.mp hni).1 (Cond.privateMethod_at (mvP hZ wp (args := #[]))) (mvT hZ wm) hy

theorem own_neS {Z : State} {h : Heap} {a b u w : Addr} {C f d : String} {k k' : ClassId} {ty : FieldType} {z z' : Int32} {vs vs' : List Value} {dv dv' : Value} (Fa : Fld Z h a C f d (.ref u)) (Va : Arv Z h u k ty z vs dv) (Fb : Fld Z h b C f d (.ref w)) (Vb : Arv Z h w k' ty z' vs' dv') (hn : z ≠ z' ∨ ∃ i : Nat, i < z.toNatClampNeg ∧ vs.getD i dv ≠ vs'.getD i dv') : a ≠ b := fun e => by
  subst e
  have hu : u = w := by
    rcases Decidable.em (u = w) with q | q
    · exact q
    · exact absurd rfl (Fld.ne Fa Fb (fun x => q (Value.ref.inj x)))
  subst hu
  obtain ⟨c1, A1, -, S1, N1, H1, -⟩ := Va
  obtain ⟨c2, A2, -, S2, N2, H2, -⟩ := Vb
  cases A1.1.symm.trans A2.1
  rcases hn with hn | ⟨i, hi, hn⟩
  · exact hn ((len_of S1 N1).symm.trans (len_of S2 N2))
  · have q1 := H1 i (by rw [S1]; exact hi)
    have q2 := H2 i (by rw [S1]; exact hi)
    exact hn (Option.some.inj (q1.symm.trans q2))

theorem own_sa {Z : State} {a0 : Array Value} (hw : ∀ d ∈ tables_1, d.before a0 Z = true) : ∀ a ∈ Bundle.stringAtoms, a.before a0 Z = true := fun d hd => by
  simp only [Bundle.stringAtoms, List.mem_cons, List.not_mem_nil, or_false] at hd
  rcases hd with rfl | rfl | rfl | rfl | rfl | rfl | rfl
  · exact ow hw 13 rfl
  · exact ow hw 12 rfl
  · exact ow hw 29 rfl
  · exact ow hw 39 rfl
  · exact ow hw 37 rfl
  · exact ow hw 78 rfl
  · exact ow hw 79 rfl
abbrev EL0 : List (String × Nat) := [("java/lang/String", 7)]
def Wd (Z : State) (w_CS0 : Int32) (w_SF1 : Value) (w_PRODUCER : Addr) (w__VALUES : Addr) (w_WORKER : Addr) (w_OPERATOR : Addr) (w_ADMIN : Addr) (w_PRODUCER_shown : Addr) (w_PRODUCER_shown_value : Addr) (w_WORKER_shown : Addr) (w_WORKER_shown_value : Addr) (w_OPERATOR_shown : Addr) (w_OPERATOR_shown_value : Addr) (w_ADMIN_shown : Addr) (w_ADMIN_shown_value : Addr) (k__VALUES : ClassId) (k_PRODUCER_shown_value : ClassId) (k_WORKER_shown_value : ClassId) (k_OPERATOR_shown_value : ClassId) (k_ADMIN_shown_value : ClassId) : Prop :=
  Sta Z Z.heap "java/lang/String" "COMPACT_STRINGS" "Z" (.int w_CS0) ∧
  ¬ w_CS0 = (0 : Int32) ∧
  Sta Z Z.heap "jdk/internal/util/Preconditions" "SIOOBE_FORMATTER" "Ljava/util/function/BiFunction;" w_SF1 ∧
  w_SF1.isRef = true ∧
  Sta Z Z.heap "com/example/lease/lease/Role" "PRODUCER" "Lcom/example/lease/lease/Role;" (.ref w_PRODUCER) ∧
  Exa Z Z.heap w_PRODUCER "com/example/lease/lease/Role" ∧
  Sta Z Z.heap "com/example/lease/lease/Role" "$VALUES" "[Lcom/example/lease/lease/Role;" (.ref w__VALUES) ∧
  Exa Z Z.heap w__VALUES "[Lcom/example/lease/lease/Role;" ∧
  Sta Z Z.heap "com/example/lease/lease/Role" "WORKER" "Lcom/example/lease/lease/Role;" (.ref w_WORKER) ∧
  Exa Z Z.heap w_WORKER "com/example/lease/lease/Role" ∧
  Sta Z Z.heap "com/example/lease/lease/Role" "OPERATOR" "Lcom/example/lease/lease/Role;" (.ref w_OPERATOR) ∧
  Exa Z Z.heap w_OPERATOR "com/example/lease/lease/Role" ∧
  Sta Z Z.heap "com/example/lease/lease/Role" "ADMIN" "Lcom/example/lease/lease/Role;" (.ref w_ADMIN) ∧
  Exa Z Z.heap w_ADMIN "com/example/lease/lease/Role" ∧
  Fld Z Z.heap w_PRODUCER "com/example/lease/lease/Role" "shown" "Ljava/lang/String;" (.ref w_PRODUCER_shown) ∧
  Exa Z Z.heap w_PRODUCER_shown "java/lang/String" ∧
  Fld Z Z.heap w_PRODUCER_shown "java/lang/String" "coder" "B" (.int (0 : Int32)) ∧
  Fld Z Z.heap w_PRODUCER_shown "java/lang/String" "value" "[B" (.ref w_PRODUCER_shown_value) ∧
  Fld Z Z.heap w_WORKER "com/example/lease/lease/Role" "shown" "Ljava/lang/String;" (.ref w_WORKER_shown) ∧
  Exa Z Z.heap w_WORKER_shown "java/lang/String" ∧
  Fld Z Z.heap w_WORKER_shown "java/lang/String" "coder" "B" (.int (0 : Int32)) ∧
  Fld Z Z.heap w_WORKER_shown "java/lang/String" "value" "[B" (.ref w_WORKER_shown_value) ∧
  Fld Z Z.heap w_OPERATOR "com/example/lease/lease/Role" "shown" "Ljava/lang/String;" (.ref w_OPERATOR_shown) ∧
  Exa Z Z.heap w_OPERATOR_shown "java/lang/String" ∧
  Fld Z Z.heap w_OPERATOR_shown "java/lang/String" "coder" "B" (.int (0 : Int32)) ∧
  Fld Z Z.heap w_OPERATOR_shown "java/lang/String" "value" "[B" (.ref w_OPERATOR_shown_value) ∧
  Fld Z Z.heap w_ADMIN "com/example/lease/lease/Role" "shown" "Ljava/lang/String;" (.ref w_ADMIN_shown) ∧
  Exa Z Z.heap w_ADMIN_shown "java/lang/String" ∧
  Fld Z Z.heap w_ADMIN_shown "java/lang/String" "coder" "B" (.int (0 : Int32)) ∧
  Fld Z Z.heap w_ADMIN_shown "java/lang/String" "value" "[B" (.ref w_ADMIN_shown_value) ∧
  Arv Z Z.heap w__VALUES k__VALUES (.object "com/example/lease/lease/Role") (4 : Int32) [(.ref w_PRODUCER), (.ref w_WORKER), (.ref w_OPERATOR), (.ref w_ADMIN)] .null ∧
  Arv Z Z.heap w_PRODUCER_shown_value k_PRODUCER_shown_value .byte (8 : Int32) [(.int (112 : Int32)), (.int (114 : Int32)), (.int (111 : Int32)), (.int (100 : Int32)), (.int (117 : Int32)), (.int (99 : Int32)), (.int (101 : Int32)), (.int (114 : Int32))] (.int (0 : Int32)) ∧
  Arv Z Z.heap w_WORKER_shown_value k_WORKER_shown_value .byte (6 : Int32) [(.int (119 : Int32)), (.int (111 : Int32)), (.int (114 : Int32)), (.int (107 : Int32)), (.int (101 : Int32)), (.int (114 : Int32))] (.int (0 : Int32)) ∧
  Arv Z Z.heap w_OPERATOR_shown_value k_OPERATOR_shown_value .byte (8 : Int32) [(.int (111 : Int32)), (.int (112 : Int32)), (.int (101 : Int32)), (.int (114 : Int32)), (.int (97 : Int32)), (.int (116 : Int32)), (.int (111 : Int32)), (.int (114 : Int32))] (.int (0 : Int32)) ∧
  Arv Z Z.heap w_ADMIN_shown_value k_ADMIN_shown_value .byte (5 : Int32) [(.int (97 : Int32)), (.int (100 : Int32)), (.int (109 : Int32)), (.int (105 : Int32)), (.int (110 : Int32))] (.int (0 : Int32))
theorem pn_0 : plainName "com/example/lease/lease/RoleNamedPinLaw" = true := by first | (simp [plainName, overriddenIn]; done) | decide +kernel
theorem pn_1 : plainName "com/example/lease/lease/Role" = true := by first | (simp [plainName, overriddenIn]; done) | decide +kernel
theorem pn_2 : plainName "java/lang/String" = true := by first | (simp [plainName, overriddenIn]; done) | decide +kernel
theorem pn_3 : plainName "java/lang/StringLatin1" = true := by first | (simp [plainName, overriddenIn]; done) | decide +kernel
theorem pd_0 : parseMethodDescriptor "()[Lcom/example/lease/lease/Role;" = some ⟨[], some (.array (.object "com/example/lease/lease/Role"))⟩ := by decide +kernel
theorem pd_1 : parseMethodDescriptor "(Ljava/lang/Object;)Z" = some ⟨[(.object "java/lang/Object")], some .boolean⟩ := by decide +kernel
theorem pd_2 : parseMethodDescriptor "([B[B)Z" = some ⟨[(.array .byte), (.array .byte)], some .boolean⟩ := by decide +kernel
theorem pd_3 : parseMethodDescriptor "(I)Lcom/example/lease/lease/Role;" = some ⟨[.int], some (.object "com/example/lease/lease/Role")⟩ := by decide +kernel
theorem pd_4 : parseMethodDescriptor "(I)[C" = some ⟨[.int], some (.array .char)⟩ := by decide +kernel
theorem pd_5 : parseMethodDescriptor "(Ljava/lang/String;)Lcom/example/lease/lease/Role;" = some ⟨[(.object "java/lang/String")], some (.object "com/example/lease/lease/Role")⟩ := by decide +kernel
theorem pd_6 : parseMethodDescriptor "([CIILjava/lang/Void;)V" = some ⟨[(.array .char), .int, .int, (.object "java/lang/Void")], none⟩ := by decide +kernel
theorem pd_7 : parseMethodDescriptor "([C)V" = some ⟨[(.array .char)], none⟩ := by decide +kernel

theorem own_safeNull {Z : State} {EL : List (String × Nat)} {vm : Vm} {h : Heap} {a : Addr} {n : Nat} {a0 : Array Value} (hal : Z.vm.Alike vm) (wi : (Jvm.Cond.instantiable "java/lang/String" n).before a0 Z = true) (E : Exa Z h a "java/lang/String") (F : Fld Z h a "java/lang/String" "value" "[B" .null) : Safe Z EL vm h a := fun B => by
  obtain ⟨p, -, u, b, -, q, hq, ⟨cS, ⟨⟨g1, g2, g3, ⟨c1, k1, i1, f1, -⟩, -, g6, -, g8, -, g10, g11, g12, -⟩, -, -⟩, -⟩, hy⟩ := B
  rcases hy with rfl | rfl
  · obtain ⟨cell, cf, k, i, f, h1, h2, h3, -, -, -, h7⟩ := F
    cases h1.symm.trans g1
    obtain ⟨k3, e3, -⟩ := State.fieldFound?_setVm (s := { Z with heap := h }) hal (show ({ Z with heap := h } : State).fieldFound? "java/lang/String" "value" "[B" = _ from h2)
    have e4 := (show (Wst Z vm h).fieldFound? _ _ _ = _ from e3).symm.trans f1
    simp only [Option.some.injEq, Prod.mk.injEq] at e4
    rw [e4.2.2.2, g8] at h7
    cases h7
  · exact ne_arr E wi (show Arr Z h q.sd q.SA .byte from ⟨g10, State.isArrayOf_alike (s := Wst Z vm h) (T := Z) hal.symm g11, g12⟩) rfl


theorem own_ws {Z : State} {a0 : Array Value} (hw : ∀ d ∈ tables_1, d.before a0 Z = true) : ∀ d ∈ StrChars.Road.words, d.before a0 Z = true := fun d hd => hw d ((by decide +kernel : ∀ d ∈ StrChars.Road.words, d ∈ tables_1) d hd)
theorem own_cn {P : Int32 → Prop} : ∀ x ∈ ([] : List Int32), P x := fun _ q => nomatch q
theorem own_cc {P : Int32 → Prop} {c : Int32} {l : List Int32} (h : P c) (t : ∀ x ∈ l, P x) : ∀ x ∈ c :: l, P x := List.forall_mem_cons.mpr ⟨h, t⟩

theorem d1_0 : decode method_2_code 0 = .ok (.iload_n 0, 1) := by decide +kernel
theorem d1_1 : decode method_2_code 1 = .ok (.ifCond .ne 7, 3) := by decide +kernel
theorem d1_4 : decode method_2_code 4 = .ok (.getstatic 7, 3) := by decide +kernel
theorem d1_7 : decode method_2_code 7 = .ok (.areturn, 1) := by decide +kernel
theorem d1_8 : decode method_2_code 8 = .ok (.iload_n 0, 1) := by decide +kernel
theorem d1_9 : decode method_2_code 9 = .ok (.iconst 1, 1) := by decide +kernel
theorem d1_10 : decode method_2_code 10 = .ok (.if_icmp .ne 7, 3) := by decide +kernel
theorem d1_13 : decode method_2_code 13 = .ok (.getstatic 13, 3) := by decide +kernel
theorem d1_16 : decode method_2_code 16 = .ok (.areturn, 1) := by decide +kernel
theorem d1_17 : decode method_2_code 17 = .ok (.iload_n 0, 1) := by decide +kernel
theorem d1_18 : decode method_2_code 18 = .ok (.iconst 2, 1) := by decide +kernel
theorem d1_19 : decode method_2_code 19 = .ok (.if_icmp .ne 7, 3) := by decide +kernel
theorem d1_22 : decode method_2_code 22 = .ok (.getstatic 16, 3) := by decide +kernel
theorem d1_25 : decode method_2_code 25 = .ok (.areturn, 1) := by decide +kernel
theorem d1_26 : decode method_2_code 26 = .ok (.getstatic 19, 3) := by decide +kernel
theorem d1_29 : decode method_2_code 29 = .ok (.areturn, 1) := by decide +kernel
theorem ef_1 (m : MethodId) (p0 : Int32) : entryFrame m #[(.int p0)] 1 = mkF m 0 #[iv p0] [] := by first | (simp [entryFrame, mkF, argsToLocals, Value.category]; done) | rfl
def f1 (p0 : Int32) (w_PRODUCER : Addr) (w_WORKER : Addr) (w_OPERATOR : Addr) (w_ADMIN : Addr) : Addr := if p0 = (0 : Int32) then w_PRODUCER else (if p0 = (1 : Int32) then w_WORKER else (if p0 = (2 : Int32) then w_OPERATOR else w_ADMIN))
def Q1 (Z : State) (p0 : Int32) (w_CS0 : Int32) (w_SF1 : Value) (w_PRODUCER : Addr) (w__VALUES : Addr) (w_WORKER : Addr) (w_OPERATOR : Addr) (w_ADMIN : Addr) (w_PRODUCER_shown : Addr) (w_PRODUCER_shown_value : Addr) (w_WORKER_shown : Addr) (w_WORKER_shown_value : Addr) (w_OPERATOR_shown : Addr) (w_OPERATOR_shown_value : Addr) (w_ADMIN_shown : Addr) (w_ADMIN_shown_value : Addr) (k__VALUES : ClassId) (k_PRODUCER_shown_value : ClassId) (k_WORKER_shown_value : ClassId) (k_OPERATOR_shown_value : ClassId) (k_ADMIN_shown_value : ClassId) (h0 : Heap) (n0 : Nat) (v : Option Value) (h : Heap) (L : List Loc) : Prop := v = some (.ref (f1 p0 w_PRODUCER w_WORKER w_OPERATOR w_ADMIN)) ∧ Fr n0 L ∧ h = h0
set_option maxRecDepth 65536 in
set_option maxHeartbeats 40000000 in
theorem rm1 (l : Launch) (Z : State) (ar : Array Value) (hw : ∀ d ∈ tables_1, d.before ar Z = true) (ws : List Jvm.Cond) (p0 : Int32) (w_CS0 : Int32) (w_SF1 : Value) (w_PRODUCER : Addr) (w__VALUES : Addr) (w_WORKER : Addr) (w_OPERATOR : Addr) (w_ADMIN : Addr) (w_PRODUCER_shown : Addr) (w_PRODUCER_shown_value : Addr) (w_WORKER_shown : Addr) (w_WORKER_shown_value : Addr) (w_OPERATOR_shown : Addr) (w_OPERATOR_shown_value : Addr) (w_ADMIN_shown : Addr) (w_ADMIN_shown_value : Addr) (k__VALUES : ClassId) (k_PRODUCER_shown_value : ClassId) (k_WORKER_shown_value : ClassId) (k_OPERATOR_shown_value : ClassId) (k_ADMIN_shown_value : ClassId) (h0 : Heap) (n0 : Nat) (O0 : Old Z n0 h0) (HW : Wd Z w_CS0 w_SF1 w_PRODUCER w__VALUES w_WORKER w_OPERATOR w_ADMIN w_PRODUCER_shown w_PRODUCER_shown_value w_WORKER_shown w_WORKER_shown_value w_OPERATOR_shown w_OPERATOR_shown_value w_ADMIN_shown w_ADMIN_shown_value k__VALUES k_PRODUCER_shown_value k_WORKER_shown_value k_OPERATOR_shown_value k_ADMIN_shown_value) :
    MetFree l y1 (head1 (Jvm.Cond.code y1 method_2_code 1 (some (.object "com/example/lease/lease/Role")) :: ws) ({ frames := 0, cells := 0, slots := 0, locals := 0 } : Room)) (fun a U => a = #[(.int p0)] ∧ Z.Warmed39 U.vm ∧ U.heap = h0) (fun _ _ _ _ _ => True) (fun _ U o U' => ∃ v L, o = .returned v ∧ Q1 Z p0 w_CS0 w_SF1 w_PRODUCER w__VALUES w_WORKER w_OPERATOR w_ADMIN w_PRODUCER_shown w_PRODUCER_shown_value w_WORKER_shown w_WORKER_shown_value w_OPERATOR_shown w_OPERATOR_shown_value w_ADMIN_shown w_ADMIN_shown_value k__VALUES k_PRODUCER_shown_value k_WORKER_shown_value k_OPERATOR_shown_value k_ADMIN_shown_value h0 n0 v U'.heap L ∧ FrameEnd U o U' L ({ frames := 0, cells := 0, slots := 0, locals := 0 } : Room).cells ({ frames := 0, cells := 0, slots := 0, locals := 0 } : Room).slots) := by
 refine MetFree.of_bodySF (plainFor_of_name pn_0) hisR ?_
 intro p e s m args below meth c s₁ Bd hml0 hP hK
 obtain ⟨rfl, hZ, hh⟩ := hP
 have hx := Bd.exec
 have hby := Bd.bytes
 have hml : c.maxLocals = 1 := hml0
 have hown : s.vm.findClass "com/example/lease/lease/RoleNamedPinLaw" = some m.cls := findClass_of_methodNamed Bd.named
 have hnm := (name_of_methodNamed Bd.named Bd.method).1
 have X0 : Stand p l e ({ frames := 0, cells := 0, slots := 0, locals := 0 } : Room) s m #[(.int p0)] below meth c s₁ [] 0 0 := Stand.of_body Bd
 have e0 : s₁.heap = h0 := by rw [← hh, Bd.state]; rfl
 have N0 := Fr.nil n0
 have Z0 : n0 ≤ h0.size := Nat.le_trans (Nat.le_of_eq O0.1.symm) O0.2.1
 obtain ⟨S0, hS0⟩ : ∃ z, z = s₁.setTop (entryFrame m #[(.int p0)] 1) := ⟨_, rfl⟩
 have pre0 : ∀ tg, AT p e below s₁ m 0 #[iv p0] [] tg → Steps p.tables e below S0 tg := fun tg kg => by rw [hS0]; exact castTop (ef_1 m p0) kg
 obtain ⟨S_COMPACT_STRINGS, hz_w_CS0, S_SIOOBE_FORMATTER, ir_w_SF1, S_PRODUCER, E_PRODUCER, S__VALUES, E__VALUES, S_WORKER, E_WORKER, S_OPERATOR, E_OPERATOR, S_ADMIN, E_ADMIN, F_shown_PRODUCER, E_PRODUCER_shown, F_coder_PRODUCER_shown, F_value_PRODUCER_shown, F_shown_WORKER, E_WORKER_shown, F_coder_WORKER_shown, F_value_WORKER_shown, F_shown_OPERATOR, E_OPERATOR_shown, F_coder_OPERATOR_shown, F_value_OPERATOR_shown, F_shown_ADMIN, E_ADMIN_shown, F_coder_ADMIN_shown, F_value_ADMIN_shown, V__VALUES, V_PRODUCER_shown_value, V_WORKER_shown_value, V_OPERATOR_shown_value, V_ADMIN_shown_value⟩ := id HW
 have pre1 : ∀ tg, AT p e below s₁ m 1 #[iv p0] [(.int p0)] tg → Steps p.tables e below S0 tg := fun tg kg => pre0 tg (by
  refine XS.iloadN X0.here hx rfl (hb hby d1_0) rfl ?_
  exact kg)
 rcases Decidable.em (p0 = (0 : Int32)) with hc2 | hc2
 ·
  obtain ⟨T3, X3, e3, st3⟩ := getS2 X0 hx hZ hown (host := "") (Or.inl (ow hw 4 rfl)) Via.refl e0 (S_PRODUCER.ext O0.2) (g := (mkF m 4 #[iv p0] [])) rfl (hb hby d1_4)
  obtain ⟨fs, hr, hrun, hended, hW, hsame⟩ := X3.leave (v := some (.ref w_PRODUCER)) (fun h => by rw [Bd.returns] at h; cases h)
  subst hS0
  refine ⟨_, _, pre1 _ ?_, hrun, hended, _, _, rfl, ?_, ⟨_, rfl⟩, hW, hsame.mono (by decide) (by decide)⟩
  ·
   refine XS.ifNo X0.here hx rfl (hb hby d1_1) rfl (XT.i0_ne_f hc2) ?_
   refine st3 _ ?_
   exact retOut X3 hx (t := (.object "com/example/lease/lease/Role")) (i := .areturn) Bd.returns rfl (Or.inr (Or.inr (Or.inr (Or.inr ⟨rfl, rfl, rfl⟩)))) (hb hby d1_7) hr
  ·
   show Q1 Z p0 w_CS0 w_SF1 w_PRODUCER w__VALUES w_WORKER w_OPERATOR w_ADMIN w_PRODUCER_shown w_PRODUCER_shown_value w_WORKER_shown w_WORKER_shown_value w_OPERATOR_shown w_OPERATOR_shown_value w_ADMIN_shown w_ADMIN_shown_value k__VALUES k_PRODUCER_shown_value k_WORKER_shown_value k_OPERATOR_shown_value k_ADMIN_shown_value h0 n0 _ T3.heap _
   rw [e3]
   exact ⟨(by rw [f1, if_pos hc2]), N0, rfl⟩
 ·
  have pre4 : ∀ tg, AT p e below s₁ m 10 #[iv p0] [(.int (1 : Int32)), (.int p0)] tg → Steps p.tables e below S0 tg := fun tg kg => pre1 tg (by
   refine XS.ifYes X0.here hx rfl (pc0 := 1) (pc' := 8) rfl (hb hby d1_1) rfl (XT.i0_ne_t hc2) (by decide) (by decide) ?_
   refine XS.iloadN X0.here hx rfl (hb hby d1_8) rfl ?_
   refine XS.iconst X0.here hx rfl (hb hby d1_9) ?_
   exact kg)
  rcases Decidable.em (p0 = (1 : Int32)) with hc5 | hc5
  ·
   obtain ⟨T6, X6, e6, st6⟩ := getS2 X0 hx hZ hown (host := "") (Or.inl (ow hw 76 rfl)) Via.refl e0 (S_WORKER.ext O0.2) (g := (mkF m 13 #[iv p0] [])) rfl (hb hby d1_13)
   obtain ⟨fs, hr, hrun, hended, hW, hsame⟩ := X6.leave (v := some (.ref w_WORKER)) (fun h => by rw [Bd.returns] at h; cases h)
   subst hS0
   refine ⟨_, _, pre4 _ ?_, hrun, hended, _, _, rfl, ?_, ⟨_, rfl⟩, hW, hsame.mono (by decide) (by decide)⟩
   ·
    refine XS.icmpNo X0.here hx rfl (hb hby d1_10) rfl (XT.ii_ne_f hc5) ?_
    refine st6 _ ?_
    exact retOut X6 hx (t := (.object "com/example/lease/lease/Role")) (i := .areturn) Bd.returns rfl (Or.inr (Or.inr (Or.inr (Or.inr ⟨rfl, rfl, rfl⟩)))) (hb hby d1_16) hr
   ·
    show Q1 Z p0 w_CS0 w_SF1 w_PRODUCER w__VALUES w_WORKER w_OPERATOR w_ADMIN w_PRODUCER_shown w_PRODUCER_shown_value w_WORKER_shown w_WORKER_shown_value w_OPERATOR_shown w_OPERATOR_shown_value w_ADMIN_shown w_ADMIN_shown_value k__VALUES k_PRODUCER_shown_value k_WORKER_shown_value k_OPERATOR_shown_value k_ADMIN_shown_value h0 n0 _ T6.heap _
    rw [e6]
    exact ⟨(by rw [f1, if_neg hc2, if_pos hc5]), N0, rfl⟩
  ·
   have pre7 : ∀ tg, AT p e below s₁ m 19 #[iv p0] [(.int (2 : Int32)), (.int p0)] tg → Steps p.tables e below S0 tg := fun tg kg => pre4 tg (by
    refine XS.icmpYes X0.here hx rfl (pc0 := 10) (pc' := 17) rfl (hb hby d1_10) rfl (XT.ii_ne_t hc5) (by decide) (by decide) ?_
    refine XS.iloadN X0.here hx rfl (hb hby d1_17) rfl ?_
    refine XS.iconst X0.here hx rfl (hb hby d1_18) ?_
    exact kg)
   rcases Decidable.em (p0 = (2 : Int32)) with hc8 | hc8
   ·
    obtain ⟨T9, X9, e9, st9⟩ := getS2 X0 hx hZ hown (host := "") (Or.inl (ow hw 75 rfl)) Via.refl e0 (S_OPERATOR.ext O0.2) (g := (mkF m 22 #[iv p0] [])) rfl (hb hby d1_22)
    obtain ⟨fs, hr, hrun, hended, hW, hsame⟩ := X9.leave (v := some (.ref w_OPERATOR)) (fun h => by rw [Bd.returns] at h; cases h)
    subst hS0
    refine ⟨_, _, pre7 _ ?_, hrun, hended, _, _, rfl, ?_, ⟨_, rfl⟩, hW, hsame.mono (by decide) (by decide)⟩
    ·
     refine XS.icmpNo X0.here hx rfl (hb hby d1_19) rfl (XT.ii_ne_f hc8) ?_
     refine st9 _ ?_
     exact retOut X9 hx (t := (.object "com/example/lease/lease/Role")) (i := .areturn) Bd.returns rfl (Or.inr (Or.inr (Or.inr (Or.inr ⟨rfl, rfl, rfl⟩)))) (hb hby d1_25) hr
    ·
     show Q1 Z p0 w_CS0 w_SF1 w_PRODUCER w__VALUES w_WORKER w_OPERATOR w_ADMIN w_PRODUCER_shown w_PRODUCER_shown_value w_WORKER_shown w_WORKER_shown_value w_OPERATOR_shown w_OPERATOR_shown_value w_ADMIN_shown w_ADMIN_shown_value k__VALUES k_PRODUCER_shown_value k_WORKER_shown_value k_OPERATOR_shown_value k_ADMIN_shown_value h0 n0 _ T9.heap _
     rw [e9]
     exact ⟨(by rw [f1, if_neg hc2, if_neg hc5, if_pos hc8]), N0, rfl⟩
   ·
    obtain ⟨T10, X10, e10, st10⟩ := getS2 X0 hx hZ hown (host := "") (Or.inl (ow hw 74 rfl)) Via.refl e0 (S_ADMIN.ext O0.2) (g := (mkF m 26 #[iv p0] [])) rfl (hb hby d1_26)
    obtain ⟨fs, hr, hrun, hended, hW, hsame⟩ := X10.leave (v := some (.ref w_ADMIN)) (fun h => by rw [Bd.returns] at h; cases h)
    subst hS0
    refine ⟨_, _, pre7 _ ?_, hrun, hended, _, _, rfl, ?_, ⟨_, rfl⟩, hW, hsame.mono (by decide) (by decide)⟩
    ·
     refine XS.icmpYes X0.here hx rfl (pc0 := 19) (pc' := 26) rfl (hb hby d1_19) rfl (XT.ii_ne_t hc8) (by decide) (by decide) ?_
     refine st10 _ ?_
     exact retOut X10 hx (t := (.object "com/example/lease/lease/Role")) (i := .areturn) Bd.returns rfl (Or.inr (Or.inr (Or.inr (Or.inr ⟨rfl, rfl, rfl⟩)))) (hb hby d1_29) hr
    ·
     show Q1 Z p0 w_CS0 w_SF1 w_PRODUCER w__VALUES w_WORKER w_OPERATOR w_ADMIN w_PRODUCER_shown w_PRODUCER_shown_value w_WORKER_shown w_WORKER_shown_value w_OPERATOR_shown w_OPERATOR_shown_value w_ADMIN_shown w_ADMIN_shown_value k__VALUES k_PRODUCER_shown_value k_WORKER_shown_value k_OPERATOR_shown_value k_ADMIN_shown_value h0 n0 _ T10.heap _
     rw [e10]
     exact ⟨(by rw [f1, if_neg hc2, if_neg hc5, if_neg hc8]), N0, rfl⟩

theorem d2_0 : decode method_3_code 0 = .ok (.iload_n 0, 1) := by decide +kernel
theorem d2_1 : decode method_3_code 1 = .ok (.ifCond .ne 50, 3) := by decide +kernel
theorem d2_4 : decode method_3_code 4 = .ok (.bipush 8, 2) := by decide +kernel
theorem d2_6 : decode method_3_code 6 = .ok (.newarray .char, 2) := by decide +kernel
theorem d2_8 : decode method_3_code 8 = .ok (.dup, 1) := by decide +kernel
theorem d2_9 : decode method_3_code 9 = .ok (.iconst 0, 1) := by decide +kernel
theorem d2_10 : decode method_3_code 10 = .ok (.bipush 112, 2) := by decide +kernel
theorem d2_12 : decode method_3_code 12 = .ok (.castore, 1) := by decide +kernel
theorem d2_13 : decode method_3_code 13 = .ok (.dup, 1) := by decide +kernel
theorem d2_14 : decode method_3_code 14 = .ok (.iconst 1, 1) := by decide +kernel
theorem d2_15 : decode method_3_code 15 = .ok (.bipush 114, 2) := by decide +kernel
theorem d2_17 : decode method_3_code 17 = .ok (.castore, 1) := by decide +kernel
theorem d2_18 : decode method_3_code 18 = .ok (.dup, 1) := by decide +kernel
theorem d2_19 : decode method_3_code 19 = .ok (.iconst 2, 1) := by decide +kernel
theorem d2_20 : decode method_3_code 20 = .ok (.bipush 111, 2) := by decide +kernel
theorem d2_22 : decode method_3_code 22 = .ok (.castore, 1) := by decide +kernel
theorem d2_23 : decode method_3_code 23 = .ok (.dup, 1) := by decide +kernel
theorem d2_24 : decode method_3_code 24 = .ok (.iconst 3, 1) := by decide +kernel
theorem d2_25 : decode method_3_code 25 = .ok (.bipush 100, 2) := by decide +kernel
theorem d2_27 : decode method_3_code 27 = .ok (.castore, 1) := by decide +kernel
theorem d2_28 : decode method_3_code 28 = .ok (.dup, 1) := by decide +kernel
theorem d2_29 : decode method_3_code 29 = .ok (.iconst 4, 1) := by decide +kernel
theorem d2_30 : decode method_3_code 30 = .ok (.bipush 117, 2) := by decide +kernel
theorem d2_32 : decode method_3_code 32 = .ok (.castore, 1) := by decide +kernel
theorem d2_33 : decode method_3_code 33 = .ok (.dup, 1) := by decide +kernel
theorem d2_34 : decode method_3_code 34 = .ok (.iconst 5, 1) := by decide +kernel
theorem d2_35 : decode method_3_code 35 = .ok (.bipush 99, 2) := by decide +kernel
theorem d2_37 : decode method_3_code 37 = .ok (.castore, 1) := by decide +kernel
theorem d2_38 : decode method_3_code 38 = .ok (.dup, 1) := by decide +kernel
theorem d2_39 : decode method_3_code 39 = .ok (.bipush 6, 2) := by decide +kernel
theorem d2_41 : decode method_3_code 41 = .ok (.bipush 101, 2) := by decide +kernel
theorem d2_43 : decode method_3_code 43 = .ok (.castore, 1) := by decide +kernel
theorem d2_44 : decode method_3_code 44 = .ok (.dup, 1) := by decide +kernel
theorem d2_45 : decode method_3_code 45 = .ok (.bipush 7, 2) := by decide +kernel
theorem d2_47 : decode method_3_code 47 = .ok (.bipush 114, 2) := by decide +kernel
theorem d2_49 : decode method_3_code 49 = .ok (.castore, 1) := by decide +kernel
theorem d2_50 : decode method_3_code 50 = .ok (.areturn, 1) := by decide +kernel
theorem ef_2_0 (m : MethodId)  : entryFrame m #[(.int (0 : Int32))] 1 = mkF m 0 #[iv (0 : Int32)] [] := by first | (simp [entryFrame, mkF, argsToLocals, Value.category]; done) | rfl
def Q2_0 (Z : State)  (h0 : Heap) (n0 : Nat) (v : Option Value) (h : Heap) (L : List Loc) : Prop := ∃ (b : Addr) (kb : ClassId), v = some (.ref b) ∧ Fr n0 L ∧ Keep h0 h [] ∧ Arv Z h b kb .char (8 : Int32) [(.int (112 : Int32)), (.int (114 : Int32)), (.int (111 : Int32)), (.int (100 : Int32)), (.int (117 : Int32)), (.int (99 : Int32)), (.int (101 : Int32)), (.int (114 : Int32))] (.int (0 : Int32)) ∧ h0.size ≤ b ∧ Exa Z h b "[C"
set_option maxRecDepth 65536 in
set_option maxHeartbeats 40000000 in
theorem rm2_0 (l : Launch) (Z : State) (ar : Array Value) (hw : ∀ d ∈ tables_1, d.before ar Z = true) (ws : List Jvm.Cond)  (h0 : Heap) (n0 : Nat) (O0 : Old Z n0 h0) :
    MetFree l y2 (head1 (Jvm.Cond.code y2 method_3_code 1 (some (.array .char)) :: ws) ({ frames := 0, cells := 1, slots := 8, locals := 0 } : Room)) (fun a U => a = #[(.int (0 : Int32))] ∧ Z.Warmed39 U.vm ∧ U.heap = h0) (fun _ _ _ _ _ => True) (fun _ U o U' => ∃ v L, o = .returned v ∧ Q2_0 Z  h0 n0 v U'.heap L ∧ FrameEnd U o U' L ({ frames := 0, cells := 1, slots := 8, locals := 0 } : Room).cells ({ frames := 0, cells := 1, slots := 8, locals := 0 } : Room).slots) := by
 refine MetFree.of_bodySF (plainFor_of_name pn_0) hisR ?_
 intro p e s m args below meth c s₁ Bd hml0 hP hK
 obtain ⟨rfl, hZ, hh⟩ := hP
 have hx := Bd.exec
 have hby := Bd.bytes
 have hml : c.maxLocals = 1 := hml0
 have hown : s.vm.findClass "com/example/lease/lease/RoleNamedPinLaw" = some m.cls := findClass_of_methodNamed Bd.named
 have hnm := (name_of_methodNamed Bd.named Bd.method).1
 have X0 : Stand p l e ({ frames := 0, cells := 1, slots := 8, locals := 0 } : Room) s m #[(.int (0 : Int32))] below meth c s₁ [] 0 0 := Stand.of_body Bd
 have e0 : s₁.heap = h0 := by rw [← hh, Bd.state]; rfl
 have N0 := Fr.nil n0
 have Z0 : n0 ≤ h0.size := Nat.le_trans (Nat.le_of_eq O0.1.symm) O0.2.1
 obtain ⟨S0, hS0⟩ : ∃ z, z = s₁.setTop (entryFrame m #[(.int (0 : Int32))] 1) := ⟨_, rfl⟩
 have pre0 : ∀ tg, AT p e below s₁ m 0 #[iv (0 : Int32)] [] tg → Steps p.tables e below S0 tg := fun tg kg => by rw [hS0]; exact castTop (ef_2_0 m ) kg
 obtain ⟨T1, h1, k1, X1, e1, E1, A1, B1, st1⟩ := newPE X0 hx hZ (ow hw 10 rfl) e0 (g := (mkF m 6 #[iv (0 : Int32)] [(.int (8 : Int32))])) rfl (hb hby d2_6) rfl (by decide) (cap := 8) (by decide) (by decide) (by decide) (by decide) (ad := "[C") (by decide)
 obtain ⟨b1, g1⟩ : ∃ z, z = h0.size := ⟨_, rfl⟩
 rw [← g1] at A1 B1 st1
 have gn1 : n0 ≤ b1 := Nat.le_trans (Nat.le_trans (Nat.le_of_eq O0.1.symm) O0.2.1) (Nat.le_of_eq g1.symm)
 have sz1 : h0.size ≤ b1 := Nat.le_trans (Keep.refl h0 []).1 (Nat.le_of_eq g1.symm)
 have K1 := (Keep.refl h0 []).ext E1
 have O1 := O0.ext E1
 have V1_2 : Arv Z h1 b1 k1 .char (8 : Int32) [(.int (0 : Int32)), (.int (0 : Int32)), (.int (0 : Int32)), (.int (0 : Int32)), (.int (0 : Int32)), (.int (0 : Int32)), (.int (0 : Int32)), (.int (0 : Int32))] (.int (0 : Int32)) := (Arv.new A1 (by decide)).pad (pad_rep [] (.int (0 : Int32)) 8)
 obtain ⟨cl3, Ar3, q3, S3, M3, H3, G3⟩ := id V1_2
 have hin3 := own_in (0 : Int32) S3 ⟨by decide, by decide⟩
 obtain ⟨T3, h3, X3, e3, W3, st3⟩ := stC X1 hx hZ e1 Ar3 (j := (0 : Int32)) hin3 (g := (mkF m 12 #[iv (0 : Int32)] [(.int (112 : Int32)), (.int (0 : Int32)), (.ref b1), (.ref b1)])) rfl rfl (hb hby d2_12)
 have V3_4 : Arv Z h3 b1 k1 .char (8 : Int32) [(.int (112 : Int32)), (.int (0 : Int32)), (.int (0 : Int32)), (.int (0 : Int32)), (.int (0 : Int32)), (.int (0 : Int32)), (.int (0 : Int32)), (.int (0 : Int32))] (.int (0 : Int32)) := Arv.set Ar3 q3 S3 M3 H3 G3 (fits_nar_char _) W3 0 rfl (Nat.le_of_ble_eq_true rfl)
 have E3_5 := B1.wr W3
 have K3 := K1.wr W3 (Or.inr sz1)
 have O3 := O1.wr W3 gn1
 have N3 := Fr.snoc X3 N0 gn1
 obtain ⟨cl6, Ar6, q6, S6, M6, H6, G6⟩ := id V3_4
 have hin6 := own_in (1 : Int32) S6 ⟨by decide, by decide⟩
 obtain ⟨T6, h6, X6, e6, W6, st6⟩ := stC X3 hx hZ e3 Ar6 (j := (1 : Int32)) hin6 (g := (mkF m 17 #[iv (0 : Int32)] [(.int (114 : Int32)), (.int (1 : Int32)), (.ref b1), (.ref b1)])) rfl rfl (hb hby d2_17)
 have V6_7 : Arv Z h6 b1 k1 .char (8 : Int32) [(.int (112 : Int32)), (.int (114 : Int32)), (.int (0 : Int32)), (.int (0 : Int32)), (.int (0 : Int32)), (.int (0 : Int32)), (.int (0 : Int32)), (.int (0 : Int32))] (.int (0 : Int32)) := Arv.set Ar6 q6 S6 M6 H6 G6 (fits_nar_char _) W6 1 rfl (Nat.le_of_ble_eq_true rfl)
 have E6_8 := E3_5.wr W6
 have K6 := K3.wr W6 (Or.inr sz1)
 have O6 := O3.wr W6 gn1
 have N6 := Fr.snoc X6 N3 gn1
 obtain ⟨cl9, Ar9, q9, S9, M9, H9, G9⟩ := id V6_7
 have hin9 := own_in (2 : Int32) S9 ⟨by decide, by decide⟩
 obtain ⟨T9, h9, X9, e9, W9, st9⟩ := stC X6 hx hZ e6 Ar9 (j := (2 : Int32)) hin9 (g := (mkF m 22 #[iv (0 : Int32)] [(.int (111 : Int32)), (.int (2 : Int32)), (.ref b1), (.ref b1)])) rfl rfl (hb hby d2_22)
 have V9_10 : Arv Z h9 b1 k1 .char (8 : Int32) [(.int (112 : Int32)), (.int (114 : Int32)), (.int (111 : Int32)), (.int (0 : Int32)), (.int (0 : Int32)), (.int (0 : Int32)), (.int (0 : Int32)), (.int (0 : Int32))] (.int (0 : Int32)) := Arv.set Ar9 q9 S9 M9 H9 G9 (fits_nar_char _) W9 2 rfl (Nat.le_of_ble_eq_true rfl)
 have E9_11 := E6_8.wr W9
 have K9 := K6.wr W9 (Or.inr sz1)
 have O9 := O6.wr W9 gn1
 have N9 := Fr.snoc X9 N6 gn1
 obtain ⟨cl12, Ar12, q12, S12, M12, H12, G12⟩ := id V9_10
 have hin12 := own_in (3 : Int32) S12 ⟨by decide, by decide⟩
 obtain ⟨T12, h12, X12, e12, W12, st12⟩ := stC X9 hx hZ e9 Ar12 (j := (3 : Int32)) hin12 (g := (mkF m 27 #[iv (0 : Int32)] [(.int (100 : Int32)), (.int (3 : Int32)), (.ref b1), (.ref b1)])) rfl rfl (hb hby d2_27)
 have V12_13 : Arv Z h12 b1 k1 .char (8 : Int32) [(.int (112 : Int32)), (.int (114 : Int32)), (.int (111 : Int32)), (.int (100 : Int32)), (.int (0 : Int32)), (.int (0 : Int32)), (.int (0 : Int32)), (.int (0 : Int32))] (.int (0 : Int32)) := Arv.set Ar12 q12 S12 M12 H12 G12 (fits_nar_char _) W12 3 rfl (Nat.le_of_ble_eq_true rfl)
 have E12_14 := E9_11.wr W12
 have K12 := K9.wr W12 (Or.inr sz1)
 have O12 := O9.wr W12 gn1
 have N12 := Fr.snoc X12 N9 gn1
 obtain ⟨cl15, Ar15, q15, S15, M15, H15, G15⟩ := id V12_13
 have hin15 := own_in (4 : Int32) S15 ⟨by decide, by decide⟩
 obtain ⟨T15, h15, X15, e15, W15, st15⟩ := stC X12 hx hZ e12 Ar15 (j := (4 : Int32)) hin15 (g := (mkF m 32 #[iv (0 : Int32)] [(.int (117 : Int32)), (.int (4 : Int32)), (.ref b1), (.ref b1)])) rfl rfl (hb hby d2_32)
 have V15_16 : Arv Z h15 b1 k1 .char (8 : Int32) [(.int (112 : Int32)), (.int (114 : Int32)), (.int (111 : Int32)), (.int (100 : Int32)), (.int (117 : Int32)), (.int (0 : Int32)), (.int (0 : Int32)), (.int (0 : Int32))] (.int (0 : Int32)) := Arv.set Ar15 q15 S15 M15 H15 G15 (fits_nar_char _) W15 4 rfl (Nat.le_of_ble_eq_true rfl)
 have E15_17 := E12_14.wr W15
 have K15 := K12.wr W15 (Or.inr sz1)
 have O15 := O12.wr W15 gn1
 have N15 := Fr.snoc X15 N12 gn1
 obtain ⟨cl18, Ar18, q18, S18, M18, H18, G18⟩ := id V15_16
 have hin18 := own_in (5 : Int32) S18 ⟨by decide, by decide⟩
 obtain ⟨T18, h18, X18, e18, W18, st18⟩ := stC X15 hx hZ e15 Ar18 (j := (5 : Int32)) hin18 (g := (mkF m 37 #[iv (0 : Int32)] [(.int (99 : Int32)), (.int (5 : Int32)), (.ref b1), (.ref b1)])) rfl rfl (hb hby d2_37)
 have V18_19 : Arv Z h18 b1 k1 .char (8 : Int32) [(.int (112 : Int32)), (.int (114 : Int32)), (.int (111 : Int32)), (.int (100 : Int32)), (.int (117 : Int32)), (.int (99 : Int32)), (.int (0 : Int32)), (.int (0 : Int32))] (.int (0 : Int32)) := Arv.set Ar18 q18 S18 M18 H18 G18 (fits_nar_char _) W18 5 rfl (Nat.le_of_ble_eq_true rfl)
 have E18_20 := E15_17.wr W18
 have K18 := K15.wr W18 (Or.inr sz1)
 have O18 := O15.wr W18 gn1
 have N18 := Fr.snoc X18 N15 gn1
 obtain ⟨cl21, Ar21, q21, S21, M21, H21, G21⟩ := id V18_19
 have hin21 := own_in (6 : Int32) S21 ⟨by decide, by decide⟩
 obtain ⟨T21, h21, X21, e21, W21, st21⟩ := stC X18 hx hZ e18 Ar21 (j := (6 : Int32)) hin21 (g := (mkF m 43 #[iv (0 : Int32)] [(.int (101 : Int32)), (.int (6 : Int32)), (.ref b1), (.ref b1)])) rfl rfl (hb hby d2_43)
 have V21_22 : Arv Z h21 b1 k1 .char (8 : Int32) [(.int (112 : Int32)), (.int (114 : Int32)), (.int (111 : Int32)), (.int (100 : Int32)), (.int (117 : Int32)), (.int (99 : Int32)), (.int (101 : Int32)), (.int (0 : Int32))] (.int (0 : Int32)) := Arv.set Ar21 q21 S21 M21 H21 G21 (fits_nar_char _) W21 6 rfl (Nat.le_of_ble_eq_true rfl)
 have E21_23 := E18_20.wr W21
 have K21 := K18.wr W21 (Or.inr sz1)
 have O21 := O18.wr W21 gn1
 have N21 := Fr.snoc X21 N18 gn1
 obtain ⟨cl24, Ar24, q24, S24, M24, H24, G24⟩ := id V21_22
 have hin24 := own_in (7 : Int32) S24 ⟨by decide, by decide⟩
 obtain ⟨T24, h24, X24, e24, W24, st24⟩ := stC X21 hx hZ e21 Ar24 (j := (7 : Int32)) hin24 (g := (mkF m 49 #[iv (0 : Int32)] [(.int (114 : Int32)), (.int (7 : Int32)), (.ref b1), (.ref b1)])) rfl rfl (hb hby d2_49)
 have V24_25 : Arv Z h24 b1 k1 .char (8 : Int32) [(.int (112 : Int32)), (.int (114 : Int32)), (.int (111 : Int32)), (.int (100 : Int32)), (.int (117 : Int32)), (.int (99 : Int32)), (.int (101 : Int32)), (.int (114 : Int32))] (.int (0 : Int32)) := Arv.set Ar24 q24 S24 M24 H24 G24 (fits_nar_char _) W24 7 rfl (Nat.le_of_ble_eq_true rfl)
 have E24_26 := E21_23.wr W24
 have K24 := K21.wr W24 (Or.inr sz1)
 have O24 := O21.wr W24 gn1
 have N24 := Fr.snoc X24 N21 gn1
 obtain ⟨fs, hr, hrun, hended, hW, hsame⟩ := X24.leave (v := some (.ref b1)) (fun h => by rw [Bd.returns] at h; cases h)
 subst hS0
 refine ⟨_, _, pre0 _ ?_, hrun, hended, _, _, rfl, ?_, ⟨_, rfl⟩, hW, hsame.mono (by decide) (by decide)⟩
 ·
  refine XS.iloadN X0.here hx rfl (hb hby d2_0) rfl ?_
  show AT p e below s₁ m 1 #[iv (0 : Int32)] [(.int (0 : Int32))] _
  refine XS.ifNo X0.here hx rfl (hb hby d2_1) rfl (XT.i0_ne_f ((by decide) : (0 : Int32) = (0 : Int32))) ?_
  refine XS.bipush X0.here hx rfl (hb hby d2_4) ?_
  refine st1 _ ?_
  refine XS.dup X1.here hx rfl (hb hby d2_8) rfl rfl ?_
  refine XS.iconst X1.here hx rfl (hb hby d2_9) ?_
  refine XS.bipush X1.here hx rfl (hb hby d2_10) ?_
  refine st3 _ ?_
  refine XS.dup X3.here hx rfl (hb hby d2_13) rfl rfl ?_
  refine XS.iconst X3.here hx rfl (hb hby d2_14) ?_
  refine XS.bipush X3.here hx rfl (hb hby d2_15) ?_
  refine st6 _ ?_
  refine XS.dup X6.here hx rfl (hb hby d2_18) rfl rfl ?_
  show AT p e below T6 m 19 #[iv (0 : Int32)] [(.ref b1), (.ref b1)] _
  refine XS.iconst X6.here hx rfl (hb hby d2_19) ?_
  refine XS.bipush X6.here hx rfl (hb hby d2_20) ?_
  refine st9 _ ?_
  refine XS.dup X9.here hx rfl (hb hby d2_23) rfl rfl ?_
  refine XS.iconst X9.here hx rfl (hb hby d2_24) ?_
  refine XS.bipush X9.here hx rfl (hb hby d2_25) ?_
  refine st12 _ ?_
  refine XS.dup X12.here hx rfl (hb hby d2_28) rfl rfl ?_
  refine XS.iconst X12.here hx rfl (hb hby d2_29) ?_
  refine XS.bipush X12.here hx rfl (hb hby d2_30) ?_
  refine st15 _ ?_
  refine XS.dup X15.here hx rfl (hb hby d2_33) rfl rfl ?_
  show AT p e below T15 m 34 #[iv (0 : Int32)] [(.ref b1), (.ref b1)] _
  refine XS.iconst X15.here hx rfl (hb hby d2_34) ?_
  refine XS.bipush X15.here hx rfl (hb hby d2_35) ?_
  refine st18 _ ?_
  refine XS.dup X18.here hx rfl (hb hby d2_38) rfl rfl ?_
  refine XS.bipush X18.here hx rfl (hb hby d2_39) ?_
  refine XS.bipush X18.here hx rfl (hb hby d2_41) ?_
  refine st21 _ ?_
  refine XS.dup X21.here hx rfl (hb hby d2_44) rfl rfl ?_
  refine XS.bipush X21.here hx rfl (hb hby d2_45) ?_
  refine XS.bipush X21.here hx rfl (hb hby d2_47) ?_
  refine st24 _ ?_
  exact retOut X24 hx (t := (.array .char)) (i := .areturn) Bd.returns rfl (Or.inr (Or.inr (Or.inr (Or.inr ⟨rfl, rfl, rfl⟩)))) (hb hby d2_50) hr
 ·
  show Q2_0 Z  h0 n0 _ T24.heap _
  rw [e24]
  exact ⟨b1, k1, rfl, N24, K24, V24_25, sz1, E24_26⟩

theorem d2_51 : decode method_3_code 51 = .ok (.iload_n 0, 1) := by decide +kernel
theorem d2_52 : decode method_3_code 52 = .ok (.iconst 1, 1) := by decide +kernel
theorem d2_53 : decode method_3_code 53 = .ok (.if_icmp .ne 38, 3) := by decide +kernel
theorem d2_56 : decode method_3_code 56 = .ok (.bipush 6, 2) := by decide +kernel
theorem d2_58 : decode method_3_code 58 = .ok (.newarray .char, 2) := by decide +kernel
theorem d2_60 : decode method_3_code 60 = .ok (.dup, 1) := by decide +kernel
theorem d2_61 : decode method_3_code 61 = .ok (.iconst 0, 1) := by decide +kernel
theorem d2_62 : decode method_3_code 62 = .ok (.bipush 119, 2) := by decide +kernel
theorem d2_64 : decode method_3_code 64 = .ok (.castore, 1) := by decide +kernel
theorem d2_65 : decode method_3_code 65 = .ok (.dup, 1) := by decide +kernel
theorem d2_66 : decode method_3_code 66 = .ok (.iconst 1, 1) := by decide +kernel
theorem d2_67 : decode method_3_code 67 = .ok (.bipush 111, 2) := by decide +kernel
theorem d2_69 : decode method_3_code 69 = .ok (.castore, 1) := by decide +kernel
theorem d2_70 : decode method_3_code 70 = .ok (.dup, 1) := by decide +kernel
theorem d2_71 : decode method_3_code 71 = .ok (.iconst 2, 1) := by decide +kernel
theorem d2_72 : decode method_3_code 72 = .ok (.bipush 114, 2) := by decide +kernel
theorem d2_74 : decode method_3_code 74 = .ok (.castore, 1) := by decide +kernel
theorem d2_75 : decode method_3_code 75 = .ok (.dup, 1) := by decide +kernel
theorem d2_76 : decode method_3_code 76 = .ok (.iconst 3, 1) := by decide +kernel
theorem d2_77 : decode method_3_code 77 = .ok (.bipush 107, 2) := by decide +kernel
theorem d2_79 : decode method_3_code 79 = .ok (.castore, 1) := by decide +kernel
theorem d2_80 : decode method_3_code 80 = .ok (.dup, 1) := by decide +kernel
theorem d2_81 : decode method_3_code 81 = .ok (.iconst 4, 1) := by decide +kernel
theorem d2_82 : decode method_3_code 82 = .ok (.bipush 101, 2) := by decide +kernel
theorem d2_84 : decode method_3_code 84 = .ok (.castore, 1) := by decide +kernel
theorem d2_85 : decode method_3_code 85 = .ok (.dup, 1) := by decide +kernel
theorem d2_86 : decode method_3_code 86 = .ok (.iconst 5, 1) := by decide +kernel
theorem d2_87 : decode method_3_code 87 = .ok (.bipush 114, 2) := by decide +kernel
theorem d2_89 : decode method_3_code 89 = .ok (.castore, 1) := by decide +kernel
theorem d2_90 : decode method_3_code 90 = .ok (.areturn, 1) := by decide +kernel
theorem ef_2_1 (m : MethodId)  : entryFrame m #[(.int (1 : Int32))] 1 = mkF m 0 #[iv (1 : Int32)] [] := by first | (simp [entryFrame, mkF, argsToLocals, Value.category]; done) | rfl
def Q2_1 (Z : State)  (h0 : Heap) (n0 : Nat) (v : Option Value) (h : Heap) (L : List Loc) : Prop := ∃ (b : Addr) (kb : ClassId), v = some (.ref b) ∧ Fr n0 L ∧ Keep h0 h [] ∧ Arv Z h b kb .char (6 : Int32) [(.int (119 : Int32)), (.int (111 : Int32)), (.int (114 : Int32)), (.int (107 : Int32)), (.int (101 : Int32)), (.int (114 : Int32))] (.int (0 : Int32)) ∧ h0.size ≤ b ∧ Exa Z h b "[C"
set_option maxRecDepth 65536 in
set_option maxHeartbeats 40000000 in
theorem rm2_1 (l : Launch) (Z : State) (ar : Array Value) (hw : ∀ d ∈ tables_1, d.before ar Z = true) (ws : List Jvm.Cond)  (h0 : Heap) (n0 : Nat) (O0 : Old Z n0 h0) :
    MetFree l y2 (head1 (Jvm.Cond.code y2 method_3_code 1 (some (.array .char)) :: ws) ({ frames := 0, cells := 1, slots := 6, locals := 0 } : Room)) (fun a U => a = #[(.int (1 : Int32))] ∧ Z.Warmed39 U.vm ∧ U.heap = h0) (fun _ _ _ _ _ => True) (fun _ U o U' => ∃ v L, o = .returned v ∧ Q2_1 Z  h0 n0 v U'.heap L ∧ FrameEnd U o U' L ({ frames := 0, cells := 1, slots := 6, locals := 0 } : Room).cells ({ frames := 0, cells := 1, slots := 6, locals := 0 } : Room).slots) := by
 refine MetFree.of_bodySF (plainFor_of_name pn_0) hisR ?_
 intro p e s m args below meth c s₁ Bd hml0 hP hK
 obtain ⟨rfl, hZ, hh⟩ := hP
 have hx := Bd.exec
 have hby := Bd.bytes
 have hml : c.maxLocals = 1 := hml0
 have hown : s.vm.findClass "com/example/lease/lease/RoleNamedPinLaw" = some m.cls := findClass_of_methodNamed Bd.named
 have hnm := (name_of_methodNamed Bd.named Bd.method).1
 have X0 : Stand p l e ({ frames := 0, cells := 1, slots := 6, locals := 0 } : Room) s m #[(.int (1 : Int32))] below meth c s₁ [] 0 0 := Stand.of_body Bd
 have e0 : s₁.heap = h0 := by rw [← hh, Bd.state]; rfl
 have N0 := Fr.nil n0
 have Z0 : n0 ≤ h0.size := Nat.le_trans (Nat.le_of_eq O0.1.symm) O0.2.1
 obtain ⟨S0, hS0⟩ : ∃ z, z = s₁.setTop (entryFrame m #[(.int (1 : Int32))] 1) := ⟨_, rfl⟩
 have pre0 : ∀ tg, AT p e below s₁ m 0 #[iv (1 : Int32)] [] tg → Steps p.tables e below S0 tg := fun tg kg => by rw [hS0]; exact castTop (ef_2_1 m ) kg
 obtain ⟨T1, h1, k1, X1, e1, E1, A1, B1, st1⟩ := newPE X0 hx hZ (ow hw 10 rfl) e0 (g := (mkF m 58 #[iv (1 : Int32)] [(.int (6 : Int32))])) rfl (hb hby d2_58) rfl (by decide) (cap := 6) (by decide) (by decide) (by decide) (by decide) (ad := "[C") (by decide)
 obtain ⟨b1, g1⟩ : ∃ z, z = h0.size := ⟨_, rfl⟩
 rw [← g1] at A1 B1 st1
 have gn1 : n0 ≤ b1 := Nat.le_trans (Nat.le_trans (Nat.le_of_eq O0.1.symm) O0.2.1) (Nat.le_of_eq g1.symm)
 have sz1 : h0.size ≤ b1 := Nat.le_trans (Keep.refl h0 []).1 (Nat.le_of_eq g1.symm)
 have K1 := (Keep.refl h0 []).ext E1
 have O1 := O0.ext E1
 have V1_2 : Arv Z h1 b1 k1 .char (6 : Int32) [(.int (0 : Int32)), (.int (0 : Int32)), (.int (0 : Int32)), (.int (0 : Int32)), (.int (0 : Int32)), (.int (0 : Int32))] (.int (0 : Int32)) := (Arv.new A1 (by decide)).pad (pad_rep [] (.int (0 : Int32)) 6)
 obtain ⟨cl3, Ar3, q3, S3, M3, H3, G3⟩ := id V1_2
 have hin3 := own_in (0 : Int32) S3 ⟨by decide, by decide⟩
 obtain ⟨T3, h3, X3, e3, W3, st3⟩ := stC X1 hx hZ e1 Ar3 (j := (0 : Int32)) hin3 (g := (mkF m 64 #[iv (1 : Int32)] [(.int (119 : Int32)), (.int (0 : Int32)), (.ref b1), (.ref b1)])) rfl rfl (hb hby d2_64)
 have V3_4 : Arv Z h3 b1 k1 .char (6 : Int32) [(.int (119 : Int32)), (.int (0 : Int32)), (.int (0 : Int32)), (.int (0 : Int32)), (.int (0 : Int32)), (.int (0 : Int32))] (.int (0 : Int32)) := Arv.set Ar3 q3 S3 M3 H3 G3 (fits_nar_char _) W3 0 rfl (Nat.le_of_ble_eq_true rfl)
 have E3_5 := B1.wr W3
 have K3 := K1.wr W3 (Or.inr sz1)
 have O3 := O1.wr W3 gn1
 have N3 := Fr.snoc X3 N0 gn1
 obtain ⟨cl6, Ar6, q6, S6, M6, H6, G6⟩ := id V3_4
 have hin6 := own_in (1 : Int32) S6 ⟨by decide, by decide⟩
 obtain ⟨T6, h6, X6, e6, W6, st6⟩ := stC X3 hx hZ e3 Ar6 (j := (1 : Int32)) hin6 (g := (mkF m 69 #[iv (1 : Int32)] [(.int (111 : Int32)), (.int (1 : Int32)), (.ref b1), (.ref b1)])) rfl rfl (hb hby d2_69)
 have V6_7 : Arv Z h6 b1 k1 .char (6 : Int32) [(.int (119 : Int32)), (.int (111 : Int32)), (.int (0 : Int32)), (.int (0 : Int32)), (.int (0 : Int32)), (.int (0 : Int32))] (.int (0 : Int32)) := Arv.set Ar6 q6 S6 M6 H6 G6 (fits_nar_char _) W6 1 rfl (Nat.le_of_ble_eq_true rfl)
 have E6_8 := E3_5.wr W6
 have K6 := K3.wr W6 (Or.inr sz1)
 have O6 := O3.wr W6 gn1
 have N6 := Fr.snoc X6 N3 gn1
 obtain ⟨cl9, Ar9, q9, S9, M9, H9, G9⟩ := id V6_7
 have hin9 := own_in (2 : Int32) S9 ⟨by decide, by decide⟩
 obtain ⟨T9, h9, X9, e9, W9, st9⟩ := stC X6 hx hZ e6 Ar9 (j := (2 : Int32)) hin9 (g := (mkF m 74 #[iv (1 : Int32)] [(.int (114 : Int32)), (.int (2 : Int32)), (.ref b1), (.ref b1)])) rfl rfl (hb hby d2_74)
 have V9_10 : Arv Z h9 b1 k1 .char (6 : Int32) [(.int (119 : Int32)), (.int (111 : Int32)), (.int (114 : Int32)), (.int (0 : Int32)), (.int (0 : Int32)), (.int (0 : Int32))] (.int (0 : Int32)) := Arv.set Ar9 q9 S9 M9 H9 G9 (fits_nar_char _) W9 2 rfl (Nat.le_of_ble_eq_true rfl)
 have E9_11 := E6_8.wr W9
 have K9 := K6.wr W9 (Or.inr sz1)
 have O9 := O6.wr W9 gn1
 have N9 := Fr.snoc X9 N6 gn1
 obtain ⟨cl12, Ar12, q12, S12, M12, H12, G12⟩ := id V9_10
 have hin12 := own_in (3 : Int32) S12 ⟨by decide, by decide⟩
 obtain ⟨T12, h12, X12, e12, W12, st12⟩ := stC X9 hx hZ e9 Ar12 (j := (3 : Int32)) hin12 (g := (mkF m 79 #[iv (1 : Int32)] [(.int (107 : Int32)), (.int (3 : Int32)), (.ref b1), (.ref b1)])) rfl rfl (hb hby d2_79)
 have V12_13 : Arv Z h12 b1 k1 .char (6 : Int32) [(.int (119 : Int32)), (.int (111 : Int32)), (.int (114 : Int32)), (.int (107 : Int32)), (.int (0 : Int32)), (.int (0 : Int32))] (.int (0 : Int32)) := Arv.set Ar12 q12 S12 M12 H12 G12 (fits_nar_char _) W12 3 rfl (Nat.le_of_ble_eq_true rfl)
 have E12_14 := E9_11.wr W12
 have K12 := K9.wr W12 (Or.inr sz1)
 have O12 := O9.wr W12 gn1
 have N12 := Fr.snoc X12 N9 gn1
 obtain ⟨cl15, Ar15, q15, S15, M15, H15, G15⟩ := id V12_13
 have hin15 := own_in (4 : Int32) S15 ⟨by decide, by decide⟩
 obtain ⟨T15, h15, X15, e15, W15, st15⟩ := stC X12 hx hZ e12 Ar15 (j := (4 : Int32)) hin15 (g := (mkF m 84 #[iv (1 : Int32)] [(.int (101 : Int32)), (.int (4 : Int32)), (.ref b1), (.ref b1)])) rfl rfl (hb hby d2_84)
 have V15_16 : Arv Z h15 b1 k1 .char (6 : Int32) [(.int (119 : Int32)), (.int (111 : Int32)), (.int (114 : Int32)), (.int (107 : Int32)), (.int (101 : Int32)), (.int (0 : Int32))] (.int (0 : Int32)) := Arv.set Ar15 q15 S15 M15 H15 G15 (fits_nar_char _) W15 4 rfl (Nat.le_of_ble_eq_true rfl)
 have E15_17 := E12_14.wr W15
 have K15 := K12.wr W15 (Or.inr sz1)
 have O15 := O12.wr W15 gn1
 have N15 := Fr.snoc X15 N12 gn1
 obtain ⟨cl18, Ar18, q18, S18, M18, H18, G18⟩ := id V15_16
 have hin18 := own_in (5 : Int32) S18 ⟨by decide, by decide⟩
 obtain ⟨T18, h18, X18, e18, W18, st18⟩ := stC X15 hx hZ e15 Ar18 (j := (5 : Int32)) hin18 (g := (mkF m 89 #[iv (1 : Int32)] [(.int (114 : Int32)), (.int (5 : Int32)), (.ref b1), (.ref b1)])) rfl rfl (hb hby d2_89)
 have V18_19 : Arv Z h18 b1 k1 .char (6 : Int32) [(.int (119 : Int32)), (.int (111 : Int32)), (.int (114 : Int32)), (.int (107 : Int32)), (.int (101 : Int32)), (.int (114 : Int32))] (.int (0 : Int32)) := Arv.set Ar18 q18 S18 M18 H18 G18 (fits_nar_char _) W18 5 rfl (Nat.le_of_ble_eq_true rfl)
 have E18_20 := E15_17.wr W18
 have K18 := K15.wr W18 (Or.inr sz1)
 have O18 := O15.wr W18 gn1
 have N18 := Fr.snoc X18 N15 gn1
 obtain ⟨fs, hr, hrun, hended, hW, hsame⟩ := X18.leave (v := some (.ref b1)) (fun h => by rw [Bd.returns] at h; cases h)
 subst hS0
 refine ⟨_, _, pre0 _ ?_, hrun, hended, _, _, rfl, ?_, ⟨_, rfl⟩, hW, hsame.mono (by decide) (by decide)⟩
 ·
  refine XS.iloadN X0.here hx rfl (hb hby d2_0) rfl ?_
  show AT p e below s₁ m 1 #[iv (1 : Int32)] [(.int (1 : Int32))] _
  refine XS.ifYes X0.here hx rfl (pc0 := 1) (pc' := 51) rfl (hb hby d2_1) rfl (XT.i0_ne_t ((by decide) : ¬ ((1 : Int32) = (0 : Int32)))) (by decide) (by decide) ?_
  refine XS.iloadN X0.here hx rfl (hb hby d2_51) rfl ?_
  refine XS.iconst X0.here hx rfl (hb hby d2_52) ?_
  show AT p e below s₁ m 53 #[iv (1 : Int32)] [(.int (1 : Int32)), (.int (1 : Int32))] _
  refine XS.icmpNo X0.here hx rfl (hb hby d2_53) rfl (XT.ii_ne_f ((by decide) : (1 : Int32) = (1 : Int32))) ?_
  refine XS.bipush X0.here hx rfl (hb hby d2_56) ?_
  refine st1 _ ?_
  refine XS.dup X1.here hx rfl (hb hby d2_60) rfl rfl ?_
  refine XS.iconst X1.here hx rfl (hb hby d2_61) ?_
  refine XS.bipush X1.here hx rfl (hb hby d2_62) ?_
  refine st3 _ ?_
  refine XS.dup X3.here hx rfl (hb hby d2_65) rfl rfl ?_
  refine XS.iconst X3.here hx rfl (hb hby d2_66) ?_
  refine XS.bipush X3.here hx rfl (hb hby d2_67) ?_
  show AT p e below T3 m 69 #[iv (1 : Int32)] [(.int (111 : Int32)), (.int (1 : Int32)), (.ref b1), (.ref b1)] _
  refine st6 _ ?_
  refine XS.dup X6.here hx rfl (hb hby d2_70) rfl rfl ?_
  refine XS.iconst X6.here hx rfl (hb hby d2_71) ?_
  refine XS.bipush X6.here hx rfl (hb hby d2_72) ?_
  refine st9 _ ?_
  refine XS.dup X9.here hx rfl (hb hby d2_75) rfl rfl ?_
  refine XS.iconst X9.here hx rfl (hb hby d2_76) ?_
  refine XS.bipush X9.here hx rfl (hb hby d2_77) ?_
  refine st12 _ ?_
  refine XS.dup X12.here hx rfl (hb hby d2_80) rfl rfl ?_
  refine XS.iconst X12.here hx rfl (hb hby d2_81) ?_
  refine XS.bipush X12.here hx rfl (hb hby d2_82) ?_
  show AT p e below T12 m 84 #[iv (1 : Int32)] [(.int (101 : Int32)), (.int (4 : Int32)), (.ref b1), (.ref b1)] _
  refine st15 _ ?_
  refine XS.dup X15.here hx rfl (hb hby d2_85) rfl rfl ?_
  refine XS.iconst X15.here hx rfl (hb hby d2_86) ?_
  refine XS.bipush X15.here hx rfl (hb hby d2_87) ?_
  refine st18 _ ?_
  exact retOut X18 hx (t := (.array .char)) (i := .areturn) Bd.returns rfl (Or.inr (Or.inr (Or.inr (Or.inr ⟨rfl, rfl, rfl⟩)))) (hb hby d2_90) hr
 ·
  show Q2_1 Z  h0 n0 _ T18.heap _
  rw [e18]
  exact ⟨b1, k1, rfl, N18, K18, V18_19, sz1, E18_20⟩

theorem d2_91 : decode method_3_code 91 = .ok (.iload_n 0, 1) := by decide +kernel
theorem d2_92 : decode method_3_code 92 = .ok (.iconst 2, 1) := by decide +kernel
theorem d2_93 : decode method_3_code 93 = .ok (.if_icmp .ne 50, 3) := by decide +kernel
theorem d2_96 : decode method_3_code 96 = .ok (.bipush 8, 2) := by decide +kernel
theorem d2_98 : decode method_3_code 98 = .ok (.newarray .char, 2) := by decide +kernel
theorem d2_100 : decode method_3_code 100 = .ok (.dup, 1) := by decide +kernel
theorem d2_101 : decode method_3_code 101 = .ok (.iconst 0, 1) := by decide +kernel
theorem d2_102 : decode method_3_code 102 = .ok (.bipush 111, 2) := by decide +kernel
theorem d2_104 : decode method_3_code 104 = .ok (.castore, 1) := by decide +kernel
theorem d2_105 : decode method_3_code 105 = .ok (.dup, 1) := by decide +kernel
theorem d2_106 : decode method_3_code 106 = .ok (.iconst 1, 1) := by decide +kernel
theorem d2_107 : decode method_3_code 107 = .ok (.bipush 112, 2) := by decide +kernel
theorem d2_109 : decode method_3_code 109 = .ok (.castore, 1) := by decide +kernel
theorem d2_110 : decode method_3_code 110 = .ok (.dup, 1) := by decide +kernel
theorem d2_111 : decode method_3_code 111 = .ok (.iconst 2, 1) := by decide +kernel
theorem d2_112 : decode method_3_code 112 = .ok (.bipush 101, 2) := by decide +kernel
theorem d2_114 : decode method_3_code 114 = .ok (.castore, 1) := by decide +kernel
theorem d2_115 : decode method_3_code 115 = .ok (.dup, 1) := by decide +kernel
theorem d2_116 : decode method_3_code 116 = .ok (.iconst 3, 1) := by decide +kernel
theorem d2_117 : decode method_3_code 117 = .ok (.bipush 114, 2) := by decide +kernel
theorem d2_119 : decode method_3_code 119 = .ok (.castore, 1) := by decide +kernel
theorem d2_120 : decode method_3_code 120 = .ok (.dup, 1) := by decide +kernel
theorem d2_121 : decode method_3_code 121 = .ok (.iconst 4, 1) := by decide +kernel
theorem d2_122 : decode method_3_code 122 = .ok (.bipush 97, 2) := by decide +kernel
theorem d2_124 : decode method_3_code 124 = .ok (.castore, 1) := by decide +kernel
theorem d2_125 : decode method_3_code 125 = .ok (.dup, 1) := by decide +kernel
theorem d2_126 : decode method_3_code 126 = .ok (.iconst 5, 1) := by decide +kernel
theorem d2_127 : decode method_3_code 127 = .ok (.bipush 116, 2) := by decide +kernel
theorem d2_129 : decode method_3_code 129 = .ok (.castore, 1) := by decide +kernel
theorem d2_130 : decode method_3_code 130 = .ok (.dup, 1) := by decide +kernel
theorem d2_131 : decode method_3_code 131 = .ok (.bipush 6, 2) := by decide +kernel
theorem d2_133 : decode method_3_code 133 = .ok (.bipush 111, 2) := by decide +kernel
theorem d2_135 : decode method_3_code 135 = .ok (.castore, 1) := by decide +kernel
theorem d2_136 : decode method_3_code 136 = .ok (.dup, 1) := by decide +kernel
theorem d2_137 : decode method_3_code 137 = .ok (.bipush 7, 2) := by decide +kernel
theorem d2_139 : decode method_3_code 139 = .ok (.bipush 114, 2) := by decide +kernel
theorem d2_141 : decode method_3_code 141 = .ok (.castore, 1) := by decide +kernel
theorem d2_142 : decode method_3_code 142 = .ok (.areturn, 1) := by decide +kernel
theorem ef_2_2 (m : MethodId)  : entryFrame m #[(.int (2 : Int32))] 1 = mkF m 0 #[iv (2 : Int32)] [] := by first | (simp [entryFrame, mkF, argsToLocals, Value.category]; done) | rfl
def Q2_2 (Z : State)  (h0 : Heap) (n0 : Nat) (v : Option Value) (h : Heap) (L : List Loc) : Prop := ∃ (b : Addr) (kb : ClassId), v = some (.ref b) ∧ Fr n0 L ∧ Keep h0 h [] ∧ Arv Z h b kb .char (8 : Int32) [(.int (111 : Int32)), (.int (112 : Int32)), (.int (101 : Int32)), (.int (114 : Int32)), (.int (97 : Int32)), (.int (116 : Int32)), (.int (111 : Int32)), (.int (114 : Int32))] (.int (0 : Int32)) ∧ h0.size ≤ b ∧ Exa Z h b "[C"
set_option maxRecDepth 65536 in
set_option maxHeartbeats 40000000 in
theorem rm2_2 (l : Launch) (Z : State) (ar : Array Value) (hw : ∀ d ∈ tables_1, d.before ar Z = true) (ws : List Jvm.Cond)  (h0 : Heap) (n0 : Nat) (O0 : Old Z n0 h0) :
    MetFree l y2 (head1 (Jvm.Cond.code y2 method_3_code 1 (some (.array .char)) :: ws) ({ frames := 0, cells := 1, slots := 8, locals := 0 } : Room)) (fun a U => a = #[(.int (2 : Int32))] ∧ Z.Warmed39 U.vm ∧ U.heap = h0) (fun _ _ _ _ _ => True) (fun _ U o U' => ∃ v L, o = .returned v ∧ Q2_2 Z  h0 n0 v U'.heap L ∧ FrameEnd U o U' L ({ frames := 0, cells := 1, slots := 8, locals := 0 } : Room).cells ({ frames := 0, cells := 1, slots := 8, locals := 0 } : Room).slots) := by
 refine MetFree.of_bodySF (plainFor_of_name pn_0) hisR ?_
 intro p e s m args below meth c s₁ Bd hml0 hP hK
 obtain ⟨rfl, hZ, hh⟩ := hP
 have hx := Bd.exec
 have hby := Bd.bytes
 have hml : c.maxLocals = 1 := hml0
 have hown : s.vm.findClass "com/example/lease/lease/RoleNamedPinLaw" = some m.cls := findClass_of_methodNamed Bd.named
 have hnm := (name_of_methodNamed Bd.named Bd.method).1
 have X0 : Stand p l e ({ frames := 0, cells := 1, slots := 8, locals := 0 } : Room) s m #[(.int (2 : Int32))] below meth c s₁ [] 0 0 := Stand.of_body Bd
 have e0 : s₁.heap = h0 := by rw [← hh, Bd.state]; rfl
 have N0 := Fr.nil n0
 have Z0 : n0 ≤ h0.size := Nat.le_trans (Nat.le_of_eq O0.1.symm) O0.2.1
 obtain ⟨S0, hS0⟩ : ∃ z, z = s₁.setTop (entryFrame m #[(.int (2 : Int32))] 1) := ⟨_, rfl⟩
 have pre0 : ∀ tg, AT p e below s₁ m 0 #[iv (2 : Int32)] [] tg → Steps p.tables e below S0 tg := fun tg kg => by rw [hS0]; exact castTop (ef_2_2 m ) kg
 obtain ⟨T1, h1, k1, X1, e1, E1, A1, B1, st1⟩ := newPE X0 hx hZ (ow hw 10 rfl) e0 (g := (mkF m 98 #[iv (2 : Int32)] [(.int (8 : Int32))])) rfl (hb hby d2_98) rfl (by decide) (cap := 8) (by decide) (by decide) (by decide) (by decide) (ad := "[C") (by decide)
 obtain ⟨b1, g1⟩ : ∃ z, z = h0.size := ⟨_, rfl⟩
 rw [← g1] at A1 B1 st1
 have gn1 : n0 ≤ b1 := Nat.le_trans (Nat.le_trans (Nat.le_of_eq O0.1.symm) O0.2.1) (Nat.le_of_eq g1.symm)
 have sz1 : h0.size ≤ b1 := Nat.le_trans (Keep.refl h0 []).1 (Nat.le_of_eq g1.symm)
 have K1 := (Keep.refl h0 []).ext E1
 have O1 := O0.ext E1
 have V1_2 : Arv Z h1 b1 k1 .char (8 : Int32) [(.int (0 : Int32)), (.int (0 : Int32)), (.int (0 : Int32)), (.int (0 : Int32)), (.int (0 : Int32)), (.int (0 : Int32)), (.int (0 : Int32)), (.int (0 : Int32))] (.int (0 : Int32)) := (Arv.new A1 (by decide)).pad (pad_rep [] (.int (0 : Int32)) 8)
 obtain ⟨cl3, Ar3, q3, S3, M3, H3, G3⟩ := id V1_2
 have hin3 := own_in (0 : Int32) S3 ⟨by decide, by decide⟩
 obtain ⟨T3, h3, X3, e3, W3, st3⟩ := stC X1 hx hZ e1 Ar3 (j := (0 : Int32)) hin3 (g := (mkF m 104 #[iv (2 : Int32)] [(.int (111 : Int32)), (.int (0 : Int32)), (.ref b1), (.ref b1)])) rfl rfl (hb hby d2_104)
 have V3_4 : Arv Z h3 b1 k1 .char (8 : Int32) [(.int (111 : Int32)), (.int (0 : Int32)), (.int (0 : Int32)), (.int (0 : Int32)), (.int (0 : Int32)), (.int (0 : Int32)), (.int (0 : Int32)), (.int (0 : Int32))] (.int (0 : Int32)) := Arv.set Ar3 q3 S3 M3 H3 G3 (fits_nar_char _) W3 0 rfl (Nat.le_of_ble_eq_true rfl)
 have E3_5 := B1.wr W3
 have K3 := K1.wr W3 (Or.inr sz1)
 have O3 := O1.wr W3 gn1
 have N3 := Fr.snoc X3 N0 gn1
 obtain ⟨cl6, Ar6, q6, S6, M6, H6, G6⟩ := id V3_4
 have hin6 := own_in (1 : Int32) S6 ⟨by decide, by decide⟩
 obtain ⟨T6, h6, X6, e6, W6, st6⟩ := stC X3 hx hZ e3 Ar6 (j := (1 : Int32)) hin6 (g := (mkF m 109 #[iv (2 : Int32)] [(.int (112 : Int32)), (.int (1 : Int32)), (.ref b1), (.ref b1)])) rfl rfl (hb hby d2_109)
 have V6_7 : Arv Z h6 b1 k1 .char (8 : Int32) [(.int (111 : Int32)), (.int (112 : Int32)), (.int (0 : Int32)), (.int (0 : Int32)), (.int (0 : Int32)), (.int (0 : Int32)), (.int (0 : Int32)), (.int (0 : Int32))] (.int (0 : Int32)) := Arv.set Ar6 q6 S6 M6 H6 G6 (fits_nar_char _) W6 1 rfl (Nat.le_of_ble_eq_true rfl)
 have E6_8 := E3_5.wr W6
 have K6 := K3.wr W6 (Or.inr sz1)
 have O6 := O3.wr W6 gn1
 have N6 := Fr.snoc X6 N3 gn1
 obtain ⟨cl9, Ar9, q9, S9, M9, H9, G9⟩ := id V6_7
 have hin9 := own_in (2 : Int32) S9 ⟨by decide, by decide⟩
 obtain ⟨T9, h9, X9, e9, W9, st9⟩ := stC X6 hx hZ e6 Ar9 (j := (2 : Int32)) hin9 (g := (mkF m 114 #[iv (2 : Int32)] [(.int (101 : Int32)), (.int (2 : Int32)), (.ref b1), (.ref b1)])) rfl rfl (hb hby d2_114)
 have V9_10 : Arv Z h9 b1 k1 .char (8 : Int32) [(.int (111 : Int32)), (.int (112 : Int32)), (.int (101 : Int32)), (.int (0 : Int32)), (.int (0 : Int32)), (.int (0 : Int32)), (.int (0 : Int32)), (.int (0 : Int32))] (.int (0 : Int32)) := Arv.set Ar9 q9 S9 M9 H9 G9 (fits_nar_char _) W9 2 rfl (Nat.le_of_ble_eq_true rfl)
 have E9_11 := E6_8.wr W9
 have K9 := K6.wr W9 (Or.inr sz1)
 have O9 := O6.wr W9 gn1
 have N9 := Fr.snoc X9 N6 gn1
 obtain ⟨cl12, Ar12, q12, S12, M12, H12, G12⟩ := id V9_10
 have hin12 := own_in (3 : Int32) S12 ⟨by decide, by decide⟩
 obtain ⟨T12, h12, X12, e12, W12, st12⟩ := stC X9 hx hZ e9 Ar12 (j := (3 : Int32)) hin12 (g := (mkF m 119 #[iv (2 : Int32)] [(.int (114 : Int32)), (.int (3 : Int32)), (.ref b1), (.ref b1)])) rfl rfl (hb hby d2_119)
 have V12_13 : Arv Z h12 b1 k1 .char (8 : Int32) [(.int (111 : Int32)), (.int (112 : Int32)), (.int (101 : Int32)), (.int (114 : Int32)), (.int (0 : Int32)), (.int (0 : Int32)), (.int (0 : Int32)), (.int (0 : Int32))] (.int (0 : Int32)) := Arv.set Ar12 q12 S12 M12 H12 G12 (fits_nar_char _) W12 3 rfl (Nat.le_of_ble_eq_true rfl)
 have E12_14 := E9_11.wr W12
 have K12 := K9.wr W12 (Or.inr sz1)
 have O12 := O9.wr W12 gn1
 have N12 := Fr.snoc X12 N9 gn1
 obtain ⟨cl15, Ar15, q15, S15, M15, H15, G15⟩ := id V12_13
 have hin15 := own_in (4 : Int32) S15 ⟨by decide, by decide⟩
 obtain ⟨T15, h15, X15, e15, W15, st15⟩ := stC X12 hx hZ e12 Ar15 (j := (4 : Int32)) hin15 (g := (mkF m 124 #[iv (2 : Int32)] [(.int (97 : Int32)), (.int (4 : Int32)), (.ref b1), (.ref b1)])) rfl rfl (hb hby d2_124)
 have V15_16 : Arv Z h15 b1 k1 .char (8 : Int32) [(.int (111 : Int32)), (.int (112 : Int32)), (.int (101 : Int32)), (.int (114 : Int32)), (.int (97 : Int32)), (.int (0 : Int32)), (.int (0 : Int32)), (.int (0 : Int32))] (.int (0 : Int32)) := Arv.set Ar15 q15 S15 M15 H15 G15 (fits_nar_char _) W15 4 rfl (Nat.le_of_ble_eq_true rfl)
 have E15_17 := E12_14.wr W15
 have K15 := K12.wr W15 (Or.inr sz1)
 have O15 := O12.wr W15 gn1
 have N15 := Fr.snoc X15 N12 gn1
 obtain ⟨cl18, Ar18, q18, S18, M18, H18, G18⟩ := id V15_16
 have hin18 := own_in (5 : Int32) S18 ⟨by decide, by decide⟩
 obtain ⟨T18, h18, X18, e18, W18, st18⟩ := stC X15 hx hZ e15 Ar18 (j := (5 : Int32)) hin18 (g := (mkF m 129 #[iv (2 : Int32)] [(.int (116 : Int32)), (.int (5 : Int32)), (.ref b1), (.ref b1)])) rfl rfl (hb hby d2_129)
 have V18_19 : Arv Z h18 b1 k1 .char (8 : Int32) [(.int (111 : Int32)), (.int (112 : Int32)), (.int (101 : Int32)), (.int (114 : Int32)), (.int (97 : Int32)), (.int (116 : Int32)), (.int (0 : Int32)), (.int (0 : Int32))] (.int (0 : Int32)) := Arv.set Ar18 q18 S18 M18 H18 G18 (fits_nar_char _) W18 5 rfl (Nat.le_of_ble_eq_true rfl)
 have E18_20 := E15_17.wr W18
 have K18 := K15.wr W18 (Or.inr sz1)
 have O18 := O15.wr W18 gn1
 have N18 := Fr.snoc X18 N15 gn1
 obtain ⟨cl21, Ar21, q21, S21, M21, H21, G21⟩ := id V18_19
 have hin21 := own_in (6 : Int32) S21 ⟨by decide, by decide⟩
 obtain ⟨T21, h21, X21, e21, W21, st21⟩ := stC X18 hx hZ e18 Ar21 (j := (6 : Int32)) hin21 (g := (mkF m 135 #[iv (2 : Int32)] [(.int (111 : Int32)), (.int (6 : Int32)), (.ref b1), (.ref b1)])) rfl rfl (hb hby d2_135)
 have V21_22 : Arv Z h21 b1 k1 .char (8 : Int32) [(.int (111 : Int32)), (.int (112 : Int32)), (.int (101 : Int32)), (.int (114 : Int32)), (.int (97 : Int32)), (.int (116 : Int32)), (.int (111 : Int32)), (.int (0 : Int32))] (.int (0 : Int32)) := Arv.set Ar21 q21 S21 M21 H21 G21 (fits_nar_char _) W21 6 rfl (Nat.le_of_ble_eq_true rfl)
 have E21_23 := E18_20.wr W21
 have K21 := K18.wr W21 (Or.inr sz1)
 have O21 := O18.wr W21 gn1
 have N21 := Fr.snoc X21 N18 gn1
 obtain ⟨cl24, Ar24, q24, S24, M24, H24, G24⟩ := id V21_22
 have hin24 := own_in (7 : Int32) S24 ⟨by decide, by decide⟩
 obtain ⟨T24, h24, X24, e24, W24, st24⟩ := stC X21 hx hZ e21 Ar24 (j := (7 : Int32)) hin24 (g := (mkF m 141 #[iv (2 : Int32)] [(.int (114 : Int32)), (.int (7 : Int32)), (.ref b1), (.ref b1)])) rfl rfl (hb hby d2_141)
 have V24_25 : Arv Z h24 b1 k1 .char (8 : Int32) [(.int (111 : Int32)), (.int (112 : Int32)), (.int (101 : Int32)), (.int (114 : Int32)), (.int (97 : Int32)), (.int (116 : Int32)), (.int (111 : Int32)), (.int (114 : Int32))] (.int (0 : Int32)) := Arv.set Ar24 q24 S24 M24 H24 G24 (fits_nar_char _) W24 7 rfl (Nat.le_of_ble_eq_true rfl)
 have E24_26 := E21_23.wr W24
 have K24 := K21.wr W24 (Or.inr sz1)
 have O24 := O21.wr W24 gn1
 have N24 := Fr.snoc X24 N21 gn1
 obtain ⟨fs, hr, hrun, hended, hW, hsame⟩ := X24.leave (v := some (.ref b1)) (fun h => by rw [Bd.returns] at h; cases h)
 subst hS0
 refine ⟨_, _, pre0 _ ?_, hrun, hended, _, _, rfl, ?_, ⟨_, rfl⟩, hW, hsame.mono (by decide) (by decide)⟩
 ·
  refine XS.iloadN X0.here hx rfl (hb hby d2_0) rfl ?_
  show AT p e below s₁ m 1 #[iv (2 : Int32)] [(.int (2 : Int32))] _
  refine XS.ifYes X0.here hx rfl (pc0 := 1) (pc' := 51) rfl (hb hby d2_1) rfl (XT.i0_ne_t ((by decide) : ¬ ((2 : Int32) = (0 : Int32)))) (by decide) (by decide) ?_
  refine XS.iloadN X0.here hx rfl (hb hby d2_51) rfl ?_
  refine XS.iconst X0.here hx rfl (hb hby d2_52) ?_
  show AT p e below s₁ m 53 #[iv (2 : Int32)] [(.int (1 : Int32)), (.int (2 : Int32))] _
  refine XS.icmpYes X0.here hx rfl (pc0 := 53) (pc' := 91) rfl (hb hby d2_53) rfl (XT.ii_ne_t ((by decide) : ¬ ((2 : Int32) = (1 : Int32)))) (by decide) (by decide) ?_
  refine XS.iloadN X0.here hx rfl (hb hby d2_91) rfl ?_
  refine XS.iconst X0.here hx rfl (hb hby d2_92) ?_
  show AT p e below s₁ m 93 #[iv (2 : Int32)] [(.int (2 : Int32)), (.int (2 : Int32))] _
  refine XS.icmpNo X0.here hx rfl (hb hby d2_93) rfl (XT.ii_ne_f ((by decide) : (2 : Int32) = (2 : Int32))) ?_
  refine XS.bipush X0.here hx rfl (hb hby d2_96) ?_
  refine st1 _ ?_
  refine XS.dup X1.here hx rfl (hb hby d2_100) rfl rfl ?_
  refine XS.iconst X1.here hx rfl (hb hby d2_101) ?_
  refine XS.bipush X1.here hx rfl (hb hby d2_102) ?_
  refine st3 _ ?_
  refine XS.dup X3.here hx rfl (hb hby d2_105) rfl rfl ?_
  show AT p e below T3 m 106 #[iv (2 : Int32)] [(.ref b1), (.ref b1)] _
  refine XS.iconst X3.here hx rfl (hb hby d2_106) ?_
  refine XS.bipush X3.here hx rfl (hb hby d2_107) ?_
  refine st6 _ ?_
  refine XS.dup X6.here hx rfl (hb hby d2_110) rfl rfl ?_
  refine XS.iconst X6.here hx rfl (hb hby d2_111) ?_
  refine XS.bipush X6.here hx rfl (hb hby d2_112) ?_
  refine st9 _ ?_
  refine XS.dup X9.here hx rfl (hb hby d2_115) rfl rfl ?_
  refine XS.iconst X9.here hx rfl (hb hby d2_116) ?_
  refine XS.bipush X9.here hx rfl (hb hby d2_117) ?_
  refine st12 _ ?_
  refine XS.dup X12.here hx rfl (hb hby d2_120) rfl rfl ?_
  show AT p e below T12 m 121 #[iv (2 : Int32)] [(.ref b1), (.ref b1)] _
  refine XS.iconst X12.here hx rfl (hb hby d2_121) ?_
  refine XS.bipush X12.here hx rfl (hb hby d2_122) ?_
  refine st15 _ ?_
  refine XS.dup X15.here hx rfl (hb hby d2_125) rfl rfl ?_
  refine XS.iconst X15.here hx rfl (hb hby d2_126) ?_
  refine XS.bipush X15.here hx rfl (hb hby d2_127) ?_
  refine st18 _ ?_
  refine XS.dup X18.here hx rfl (hb hby d2_130) rfl rfl ?_
  refine XS.bipush X18.here hx rfl (hb hby d2_131) ?_
  refine XS.bipush X18.here hx rfl (hb hby d2_133) ?_
  refine st21 _ ?_
  refine XS.dup X21.here hx rfl (hb hby d2_136) rfl rfl ?_
  show AT p e below T21 m 137 #[iv (2 : Int32)] [(.ref b1), (.ref b1)] _
  refine XS.bipush X21.here hx rfl (hb hby d2_137) ?_
  refine XS.bipush X21.here hx rfl (hb hby d2_139) ?_
  refine st24 _ ?_
  exact retOut X24 hx (t := (.array .char)) (i := .areturn) Bd.returns rfl (Or.inr (Or.inr (Or.inr (Or.inr ⟨rfl, rfl, rfl⟩)))) (hb hby d2_142) hr
 ·
  show Q2_2 Z  h0 n0 _ T24.heap _
  rw [e24]
  exact ⟨b1, k1, rfl, N24, K24, V24_25, sz1, E24_26⟩

theorem d2_143 : decode method_3_code 143 = .ok (.iconst 5, 1) := by decide +kernel
theorem d2_144 : decode method_3_code 144 = .ok (.newarray .char, 2) := by decide +kernel
theorem d2_146 : decode method_3_code 146 = .ok (.dup, 1) := by decide +kernel
theorem d2_147 : decode method_3_code 147 = .ok (.iconst 0, 1) := by decide +kernel
theorem d2_148 : decode method_3_code 148 = .ok (.bipush 97, 2) := by decide +kernel
theorem d2_150 : decode method_3_code 150 = .ok (.castore, 1) := by decide +kernel
theorem d2_151 : decode method_3_code 151 = .ok (.dup, 1) := by decide +kernel
theorem d2_152 : decode method_3_code 152 = .ok (.iconst 1, 1) := by decide +kernel
theorem d2_153 : decode method_3_code 153 = .ok (.bipush 100, 2) := by decide +kernel
theorem d2_155 : decode method_3_code 155 = .ok (.castore, 1) := by decide +kernel
theorem d2_156 : decode method_3_code 156 = .ok (.dup, 1) := by decide +kernel
theorem d2_157 : decode method_3_code 157 = .ok (.iconst 2, 1) := by decide +kernel
theorem d2_158 : decode method_3_code 158 = .ok (.bipush 109, 2) := by decide +kernel
theorem d2_160 : decode method_3_code 160 = .ok (.castore, 1) := by decide +kernel
theorem d2_161 : decode method_3_code 161 = .ok (.dup, 1) := by decide +kernel
theorem d2_162 : decode method_3_code 162 = .ok (.iconst 3, 1) := by decide +kernel
theorem d2_163 : decode method_3_code 163 = .ok (.bipush 105, 2) := by decide +kernel
theorem d2_165 : decode method_3_code 165 = .ok (.castore, 1) := by decide +kernel
theorem d2_166 : decode method_3_code 166 = .ok (.dup, 1) := by decide +kernel
theorem d2_167 : decode method_3_code 167 = .ok (.iconst 4, 1) := by decide +kernel
theorem d2_168 : decode method_3_code 168 = .ok (.bipush 110, 2) := by decide +kernel
theorem d2_170 : decode method_3_code 170 = .ok (.castore, 1) := by decide +kernel
theorem d2_171 : decode method_3_code 171 = .ok (.areturn, 1) := by decide +kernel
theorem ef_2_3 (m : MethodId)  : entryFrame m #[(.int (3 : Int32))] 1 = mkF m 0 #[iv (3 : Int32)] [] := by first | (simp [entryFrame, mkF, argsToLocals, Value.category]; done) | rfl
def Q2_3 (Z : State)  (h0 : Heap) (n0 : Nat) (v : Option Value) (h : Heap) (L : List Loc) : Prop := ∃ (b : Addr) (kb : ClassId), v = some (.ref b) ∧ Fr n0 L ∧ Keep h0 h [] ∧ Arv Z h b kb .char (5 : Int32) [(.int (97 : Int32)), (.int (100 : Int32)), (.int (109 : Int32)), (.int (105 : Int32)), (.int (110 : Int32))] (.int (0 : Int32)) ∧ h0.size ≤ b ∧ Exa Z h b "[C"
set_option maxRecDepth 65536 in
set_option maxHeartbeats 40000000 in
theorem rm2_3 (l : Launch) (Z : State) (ar : Array Value) (hw : ∀ d ∈ tables_1, d.before ar Z = true) (ws : List Jvm.Cond)  (h0 : Heap) (n0 : Nat) (O0 : Old Z n0 h0) :
    MetFree l y2 (head1 (Jvm.Cond.code y2 method_3_code 1 (some (.array .char)) :: ws) ({ frames := 0, cells := 1, slots := 5, locals := 0 } : Room)) (fun a U => a = #[(.int (3 : Int32))] ∧ Z.Warmed39 U.vm ∧ U.heap = h0) (fun _ _ _ _ _ => True) (fun _ U o U' => ∃ v L, o = .returned v ∧ Q2_3 Z  h0 n0 v U'.heap L ∧ FrameEnd U o U' L ({ frames := 0, cells := 1, slots := 5, locals := 0 } : Room).cells ({ frames := 0, cells := 1, slots := 5, locals := 0 } : Room).slots) := by
 refine MetFree.of_bodySF (plainFor_of_name pn_0) hisR ?_
 intro p e s m args below meth c s₁ Bd hml0 hP hK
 obtain ⟨rfl, hZ, hh⟩ := hP
 have hx := Bd.exec
 have hby := Bd.bytes
 have hml : c.maxLocals = 1 := hml0
 have hown : s.vm.findClass "com/example/lease/lease/RoleNamedPinLaw" = some m.cls := findClass_of_methodNamed Bd.named
 have hnm := (name_of_methodNamed Bd.named Bd.method).1
 have X0 : Stand p l e ({ frames := 0, cells := 1, slots := 5, locals := 0 } : Room) s m #[(.int (3 : Int32))] below meth c s₁ [] 0 0 := Stand.of_body Bd
 have e0 : s₁.heap = h0 := by rw [← hh, Bd.state]; rfl
 have N0 := Fr.nil n0
 have Z0 : n0 ≤ h0.size := Nat.le_trans (Nat.le_of_eq O0.1.symm) O0.2.1
 obtain ⟨S0, hS0⟩ : ∃ z, z = s₁.setTop (entryFrame m #[(.int (3 : Int32))] 1) := ⟨_, rfl⟩
 have pre0 : ∀ tg, AT p e below s₁ m 0 #[iv (3 : Int32)] [] tg → Steps p.tables e below S0 tg := fun tg kg => by rw [hS0]; exact castTop (ef_2_3 m ) kg
 obtain ⟨T1, h1, k1, X1, e1, E1, A1, B1, st1⟩ := newPE X0 hx hZ (ow hw 10 rfl) e0 (g := (mkF m 144 #[iv (3 : Int32)] [(.int (5 : Int32))])) rfl (hb hby d2_144) rfl (by decide) (cap := 5) (by decide) (by decide) (by decide) (by decide) (ad := "[C") (by decide)
 obtain ⟨b1, g1⟩ : ∃ z, z = h0.size := ⟨_, rfl⟩
 rw [← g1] at A1 B1 st1
 have gn1 : n0 ≤ b1 := Nat.le_trans (Nat.le_trans (Nat.le_of_eq O0.1.symm) O0.2.1) (Nat.le_of_eq g1.symm)
 have sz1 : h0.size ≤ b1 := Nat.le_trans (Keep.refl h0 []).1 (Nat.le_of_eq g1.symm)
 have K1 := (Keep.refl h0 []).ext E1
 have O1 := O0.ext E1
 have V1_2 : Arv Z h1 b1 k1 .char (5 : Int32) [(.int (0 : Int32)), (.int (0 : Int32)), (.int (0 : Int32)), (.int (0 : Int32)), (.int (0 : Int32))] (.int (0 : Int32)) := (Arv.new A1 (by decide)).pad (pad_rep [] (.int (0 : Int32)) 5)
 obtain ⟨cl3, Ar3, q3, S3, M3, H3, G3⟩ := id V1_2
 have hin3 := own_in (0 : Int32) S3 ⟨by decide, by decide⟩
 obtain ⟨T3, h3, X3, e3, W3, st3⟩ := stC X1 hx hZ e1 Ar3 (j := (0 : Int32)) hin3 (g := (mkF m 150 #[iv (3 : Int32)] [(.int (97 : Int32)), (.int (0 : Int32)), (.ref b1), (.ref b1)])) rfl rfl (hb hby d2_150)
 have V3_4 : Arv Z h3 b1 k1 .char (5 : Int32) [(.int (97 : Int32)), (.int (0 : Int32)), (.int (0 : Int32)), (.int (0 : Int32)), (.int (0 : Int32))] (.int (0 : Int32)) := Arv.set Ar3 q3 S3 M3 H3 G3 (fits_nar_char _) W3 0 rfl (Nat.le_of_ble_eq_true rfl)
 have E3_5 := B1.wr W3
 have K3 := K1.wr W3 (Or.inr sz1)
 have O3 := O1.wr W3 gn1
 have N3 := Fr.snoc X3 N0 gn1
 obtain ⟨cl6, Ar6, q6, S6, M6, H6, G6⟩ := id V3_4
 have hin6 := own_in (1 : Int32) S6 ⟨by decide, by decide⟩
 obtain ⟨T6, h6, X6, e6, W6, st6⟩ := stC X3 hx hZ e3 Ar6 (j := (1 : Int32)) hin6 (g := (mkF m 155 #[iv (3 : Int32)] [(.int (100 : Int32)), (.int (1 : Int32)), (.ref b1), (.ref b1)])) rfl rfl (hb hby d2_155)
 have V6_7 : Arv Z h6 b1 k1 .char (5 : Int32) [(.int (97 : Int32)), (.int (100 : Int32)), (.int (0 : Int32)), (.int (0 : Int32)), (.int (0 : Int32))] (.int (0 : Int32)) := Arv.set Ar6 q6 S6 M6 H6 G6 (fits_nar_char _) W6 1 rfl (Nat.le_of_ble_eq_true rfl)
 have E6_8 := E3_5.wr W6
 have K6 := K3.wr W6 (Or.inr sz1)
 have O6 := O3.wr W6 gn1
 have N6 := Fr.snoc X6 N3 gn1
 obtain ⟨cl9, Ar9, q9, S9, M9, H9, G9⟩ := id V6_7
 have hin9 := own_in (2 : Int32) S9 ⟨by decide, by decide⟩
 obtain ⟨T9, h9, X9, e9, W9, st9⟩ := stC X6 hx hZ e6 Ar9 (j := (2 : Int32)) hin9 (g := (mkF m 160 #[iv (3 : Int32)] [(.int (109 : Int32)), (.int (2 : Int32)), (.ref b1), (.ref b1)])) rfl rfl (hb hby d2_160)
 have V9_10 : Arv Z h9 b1 k1 .char (5 : Int32) [(.int (97 : Int32)), (.int (100 : Int32)), (.int (109 : Int32)), (.int (0 : Int32)), (.int (0 : Int32))] (.int (0 : Int32)) := Arv.set Ar9 q9 S9 M9 H9 G9 (fits_nar_char _) W9 2 rfl (Nat.le_of_ble_eq_true rfl)
 have E9_11 := E6_8.wr W9
 have K9 := K6.wr W9 (Or.inr sz1)
 have O9 := O6.wr W9 gn1
 have N9 := Fr.snoc X9 N6 gn1
 obtain ⟨cl12, Ar12, q12, S12, M12, H12, G12⟩ := id V9_10
 have hin12 := own_in (3 : Int32) S12 ⟨by decide, by decide⟩
 obtain ⟨T12, h12, X12, e12, W12, st12⟩ := stC X9 hx hZ e9 Ar12 (j := (3 : Int32)) hin12 (g := (mkF m 165 #[iv (3 : Int32)] [(.int (105 : Int32)), (.int (3 : Int32)), (.ref b1), (.ref b1)])) rfl rfl (hb hby d2_165)
 have V12_13 : Arv Z h12 b1 k1 .char (5 : Int32) [(.int (97 : Int32)), (.int (100 : Int32)), (.int (109 : Int32)), (.int (105 : Int32)), (.int (0 : Int32))] (.int (0 : Int32)) := Arv.set Ar12 q12 S12 M12 H12 G12 (fits_nar_char _) W12 3 rfl (Nat.le_of_ble_eq_true rfl)
 have E12_14 := E9_11.wr W12
 have K12 := K9.wr W12 (Or.inr sz1)
 have O12 := O9.wr W12 gn1
 have N12 := Fr.snoc X12 N9 gn1
 obtain ⟨cl15, Ar15, q15, S15, M15, H15, G15⟩ := id V12_13
 have hin15 := own_in (4 : Int32) S15 ⟨by decide, by decide⟩
 obtain ⟨T15, h15, X15, e15, W15, st15⟩ := stC X12 hx hZ e12 Ar15 (j := (4 : Int32)) hin15 (g := (mkF m 170 #[iv (3 : Int32)] [(.int (110 : Int32)), (.int (4 : Int32)), (.ref b1), (.ref b1)])) rfl rfl (hb hby d2_170)
 have V15_16 : Arv Z h15 b1 k1 .char (5 : Int32) [(.int (97 : Int32)), (.int (100 : Int32)), (.int (109 : Int32)), (.int (105 : Int32)), (.int (110 : Int32))] (.int (0 : Int32)) := Arv.set Ar15 q15 S15 M15 H15 G15 (fits_nar_char _) W15 4 rfl (Nat.le_of_ble_eq_true rfl)
 have E15_17 := E12_14.wr W15
 have K15 := K12.wr W15 (Or.inr sz1)
 have O15 := O12.wr W15 gn1
 have N15 := Fr.snoc X15 N12 gn1
 obtain ⟨fs, hr, hrun, hended, hW, hsame⟩ := X15.leave (v := some (.ref b1)) (fun h => by rw [Bd.returns] at h; cases h)
 subst hS0
 refine ⟨_, _, pre0 _ ?_, hrun, hended, _, _, rfl, ?_, ⟨_, rfl⟩, hW, hsame.mono (by decide) (by decide)⟩
 ·
  refine XS.iloadN X0.here hx rfl (hb hby d2_0) rfl ?_
  show AT p e below s₁ m 1 #[iv (3 : Int32)] [(.int (3 : Int32))] _
  refine XS.ifYes X0.here hx rfl (pc0 := 1) (pc' := 51) rfl (hb hby d2_1) rfl (XT.i0_ne_t ((by decide) : ¬ ((3 : Int32) = (0 : Int32)))) (by decide) (by decide) ?_
  refine XS.iloadN X0.here hx rfl (hb hby d2_51) rfl ?_
  refine XS.iconst X0.here hx rfl (hb hby d2_52) ?_
  show AT p e below s₁ m 53 #[iv (3 : Int32)] [(.int (1 : Int32)), (.int (3 : Int32))] _
  refine XS.icmpYes X0.here hx rfl (pc0 := 53) (pc' := 91) rfl (hb hby d2_53) rfl (XT.ii_ne_t ((by decide) : ¬ ((3 : Int32) = (1 : Int32)))) (by decide) (by decide) ?_
  refine XS.iloadN X0.here hx rfl (hb hby d2_91) rfl ?_
  refine XS.iconst X0.here hx rfl (hb hby d2_92) ?_
  show AT p e below s₁ m 93 #[iv (3 : Int32)] [(.int (2 : Int32)), (.int (3 : Int32))] _
  refine XS.icmpYes X0.here hx rfl (pc0 := 93) (pc' := 143) rfl (hb hby d2_93) rfl (XT.ii_ne_t ((by decide) : ¬ ((3 : Int32) = (2 : Int32)))) (by decide) (by decide) ?_
  refine XS.iconst X0.here hx rfl (hb hby d2_143) ?_
  refine st1 _ ?_
  refine XS.dup X1.here hx rfl (hb hby d2_146) rfl rfl ?_
  refine XS.iconst X1.here hx rfl (hb hby d2_147) ?_
  refine XS.bipush X1.here hx rfl (hb hby d2_148) ?_
  refine st3 _ ?_
  refine XS.dup X3.here hx rfl (hb hby d2_151) rfl rfl ?_
  show AT p e below T3 m 152 #[iv (3 : Int32)] [(.ref b1), (.ref b1)] _
  refine XS.iconst X3.here hx rfl (hb hby d2_152) ?_
  refine XS.bipush X3.here hx rfl (hb hby d2_153) ?_
  refine st6 _ ?_
  refine XS.dup X6.here hx rfl (hb hby d2_156) rfl rfl ?_
  refine XS.iconst X6.here hx rfl (hb hby d2_157) ?_
  refine XS.bipush X6.here hx rfl (hb hby d2_158) ?_
  refine st9 _ ?_
  refine XS.dup X9.here hx rfl (hb hby d2_161) rfl rfl ?_
  refine XS.iconst X9.here hx rfl (hb hby d2_162) ?_
  refine XS.bipush X9.here hx rfl (hb hby d2_163) ?_
  refine st12 _ ?_
  refine XS.dup X12.here hx rfl (hb hby d2_166) rfl rfl ?_
  show AT p e below T12 m 167 #[iv (3 : Int32)] [(.ref b1), (.ref b1)] _
  refine XS.iconst X12.here hx rfl (hb hby d2_167) ?_
  refine XS.bipush X12.here hx rfl (hb hby d2_168) ?_
  refine st15 _ ?_
  exact retOut X15 hx (t := (.array .char)) (i := .areturn) Bd.returns rfl (Or.inr (Or.inr (Or.inr (Or.inr ⟨rfl, rfl, rfl⟩)))) (hb hby d2_171) hr
 ·
  show Q2_3 Z  h0 n0 _ T15.heap _
  rw [e15]
  exact ⟨b1, k1, rfl, N15, K15, V15_16, sz1, E15_17⟩

theorem d10_0 : decode prog_7_method_1_code 0 = .ok (.getstatic 16, 3) := by decide +kernel
theorem d10_3 : decode prog_7_method_1_code 3 = .ok (.invokevirtual 20, 3) := by decide +kernel
theorem d10_6 : decode prog_7_method_1_code 6 = .ok (.checkcast 21, 3) := by decide +kernel
theorem d10_9 : decode prog_7_method_1_code 9 = .ok (.areturn, 1) := by decide +kernel
theorem ef_10 (m : MethodId)  : entryFrame m #[] 0 = mkF m 0 #[] [] := by first | (simp [entryFrame, mkF, argsToLocals, Value.category]; done) | rfl
def Q10 (Z : State)  (w_CS0 : Int32) (w_SF1 : Value) (w_PRODUCER : Addr) (w__VALUES : Addr) (w_WORKER : Addr) (w_OPERATOR : Addr) (w_ADMIN : Addr) (w_PRODUCER_shown : Addr) (w_PRODUCER_shown_value : Addr) (w_WORKER_shown : Addr) (w_WORKER_shown_value : Addr) (w_OPERATOR_shown : Addr) (w_OPERATOR_shown_value : Addr) (w_ADMIN_shown : Addr) (w_ADMIN_shown_value : Addr) (k__VALUES : ClassId) (k_PRODUCER_shown_value : ClassId) (k_WORKER_shown_value : ClassId) (k_OPERATOR_shown_value : ClassId) (k_ADMIN_shown_value : ClassId) (h0 : Heap) (n0 : Nat) (v : Option Value) (h : Heap) (L : List Loc) : Prop := ∃ (b : Addr) (kb : ClassId), v = some (.ref b) ∧ Fr n0 L ∧ Keep h0 h [] ∧ Arv Z h b kb (.object "com/example/lease/lease/Role") (4 : Int32) [(.ref w_PRODUCER), (.ref w_WORKER), (.ref w_OPERATOR), (.ref w_ADMIN)] .null ∧ h0.size ≤ b ∧ Exa Z h b "[Lcom/example/lease/lease/Role;"
set_option maxRecDepth 65536 in
set_option maxHeartbeats 40000000 in
theorem rm10 (l : Launch) (Z : State) (ar : Array Value) (hw : ∀ d ∈ tables_1, d.before ar Z = true) (ws : List Jvm.Cond)  (w_CS0 : Int32) (w_SF1 : Value) (w_PRODUCER : Addr) (w__VALUES : Addr) (w_WORKER : Addr) (w_OPERATOR : Addr) (w_ADMIN : Addr) (w_PRODUCER_shown : Addr) (w_PRODUCER_shown_value : Addr) (w_WORKER_shown : Addr) (w_WORKER_shown_value : Addr) (w_OPERATOR_shown : Addr) (w_OPERATOR_shown_value : Addr) (w_ADMIN_shown : Addr) (w_ADMIN_shown_value : Addr) (k__VALUES : ClassId) (k_PRODUCER_shown_value : ClassId) (k_WORKER_shown_value : ClassId) (k_OPERATOR_shown_value : ClassId) (k_ADMIN_shown_value : ClassId) (h0 : Heap) (n0 : Nat) (O0 : Old Z n0 h0) (HW : Wd Z w_CS0 w_SF1 w_PRODUCER w__VALUES w_WORKER w_OPERATOR w_ADMIN w_PRODUCER_shown w_PRODUCER_shown_value w_WORKER_shown w_WORKER_shown_value w_OPERATOR_shown w_OPERATOR_shown_value w_ADMIN_shown w_ADMIN_shown_value k__VALUES k_PRODUCER_shown_value k_WORKER_shown_value k_OPERATOR_shown_value k_ADMIN_shown_value) :
    MetFree l y10 (head1 (Jvm.Cond.code y10 prog_7_method_1_code 0 (some (.array (.object "com/example/lease/lease/Role"))) :: ws) ({ frames := 1, cells := 1, slots := 4, locals := 14 } : Room)) (fun a U => a = #[] ∧ Z.Warmed39 U.vm ∧ U.heap = h0) (fun _ _ _ _ _ => True) (fun _ U o U' => ∃ v L, o = .returned v ∧ Q10 Z  w_CS0 w_SF1 w_PRODUCER w__VALUES w_WORKER w_OPERATOR w_ADMIN w_PRODUCER_shown w_PRODUCER_shown_value w_WORKER_shown w_WORKER_shown_value w_OPERATOR_shown w_OPERATOR_shown_value w_ADMIN_shown w_ADMIN_shown_value k__VALUES k_PRODUCER_shown_value k_WORKER_shown_value k_OPERATOR_shown_value k_ADMIN_shown_value h0 n0 v U'.heap L ∧ FrameEnd U o U' L ({ frames := 1, cells := 1, slots := 4, locals := 14 } : Room).cells ({ frames := 1, cells := 1, slots := 4, locals := 14 } : Room).slots) := by
 refine MetFree.of_bodySF (plainFor_of_name pn_1) hisR ?_
 intro p e s m args below meth c s₁ Bd hml0 hP hK
 obtain ⟨rfl, hZ, hh⟩ := hP
 have hx := Bd.exec
 have hby := Bd.bytes
 have hml : c.maxLocals = 0 := hml0
 have hown : s.vm.findClass "com/example/lease/lease/Role" = some m.cls := findClass_of_methodNamed Bd.named
 have hnm := (name_of_methodNamed Bd.named Bd.method).1
 have X0 : Stand p l e ({ frames := 1, cells := 1, slots := 4, locals := 14 } : Room) s m #[] below meth c s₁ [] 0 0 := Stand.of_body Bd
 have e0 : s₁.heap = h0 := by rw [← hh, Bd.state]; rfl
 have N0 := Fr.nil n0
 have Z0 : n0 ≤ h0.size := Nat.le_trans (Nat.le_of_eq O0.1.symm) O0.2.1
 obtain ⟨S0, hS0⟩ : ∃ z, z = s₁.setTop (entryFrame m #[] 0) := ⟨_, rfl⟩
 have pre0 : ∀ tg, AT p e below s₁ m 0 #[] [] tg → Steps p.tables e below S0 tg := fun tg kg => by rw [hS0]; exact castTop (ef_10 m ) kg
 obtain ⟨S_COMPACT_STRINGS, hz_w_CS0, S_SIOOBE_FORMATTER, ir_w_SF1, S_PRODUCER, E_PRODUCER, S__VALUES, E__VALUES, S_WORKER, E_WORKER, S_OPERATOR, E_OPERATOR, S_ADMIN, E_ADMIN, F_shown_PRODUCER, E_PRODUCER_shown, F_coder_PRODUCER_shown, F_value_PRODUCER_shown, F_shown_WORKER, E_WORKER_shown, F_coder_WORKER_shown, F_value_WORKER_shown, F_shown_OPERATOR, E_OPERATOR_shown, F_coder_OPERATOR_shown, F_value_OPERATOR_shown, F_shown_ADMIN, E_ADMIN_shown, F_coder_ADMIN_shown, F_value_ADMIN_shown, V__VALUES, V_PRODUCER_shown_value, V_WORKER_shown_value, V_OPERATOR_shown_value, V_ADMIN_shown_value⟩ := id HW
 obtain ⟨T1, X1, e1, st1⟩ := getS2 X0 hx hZ hown (host := "") (Or.inl (ow hw 46 rfl)) Via.refl e0 (S__VALUES.ext O0.2) (g := (mkF m 0 #[] [])) rfl (hb hby d10_0)
 obtain ⟨T2, h2, X2, e2, E2, V2, A2, st2⟩ := cloneH X1 hx hZ hown (ow hw 48 rfl) (ow hw 49 rfl) (ow hw 53 rfl) (ow hw 51 rfl) (ow hw 52 rfl) (ow hw 54 rfl) e1 ((V__VALUES.ext O0.2)).arh (E__VALUES.ext O0.2) (g := (mkF m 3 #[] [(.ref w__VALUES)])) rfl (by rw [hml]; rfl) rfl (hb hby d10_3) (by decide) (W := 0) (cap := 4) (by show 2 * 0 + _ ≤ _; exact Nat.le_of_eq rfl) (by decide) (by decide) (by decide) (by decide)
 obtain ⟨b2, g2⟩ : ∃ z, z = h0.size := ⟨_, rfl⟩
 rw [← g2] at V2 A2 st2
 have gn2 : n0 ≤ b2 := Nat.le_trans (Nat.le_trans (Nat.le_of_eq O0.1.symm) O0.2.1) (Nat.le_of_eq g2.symm)
 have sz2 : h0.size ≤ b2 := Nat.le_trans (Keep.refl h0 []).1 (Nat.le_of_eq g2.symm)
 have K2 := (Keep.refl h0 []).ext E2
 have O2 := O0.ext E2
 have V2_3 : Arv Z h2 b2 k__VALUES (.object "com/example/lease/lease/Role") (4 : Int32) [(.ref w_PRODUCER), (.ref w_WORKER), (.ref w_OPERATOR), (.ref w_ADMIN)] .null := V2
 obtain ⟨T4, X4, e4, st4⟩ := castY X2 hx hZ hown (ow hw 59 rfl) e2 (Ins.self A2) (g := (mkF m 6 #[] [(.ref b2)])) rfl rfl (hb hby d10_6)
 obtain ⟨fs, hr, hrun, hended, hW, hsame⟩ := X4.leave (v := some (.ref b2)) (fun h => by rw [Bd.returns] at h; cases h)
 subst hS0
 refine ⟨_, _, pre0 _ ?_, hrun, hended, _, _, rfl, ?_, ⟨_, rfl⟩, hW, hsame.mono (by decide) (by decide)⟩
 ·
  refine st1 _ ?_
  refine st2 _ ?_
  refine st4 _ ?_
  exact retOut X4 hx (t := (.array (.object "com/example/lease/lease/Role"))) (i := .areturn) Bd.returns rfl (Or.inr (Or.inr (Or.inr (Or.inr ⟨rfl, rfl, rfl⟩)))) (hb hby d10_9) hr
 ·
  show Q10 Z  w_CS0 w_SF1 w_PRODUCER w__VALUES w_WORKER w_OPERATOR w_ADMIN w_PRODUCER_shown w_PRODUCER_shown_value w_WORKER_shown w_WORKER_shown_value w_OPERATOR_shown w_OPERATOR_shown_value w_ADMIN_shown w_ADMIN_shown_value k__VALUES k_PRODUCER_shown_value k_WORKER_shown_value k_OPERATOR_shown_value k_ADMIN_shown_value h0 n0 _ T4.heap _
  rw [e4]
  exact ⟨b2, k__VALUES, rfl, N0, K2, V2_3, sz2, A2⟩

theorem d11_0 : decode jdk_42_method_66_code 0 = .ok (.aload_n 0, 1) := by decide +kernel
theorem d11_1 : decode jdk_42_method_66_code 1 = .ok (.aload_n 1, 1) := by decide +kernel
theorem d11_2 : decode jdk_42_method_66_code 2 = .ok (.if_acmp .ne 5, 3) := by decide +kernel
theorem d11_7 : decode jdk_42_method_66_code 7 = .ok (.aload_n 1, 1) := by decide +kernel
theorem d11_8 : decode jdk_42_method_66_code 8 = .ok (.instanceof 10, 3) := by decide +kernel
theorem d11_11 : decode jdk_42_method_66_code 11 = .ok (.ifCond .eq 43, 3) := by decide +kernel
theorem d11_54 : decode jdk_42_method_66_code 54 = .ok (.iconst 0, 1) := by decide +kernel
theorem d11_55 : decode jdk_42_method_66_code 55 = .ok (.ireturn, 1) := by decide +kernel
theorem ef_11n (m : MethodId) (a0 : Addr) : entryFrame m #[(.ref a0), .null] 3 = mkF m 0 #[rv a0, .val .null, un] [] := by first | (simp [entryFrame, mkF, argsToLocals, Value.category]; done) | rfl
def Q11n (Z : State) (a0 : Addr) (h0 : Heap) (n0 : Nat) (v : Option Value) (h : Heap) (L : List Loc) : Prop := v = some (.int (0 : Int32)) ∧ Fr n0 L ∧ h = h0
set_option maxRecDepth 65536 in
set_option maxHeartbeats 40000000 in
theorem rm11n (l : Launch) (Z : State) (ar : Array Value) (hw : ∀ d ∈ tables_1, d.before ar Z = true) (ws : List Jvm.Cond) (a0 : Addr) (h0 : Heap) (n0 : Nat) (O0 : Old Z n0 h0) (pf0 : Exa Z h0 a0 "java/lang/String") :
    MetFree l y11 (head1 (Jvm.Cond.code y11 jdk_42_method_66_code 3 (some .boolean) :: ws) ({ frames := 0, cells := 0, slots := 0, locals := 0 } : Room)) (fun a U => a = #[(.ref a0), .null] ∧ Z.Warmed39 U.vm ∧ U.heap = h0) (fun _ _ _ _ _ => True) (fun _ U o U' => ∃ v L, o = .returned v ∧ Q11n Z a0 h0 n0 v U'.heap L ∧ FrameEnd U o U' L ({ frames := 0, cells := 0, slots := 0, locals := 0 } : Room).cells ({ frames := 0, cells := 0, slots := 0, locals := 0 } : Room).slots) := by
 refine MetFree.of_bodySF (plainFor_of_name pn_2) hisR ?_
 intro p e s m args below meth c s₁ Bd hml0 hP hK
 obtain ⟨rfl, hZ, hh⟩ := hP
 have hx := Bd.exec
 have hby := Bd.bytes
 have hml : c.maxLocals = 3 := hml0
 have hown : s.vm.findClass "java/lang/String" = some m.cls := findClass_of_methodNamed Bd.named
 have hnm := (name_of_methodNamed Bd.named Bd.method).1
 have X0 : Stand p l e ({ frames := 0, cells := 0, slots := 0, locals := 0 } : Room) s m #[(.ref a0), .null] below meth c s₁ [] 0 0 := Stand.of_body Bd
 have e0 : s₁.heap = h0 := by rw [← hh, Bd.state]; rfl
 have N0 := Fr.nil n0
 have Z0 : n0 ≤ h0.size := Nat.le_trans (Nat.le_of_eq O0.1.symm) O0.2.1
 obtain ⟨S0, hS0⟩ : ∃ z, z = s₁.setTop (entryFrame m #[(.ref a0), .null] 3) := ⟨_, rfl⟩
 have pre0 : ∀ tg, AT p e below s₁ m 0 #[rv a0, .val .null, un] [] tg → Steps p.tables e below S0 tg := fun tg kg => by rw [hS0]; exact castTop (ef_11n m a0) kg
 obtain ⟨fs, hr, hrun, hended, hW, hsame⟩ := X0.leave (v := some (.int (0 : Int32))) (fun h => by rw [Bd.returns] at h; cases h)
 subst hS0
 refine ⟨_, _, pre0 _ ?_, hrun, hended, _, _, rfl, ?_, ⟨_, rfl⟩, hW, hsame.mono (by decide) (by decide)⟩
 ·
  refine XS.aloadN X0.here hx rfl (hb hby d11_0) rfl rfl ?_
  refine XS.aloadN X0.here hx rfl (hb hby d11_1) rfl rfl ?_
  show AT p e below s₁ m 2 #[rv a0, .val .null, un] [.null, (.ref a0)] _
  refine Jvm.RoadKit.acmp (g := (mkF m 2 #[rv a0, .val .null, un] [.null, (.ref a0)])) X0 hx rfl rfl rfl (pc0 := 2) (pc' := 7) (same := false) rfl (hb hby d11_2) rfl (decide_eq_false nofun) (by decide) (by decide) ?_
  refine XS.aloadN X0.here hx rfl (hb hby d11_7) rfl rfl ?_
  refine X0.instanceofNull hx (g := (mkF m 8 #[rv a0, .val .null, un] [.null])) rfl rfl (hb hby d11_8) _ ?_
  show AT p e below s₁ m 11 #[rv a0, .val .null, un] [(.int (0 : Int32))] _
  refine XS.ifYes X0.here hx rfl (pc0 := 11) (pc' := 54) rfl (hb hby d11_11) rfl (XT.i0_eq_t ((by decide) : (0 : Int32) = (0 : Int32))) (by decide) (by decide) ?_
  refine XS.iconst X0.here hx rfl (hb hby d11_54) ?_
  exact retN X0 hx (t := .boolean) Bd.returns (by simp) (hb hby d11_55) hr
 ·
  show Q11n Z a0 h0 n0 _ s₁.heap _
  rw [e0]
  exact ⟨rfl, N0, rfl⟩

theorem d9_0 : decode prog_7_method_5_code 0 = .ok (.aconst_null, 1) := by decide +kernel
theorem d9_1 : decode prog_7_method_5_code 1 = .ok (.astore_n 1, 1) := by decide +kernel
theorem d9_2 : decode prog_7_method_5_code 2 = .ok (.invokestatic 55, 3) := by decide +kernel
theorem d9_5 : decode prog_7_method_5_code 5 = .ok (.astore_n 2, 1) := by decide +kernel
theorem d9_6 : decode prog_7_method_5_code 6 = .ok (.aload_n 2, 1) := by decide +kernel
theorem d9_7 : decode prog_7_method_5_code 7 = .ok (.arraylength, 1) := by decide +kernel
theorem d9_8 : decode prog_7_method_5_code 8 = .ok (.istore_n 3, 1) := by decide +kernel
theorem d9_9 : decode prog_7_method_5_code 9 = .ok (.iconst 0, 1) := by decide +kernel
theorem d9_10 : decode prog_7_method_5_code 10 = .ok (.istore 4, 2) := by decide +kernel
theorem d9_12 : decode prog_7_method_5_code 12 = .ok (.iload 4, 2) := by decide +kernel
theorem d9_14 : decode prog_7_method_5_code 14 = .ok (.iload_n 3, 1) := by decide +kernel
theorem d9_15 : decode prog_7_method_5_code 15 = .ok (.if_icmp .ge 30, 3) := by decide +kernel
theorem d9_18 : decode prog_7_method_5_code 18 = .ok (.aload_n 2, 1) := by decide +kernel
theorem d9_19 : decode prog_7_method_5_code 19 = .ok (.iload 4, 2) := by decide +kernel
theorem d9_21 : decode prog_7_method_5_code 21 = .ok (.aaload, 1) := by decide +kernel
theorem d9_22 : decode prog_7_method_5_code 22 = .ok (.astore 5, 2) := by decide +kernel
theorem d9_24 : decode prog_7_method_5_code 24 = .ok (.aload 5, 2) := by decide +kernel
theorem d9_26 : decode prog_7_method_5_code 26 = .ok (.getfield 51, 3) := by decide +kernel
theorem d9_29 : decode prog_7_method_5_code 29 = .ok (.aload_n 0, 1) := by decide +kernel
theorem d9_30 : decode prog_7_method_5_code 30 = .ok (.invokevirtual 59, 3) := by decide +kernel
theorem d9_33 : decode prog_7_method_5_code 33 = .ok (.ifCond .eq 6, 3) := by decide +kernel
theorem d9_39 : decode prog_7_method_5_code 39 = .ok (.iinc 4 1, 3) := by decide +kernel
theorem d9_42 : decode prog_7_method_5_code 42 = .ok (.goto (-30), 3) := by decide +kernel
theorem d9_45 : decode prog_7_method_5_code 45 = .ok (.aload_n 1, 1) := by decide +kernel
theorem d9_46 : decode prog_7_method_5_code 46 = .ok (.areturn, 1) := by decide +kernel
theorem ef_9n (m : MethodId)  : entryFrame m #[.null] 6 = mkF m 0 #[.val .null, un, un, un, un, un] [] := by first | (simp [entryFrame, mkF, argsToLocals, Value.category]; done) | rfl
def Q9n (Z : State)  (w_CS0 : Int32) (w_SF1 : Value) (w_PRODUCER : Addr) (w__VALUES : Addr) (w_WORKER : Addr) (w_OPERATOR : Addr) (w_ADMIN : Addr) (w_PRODUCER_shown : Addr) (w_PRODUCER_shown_value : Addr) (w_WORKER_shown : Addr) (w_WORKER_shown_value : Addr) (w_OPERATOR_shown : Addr) (w_OPERATOR_shown_value : Addr) (w_ADMIN_shown : Addr) (w_ADMIN_shown_value : Addr) (k__VALUES : ClassId) (k_PRODUCER_shown_value : ClassId) (k_WORKER_shown_value : ClassId) (k_OPERATOR_shown_value : ClassId) (k_ADMIN_shown_value : ClassId) (h0 : Heap) (n0 : Nat) (v : Option Value) (h : Heap) (L : List Loc) : Prop := v = some .null ∧ Fr n0 L ∧ Keep h0 h []
set_option maxRecDepth 65536 in
set_option maxHeartbeats 40000000 in
theorem rm9n (l : Launch) (Z : State) (ar : Array Value) (hw : ∀ d ∈ tables_1, d.before ar Z = true) (ws : List Jvm.Cond)  (w_CS0 : Int32) (w_SF1 : Value) (w_PRODUCER : Addr) (w__VALUES : Addr) (w_WORKER : Addr) (w_OPERATOR : Addr) (w_ADMIN : Addr) (w_PRODUCER_shown : Addr) (w_PRODUCER_shown_value : Addr) (w_WORKER_shown : Addr) (w_WORKER_shown_value : Addr) (w_OPERATOR_shown : Addr) (w_OPERATOR_shown_value : Addr) (w_ADMIN_shown : Addr) (w_ADMIN_shown_value : Addr) (k__VALUES : ClassId) (k_PRODUCER_shown_value : ClassId) (k_WORKER_shown_value : ClassId) (k_OPERATOR_shown_value : ClassId) (k_ADMIN_shown_value : ClassId) (h0 : Heap) (n0 : Nat) (O0 : Old Z n0 h0) (HW : Wd Z w_CS0 w_SF1 w_PRODUCER w__VALUES w_WORKER w_OPERATOR w_ADMIN w_PRODUCER_shown w_PRODUCER_shown_value w_WORKER_shown w_WORKER_shown_value w_OPERATOR_shown w_OPERATOR_shown_value w_ADMIN_shown w_ADMIN_shown_value k__VALUES k_PRODUCER_shown_value k_WORKER_shown_value k_OPERATOR_shown_value k_ADMIN_shown_value) :
    MetFree l y9 (head1 (Jvm.Cond.code y9 prog_7_method_5_code 6 (some (.object "com/example/lease/lease/Role")) :: ws) ({ frames := 2, cells := 1, slots := 4, locals := 25 } : Room)) (fun a U => a = #[.null] ∧ Z.Warmed39 U.vm ∧ U.heap = h0) (fun _ _ _ _ _ => True) (fun _ U o U' => ∃ v L, o = .returned v ∧ Q9n Z  w_CS0 w_SF1 w_PRODUCER w__VALUES w_WORKER w_OPERATOR w_ADMIN w_PRODUCER_shown w_PRODUCER_shown_value w_WORKER_shown w_WORKER_shown_value w_OPERATOR_shown w_OPERATOR_shown_value w_ADMIN_shown w_ADMIN_shown_value k__VALUES k_PRODUCER_shown_value k_WORKER_shown_value k_OPERATOR_shown_value k_ADMIN_shown_value h0 n0 v U'.heap L ∧ FrameEnd U o U' L ({ frames := 2, cells := 1, slots := 4, locals := 25 } : Room).cells ({ frames := 2, cells := 1, slots := 4, locals := 25 } : Room).slots) := by
 refine MetFree.of_bodySF (plainFor_of_name pn_1) hisR ?_
 intro p e s m args below meth c s₁ Bd hml0 hP hK
 obtain ⟨rfl, hZ, hh⟩ := hP
 have hx := Bd.exec
 have hby := Bd.bytes
 have hml : c.maxLocals = 6 := hml0
 have hown : s.vm.findClass "com/example/lease/lease/Role" = some m.cls := findClass_of_methodNamed Bd.named
 have hnm := (name_of_methodNamed Bd.named Bd.method).1
 have X0 : Stand p l e ({ frames := 2, cells := 1, slots := 4, locals := 25 } : Room) s m #[.null] below meth c s₁ [] 0 0 := Stand.of_body Bd
 have e0 : s₁.heap = h0 := by rw [← hh, Bd.state]; rfl
 have N0 := Fr.nil n0
 have Z0 : n0 ≤ h0.size := Nat.le_trans (Nat.le_of_eq O0.1.symm) O0.2.1
 obtain ⟨S0, hS0⟩ : ∃ z, z = s₁.setTop (entryFrame m #[.null] 6) := ⟨_, rfl⟩
 have pre0 : ∀ tg, AT p e below s₁ m 0 #[.val .null, un, un, un, un, un] [] tg → Steps p.tables e below S0 tg := fun tg kg => by rw [hS0]; exact castTop (ef_9n m ) kg
 obtain ⟨S_COMPACT_STRINGS, hz_w_CS0, S_SIOOBE_FORMATTER, ir_w_SF1, S_PRODUCER, E_PRODUCER, S__VALUES, E__VALUES, S_WORKER, E_WORKER, S_OPERATOR, E_OPERATOR, S_ADMIN, E_ADMIN, F_shown_PRODUCER, E_PRODUCER_shown, F_coder_PRODUCER_shown, F_value_PRODUCER_shown, F_shown_WORKER, E_WORKER_shown, F_coder_WORKER_shown, F_value_WORKER_shown, F_shown_OPERATOR, E_OPERATOR_shown, F_coder_OPERATOR_shown, F_value_OPERATOR_shown, F_shown_ADMIN, E_ADMIN_shown, F_coder_ADMIN_shown, F_value_ADMIN_shown, V__VALUES, V_PRODUCER_shown_value, V_WORKER_shown_value, V_OPERATOR_shown_value, V_ADMIN_shown_value⟩ := id HW
 obtain ⟨_, _, ⟨T1, L1, k1, n1⟩, -, X1, ⟨Lc1, hQ1, l1, y1, z1⟩, st1⟩ := Jvm.LawKit.callS X0 hx (y := y10) hown (mvT hZ (ow hw 43 rfl)) (mvT hZ (ow hw 44 rfl)) (mvT hZ (ow hw 5 rfl)) (mvT hZ (ow hw 45 rfl)) (by decide) (backOf (W := 0) (rm10 l Z ar hw [] w_CS0 w_SF1 w_PRODUCER w__VALUES w_WORKER w_OPERATOR w_ADMIN w_PRODUCER_shown w_PRODUCER_shown_value w_WORKER_shown w_WORKER_shown_value w_OPERATOR_shown w_OPERATOR_shown_value w_ADMIN_shown w_ADMIN_shown_value k__VALUES k_PRODUCER_shown_value k_WORKER_shown_value k_OPERATOR_shown_value k_ADMIN_shown_value h0 n0 O0 HW) hZ (ow hw 45 rfl) (ow hw 5 rfl) (by decide) (by decide)) (g := (mkF m 2 #[.val .null, .val .null, un, un, un, un] [])) rfl (by rw [hml]; rfl) (argsL := []) (rest := []) (lenOf pd_0 rfl) rfl (by show 2 * 0 + _ ≤ _; exact Nat.le_of_eq rfl) (hb hby d9_2) (fun _ _ => ⟨rfl, e0, (by decide : 0 + 1 ≤ _), (by decide : 0 + 4 ≤ _)⟩)
 dsimp only [Pt.U, Pt.locs, Pt.cells, Pt.slots] at X1 l1 y1 z1 st1 hQ1
 subst l1 y1 z1
 obtain ⟨b_1, kb_1, rfl, N1q, Kq1, u1_0, u1_1, u1_2⟩ := hQ1
 have N1 := Fr.app N0 N1q
 have K1 := (Keep.refl h0 []).trans Kq1 all0
 have O1 := O0.keep Kq1 all0
 have sz2 : h0.size ≤ b_1 := Nat.le_trans (Keep.refl h0 []).1 u1_1
 have gn2 : n0 ≤ b_1 := Nat.le_trans (Nat.le_trans (Nat.le_of_eq O0.1.symm) O0.2.1) u1_1
 obtain ⟨cl3, Ar3, q3, S3, N3, H3, G3⟩ := id u1_0
 obtain ⟨cl4, Ar4, q4, S4, N4, H4, G4⟩ := id u1_0
 have hin4 := own_in (0 : Int32) S4 ⟨by decide, by decide⟩
 have hat4 : cl4.slots[((0 : Int32)).toNatClampNeg]? = some (.ref w_PRODUCER) := Has.at H4 hin4 rfl
 obtain ⟨T5, X5, e5, st5⟩ := getF X1 hx hZ hown (host := "") (Or.inl (ow hw 61 rfl)) Via.refl rfl (F_shown_PRODUCER.ext O1.2) (g := (mkF m 26 #[.val .null, .val .null, rv b_1, iv (4 : Int32), iv (0 : Int32), rv w_PRODUCER] [(.ref w_PRODUCER)])) rfl rfl (hb hby d9_26)
 obtain ⟨cq6, kq6, q6a, q6b, q6c⟩ := isOf hZ e5 (E_PRODUCER_shown.ext O1.2)
 obtain ⟨_, _, ⟨T6, L6, k6, n6⟩, -, X6, ⟨Lc6, hQ6, l6, y6, z6⟩, st6⟩ := X5.virtualBack hx (y := y11) (z := y11) hown (mvT hZ (ow hw 63 rfl)) (mvT hZ (ow hw 64 rfl)) (notFace_of_selects (args := #[]) (mvT hZ (ow hw 66 rfl))) (mvT hZ (ow hw 66 rfl)) (mvT hZ (ow hw 65 rfl)) (by decide) (backOf (W := 0) (rm11n l Z ar hw [] w_PRODUCER_shown T1.heap n0 O1 (E_PRODUCER_shown.ext O1.2)) hZ (ow hw 67 rfl) (ow hw 13 rfl) (by decide) (by decide)) q6a q6c (g := (mkF m 30 #[.val .null, .val .null, rv b_1, iv (4 : Int32), iv (0 : Int32), rv w_PRODUCER] [.null, (.ref w_PRODUCER_shown)])) rfl (by rw [hml]; rfl) (Steps.refl _) (argsL := [.null]) (rest := []) (lenOf pd_1 rfl) rfl (by show 2 * 0 + _ ≤ _; exact Nat.le_of_eq rfl) (hb hby d9_30) (fun _ _ => ⟨rfl, e5, (by decide : 1 + 0 ≤ _), (by decide : 4 + 0 ≤ _)⟩)
 dsimp only [Pt.U, Pt.locs, Pt.cells, Pt.slots] at X6 l6 y6 z6 st6 hQ6
 subst l6 y6 z6
 obtain ⟨rfl, N6q, e6⟩ := hQ6
 have N6 := Fr.app N1 N6q
 obtain ⟨cl7, Ar7, q7, S7, N7, H7, G7⟩ := id u1_0
 have hin7 := own_in (1 : Int32) S7 ⟨by decide, by decide⟩
 have hat7 : cl7.slots[((1 : Int32)).toNatClampNeg]? = some (.ref w_WORKER) := Has.at H7 hin7 rfl
 obtain ⟨T8, X8, e8, st8⟩ := getF X6 hx hZ hown (host := "") (Or.inl (ow hw 61 rfl)) Via.refl e6 (F_shown_WORKER.ext O1.2) (g := (mkF m 26 #[.val .null, .val .null, rv b_1, iv (4 : Int32), iv (1 : Int32), rv w_WORKER] [(.ref w_WORKER)])) rfl rfl (hb hby d9_26)
 obtain ⟨cq9, kq9, q9a, q9b, q9c⟩ := isOf hZ e8 (E_WORKER_shown.ext O1.2)
 obtain ⟨_, _, ⟨T9, L9, k9, n9⟩, -, X9, ⟨Lc9, hQ9, l9, y9, z9⟩, st9⟩ := X8.virtualBack hx (y := y11) (z := y11) hown (mvT hZ (ow hw 63 rfl)) (mvT hZ (ow hw 64 rfl)) (notFace_of_selects (args := #[]) (mvT hZ (ow hw 66 rfl))) (mvT hZ (ow hw 66 rfl)) (mvT hZ (ow hw 65 rfl)) (by decide) (backOf (W := 0) (rm11n l Z ar hw [] w_WORKER_shown T1.heap n0 O1 (E_WORKER_shown.ext O1.2)) hZ (ow hw 67 rfl) (ow hw 13 rfl) (by decide) (by decide)) q9a q9c (g := (mkF m 30 #[.val .null, .val .null, rv b_1, iv (4 : Int32), iv (1 : Int32), rv w_WORKER] [.null, (.ref w_WORKER_shown)])) rfl (by rw [hml]; rfl) (Steps.refl _) (argsL := [.null]) (rest := []) (lenOf pd_1 rfl) rfl (by show 2 * 0 + _ ≤ _; exact Nat.le_of_eq rfl) (hb hby d9_30) (fun _ _ => ⟨rfl, e8, (by decide : 1 + 0 ≤ _), (by decide : 4 + 0 ≤ _)⟩)
 dsimp only [Pt.U, Pt.locs, Pt.cells, Pt.slots] at X9 l9 y9 z9 st9 hQ9
 subst l9 y9 z9
 obtain ⟨rfl, N9q, e9⟩ := hQ9
 have N9 := Fr.app N6 N9q
 obtain ⟨cl10, Ar10, q10, S10, N10, H10, G10⟩ := id u1_0
 have hin10 := own_in (2 : Int32) S10 ⟨by decide, by decide⟩
 have hat10 : cl10.slots[((2 : Int32)).toNatClampNeg]? = some (.ref w_OPERATOR) := Has.at H10 hin10 rfl
 obtain ⟨T11, X11, e11, st11⟩ := getF X9 hx hZ hown (host := "") (Or.inl (ow hw 61 rfl)) Via.refl e9 (F_shown_OPERATOR.ext O1.2) (g := (mkF m 26 #[.val .null, .val .null, rv b_1, iv (4 : Int32), iv (2 : Int32), rv w_OPERATOR] [(.ref w_OPERATOR)])) rfl rfl (hb hby d9_26)
 obtain ⟨cq12, kq12, q12a, q12b, q12c⟩ := isOf hZ e11 (E_OPERATOR_shown.ext O1.2)
 obtain ⟨_, _, ⟨T12, L12, k12, n12⟩, -, X12, ⟨Lc12, hQ12, l12, y12, z12⟩, st12⟩ := X11.virtualBack hx (y := y11) (z := y11) hown (mvT hZ (ow hw 63 rfl)) (mvT hZ (ow hw 64 rfl)) (notFace_of_selects (args := #[]) (mvT hZ (ow hw 66 rfl))) (mvT hZ (ow hw 66 rfl)) (mvT hZ (ow hw 65 rfl)) (by decide) (backOf (W := 0) (rm11n l Z ar hw [] w_OPERATOR_shown T1.heap n0 O1 (E_OPERATOR_shown.ext O1.2)) hZ (ow hw 67 rfl) (ow hw 13 rfl) (by decide) (by decide)) q12a q12c (g := (mkF m 30 #[.val .null, .val .null, rv b_1, iv (4 : Int32), iv (2 : Int32), rv w_OPERATOR] [.null, (.ref w_OPERATOR_shown)])) rfl (by rw [hml]; rfl) (Steps.refl _) (argsL := [.null]) (rest := []) (lenOf pd_1 rfl) rfl (by show 2 * 0 + _ ≤ _; exact Nat.le_of_eq rfl) (hb hby d9_30) (fun _ _ => ⟨rfl, e11, (by decide : 1 + 0 ≤ _), (by decide : 4 + 0 ≤ _)⟩)
 dsimp only [Pt.U, Pt.locs, Pt.cells, Pt.slots] at X12 l12 y12 z12 st12 hQ12
 subst l12 y12 z12
 obtain ⟨rfl, N12q, e12⟩ := hQ12
 have N12 := Fr.app N9 N12q
 obtain ⟨cl13, Ar13, q13, S13, N13, H13, G13⟩ := id u1_0
 have hin13 := own_in (3 : Int32) S13 ⟨by decide, by decide⟩
 have hat13 : cl13.slots[((3 : Int32)).toNatClampNeg]? = some (.ref w_ADMIN) := Has.at H13 hin13 rfl
 obtain ⟨T14, X14, e14, st14⟩ := getF X12 hx hZ hown (host := "") (Or.inl (ow hw 61 rfl)) Via.refl e12 (F_shown_ADMIN.ext O1.2) (g := (mkF m 26 #[.val .null, .val .null, rv b_1, iv (4 : Int32), iv (3 : Int32), rv w_ADMIN] [(.ref w_ADMIN)])) rfl rfl (hb hby d9_26)
 obtain ⟨cq15, kq15, q15a, q15b, q15c⟩ := isOf hZ e14 (E_ADMIN_shown.ext O1.2)
 obtain ⟨_, _, ⟨T15, L15, k15, n15⟩, -, X15, ⟨Lc15, hQ15, l15, y15, z15⟩, st15⟩ := X14.virtualBack hx (y := y11) (z := y11) hown (mvT hZ (ow hw 63 rfl)) (mvT hZ (ow hw 64 rfl)) (notFace_of_selects (args := #[]) (mvT hZ (ow hw 66 rfl))) (mvT hZ (ow hw 66 rfl)) (mvT hZ (ow hw 65 rfl)) (by decide) (backOf (W := 0) (rm11n l Z ar hw [] w_ADMIN_shown T1.heap n0 O1 (E_ADMIN_shown.ext O1.2)) hZ (ow hw 67 rfl) (ow hw 13 rfl) (by decide) (by decide)) q15a q15c (g := (mkF m 30 #[.val .null, .val .null, rv b_1, iv (4 : Int32), iv (3 : Int32), rv w_ADMIN] [.null, (.ref w_ADMIN_shown)])) rfl (by rw [hml]; rfl) (Steps.refl _) (argsL := [.null]) (rest := []) (lenOf pd_1 rfl) rfl (by show 2 * 0 + _ ≤ _; exact Nat.le_of_eq rfl) (hb hby d9_30) (fun _ _ => ⟨rfl, e14, (by decide : 1 + 0 ≤ _), (by decide : 4 + 0 ≤ _)⟩)
 dsimp only [Pt.U, Pt.locs, Pt.cells, Pt.slots] at X15 l15 y15 z15 st15 hQ15
 subst l15 y15 z15
 obtain ⟨rfl, N15q, e15⟩ := hQ15
 have N15 := Fr.app N12 N15q
 obtain ⟨fs, hr, hrun, hended, hW, hsame⟩ := X15.leave (v := some .null) (fun h => by rw [Bd.returns] at h; cases h)
 subst hS0
 refine ⟨_, _, pre0 _ ?_, hrun, hended, _, _, rfl, ?_, ⟨_, rfl⟩, hW, hsame.mono (by decide) (by decide)⟩
 ·
  refine XS.aconstNull X0.here hx rfl (hb hby d9_0) ?_
  refine XS.astoreN X0.here hx rfl (hb hby d9_1) rfl rfl (l' := #[.val .null, .val .null, un, un, un, un]) rfl ?_
  refine st1 _ ?_
  refine XS.astoreN X1.here hx rfl (hb hby d9_5) rfl rfl (l' := #[.val .null, .val .null, rv b_1, un, un, un]) rfl ?_
  refine XS.aloadN X1.here hx rfl (hb hby d9_6) rfl rfl ?_
  refine X1.arraylength hx Ar3.1 (State.isArrayOf_alike hZ.alike Ar3.2.1) (g := (mkF m 7 #[.val .null, .val .null, rv b_1, un, un, un] [(.ref b_1)])) rfl rfl (hb hby d9_7) _ ?_
  rw [len_of S3 N3]
  refine XS.istoreN X1.here hx rfl (hb hby d9_8) rfl (l' := #[.val .null, .val .null, rv b_1, iv (4 : Int32), un, un]) rfl ?_
  refine XS.iconst X1.here hx rfl (hb hby d9_9) ?_
  refine XS.istore X1.here hx rfl (hb hby d9_10) rfl (l' := #[.val .null, .val .null, rv b_1, iv (4 : Int32), iv (0 : Int32), un]) rfl ?_
  refine XS.iload X1.here hx rfl (hb hby d9_12) rfl ?_
  refine XS.iloadN X1.here hx rfl (hb hby d9_14) rfl ?_
  show AT p e below T1 m 15 #[.val .null, .val .null, rv b_1, iv (4 : Int32), iv (0 : Int32), un] [(.int (4 : Int32)), (.int (0 : Int32))] _
  refine XS.icmpNo X1.here hx rfl (hb hby d9_15) rfl (XT.ii_ge_f ((by decide) : (0 : Int32) < (4 : Int32))) ?_
  refine XS.aloadN X1.here hx rfl (hb hby d9_18) rfl rfl ?_
  show AT p e below T1 m 19 #[.val .null, .val .null, rv b_1, iv (4 : Int32), iv (0 : Int32), un] [(.ref b_1)] _
  refine XS.iload X1.here hx rfl (hb hby d9_19) rfl ?_
  refine X1.aaload hx (j := (0 : Int32)) (v := (.ref w_PRODUCER)) Ar4.1 (State.isArrayOf_alike hZ.alike Ar4.2.1) rfl Ar4.2.2 hin4 hat4 (g := (mkF m 21 #[.val .null, .val .null, rv b_1, iv (4 : Int32), iv (0 : Int32), un] [(.int (0 : Int32)), (.ref b_1)])) rfl rfl (hb hby d9_21) _ ?_
  refine XS.astore X1.here hx rfl (hb hby d9_22) rfl rfl (l' := #[.val .null, .val .null, rv b_1, iv (4 : Int32), iv (0 : Int32), rv w_PRODUCER]) rfl ?_
  refine XS.aload X1.here hx rfl (hb hby d9_24) rfl rfl ?_
  refine st5 _ ?_
  refine XS.aloadN X5.here hx rfl (hb hby d9_29) rfl rfl ?_
  refine st6.trans ?_
  show AT p e below T6 m 33 #[.val .null, .val .null, rv b_1, iv (4 : Int32), iv (0 : Int32), rv w_PRODUCER] [(.int (0 : Int32))] _
  refine XS.ifYes X6.here hx rfl (pc0 := 33) (pc' := 39) rfl (hb hby d9_33) rfl (XT.i0_eq_t ((by decide) : (0 : Int32) = (0 : Int32))) (by decide) (by decide) ?_
  refine XS.iinc X6.here hx rfl (hb hby d9_39) rfl (l' := #[.val .null, .val .null, rv b_1, iv (4 : Int32), iv (1 : Int32), rv w_PRODUCER]) rfl ?_
  refine XS.goto X6.here hx rfl (pc0 := 42) (pc' := 12) rfl (hb hby d9_42) (by decide) (by decide) ?_
  refine XS.iload X6.here hx rfl (hb hby d9_12) rfl ?_
  refine XS.iloadN X6.here hx rfl (hb hby d9_14) rfl ?_
  show AT p e below T6 m 15 #[.val .null, .val .null, rv b_1, iv (4 : Int32), iv (1 : Int32), rv w_PRODUCER] [(.int (4 : Int32)), (.int (1 : Int32))] _
  refine XS.icmpNo X6.here hx rfl (hb hby d9_15) rfl (XT.ii_ge_f ((by decide) : (1 : Int32) < (4 : Int32))) ?_
  refine XS.aloadN X6.here hx rfl (hb hby d9_18) rfl rfl ?_
  show AT p e below T6 m 19 #[.val .null, .val .null, rv b_1, iv (4 : Int32), iv (1 : Int32), rv w_PRODUCER] [(.ref b_1)] _
  refine XS.iload X6.here hx rfl (hb hby d9_19) rfl ?_
  refine X6.aaload hx (j := (1 : Int32)) (v := (.ref w_WORKER)) (by rw [e6]; exact Ar7.1) (State.isArrayOf_alike hZ.alike Ar7.2.1) rfl Ar7.2.2 hin7 hat7 (g := (mkF m 21 #[.val .null, .val .null, rv b_1, iv (4 : Int32), iv (1 : Int32), rv w_PRODUCER] [(.int (1 : Int32)), (.ref b_1)])) rfl rfl (hb hby d9_21) _ ?_
  refine XS.astore X6.here hx rfl (hb hby d9_22) rfl rfl (l' := #[.val .null, .val .null, rv b_1, iv (4 : Int32), iv (1 : Int32), rv w_WORKER]) rfl ?_
  refine XS.aload X6.here hx rfl (hb hby d9_24) rfl rfl ?_
  refine st8 _ ?_
  refine XS.aloadN X8.here hx rfl (hb hby d9_29) rfl rfl ?_
  refine st9.trans ?_
  show AT p e below T9 m 33 #[.val .null, .val .null, rv b_1, iv (4 : Int32), iv (1 : Int32), rv w_WORKER] [(.int (0 : Int32))] _
  refine XS.ifYes X9.here hx rfl (pc0 := 33) (pc' := 39) rfl (hb hby d9_33) rfl (XT.i0_eq_t ((by decide) : (0 : Int32) = (0 : Int32))) (by decide) (by decide) ?_
  refine XS.iinc X9.here hx rfl (hb hby d9_39) rfl (l' := #[.val .null, .val .null, rv b_1, iv (4 : Int32), iv (2 : Int32), rv w_WORKER]) rfl ?_
  refine XS.goto X9.here hx rfl (pc0 := 42) (pc' := 12) rfl (hb hby d9_42) (by decide) (by decide) ?_
  refine XS.iload X9.here hx rfl (hb hby d9_12) rfl ?_
  refine XS.iloadN X9.here hx rfl (hb hby d9_14) rfl ?_
  show AT p e below T9 m 15 #[.val .null, .val .null, rv b_1, iv (4 : Int32), iv (2 : Int32), rv w_WORKER] [(.int (4 : Int32)), (.int (2 : Int32))] _
  refine XS.icmpNo X9.here hx rfl (hb hby d9_15) rfl (XT.ii_ge_f ((by decide) : (2 : Int32) < (4 : Int32))) ?_
  refine XS.aloadN X9.here hx rfl (hb hby d9_18) rfl rfl ?_
  show AT p e below T9 m 19 #[.val .null, .val .null, rv b_1, iv (4 : Int32), iv (2 : Int32), rv w_WORKER] [(.ref b_1)] _
  refine XS.iload X9.here hx rfl (hb hby d9_19) rfl ?_
  refine X9.aaload hx (j := (2 : Int32)) (v := (.ref w_OPERATOR)) (by rw [e9]; exact Ar10.1) (State.isArrayOf_alike hZ.alike Ar10.2.1) rfl Ar10.2.2 hin10 hat10 (g := (mkF m 21 #[.val .null, .val .null, rv b_1, iv (4 : Int32), iv (2 : Int32), rv w_WORKER] [(.int (2 : Int32)), (.ref b_1)])) rfl rfl (hb hby d9_21) _ ?_
  refine XS.astore X9.here hx rfl (hb hby d9_22) rfl rfl (l' := #[.val .null, .val .null, rv b_1, iv (4 : Int32), iv (2 : Int32), rv w_OPERATOR]) rfl ?_
  refine XS.aload X9.here hx rfl (hb hby d9_24) rfl rfl ?_
  refine st11 _ ?_
  refine XS.aloadN X11.here hx rfl (hb hby d9_29) rfl rfl ?_
  refine st12.trans ?_
  show AT p e below T12 m 33 #[.val .null, .val .null, rv b_1, iv (4 : Int32), iv (2 : Int32), rv w_OPERATOR] [(.int (0 : Int32))] _
  refine XS.ifYes X12.here hx rfl (pc0 := 33) (pc' := 39) rfl (hb hby d9_33) rfl (XT.i0_eq_t ((by decide) : (0 : Int32) = (0 : Int32))) (by decide) (by decide) ?_
  refine XS.iinc X12.here hx rfl (hb hby d9_39) rfl (l' := #[.val .null, .val .null, rv b_1, iv (4 : Int32), iv (3 : Int32), rv w_OPERATOR]) rfl ?_
  refine XS.goto X12.here hx rfl (pc0 := 42) (pc' := 12) rfl (hb hby d9_42) (by decide) (by decide) ?_
  refine XS.iload X12.here hx rfl (hb hby d9_12) rfl ?_
  refine XS.iloadN X12.here hx rfl (hb hby d9_14) rfl ?_
  show AT p e below T12 m 15 #[.val .null, .val .null, rv b_1, iv (4 : Int32), iv (3 : Int32), rv w_OPERATOR] [(.int (4 : Int32)), (.int (3 : Int32))] _
  refine XS.icmpNo X12.here hx rfl (hb hby d9_15) rfl (XT.ii_ge_f ((by decide) : (3 : Int32) < (4 : Int32))) ?_
  refine XS.aloadN X12.here hx rfl (hb hby d9_18) rfl rfl ?_
  show AT p e below T12 m 19 #[.val .null, .val .null, rv b_1, iv (4 : Int32), iv (3 : Int32), rv w_OPERATOR] [(.ref b_1)] _
  refine XS.iload X12.here hx rfl (hb hby d9_19) rfl ?_
  refine X12.aaload hx (j := (3 : Int32)) (v := (.ref w_ADMIN)) (by rw [e12]; exact Ar13.1) (State.isArrayOf_alike hZ.alike Ar13.2.1) rfl Ar13.2.2 hin13 hat13 (g := (mkF m 21 #[.val .null, .val .null, rv b_1, iv (4 : Int32), iv (3 : Int32), rv w_OPERATOR] [(.int (3 : Int32)), (.ref b_1)])) rfl rfl (hb hby d9_21) _ ?_
  refine XS.astore X12.here hx rfl (hb hby d9_22) rfl rfl (l' := #[.val .null, .val .null, rv b_1, iv (4 : Int32), iv (3 : Int32), rv w_ADMIN]) rfl ?_
  refine XS.aload X12.here hx rfl (hb hby d9_24) rfl rfl ?_
  refine st14 _ ?_
  refine XS.aloadN X14.here hx rfl (hb hby d9_29) rfl rfl ?_
  refine st15.trans ?_
  show AT p e below T15 m 33 #[.val .null, .val .null, rv b_1, iv (4 : Int32), iv (3 : Int32), rv w_ADMIN] [(.int (0 : Int32))] _
  refine XS.ifYes X15.here hx rfl (pc0 := 33) (pc' := 39) rfl (hb hby d9_33) rfl (XT.i0_eq_t ((by decide) : (0 : Int32) = (0 : Int32))) (by decide) (by decide) ?_
  refine XS.iinc X15.here hx rfl (hb hby d9_39) rfl (l' := #[.val .null, .val .null, rv b_1, iv (4 : Int32), iv (4 : Int32), rv w_ADMIN]) rfl ?_
  refine XS.goto X15.here hx rfl (pc0 := 42) (pc' := 12) rfl (hb hby d9_42) (by decide) (by decide) ?_
  refine XS.iload X15.here hx rfl (hb hby d9_12) rfl ?_
  refine XS.iloadN X15.here hx rfl (hb hby d9_14) rfl ?_
  show AT p e below T15 m 15 #[.val .null, .val .null, rv b_1, iv (4 : Int32), iv (4 : Int32), rv w_ADMIN] [(.int (4 : Int32)), (.int (4 : Int32))] _
  refine XS.icmpYes X15.here hx rfl (pc0 := 15) (pc' := 45) rfl (hb hby d9_15) rfl (XT.ii_ge_t ((by decide) : ¬ ((4 : Int32) < (4 : Int32)))) (by decide) (by decide) ?_
  refine XS.aloadN X15.here hx rfl (hb hby d9_45) rfl rfl ?_
  show AT p e below T15 m 46 #[.val .null, .val .null, rv b_1, iv (4 : Int32), iv (4 : Int32), rv w_ADMIN] [.null] _
  exact retOut X15 hx (t := (.object "com/example/lease/lease/Role")) (i := .areturn) Bd.returns rfl (Or.inr (Or.inr (Or.inr (Or.inr ⟨rfl, rfl, rfl⟩)))) (hb hby d9_46) hr
 ·
  show Q9n Z  w_CS0 w_SF1 w_PRODUCER w__VALUES w_WORKER w_OPERATOR w_ADMIN w_PRODUCER_shown w_PRODUCER_shown_value w_WORKER_shown w_WORKER_shown_value w_OPERATOR_shown w_OPERATOR_shown_value w_ADMIN_shown w_ADMIN_shown_value k__VALUES k_PRODUCER_shown_value k_WORKER_shown_value k_OPERATOR_shown_value k_ADMIN_shown_value h0 n0 _ T15.heap _
  rw [e15]
  exact ⟨rfl, N15, K1⟩

theorem d12_0 : decode jdk_43_method_13_code 0 = .ok (.aload_n 0, 1) := by decide +kernel
theorem d12_1 : decode jdk_43_method_13_code 1 = .ok (.arraylength, 1) := by decide +kernel
theorem d12_2 : decode jdk_43_method_13_code 2 = .ok (.aload_n 1, 1) := by decide +kernel
theorem d12_3 : decode jdk_43_method_13_code 3 = .ok (.arraylength, 1) := by decide +kernel
theorem d12_4 : decode jdk_43_method_13_code 4 = .ok (.if_icmp .ne 30, 3) := by decide +kernel
theorem d12_34 : decode jdk_43_method_13_code 34 = .ok (.iconst 0, 1) := by decide +kernel
theorem d12_35 : decode jdk_43_method_13_code 35 = .ok (.ireturn, 1) := by decide +kernel
theorem ef_12_8x (m : MethodId) (a0 : Addr) (a1 : Addr) : entryFrame m #[(.ref a0), (.ref a1)] 3 = mkF m 0 #[rv a0, rv a1, un] [] := by first | (simp [entryFrame, mkF, argsToLocals, Value.category]; done) | rfl
def Q12_8x (Z : State) (a0 : Addr) (a1 : Addr) (ka : ClassId) (kb : ClassId) (zn : Int32) (vs : List Value) (x0 : Int32) (x1 : Int32) (x2 : Int32) (x3 : Int32) (x4 : Int32) (x5 : Int32) (x6 : Int32) (x7 : Int32) (h0 : Heap) (n0 : Nat) (v : Option Value) (h : Heap) (L : List Loc) : Prop := v = some (.int (0 : Int32)) ∧ Fr n0 L ∧ h = h0
set_option maxRecDepth 65536 in
set_option maxHeartbeats 40000000 in
theorem rm12_8x (l : Launch) (Z : State) (ar : Array Value) (hw : ∀ d ∈ tables_1, d.before ar Z = true) (ws : List Jvm.Cond) (a0 : Addr) (a1 : Addr) (ka : ClassId) (kb : ClassId) (zn : Int32) (vs : List Value) (x0 : Int32) (x1 : Int32) (x2 : Int32) (x3 : Int32) (x4 : Int32) (x5 : Int32) (x6 : Int32) (x7 : Int32) (h0 : Heap) (n0 : Nat) (O0 : Old Z n0 h0) (pf0 : Arv Z h0 a0 ka .byte (8 : Int32) [(.int x0), (.int x1), (.int x2), (.int x3), (.int x4), (.int x5), (.int x6), (.int x7)] (.int (0 : Int32))) (pf1 : Arv Z h0 a1 kb .byte zn vs (.int (0 : Int32))) (hzn : ¬ (8 : Int32) = zn) :
    MetFree l y12 (head1 (Jvm.Cond.code y12 jdk_43_method_13_code 3 (some .boolean) :: ws) ({ frames := 0, cells := 0, slots := 0, locals := 0 } : Room)) (fun a U => a = #[(.ref a0), (.ref a1)] ∧ Z.Warmed39 U.vm ∧ U.heap = h0) (fun _ _ _ _ _ => True) (fun _ U o U' => ∃ v L, o = .returned v ∧ Q12_8x Z a0 a1 ka kb zn vs x0 x1 x2 x3 x4 x5 x6 x7 h0 n0 v U'.heap L ∧ FrameEnd U o U' L ({ frames := 0, cells := 0, slots := 0, locals := 0 } : Room).cells ({ frames := 0, cells := 0, slots := 0, locals := 0 } : Room).slots) := by
 refine MetFree.of_bodySF (plainFor_of_name pn_3) hisR ?_
 intro p e s m args below meth c s₁ Bd hml0 hP hK
 obtain ⟨rfl, hZ, hh⟩ := hP
 have hx := Bd.exec
 have hby := Bd.bytes
 have hml : c.maxLocals = 3 := hml0
 have hown : s.vm.findClass "java/lang/StringLatin1" = some m.cls := findClass_of_methodNamed Bd.named
 have hnm := (name_of_methodNamed Bd.named Bd.method).1
 have X0 : Stand p l e ({ frames := 0, cells := 0, slots := 0, locals := 0 } : Room) s m #[(.ref a0), (.ref a1)] below meth c s₁ [] 0 0 := Stand.of_body Bd
 have e0 : s₁.heap = h0 := by rw [← hh, Bd.state]; rfl
 have N0 := Fr.nil n0
 have Z0 : n0 ≤ h0.size := Nat.le_trans (Nat.le_of_eq O0.1.symm) O0.2.1
 obtain ⟨S0, hS0⟩ : ∃ z, z = s₁.setTop (entryFrame m #[(.ref a0), (.ref a1)] 3) := ⟨_, rfl⟩
 have pre0 : ∀ tg, AT p e below s₁ m 0 #[rv a0, rv a1, un] [] tg → Steps p.tables e below S0 tg := fun tg kg => by rw [hS0]; exact castTop (ef_12_8x m a0 a1) kg
 obtain ⟨cl1, Ar1, q1, S1, N1, H1, G1⟩ := id pf0
 obtain ⟨cl2, Ar2, q2, S2, N2, H2, G2⟩ := id pf1
 obtain ⟨fs, hr, hrun, hended, hW, hsame⟩ := X0.leave (v := some (.int (0 : Int32))) (fun h => by rw [Bd.returns] at h; cases h)
 subst hS0
 refine ⟨_, _, pre0 _ ?_, hrun, hended, _, _, rfl, ?_, ⟨_, rfl⟩, hW, hsame.mono (by decide) (by decide)⟩
 ·
  refine XS.aloadN X0.here hx rfl (hb hby d12_0) rfl rfl ?_
  refine X0.arraylength hx (by rw [e0]; exact Ar1.1) (State.isArrayOf_alike hZ.alike Ar1.2.1) (g := (mkF m 1 #[rv a0, rv a1, un] [(.ref a0)])) rfl rfl (hb hby d12_1) _ ?_
  rw [len_of S1 N1]
  refine XS.aloadN X0.here hx rfl (hb hby d12_2) rfl rfl ?_
  refine X0.arraylength hx (by rw [e0]; exact Ar2.1) (State.isArrayOf_alike hZ.alike Ar2.2.1) (g := (mkF m 3 #[rv a0, rv a1, un] [(.ref a1), (.int (8 : Int32))])) rfl rfl (hb hby d12_3) _ ?_
  rw [len_of S2 N2]
  show AT p e below s₁ m 4 #[rv a0, rv a1, un] [(.int zn), (.int (8 : Int32))] _
  refine XS.icmpYes X0.here hx rfl (pc0 := 4) (pc' := 34) rfl (hb hby d12_4) rfl (XT.ii_ne_t (hzn : ¬ ((8 : Int32) = zn))) (by decide) (by decide) ?_
  refine XS.iconst X0.here hx rfl (hb hby d12_34) ?_
  exact retN X0 hx (t := .boolean) Bd.returns (by simp) (hb hby d12_35) hr
 ·
  show Q12_8x Z a0 a1 ka kb zn vs x0 x1 x2 x3 x4 x5 x6 x7 h0 n0 _ s₁.heap _
  rw [e0]
  exact ⟨rfl, N0, rfl⟩

theorem d11_14 : decode jdk_42_method_66_code 14 = .ok (.aload_n 1, 1) := by decide +kernel
theorem d11_15 : decode jdk_42_method_66_code 15 = .ok (.checkcast 10, 3) := by decide +kernel
theorem d11_18 : decode jdk_42_method_66_code 18 = .ok (.astore_n 2, 1) := by decide +kernel
theorem d11_19 : decode jdk_42_method_66_code 19 = .ok (.getstatic 38, 3) := by decide +kernel
theorem d11_22 : decode jdk_42_method_66_code 22 = .ok (.ifCond .eq 14, 3) := by decide +kernel
theorem d11_25 : decode jdk_42_method_66_code 25 = .ok (.aload_n 0, 1) := by decide +kernel
theorem d11_26 : decode jdk_42_method_66_code 26 = .ok (.getfield 15, 3) := by decide +kernel
theorem d11_29 : decode jdk_42_method_66_code 29 = .ok (.aload_n 2, 1) := by decide +kernel
theorem d11_30 : decode jdk_42_method_66_code 30 = .ok (.getfield 15, 3) := by decide +kernel
theorem d11_33 : decode jdk_42_method_66_code 33 = .ok (.if_icmp .ne 21, 3) := by decide +kernel
theorem d11_36 : decode jdk_42_method_66_code 36 = .ok (.aload_n 0, 1) := by decide +kernel
theorem d11_37 : decode jdk_42_method_66_code 37 = .ok (.getfield 9, 3) := by decide +kernel
theorem d11_40 : decode jdk_42_method_66_code 40 = .ok (.aload_n 2, 1) := by decide +kernel
theorem d11_41 : decode jdk_42_method_66_code 41 = .ok (.getfield 9, 3) := by decide +kernel
theorem d11_44 : decode jdk_42_method_66_code 44 = .ok (.invokestatic 541, 3) := by decide +kernel
theorem d11_47 : decode jdk_42_method_66_code 47 = .ok (.ifCond .eq 7, 3) := by decide +kernel
theorem ef_11_8x (m : MethodId) (a0 : Addr) (a1 : Addr) : entryFrame m #[(.ref a0), (.ref a1)] 3 = mkF m 0 #[rv a0, rv a1, un] [] := by first | (simp [entryFrame, mkF, argsToLocals, Value.category]; done) | rfl
def Q11_8x (Z : State) (a0 : Addr) (a1 : Addr) (w_CS0 : Int32) (w_SF1 : Value) (w_PRODUCER : Addr) (w__VALUES : Addr) (w_WORKER : Addr) (w_OPERATOR : Addr) (w_ADMIN : Addr) (w_PRODUCER_shown : Addr) (w_PRODUCER_shown_value : Addr) (w_WORKER_shown : Addr) (w_WORKER_shown_value : Addr) (w_OPERATOR_shown : Addr) (w_OPERATOR_shown_value : Addr) (w_ADMIN_shown : Addr) (w_ADMIN_shown_value : Addr) (k__VALUES : ClassId) (k_PRODUCER_shown_value : ClassId) (k_WORKER_shown_value : ClassId) (k_OPERATOR_shown_value : ClassId) (k_ADMIN_shown_value : ClassId) (u : Addr) (w : Addr) (ka : ClassId) (kb : ClassId) (zn : Int32) (vs : List Value) (x0 : Int32) (x1 : Int32) (x2 : Int32) (x3 : Int32) (x4 : Int32) (x5 : Int32) (x6 : Int32) (x7 : Int32) (h0 : Heap) (n0 : Nat) (v : Option Value) (h : Heap) (L : List Loc) : Prop := v = some (.int (0 : Int32)) ∧ Fr n0 L ∧ h = h0
set_option maxRecDepth 65536 in
set_option maxHeartbeats 40000000 in
theorem rm11_8x (l : Launch) (Z : State) (ar : Array Value) (hw : ∀ d ∈ tables_1, d.before ar Z = true) (ws : List Jvm.Cond) (a0 : Addr) (a1 : Addr) (w_CS0 : Int32) (w_SF1 : Value) (w_PRODUCER : Addr) (w__VALUES : Addr) (w_WORKER : Addr) (w_OPERATOR : Addr) (w_ADMIN : Addr) (w_PRODUCER_shown : Addr) (w_PRODUCER_shown_value : Addr) (w_WORKER_shown : Addr) (w_WORKER_shown_value : Addr) (w_OPERATOR_shown : Addr) (w_OPERATOR_shown_value : Addr) (w_ADMIN_shown : Addr) (w_ADMIN_shown_value : Addr) (k__VALUES : ClassId) (k_PRODUCER_shown_value : ClassId) (k_WORKER_shown_value : ClassId) (k_OPERATOR_shown_value : ClassId) (k_ADMIN_shown_value : ClassId) (u : Addr) (w : Addr) (ka : ClassId) (kb : ClassId) (zn : Int32) (vs : List Value) (x0 : Int32) (x1 : Int32) (x2 : Int32) (x3 : Int32) (x4 : Int32) (x5 : Int32) (x6 : Int32) (x7 : Int32) (h0 : Heap) (n0 : Nat) (O0 : Old Z n0 h0) (HW : Wd Z w_CS0 w_SF1 w_PRODUCER w__VALUES w_WORKER w_OPERATOR w_ADMIN w_PRODUCER_shown w_PRODUCER_shown_value w_WORKER_shown w_WORKER_shown_value w_OPERATOR_shown w_OPERATOR_shown_value w_ADMIN_shown w_ADMIN_shown_value k__VALUES k_PRODUCER_shown_value k_WORKER_shown_value k_OPERATOR_shown_value k_ADMIN_shown_value) (pf0 : Exa Z h0 a0 "java/lang/String") (pf1 : Exa Z h0 a1 "java/lang/String") (pf2 : Fld Z h0 a0 "java/lang/String" "coder" "B" (.int (0 : Int32))) (pf3 : Fld Z h0 a1 "java/lang/String" "coder" "B" (.int (0 : Int32))) (pf4 : Fld Z h0 a0 "java/lang/String" "value" "[B" (.ref u)) (pf5 : Fld Z h0 a1 "java/lang/String" "value" "[B" (.ref w)) (pf6 : Arv Z h0 u ka .byte (8 : Int32) [(.int x0), (.int x1), (.int x2), (.int x3), (.int x4), (.int x5), (.int x6), (.int x7)] (.int (0 : Int32))) (pf7 : Arv Z h0 w kb .byte zn vs (.int (0 : Int32))) (pf8 : a0 ≠ a1) (hzn : ¬ (8 : Int32) = zn) :
    MetFree l y11 (head1 (Jvm.Cond.code y11 jdk_42_method_66_code 3 (some .boolean) :: ws) ({ frames := 1, cells := 0, slots := 0, locals := 14 } : Room)) (fun a U => a = #[(.ref a0), (.ref a1)] ∧ Z.Warmed39 U.vm ∧ U.heap = h0) (fun _ _ _ _ _ => True) (fun _ U o U' => ∃ v L, o = .returned v ∧ Q11_8x Z a0 a1 w_CS0 w_SF1 w_PRODUCER w__VALUES w_WORKER w_OPERATOR w_ADMIN w_PRODUCER_shown w_PRODUCER_shown_value w_WORKER_shown w_WORKER_shown_value w_OPERATOR_shown w_OPERATOR_shown_value w_ADMIN_shown w_ADMIN_shown_value k__VALUES k_PRODUCER_shown_value k_WORKER_shown_value k_OPERATOR_shown_value k_ADMIN_shown_value u w ka kb zn vs x0 x1 x2 x3 x4 x5 x6 x7 h0 n0 v U'.heap L ∧ FrameEnd U o U' L ({ frames := 1, cells := 0, slots := 0, locals := 14 } : Room).cells ({ frames := 1, cells := 0, slots := 0, locals := 14 } : Room).slots) := by
 refine MetFree.of_bodySF (plainFor_of_name pn_2) hisR ?_
 intro p e s m args below meth c s₁ Bd hml0 hP hK
 obtain ⟨rfl, hZ, hh⟩ := hP
 have hx := Bd.exec
 have hby := Bd.bytes
 have hml : c.maxLocals = 3 := hml0
 have hown : s.vm.findClass "java/lang/String" = some m.cls := findClass_of_methodNamed Bd.named
 have hnm := (name_of_methodNamed Bd.named Bd.method).1
 have X0 : Stand p l e ({ frames := 1, cells := 0, slots := 0, locals := 14 } : Room) s m #[(.ref a0), (.ref a1)] below meth c s₁ [] 0 0 := Stand.of_body Bd
 have e0 : s₁.heap = h0 := by rw [← hh, Bd.state]; rfl
 have N0 := Fr.nil n0
 have Z0 : n0 ≤ h0.size := Nat.le_trans (Nat.le_of_eq O0.1.symm) O0.2.1
 obtain ⟨S0, hS0⟩ : ∃ z, z = s₁.setTop (entryFrame m #[(.ref a0), (.ref a1)] 3) := ⟨_, rfl⟩
 have pre0 : ∀ tg, AT p e below s₁ m 0 #[rv a0, rv a1, un] [] tg → Steps p.tables e below S0 tg := fun tg kg => by rw [hS0]; exact castTop (ef_11_8x m a0 a1) kg
 obtain ⟨S_COMPACT_STRINGS, hz_w_CS0, S_SIOOBE_FORMATTER, ir_w_SF1, S_PRODUCER, E_PRODUCER, S__VALUES, E__VALUES, S_WORKER, E_WORKER, S_OPERATOR, E_OPERATOR, S_ADMIN, E_ADMIN, F_shown_PRODUCER, E_PRODUCER_shown, F_coder_PRODUCER_shown, F_value_PRODUCER_shown, F_shown_WORKER, E_WORKER_shown, F_coder_WORKER_shown, F_value_WORKER_shown, F_shown_OPERATOR, E_OPERATOR_shown, F_coder_OPERATOR_shown, F_value_OPERATOR_shown, F_shown_ADMIN, E_ADMIN_shown, F_coder_ADMIN_shown, F_value_ADMIN_shown, V__VALUES, V_PRODUCER_shown_value, V_WORKER_shown_value, V_OPERATOR_shown_value, V_ADMIN_shown_value⟩ := id HW
 obtain ⟨T1, X1, e1, st1⟩ := instY X0 hx hZ hown (ow hw 68 rfl) e0 (Ins.self pf1) (g := (mkF m 8 #[rv a0, rv a1, un] [(.ref a1)])) rfl rfl (hb hby d11_8)
 obtain ⟨T2, X2, e2, st2⟩ := castY X1 hx hZ hown (ow hw 68 rfl) e1 (Ins.self pf1) (g := (mkF m 15 #[rv a0, rv a1, un] [(.ref a1)])) rfl rfl (hb hby d11_15)
 obtain ⟨T3, X3, e3, st3⟩ := getS2 X2 hx hZ hown (host := "") (Or.inl (ow hw 24 rfl)) Via.refl e2 (S_COMPACT_STRINGS.ext O0.2) (g := (mkF m 19 #[rv a0, rv a1, rv a1] [])) rfl (hb hby d11_19)
 obtain ⟨T4, X4, e4, st4⟩ := getF X3 hx hZ hown (host := "") (Or.inl (ow hw 36 rfl)) Via.refl e3 pf2 (g := (mkF m 26 #[rv a0, rv a1, rv a1] [(.ref a0)])) rfl rfl (hb hby d11_26)
 obtain ⟨T5, X5, e5, st5⟩ := getF X4 hx hZ hown (host := "") (Or.inl (ow hw 36 rfl)) Via.refl e4 pf3 (g := (mkF m 30 #[rv a0, rv a1, rv a1] [(.ref a1), (.int (0 : Int32))])) rfl rfl (hb hby d11_30)
 obtain ⟨T6, X6, e6, st6⟩ := getF X5 hx hZ hown (host := "") (Or.inl (ow hw 38 rfl)) Via.refl e5 pf4 (g := (mkF m 37 #[rv a0, rv a1, rv a1] [(.ref a0)])) rfl rfl (hb hby d11_37)
 obtain ⟨T7, X7, e7, st7⟩ := getF X6 hx hZ hown (host := "") (Or.inl (ow hw 38 rfl)) Via.refl e6 pf5 (g := (mkF m 41 #[rv a0, rv a1, rv a1] [(.ref a1), (.ref u)])) rfl rfl (hb hby d11_41)
 obtain ⟨_, _, ⟨T8, L8, k8, n8⟩, -, X8, ⟨Lc8, hQ8, l8, y8, z8⟩, st8⟩ := Jvm.LawKit.callS X7 hx (y := y12) hown (mvT hZ (ow hw 69 rfl)) (mvT hZ (ow hw 70 rfl)) (mvT hZ (ow hw 71 rfl)) (mvT hZ (ow hw 72 rfl)) (by decide) (backOf (W := 0) (rm12_8x l Z ar hw [] u w ka kb zn vs x0 x1 x2 x3 x4 x5 x6 x7 h0 n0 O0 pf6 pf7 hzn) hZ (ow hw 72 rfl) (ow hw 71 rfl) (by decide) (by decide)) (g := (mkF m 44 #[rv a0, rv a1, rv a1] [(.ref w), (.ref u)])) rfl (by rw [hml]; rfl) (argsL := [(.ref u), (.ref w)]) (rest := []) (lenOf pd_2 rfl) rfl (by show 2 * 0 + _ ≤ _; exact Nat.le_of_eq rfl) (hb hby d11_44) (fun _ _ => ⟨rfl, e7, (by decide : 0 + 0 ≤ _), (by decide : 0 + 0 ≤ _)⟩)
 dsimp only [Pt.U, Pt.locs, Pt.cells, Pt.slots] at X8 l8 y8 z8 st8 hQ8
 subst l8 y8 z8
 obtain ⟨rfl, N8q, e8⟩ := hQ8
 have N8 := Fr.app N0 N8q
 obtain ⟨fs, hr, hrun, hended, hW, hsame⟩ := X8.leave (v := some (.int (0 : Int32))) (fun h => by rw [Bd.returns] at h; cases h)
 subst hS0
 refine ⟨_, _, pre0 _ ?_, hrun, hended, _, _, rfl, ?_, ⟨_, rfl⟩, hW, hsame.mono (by decide) (by decide)⟩
 ·
  refine XS.aloadN X0.here hx rfl (hb hby d11_0) rfl rfl ?_
  refine XS.aloadN X0.here hx rfl (hb hby d11_1) rfl rfl ?_
  show AT p e below s₁ m 2 #[rv a0, rv a1, un] [(.ref a1), (.ref a0)] _
  refine Jvm.RoadKit.acmp (g := (mkF m 2 #[rv a0, rv a1, un] [(.ref a1), (.ref a0)])) X0 hx rfl rfl rfl (pc0 := 2) (pc' := 7) (same := false) rfl (hb hby d11_2) rfl (decide_eq_false fun q => (pf8 : ¬ (a0 = a1)) (Value.ref.inj q)) (by decide) (by decide) ?_
  refine XS.aloadN X0.here hx rfl (hb hby d11_7) rfl rfl ?_
  refine st1 _ ?_
  show AT p e below T1 m 11 #[rv a0, rv a1, un] [(.int (1 : Int32))] _
  refine XS.ifNo X1.here hx rfl (hb hby d11_11) rfl (XT.i0_eq_f ((by decide) : ¬ ((1 : Int32) = (0 : Int32)))) ?_
  refine XS.aloadN X1.here hx rfl (hb hby d11_14) rfl rfl ?_
  refine st2 _ ?_
  refine XS.astoreN X2.here hx rfl (hb hby d11_18) rfl rfl (l' := #[rv a0, rv a1, rv a1]) rfl ?_
  refine st3 _ ?_
  show AT p e below T3 m 22 #[rv a0, rv a1, rv a1] [(.int w_CS0)] _
  refine XS.ifNo X3.here hx rfl (hb hby d11_22) rfl (XT.i0_eq_f (hz_w_CS0 : ¬ (w_CS0 = (0 : Int32)))) ?_
  refine XS.aloadN X3.here hx rfl (hb hby d11_25) rfl rfl ?_
  refine st4 _ ?_
  refine XS.aloadN X4.here hx rfl (hb hby d11_29) rfl rfl ?_
  refine st5 _ ?_
  show AT p e below T5 m 33 #[rv a0, rv a1, rv a1] [(.int (0 : Int32)), (.int (0 : Int32))] _
  refine XS.icmpNo X5.here hx rfl (hb hby d11_33) rfl (XT.ii_ne_f ((by decide) : (0 : Int32) = (0 : Int32))) ?_
  show AT p e below T5 m 36 #[rv a0, rv a1, rv a1] [] _
  refine XS.aloadN X5.here hx rfl (hb hby d11_36) rfl rfl ?_
  refine st6 _ ?_
  refine XS.aloadN X6.here hx rfl (hb hby d11_40) rfl rfl ?_
  refine st7 _ ?_
  refine st8 _ ?_
  show AT p e below T8 m 47 #[rv a0, rv a1, rv a1] [(.int (0 : Int32))] _
  refine XS.ifYes X8.here hx rfl (pc0 := 47) (pc' := 54) rfl (hb hby d11_47) rfl (XT.i0_eq_t ((by decide) : (0 : Int32) = (0 : Int32))) (by decide) (by decide) ?_
  refine XS.iconst X8.here hx rfl (hb hby d11_54) ?_
  exact retN X8 hx (t := .boolean) Bd.returns (by simp) (hb hby d11_55) hr
 ·
  show Q11_8x Z a0 a1 w_CS0 w_SF1 w_PRODUCER w__VALUES w_WORKER w_OPERATOR w_ADMIN w_PRODUCER_shown w_PRODUCER_shown_value w_WORKER_shown w_WORKER_shown_value w_OPERATOR_shown w_OPERATOR_shown_value w_ADMIN_shown w_ADMIN_shown_value k__VALUES k_PRODUCER_shown_value k_WORKER_shown_value k_OPERATOR_shown_value k_ADMIN_shown_value u w ka kb zn vs x0 x1 x2 x3 x4 x5 x6 x7 h0 n0 _ T8.heap _
  rw [e8]
  exact ⟨rfl, N8, rfl⟩

theorem ef_12_6x (m : MethodId) (a0 : Addr) (a1 : Addr) : entryFrame m #[(.ref a0), (.ref a1)] 3 = mkF m 0 #[rv a0, rv a1, un] [] := by first | (simp [entryFrame, mkF, argsToLocals, Value.category]; done) | rfl
def Q12_6x (Z : State) (a0 : Addr) (a1 : Addr) (ka : ClassId) (kb : ClassId) (zn : Int32) (vs : List Value) (x0 : Int32) (x1 : Int32) (x2 : Int32) (x3 : Int32) (x4 : Int32) (x5 : Int32) (h0 : Heap) (n0 : Nat) (v : Option Value) (h : Heap) (L : List Loc) : Prop := v = some (.int (0 : Int32)) ∧ Fr n0 L ∧ h = h0
set_option maxRecDepth 65536 in
set_option maxHeartbeats 40000000 in
theorem rm12_6x (l : Launch) (Z : State) (ar : Array Value) (hw : ∀ d ∈ tables_1, d.before ar Z = true) (ws : List Jvm.Cond) (a0 : Addr) (a1 : Addr) (ka : ClassId) (kb : ClassId) (zn : Int32) (vs : List Value) (x0 : Int32) (x1 : Int32) (x2 : Int32) (x3 : Int32) (x4 : Int32) (x5 : Int32) (h0 : Heap) (n0 : Nat) (O0 : Old Z n0 h0) (pf0 : Arv Z h0 a0 ka .byte (6 : Int32) [(.int x0), (.int x1), (.int x2), (.int x3), (.int x4), (.int x5)] (.int (0 : Int32))) (pf1 : Arv Z h0 a1 kb .byte zn vs (.int (0 : Int32))) (hzn : ¬ (6 : Int32) = zn) :
    MetFree l y12 (head1 (Jvm.Cond.code y12 jdk_43_method_13_code 3 (some .boolean) :: ws) ({ frames := 0, cells := 0, slots := 0, locals := 0 } : Room)) (fun a U => a = #[(.ref a0), (.ref a1)] ∧ Z.Warmed39 U.vm ∧ U.heap = h0) (fun _ _ _ _ _ => True) (fun _ U o U' => ∃ v L, o = .returned v ∧ Q12_6x Z a0 a1 ka kb zn vs x0 x1 x2 x3 x4 x5 h0 n0 v U'.heap L ∧ FrameEnd U o U' L ({ frames := 0, cells := 0, slots := 0, locals := 0 } : Room).cells ({ frames := 0, cells := 0, slots := 0, locals := 0 } : Room).slots) := by
 refine MetFree.of_bodySF (plainFor_of_name pn_3) hisR ?_
 intro p e s m args below meth c s₁ Bd hml0 hP hK
 obtain ⟨rfl, hZ, hh⟩ := hP
 have hx := Bd.exec
 have hby := Bd.bytes
 have hml : c.maxLocals = 3 := hml0
 have hown : s.vm.findClass "java/lang/StringLatin1" = some m.cls := findClass_of_methodNamed Bd.named
 have hnm := (name_of_methodNamed Bd.named Bd.method).1
 have X0 : Stand p l e ({ frames := 0, cells := 0, slots := 0, locals := 0 } : Room) s m #[(.ref a0), (.ref a1)] below meth c s₁ [] 0 0 := Stand.of_body Bd
 have e0 : s₁.heap = h0 := by rw [← hh, Bd.state]; rfl
 have N0 := Fr.nil n0
 have Z0 : n0 ≤ h0.size := Nat.le_trans (Nat.le_of_eq O0.1.symm) O0.2.1
 obtain ⟨S0, hS0⟩ : ∃ z, z = s₁.setTop (entryFrame m #[(.ref a0), (.ref a1)] 3) := ⟨_, rfl⟩
 have pre0 : ∀ tg, AT p e below s₁ m 0 #[rv a0, rv a1, un] [] tg → Steps p.tables e below S0 tg := fun tg kg => by rw [hS0]; exact castTop (ef_12_6x m a0 a1) kg
 obtain ⟨cl1, Ar1, q1, S1, N1, H1, G1⟩ := id pf0
 obtain ⟨cl2, Ar2, q2, S2, N2, H2, G2⟩ := id pf1
 obtain ⟨fs, hr, hrun, hended, hW, hsame⟩ := X0.leave (v := some (.int (0 : Int32))) (fun h => by rw [Bd.returns] at h; cases h)
 subst hS0
 refine ⟨_, _, pre0 _ ?_, hrun, hended, _, _, rfl, ?_, ⟨_, rfl⟩, hW, hsame.mono (by decide) (by decide)⟩
 ·
  refine XS.aloadN X0.here hx rfl (hb hby d12_0) rfl rfl ?_
  refine X0.arraylength hx (by rw [e0]; exact Ar1.1) (State.isArrayOf_alike hZ.alike Ar1.2.1) (g := (mkF m 1 #[rv a0, rv a1, un] [(.ref a0)])) rfl rfl (hb hby d12_1) _ ?_
  rw [len_of S1 N1]
  refine XS.aloadN X0.here hx rfl (hb hby d12_2) rfl rfl ?_
  refine X0.arraylength hx (by rw [e0]; exact Ar2.1) (State.isArrayOf_alike hZ.alike Ar2.2.1) (g := (mkF m 3 #[rv a0, rv a1, un] [(.ref a1), (.int (6 : Int32))])) rfl rfl (hb hby d12_3) _ ?_
  rw [len_of S2 N2]
  show AT p e below s₁ m 4 #[rv a0, rv a1, un] [(.int zn), (.int (6 : Int32))] _
  refine XS.icmpYes X0.here hx rfl (pc0 := 4) (pc' := 34) rfl (hb hby d12_4) rfl (XT.ii_ne_t (hzn : ¬ ((6 : Int32) = zn))) (by decide) (by decide) ?_
  refine XS.iconst X0.here hx rfl (hb hby d12_34) ?_
  exact retN X0 hx (t := .boolean) Bd.returns (by simp) (hb hby d12_35) hr
 ·
  show Q12_6x Z a0 a1 ka kb zn vs x0 x1 x2 x3 x4 x5 h0 n0 _ s₁.heap _
  rw [e0]
  exact ⟨rfl, N0, rfl⟩

theorem ef_11_6x (m : MethodId) (a0 : Addr) (a1 : Addr) : entryFrame m #[(.ref a0), (.ref a1)] 3 = mkF m 0 #[rv a0, rv a1, un] [] := by first | (simp [entryFrame, mkF, argsToLocals, Value.category]; done) | rfl
def Q11_6x (Z : State) (a0 : Addr) (a1 : Addr) (w_CS0 : Int32) (w_SF1 : Value) (w_PRODUCER : Addr) (w__VALUES : Addr) (w_WORKER : Addr) (w_OPERATOR : Addr) (w_ADMIN : Addr) (w_PRODUCER_shown : Addr) (w_PRODUCER_shown_value : Addr) (w_WORKER_shown : Addr) (w_WORKER_shown_value : Addr) (w_OPERATOR_shown : Addr) (w_OPERATOR_shown_value : Addr) (w_ADMIN_shown : Addr) (w_ADMIN_shown_value : Addr) (k__VALUES : ClassId) (k_PRODUCER_shown_value : ClassId) (k_WORKER_shown_value : ClassId) (k_OPERATOR_shown_value : ClassId) (k_ADMIN_shown_value : ClassId) (u : Addr) (w : Addr) (ka : ClassId) (kb : ClassId) (zn : Int32) (vs : List Value) (x0 : Int32) (x1 : Int32) (x2 : Int32) (x3 : Int32) (x4 : Int32) (x5 : Int32) (h0 : Heap) (n0 : Nat) (v : Option Value) (h : Heap) (L : List Loc) : Prop := v = some (.int (0 : Int32)) ∧ Fr n0 L ∧ h = h0
set_option maxRecDepth 65536 in
set_option maxHeartbeats 40000000 in
theorem rm11_6x (l : Launch) (Z : State) (ar : Array Value) (hw : ∀ d ∈ tables_1, d.before ar Z = true) (ws : List Jvm.Cond) (a0 : Addr) (a1 : Addr) (w_CS0 : Int32) (w_SF1 : Value) (w_PRODUCER : Addr) (w__VALUES : Addr) (w_WORKER : Addr) (w_OPERATOR : Addr) (w_ADMIN : Addr) (w_PRODUCER_shown : Addr) (w_PRODUCER_shown_value : Addr) (w_WORKER_shown : Addr) (w_WORKER_shown_value : Addr) (w_OPERATOR_shown : Addr) (w_OPERATOR_shown_value : Addr) (w_ADMIN_shown : Addr) (w_ADMIN_shown_value : Addr) (k__VALUES : ClassId) (k_PRODUCER_shown_value : ClassId) (k_WORKER_shown_value : ClassId) (k_OPERATOR_shown_value : ClassId) (k_ADMIN_shown_value : ClassId) (u : Addr) (w : Addr) (ka : ClassId) (kb : ClassId) (zn : Int32) (vs : List Value) (x0 : Int32) (x1 : Int32) (x2 : Int32) (x3 : Int32) (x4 : Int32) (x5 : Int32) (h0 : Heap) (n0 : Nat) (O0 : Old Z n0 h0) (HW : Wd Z w_CS0 w_SF1 w_PRODUCER w__VALUES w_WORKER w_OPERATOR w_ADMIN w_PRODUCER_shown w_PRODUCER_shown_value w_WORKER_shown w_WORKER_shown_value w_OPERATOR_shown w_OPERATOR_shown_value w_ADMIN_shown w_ADMIN_shown_value k__VALUES k_PRODUCER_shown_value k_WORKER_shown_value k_OPERATOR_shown_value k_ADMIN_shown_value) (pf0 : Exa Z h0 a0 "java/lang/String") (pf1 : Exa Z h0 a1 "java/lang/String") (pf2 : Fld Z h0 a0 "java/lang/String" "coder" "B" (.int (0 : Int32))) (pf3 : Fld Z h0 a1 "java/lang/String" "coder" "B" (.int (0 : Int32))) (pf4 : Fld Z h0 a0 "java/lang/String" "value" "[B" (.ref u)) (pf5 : Fld Z h0 a1 "java/lang/String" "value" "[B" (.ref w)) (pf6 : Arv Z h0 u ka .byte (6 : Int32) [(.int x0), (.int x1), (.int x2), (.int x3), (.int x4), (.int x5)] (.int (0 : Int32))) (pf7 : Arv Z h0 w kb .byte zn vs (.int (0 : Int32))) (pf8 : a0 ≠ a1) (hzn : ¬ (6 : Int32) = zn) :
    MetFree l y11 (head1 (Jvm.Cond.code y11 jdk_42_method_66_code 3 (some .boolean) :: ws) ({ frames := 1, cells := 0, slots := 0, locals := 14 } : Room)) (fun a U => a = #[(.ref a0), (.ref a1)] ∧ Z.Warmed39 U.vm ∧ U.heap = h0) (fun _ _ _ _ _ => True) (fun _ U o U' => ∃ v L, o = .returned v ∧ Q11_6x Z a0 a1 w_CS0 w_SF1 w_PRODUCER w__VALUES w_WORKER w_OPERATOR w_ADMIN w_PRODUCER_shown w_PRODUCER_shown_value w_WORKER_shown w_WORKER_shown_value w_OPERATOR_shown w_OPERATOR_shown_value w_ADMIN_shown w_ADMIN_shown_value k__VALUES k_PRODUCER_shown_value k_WORKER_shown_value k_OPERATOR_shown_value k_ADMIN_shown_value u w ka kb zn vs x0 x1 x2 x3 x4 x5 h0 n0 v U'.heap L ∧ FrameEnd U o U' L ({ frames := 1, cells := 0, slots := 0, locals := 14 } : Room).cells ({ frames := 1, cells := 0, slots := 0, locals := 14 } : Room).slots) := by
 refine MetFree.of_bodySF (plainFor_of_name pn_2) hisR ?_
 intro p e s m args below meth c s₁ Bd hml0 hP hK
 obtain ⟨rfl, hZ, hh⟩ := hP
 have hx := Bd.exec
 have hby := Bd.bytes
 have hml : c.maxLocals = 3 := hml0
 have hown : s.vm.findClass "java/lang/String" = some m.cls := findClass_of_methodNamed Bd.named
 have hnm := (name_of_methodNamed Bd.named Bd.method).1
 have X0 : Stand p l e ({ frames := 1, cells := 0, slots := 0, locals := 14 } : Room) s m #[(.ref a0), (.ref a1)] below meth c s₁ [] 0 0 := Stand.of_body Bd
 have e0 : s₁.heap = h0 := by rw [← hh, Bd.state]; rfl
 have N0 := Fr.nil n0
 have Z0 : n0 ≤ h0.size := Nat.le_trans (Nat.le_of_eq O0.1.symm) O0.2.1
 obtain ⟨S0, hS0⟩ : ∃ z, z = s₁.setTop (entryFrame m #[(.ref a0), (.ref a1)] 3) := ⟨_, rfl⟩
 have pre0 : ∀ tg, AT p e below s₁ m 0 #[rv a0, rv a1, un] [] tg → Steps p.tables e below S0 tg := fun tg kg => by rw [hS0]; exact castTop (ef_11_6x m a0 a1) kg
 obtain ⟨S_COMPACT_STRINGS, hz_w_CS0, S_SIOOBE_FORMATTER, ir_w_SF1, S_PRODUCER, E_PRODUCER, S__VALUES, E__VALUES, S_WORKER, E_WORKER, S_OPERATOR, E_OPERATOR, S_ADMIN, E_ADMIN, F_shown_PRODUCER, E_PRODUCER_shown, F_coder_PRODUCER_shown, F_value_PRODUCER_shown, F_shown_WORKER, E_WORKER_shown, F_coder_WORKER_shown, F_value_WORKER_shown, F_shown_OPERATOR, E_OPERATOR_shown, F_coder_OPERATOR_shown, F_value_OPERATOR_shown, F_shown_ADMIN, E_ADMIN_shown, F_coder_ADMIN_shown, F_value_ADMIN_shown, V__VALUES, V_PRODUCER_shown_value, V_WORKER_shown_value, V_OPERATOR_shown_value, V_ADMIN_shown_value⟩ := id HW
 obtain ⟨T1, X1, e1, st1⟩ := instY X0 hx hZ hown (ow hw 68 rfl) e0 (Ins.self pf1) (g := (mkF m 8 #[rv a0, rv a1, un] [(.ref a1)])) rfl rfl (hb hby d11_8)
 obtain ⟨T2, X2, e2, st2⟩ := castY X1 hx hZ hown (ow hw 68 rfl) e1 (Ins.self pf1) (g := (mkF m 15 #[rv a0, rv a1, un] [(.ref a1)])) rfl rfl (hb hby d11_15)
 obtain ⟨T3, X3, e3, st3⟩ := getS2 X2 hx hZ hown (host := "") (Or.inl (ow hw 24 rfl)) Via.refl e2 (S_COMPACT_STRINGS.ext O0.2) (g := (mkF m 19 #[rv a0, rv a1, rv a1] [])) rfl (hb hby d11_19)
 obtain ⟨T4, X4, e4, st4⟩ := getF X3 hx hZ hown (host := "") (Or.inl (ow hw 36 rfl)) Via.refl e3 pf2 (g := (mkF m 26 #[rv a0, rv a1, rv a1] [(.ref a0)])) rfl rfl (hb hby d11_26)
 obtain ⟨T5, X5, e5, st5⟩ := getF X4 hx hZ hown (host := "") (Or.inl (ow hw 36 rfl)) Via.refl e4 pf3 (g := (mkF m 30 #[rv a0, rv a1, rv a1] [(.ref a1), (.int (0 : Int32))])) rfl rfl (hb hby d11_30)
 obtain ⟨T6, X6, e6, st6⟩ := getF X5 hx hZ hown (host := "") (Or.inl (ow hw 38 rfl)) Via.refl e5 pf4 (g := (mkF m 37 #[rv a0, rv a1, rv a1] [(.ref a0)])) rfl rfl (hb hby d11_37)
 obtain ⟨T7, X7, e7, st7⟩ := getF X6 hx hZ hown (host := "") (Or.inl (ow hw 38 rfl)) Via.refl e6 pf5 (g := (mkF m 41 #[rv a0, rv a1, rv a1] [(.ref a1), (.ref u)])) rfl rfl (hb hby d11_41)
 obtain ⟨_, _, ⟨T8, L8, k8, n8⟩, -, X8, ⟨Lc8, hQ8, l8, y8, z8⟩, st8⟩ := Jvm.LawKit.callS X7 hx (y := y12) hown (mvT hZ (ow hw 69 rfl)) (mvT hZ (ow hw 70 rfl)) (mvT hZ (ow hw 71 rfl)) (mvT hZ (ow hw 72 rfl)) (by decide) (backOf (W := 0) (rm12_6x l Z ar hw [] u w ka kb zn vs x0 x1 x2 x3 x4 x5 h0 n0 O0 pf6 pf7 hzn) hZ (ow hw 72 rfl) (ow hw 71 rfl) (by decide) (by decide)) (g := (mkF m 44 #[rv a0, rv a1, rv a1] [(.ref w), (.ref u)])) rfl (by rw [hml]; rfl) (argsL := [(.ref u), (.ref w)]) (rest := []) (lenOf pd_2 rfl) rfl (by show 2 * 0 + _ ≤ _; exact Nat.le_of_eq rfl) (hb hby d11_44) (fun _ _ => ⟨rfl, e7, (by decide : 0 + 0 ≤ _), (by decide : 0 + 0 ≤ _)⟩)
 dsimp only [Pt.U, Pt.locs, Pt.cells, Pt.slots] at X8 l8 y8 z8 st8 hQ8
 subst l8 y8 z8
 obtain ⟨rfl, N8q, e8⟩ := hQ8
 have N8 := Fr.app N0 N8q
 obtain ⟨fs, hr, hrun, hended, hW, hsame⟩ := X8.leave (v := some (.int (0 : Int32))) (fun h => by rw [Bd.returns] at h; cases h)
 subst hS0
 refine ⟨_, _, pre0 _ ?_, hrun, hended, _, _, rfl, ?_, ⟨_, rfl⟩, hW, hsame.mono (by decide) (by decide)⟩
 ·
  refine XS.aloadN X0.here hx rfl (hb hby d11_0) rfl rfl ?_
  refine XS.aloadN X0.here hx rfl (hb hby d11_1) rfl rfl ?_
  show AT p e below s₁ m 2 #[rv a0, rv a1, un] [(.ref a1), (.ref a0)] _
  refine Jvm.RoadKit.acmp (g := (mkF m 2 #[rv a0, rv a1, un] [(.ref a1), (.ref a0)])) X0 hx rfl rfl rfl (pc0 := 2) (pc' := 7) (same := false) rfl (hb hby d11_2) rfl (decide_eq_false fun q => (pf8 : ¬ (a0 = a1)) (Value.ref.inj q)) (by decide) (by decide) ?_
  refine XS.aloadN X0.here hx rfl (hb hby d11_7) rfl rfl ?_
  refine st1 _ ?_
  show AT p e below T1 m 11 #[rv a0, rv a1, un] [(.int (1 : Int32))] _
  refine XS.ifNo X1.here hx rfl (hb hby d11_11) rfl (XT.i0_eq_f ((by decide) : ¬ ((1 : Int32) = (0 : Int32)))) ?_
  refine XS.aloadN X1.here hx rfl (hb hby d11_14) rfl rfl ?_
  refine st2 _ ?_
  refine XS.astoreN X2.here hx rfl (hb hby d11_18) rfl rfl (l' := #[rv a0, rv a1, rv a1]) rfl ?_
  refine st3 _ ?_
  show AT p e below T3 m 22 #[rv a0, rv a1, rv a1] [(.int w_CS0)] _
  refine XS.ifNo X3.here hx rfl (hb hby d11_22) rfl (XT.i0_eq_f (hz_w_CS0 : ¬ (w_CS0 = (0 : Int32)))) ?_
  refine XS.aloadN X3.here hx rfl (hb hby d11_25) rfl rfl ?_
  refine st4 _ ?_
  refine XS.aloadN X4.here hx rfl (hb hby d11_29) rfl rfl ?_
  refine st5 _ ?_
  show AT p e below T5 m 33 #[rv a0, rv a1, rv a1] [(.int (0 : Int32)), (.int (0 : Int32))] _
  refine XS.icmpNo X5.here hx rfl (hb hby d11_33) rfl (XT.ii_ne_f ((by decide) : (0 : Int32) = (0 : Int32))) ?_
  show AT p e below T5 m 36 #[rv a0, rv a1, rv a1] [] _
  refine XS.aloadN X5.here hx rfl (hb hby d11_36) rfl rfl ?_
  refine st6 _ ?_
  refine XS.aloadN X6.here hx rfl (hb hby d11_40) rfl rfl ?_
  refine st7 _ ?_
  refine st8 _ ?_
  show AT p e below T8 m 47 #[rv a0, rv a1, rv a1] [(.int (0 : Int32))] _
  refine XS.ifYes X8.here hx rfl (pc0 := 47) (pc' := 54) rfl (hb hby d11_47) rfl (XT.i0_eq_t ((by decide) : (0 : Int32) = (0 : Int32))) (by decide) (by decide) ?_
  refine XS.iconst X8.here hx rfl (hb hby d11_54) ?_
  exact retN X8 hx (t := .boolean) Bd.returns (by simp) (hb hby d11_55) hr
 ·
  show Q11_6x Z a0 a1 w_CS0 w_SF1 w_PRODUCER w__VALUES w_WORKER w_OPERATOR w_ADMIN w_PRODUCER_shown w_PRODUCER_shown_value w_WORKER_shown w_WORKER_shown_value w_OPERATOR_shown w_OPERATOR_shown_value w_ADMIN_shown w_ADMIN_shown_value k__VALUES k_PRODUCER_shown_value k_WORKER_shown_value k_OPERATOR_shown_value k_ADMIN_shown_value u w ka kb zn vs x0 x1 x2 x3 x4 x5 h0 n0 _ T8.heap _
  rw [e8]
  exact ⟨rfl, N8, rfl⟩

theorem ef_12_5x (m : MethodId) (a0 : Addr) (a1 : Addr) : entryFrame m #[(.ref a0), (.ref a1)] 3 = mkF m 0 #[rv a0, rv a1, un] [] := by first | (simp [entryFrame, mkF, argsToLocals, Value.category]; done) | rfl
def Q12_5x (Z : State) (a0 : Addr) (a1 : Addr) (ka : ClassId) (kb : ClassId) (zn : Int32) (vs : List Value) (x0 : Int32) (x1 : Int32) (x2 : Int32) (x3 : Int32) (x4 : Int32) (h0 : Heap) (n0 : Nat) (v : Option Value) (h : Heap) (L : List Loc) : Prop := v = some (.int (0 : Int32)) ∧ Fr n0 L ∧ h = h0
set_option maxRecDepth 65536 in
set_option maxHeartbeats 40000000 in
theorem rm12_5x (l : Launch) (Z : State) (ar : Array Value) (hw : ∀ d ∈ tables_1, d.before ar Z = true) (ws : List Jvm.Cond) (a0 : Addr) (a1 : Addr) (ka : ClassId) (kb : ClassId) (zn : Int32) (vs : List Value) (x0 : Int32) (x1 : Int32) (x2 : Int32) (x3 : Int32) (x4 : Int32) (h0 : Heap) (n0 : Nat) (O0 : Old Z n0 h0) (pf0 : Arv Z h0 a0 ka .byte (5 : Int32) [(.int x0), (.int x1), (.int x2), (.int x3), (.int x4)] (.int (0 : Int32))) (pf1 : Arv Z h0 a1 kb .byte zn vs (.int (0 : Int32))) (hzn : ¬ (5 : Int32) = zn) :
    MetFree l y12 (head1 (Jvm.Cond.code y12 jdk_43_method_13_code 3 (some .boolean) :: ws) ({ frames := 0, cells := 0, slots := 0, locals := 0 } : Room)) (fun a U => a = #[(.ref a0), (.ref a1)] ∧ Z.Warmed39 U.vm ∧ U.heap = h0) (fun _ _ _ _ _ => True) (fun _ U o U' => ∃ v L, o = .returned v ∧ Q12_5x Z a0 a1 ka kb zn vs x0 x1 x2 x3 x4 h0 n0 v U'.heap L ∧ FrameEnd U o U' L ({ frames := 0, cells := 0, slots := 0, locals := 0 } : Room).cells ({ frames := 0, cells := 0, slots := 0, locals := 0 } : Room).slots) := by
 refine MetFree.of_bodySF (plainFor_of_name pn_3) hisR ?_
 intro p e s m args below meth c s₁ Bd hml0 hP hK
 obtain ⟨rfl, hZ, hh⟩ := hP
 have hx := Bd.exec
 have hby := Bd.bytes
 have hml : c.maxLocals = 3 := hml0
 have hown : s.vm.findClass "java/lang/StringLatin1" = some m.cls := findClass_of_methodNamed Bd.named
 have hnm := (name_of_methodNamed Bd.named Bd.method).1
 have X0 : Stand p l e ({ frames := 0, cells := 0, slots := 0, locals := 0 } : Room) s m #[(.ref a0), (.ref a1)] below meth c s₁ [] 0 0 := Stand.of_body Bd
 have e0 : s₁.heap = h0 := by rw [← hh, Bd.state]; rfl
 have N0 := Fr.nil n0
 have Z0 : n0 ≤ h0.size := Nat.le_trans (Nat.le_of_eq O0.1.symm) O0.2.1
 obtain ⟨S0, hS0⟩ : ∃ z, z = s₁.setTop (entryFrame m #[(.ref a0), (.ref a1)] 3) := ⟨_, rfl⟩
 have pre0 : ∀ tg, AT p e below s₁ m 0 #[rv a0, rv a1, un] [] tg → Steps p.tables e below S0 tg := fun tg kg => by rw [hS0]; exact castTop (ef_12_5x m a0 a1) kg
 obtain ⟨cl1, Ar1, q1, S1, N1, H1, G1⟩ := id pf0
 obtain ⟨cl2, Ar2, q2, S2, N2, H2, G2⟩ := id pf1
 obtain ⟨fs, hr, hrun, hended, hW, hsame⟩ := X0.leave (v := some (.int (0 : Int32))) (fun h => by rw [Bd.returns] at h; cases h)
 subst hS0
 refine ⟨_, _, pre0 _ ?_, hrun, hended, _, _, rfl, ?_, ⟨_, rfl⟩, hW, hsame.mono (by decide) (by decide)⟩
 ·
  refine XS.aloadN X0.here hx rfl (hb hby d12_0) rfl rfl ?_
  refine X0.arraylength hx (by rw [e0]; exact Ar1.1) (State.isArrayOf_alike hZ.alike Ar1.2.1) (g := (mkF m 1 #[rv a0, rv a1, un] [(.ref a0)])) rfl rfl (hb hby d12_1) _ ?_
  rw [len_of S1 N1]
  refine XS.aloadN X0.here hx rfl (hb hby d12_2) rfl rfl ?_
  refine X0.arraylength hx (by rw [e0]; exact Ar2.1) (State.isArrayOf_alike hZ.alike Ar2.2.1) (g := (mkF m 3 #[rv a0, rv a1, un] [(.ref a1), (.int (5 : Int32))])) rfl rfl (hb hby d12_3) _ ?_
  rw [len_of S2 N2]
  show AT p e below s₁ m 4 #[rv a0, rv a1, un] [(.int zn), (.int (5 : Int32))] _
  refine XS.icmpYes X0.here hx rfl (pc0 := 4) (pc' := 34) rfl (hb hby d12_4) rfl (XT.ii_ne_t (hzn : ¬ ((5 : Int32) = zn))) (by decide) (by decide) ?_
  refine XS.iconst X0.here hx rfl (hb hby d12_34) ?_
  exact retN X0 hx (t := .boolean) Bd.returns (by simp) (hb hby d12_35) hr
 ·
  show Q12_5x Z a0 a1 ka kb zn vs x0 x1 x2 x3 x4 h0 n0 _ s₁.heap _
  rw [e0]
  exact ⟨rfl, N0, rfl⟩

theorem ef_11_5x (m : MethodId) (a0 : Addr) (a1 : Addr) : entryFrame m #[(.ref a0), (.ref a1)] 3 = mkF m 0 #[rv a0, rv a1, un] [] := by first | (simp [entryFrame, mkF, argsToLocals, Value.category]; done) | rfl
def Q11_5x (Z : State) (a0 : Addr) (a1 : Addr) (w_CS0 : Int32) (w_SF1 : Value) (w_PRODUCER : Addr) (w__VALUES : Addr) (w_WORKER : Addr) (w_OPERATOR : Addr) (w_ADMIN : Addr) (w_PRODUCER_shown : Addr) (w_PRODUCER_shown_value : Addr) (w_WORKER_shown : Addr) (w_WORKER_shown_value : Addr) (w_OPERATOR_shown : Addr) (w_OPERATOR_shown_value : Addr) (w_ADMIN_shown : Addr) (w_ADMIN_shown_value : Addr) (k__VALUES : ClassId) (k_PRODUCER_shown_value : ClassId) (k_WORKER_shown_value : ClassId) (k_OPERATOR_shown_value : ClassId) (k_ADMIN_shown_value : ClassId) (u : Addr) (w : Addr) (ka : ClassId) (kb : ClassId) (zn : Int32) (vs : List Value) (x0 : Int32) (x1 : Int32) (x2 : Int32) (x3 : Int32) (x4 : Int32) (h0 : Heap) (n0 : Nat) (v : Option Value) (h : Heap) (L : List Loc) : Prop := v = some (.int (0 : Int32)) ∧ Fr n0 L ∧ h = h0
set_option maxRecDepth 65536 in
set_option maxHeartbeats 40000000 in
theorem rm11_5x (l : Launch) (Z : State) (ar : Array Value) (hw : ∀ d ∈ tables_1, d.before ar Z = true) (ws : List Jvm.Cond) (a0 : Addr) (a1 : Addr) (w_CS0 : Int32) (w_SF1 : Value) (w_PRODUCER : Addr) (w__VALUES : Addr) (w_WORKER : Addr) (w_OPERATOR : Addr) (w_ADMIN : Addr) (w_PRODUCER_shown : Addr) (w_PRODUCER_shown_value : Addr) (w_WORKER_shown : Addr) (w_WORKER_shown_value : Addr) (w_OPERATOR_shown : Addr) (w_OPERATOR_shown_value : Addr) (w_ADMIN_shown : Addr) (w_ADMIN_shown_value : Addr) (k__VALUES : ClassId) (k_PRODUCER_shown_value : ClassId) (k_WORKER_shown_value : ClassId) (k_OPERATOR_shown_value : ClassId) (k_ADMIN_shown_value : ClassId) (u : Addr) (w : Addr) (ka : ClassId) (kb : ClassId) (zn : Int32) (vs : List Value) (x0 : Int32) (x1 : Int32) (x2 : Int32) (x3 : Int32) (x4 : Int32) (h0 : Heap) (n0 : Nat) (O0 : Old Z n0 h0) (HW : Wd Z w_CS0 w_SF1 w_PRODUCER w__VALUES w_WORKER w_OPERATOR w_ADMIN w_PRODUCER_shown w_PRODUCER_shown_value w_WORKER_shown w_WORKER_shown_value w_OPERATOR_shown w_OPERATOR_shown_value w_ADMIN_shown w_ADMIN_shown_value k__VALUES k_PRODUCER_shown_value k_WORKER_shown_value k_OPERATOR_shown_value k_ADMIN_shown_value) (pf0 : Exa Z h0 a0 "java/lang/String") (pf1 : Exa Z h0 a1 "java/lang/String") (pf2 : Fld Z h0 a0 "java/lang/String" "coder" "B" (.int (0 : Int32))) (pf3 : Fld Z h0 a1 "java/lang/String" "coder" "B" (.int (0 : Int32))) (pf4 : Fld Z h0 a0 "java/lang/String" "value" "[B" (.ref u)) (pf5 : Fld Z h0 a1 "java/lang/String" "value" "[B" (.ref w)) (pf6 : Arv Z h0 u ka .byte (5 : Int32) [(.int x0), (.int x1), (.int x2), (.int x3), (.int x4)] (.int (0 : Int32))) (pf7 : Arv Z h0 w kb .byte zn vs (.int (0 : Int32))) (pf8 : a0 ≠ a1) (hzn : ¬ (5 : Int32) = zn) :
    MetFree l y11 (head1 (Jvm.Cond.code y11 jdk_42_method_66_code 3 (some .boolean) :: ws) ({ frames := 1, cells := 0, slots := 0, locals := 14 } : Room)) (fun a U => a = #[(.ref a0), (.ref a1)] ∧ Z.Warmed39 U.vm ∧ U.heap = h0) (fun _ _ _ _ _ => True) (fun _ U o U' => ∃ v L, o = .returned v ∧ Q11_5x Z a0 a1 w_CS0 w_SF1 w_PRODUCER w__VALUES w_WORKER w_OPERATOR w_ADMIN w_PRODUCER_shown w_PRODUCER_shown_value w_WORKER_shown w_WORKER_shown_value w_OPERATOR_shown w_OPERATOR_shown_value w_ADMIN_shown w_ADMIN_shown_value k__VALUES k_PRODUCER_shown_value k_WORKER_shown_value k_OPERATOR_shown_value k_ADMIN_shown_value u w ka kb zn vs x0 x1 x2 x3 x4 h0 n0 v U'.heap L ∧ FrameEnd U o U' L ({ frames := 1, cells := 0, slots := 0, locals := 14 } : Room).cells ({ frames := 1, cells := 0, slots := 0, locals := 14 } : Room).slots) := by
 refine MetFree.of_bodySF (plainFor_of_name pn_2) hisR ?_
 intro p e s m args below meth c s₁ Bd hml0 hP hK
 obtain ⟨rfl, hZ, hh⟩ := hP
 have hx := Bd.exec
 have hby := Bd.bytes
 have hml : c.maxLocals = 3 := hml0
 have hown : s.vm.findClass "java/lang/String" = some m.cls := findClass_of_methodNamed Bd.named
 have hnm := (name_of_methodNamed Bd.named Bd.method).1
 have X0 : Stand p l e ({ frames := 1, cells := 0, slots := 0, locals := 14 } : Room) s m #[(.ref a0), (.ref a1)] below meth c s₁ [] 0 0 := Stand.of_body Bd
 have e0 : s₁.heap = h0 := by rw [← hh, Bd.state]; rfl
 have N0 := Fr.nil n0
 have Z0 : n0 ≤ h0.size := Nat.le_trans (Nat.le_of_eq O0.1.symm) O0.2.1
 obtain ⟨S0, hS0⟩ : ∃ z, z = s₁.setTop (entryFrame m #[(.ref a0), (.ref a1)] 3) := ⟨_, rfl⟩
 have pre0 : ∀ tg, AT p e below s₁ m 0 #[rv a0, rv a1, un] [] tg → Steps p.tables e below S0 tg := fun tg kg => by rw [hS0]; exact castTop (ef_11_5x m a0 a1) kg
 obtain ⟨S_COMPACT_STRINGS, hz_w_CS0, S_SIOOBE_FORMATTER, ir_w_SF1, S_PRODUCER, E_PRODUCER, S__VALUES, E__VALUES, S_WORKER, E_WORKER, S_OPERATOR, E_OPERATOR, S_ADMIN, E_ADMIN, F_shown_PRODUCER, E_PRODUCER_shown, F_coder_PRODUCER_shown, F_value_PRODUCER_shown, F_shown_WORKER, E_WORKER_shown, F_coder_WORKER_shown, F_value_WORKER_shown, F_shown_OPERATOR, E_OPERATOR_shown, F_coder_OPERATOR_shown, F_value_OPERATOR_shown, F_shown_ADMIN, E_ADMIN_shown, F_coder_ADMIN_shown, F_value_ADMIN_shown, V__VALUES, V_PRODUCER_shown_value, V_WORKER_shown_value, V_OPERATOR_shown_value, V_ADMIN_shown_value⟩ := id HW
 obtain ⟨T1, X1, e1, st1⟩ := instY X0 hx hZ hown (ow hw 68 rfl) e0 (Ins.self pf1) (g := (mkF m 8 #[rv a0, rv a1, un] [(.ref a1)])) rfl rfl (hb hby d11_8)
 obtain ⟨T2, X2, e2, st2⟩ := castY X1 hx hZ hown (ow hw 68 rfl) e1 (Ins.self pf1) (g := (mkF m 15 #[rv a0, rv a1, un] [(.ref a1)])) rfl rfl (hb hby d11_15)
 obtain ⟨T3, X3, e3, st3⟩ := getS2 X2 hx hZ hown (host := "") (Or.inl (ow hw 24 rfl)) Via.refl e2 (S_COMPACT_STRINGS.ext O0.2) (g := (mkF m 19 #[rv a0, rv a1, rv a1] [])) rfl (hb hby d11_19)
 obtain ⟨T4, X4, e4, st4⟩ := getF X3 hx hZ hown (host := "") (Or.inl (ow hw 36 rfl)) Via.refl e3 pf2 (g := (mkF m 26 #[rv a0, rv a1, rv a1] [(.ref a0)])) rfl rfl (hb hby d11_26)
 obtain ⟨T5, X5, e5, st5⟩ := getF X4 hx hZ hown (host := "") (Or.inl (ow hw 36 rfl)) Via.refl e4 pf3 (g := (mkF m 30 #[rv a0, rv a1, rv a1] [(.ref a1), (.int (0 : Int32))])) rfl rfl (hb hby d11_30)
 obtain ⟨T6, X6, e6, st6⟩ := getF X5 hx hZ hown (host := "") (Or.inl (ow hw 38 rfl)) Via.refl e5 pf4 (g := (mkF m 37 #[rv a0, rv a1, rv a1] [(.ref a0)])) rfl rfl (hb hby d11_37)
 obtain ⟨T7, X7, e7, st7⟩ := getF X6 hx hZ hown (host := "") (Or.inl (ow hw 38 rfl)) Via.refl e6 pf5 (g := (mkF m 41 #[rv a0, rv a1, rv a1] [(.ref a1), (.ref u)])) rfl rfl (hb hby d11_41)
 obtain ⟨_, _, ⟨T8, L8, k8, n8⟩, -, X8, ⟨Lc8, hQ8, l8, y8, z8⟩, st8⟩ := Jvm.LawKit.callS X7 hx (y := y12) hown (mvT hZ (ow hw 69 rfl)) (mvT hZ (ow hw 70 rfl)) (mvT hZ (ow hw 71 rfl)) (mvT hZ (ow hw 72 rfl)) (by decide) (backOf (W := 0) (rm12_5x l Z ar hw [] u w ka kb zn vs x0 x1 x2 x3 x4 h0 n0 O0 pf6 pf7 hzn) hZ (ow hw 72 rfl) (ow hw 71 rfl) (by decide) (by decide)) (g := (mkF m 44 #[rv a0, rv a1, rv a1] [(.ref w), (.ref u)])) rfl (by rw [hml]; rfl) (argsL := [(.ref u), (.ref w)]) (rest := []) (lenOf pd_2 rfl) rfl (by show 2 * 0 + _ ≤ _; exact Nat.le_of_eq rfl) (hb hby d11_44) (fun _ _ => ⟨rfl, e7, (by decide : 0 + 0 ≤ _), (by decide : 0 + 0 ≤ _)⟩)
 dsimp only [Pt.U, Pt.locs, Pt.cells, Pt.slots] at X8 l8 y8 z8 st8 hQ8
 subst l8 y8 z8
 obtain ⟨rfl, N8q, e8⟩ := hQ8
 have N8 := Fr.app N0 N8q
 obtain ⟨fs, hr, hrun, hended, hW, hsame⟩ := X8.leave (v := some (.int (0 : Int32))) (fun h => by rw [Bd.returns] at h; cases h)
 subst hS0
 refine ⟨_, _, pre0 _ ?_, hrun, hended, _, _, rfl, ?_, ⟨_, rfl⟩, hW, hsame.mono (by decide) (by decide)⟩
 ·
  refine XS.aloadN X0.here hx rfl (hb hby d11_0) rfl rfl ?_
  refine XS.aloadN X0.here hx rfl (hb hby d11_1) rfl rfl ?_
  show AT p e below s₁ m 2 #[rv a0, rv a1, un] [(.ref a1), (.ref a0)] _
  refine Jvm.RoadKit.acmp (g := (mkF m 2 #[rv a0, rv a1, un] [(.ref a1), (.ref a0)])) X0 hx rfl rfl rfl (pc0 := 2) (pc' := 7) (same := false) rfl (hb hby d11_2) rfl (decide_eq_false fun q => (pf8 : ¬ (a0 = a1)) (Value.ref.inj q)) (by decide) (by decide) ?_
  refine XS.aloadN X0.here hx rfl (hb hby d11_7) rfl rfl ?_
  refine st1 _ ?_
  show AT p e below T1 m 11 #[rv a0, rv a1, un] [(.int (1 : Int32))] _
  refine XS.ifNo X1.here hx rfl (hb hby d11_11) rfl (XT.i0_eq_f ((by decide) : ¬ ((1 : Int32) = (0 : Int32)))) ?_
  refine XS.aloadN X1.here hx rfl (hb hby d11_14) rfl rfl ?_
  refine st2 _ ?_
  refine XS.astoreN X2.here hx rfl (hb hby d11_18) rfl rfl (l' := #[rv a0, rv a1, rv a1]) rfl ?_
  refine st3 _ ?_
  show AT p e below T3 m 22 #[rv a0, rv a1, rv a1] [(.int w_CS0)] _
  refine XS.ifNo X3.here hx rfl (hb hby d11_22) rfl (XT.i0_eq_f (hz_w_CS0 : ¬ (w_CS0 = (0 : Int32)))) ?_
  refine XS.aloadN X3.here hx rfl (hb hby d11_25) rfl rfl ?_
  refine st4 _ ?_
  refine XS.aloadN X4.here hx rfl (hb hby d11_29) rfl rfl ?_
  refine st5 _ ?_
  show AT p e below T5 m 33 #[rv a0, rv a1, rv a1] [(.int (0 : Int32)), (.int (0 : Int32))] _
  refine XS.icmpNo X5.here hx rfl (hb hby d11_33) rfl (XT.ii_ne_f ((by decide) : (0 : Int32) = (0 : Int32))) ?_
  show AT p e below T5 m 36 #[rv a0, rv a1, rv a1] [] _
  refine XS.aloadN X5.here hx rfl (hb hby d11_36) rfl rfl ?_
  refine st6 _ ?_
  refine XS.aloadN X6.here hx rfl (hb hby d11_40) rfl rfl ?_
  refine st7 _ ?_
  refine st8 _ ?_
  show AT p e below T8 m 47 #[rv a0, rv a1, rv a1] [(.int (0 : Int32))] _
  refine XS.ifYes X8.here hx rfl (pc0 := 47) (pc' := 54) rfl (hb hby d11_47) rfl (XT.i0_eq_t ((by decide) : (0 : Int32) = (0 : Int32))) (by decide) (by decide) ?_
  refine XS.iconst X8.here hx rfl (hb hby d11_54) ?_
  exact retN X8 hx (t := .boolean) Bd.returns (by simp) (hb hby d11_55) hr
 ·
  show Q11_5x Z a0 a1 w_CS0 w_SF1 w_PRODUCER w__VALUES w_WORKER w_OPERATOR w_ADMIN w_PRODUCER_shown w_PRODUCER_shown_value w_WORKER_shown w_WORKER_shown_value w_OPERATOR_shown w_OPERATOR_shown_value w_ADMIN_shown w_ADMIN_shown_value k__VALUES k_PRODUCER_shown_value k_WORKER_shown_value k_OPERATOR_shown_value k_ADMIN_shown_value u w ka kb zn vs x0 x1 x2 x3 x4 h0 n0 _ T8.heap _
  rw [e8]
  exact ⟨rfl, N8, rfl⟩

theorem ef_9x (m : MethodId) (a0 : Addr) : entryFrame m #[(.ref a0)] 6 = mkF m 0 #[rv a0, un, un, un, un, un] [] := by first | (simp [entryFrame, mkF, argsToLocals, Value.category]; done) | rfl
def Q9x (Z : State) (a0 : Addr) (w_CS0 : Int32) (w_SF1 : Value) (w_PRODUCER : Addr) (w__VALUES : Addr) (w_WORKER : Addr) (w_OPERATOR : Addr) (w_ADMIN : Addr) (w_PRODUCER_shown : Addr) (w_PRODUCER_shown_value : Addr) (w_WORKER_shown : Addr) (w_WORKER_shown_value : Addr) (w_OPERATOR_shown : Addr) (w_OPERATOR_shown_value : Addr) (w_ADMIN_shown : Addr) (w_ADMIN_shown_value : Addr) (k__VALUES : ClassId) (k_PRODUCER_shown_value : ClassId) (k_WORKER_shown_value : ClassId) (k_OPERATOR_shown_value : ClassId) (k_ADMIN_shown_value : ClassId) (u : Addr) (ku : ClassId) (zn : Int32) (vs : List Value) (h0 : Heap) (n0 : Nat) (v : Option Value) (h : Heap) (L : List Loc) : Prop := v = some .null ∧ Fr n0 L ∧ Keep h0 h []
set_option maxRecDepth 65536 in
set_option maxHeartbeats 40000000 in
theorem rm9x (l : Launch) (Z : State) (ar : Array Value) (hw : ∀ d ∈ tables_1, d.before ar Z = true) (ws : List Jvm.Cond) (a0 : Addr) (w_CS0 : Int32) (w_SF1 : Value) (w_PRODUCER : Addr) (w__VALUES : Addr) (w_WORKER : Addr) (w_OPERATOR : Addr) (w_ADMIN : Addr) (w_PRODUCER_shown : Addr) (w_PRODUCER_shown_value : Addr) (w_WORKER_shown : Addr) (w_WORKER_shown_value : Addr) (w_OPERATOR_shown : Addr) (w_OPERATOR_shown_value : Addr) (w_ADMIN_shown : Addr) (w_ADMIN_shown_value : Addr) (k__VALUES : ClassId) (k_PRODUCER_shown_value : ClassId) (k_WORKER_shown_value : ClassId) (k_OPERATOR_shown_value : ClassId) (k_ADMIN_shown_value : ClassId) (u : Addr) (ku : ClassId) (zn : Int32) (vs : List Value) (h0 : Heap) (n0 : Nat) (O0 : Old Z n0 h0) (HW : Wd Z w_CS0 w_SF1 w_PRODUCER w__VALUES w_WORKER w_OPERATOR w_ADMIN w_PRODUCER_shown w_PRODUCER_shown_value w_WORKER_shown w_WORKER_shown_value w_OPERATOR_shown w_OPERATOR_shown_value w_ADMIN_shown w_ADMIN_shown_value k__VALUES k_PRODUCER_shown_value k_WORKER_shown_value k_OPERATOR_shown_value k_ADMIN_shown_value) (pf0 : Exa Z h0 a0 "java/lang/String") (pf1 : Fld Z h0 a0 "java/lang/String" "coder" "B" (.int (0 : Int32))) (pf2 : Fld Z h0 a0 "java/lang/String" "value" "[B" (.ref u)) (pf3 : Arv Z h0 u ku .byte zn vs (.int (0 : Int32))) (pf4 : n0 ≤ a0) (h5 : ¬ (5 : Int32) = zn) (h6 : ¬ (6 : Int32) = zn) (h8 : ¬ (8 : Int32) = zn) :
    MetFree l y9 (head1 (Jvm.Cond.code y9 prog_7_method_5_code 6 (some (.object "com/example/lease/lease/Role")) :: ws) ({ frames := 2, cells := 1, slots := 4, locals := 28 } : Room)) (fun a U => a = #[(.ref a0)] ∧ Z.Warmed39 U.vm ∧ U.heap = h0) (fun _ _ _ _ _ => True) (fun _ U o U' => ∃ v L, o = .returned v ∧ Q9x Z a0 w_CS0 w_SF1 w_PRODUCER w__VALUES w_WORKER w_OPERATOR w_ADMIN w_PRODUCER_shown w_PRODUCER_shown_value w_WORKER_shown w_WORKER_shown_value w_OPERATOR_shown w_OPERATOR_shown_value w_ADMIN_shown w_ADMIN_shown_value k__VALUES k_PRODUCER_shown_value k_WORKER_shown_value k_OPERATOR_shown_value k_ADMIN_shown_value u ku zn vs h0 n0 v U'.heap L ∧ FrameEnd U o U' L ({ frames := 2, cells := 1, slots := 4, locals := 28 } : Room).cells ({ frames := 2, cells := 1, slots := 4, locals := 28 } : Room).slots) := by
 refine MetFree.of_bodySF (plainFor_of_name pn_1) hisR ?_
 intro p e s m args below meth c s₁ Bd hml0 hP hK
 obtain ⟨rfl, hZ, hh⟩ := hP
 have hx := Bd.exec
 have hby := Bd.bytes
 have hml : c.maxLocals = 6 := hml0
 have hown : s.vm.findClass "com/example/lease/lease/Role" = some m.cls := findClass_of_methodNamed Bd.named
 have hnm := (name_of_methodNamed Bd.named Bd.method).1
 have X0 : Stand p l e ({ frames := 2, cells := 1, slots := 4, locals := 28 } : Room) s m #[(.ref a0)] below meth c s₁ [] 0 0 := Stand.of_body Bd
 have e0 : s₁.heap = h0 := by rw [← hh, Bd.state]; rfl
 have N0 := Fr.nil n0
 have Z0 : n0 ≤ h0.size := Nat.le_trans (Nat.le_of_eq O0.1.symm) O0.2.1
 obtain ⟨S0, hS0⟩ : ∃ z, z = s₁.setTop (entryFrame m #[(.ref a0)] 6) := ⟨_, rfl⟩
 have pre0 : ∀ tg, AT p e below s₁ m 0 #[rv a0, un, un, un, un, un] [] tg → Steps p.tables e below S0 tg := fun tg kg => by rw [hS0]; exact castTop (ef_9x m a0) kg
 obtain ⟨S_COMPACT_STRINGS, hz_w_CS0, S_SIOOBE_FORMATTER, ir_w_SF1, S_PRODUCER, E_PRODUCER, S__VALUES, E__VALUES, S_WORKER, E_WORKER, S_OPERATOR, E_OPERATOR, S_ADMIN, E_ADMIN, F_shown_PRODUCER, E_PRODUCER_shown, F_coder_PRODUCER_shown, F_value_PRODUCER_shown, F_shown_WORKER, E_WORKER_shown, F_coder_WORKER_shown, F_value_WORKER_shown, F_shown_OPERATOR, E_OPERATOR_shown, F_coder_OPERATOR_shown, F_value_OPERATOR_shown, F_shown_ADMIN, E_ADMIN_shown, F_coder_ADMIN_shown, F_value_ADMIN_shown, V__VALUES, V_PRODUCER_shown_value, V_WORKER_shown_value, V_OPERATOR_shown_value, V_ADMIN_shown_value⟩ := id HW
 obtain ⟨_, _, ⟨T1, L1, k1, n1⟩, -, X1, ⟨Lc1, hQ1, l1, y1, z1⟩, st1⟩ := Jvm.LawKit.callS X0 hx (y := y10) hown (mvT hZ (ow hw 43 rfl)) (mvT hZ (ow hw 44 rfl)) (mvT hZ (ow hw 5 rfl)) (mvT hZ (ow hw 45 rfl)) (by decide) (backOf (W := 0) (rm10 l Z ar hw [] w_CS0 w_SF1 w_PRODUCER w__VALUES w_WORKER w_OPERATOR w_ADMIN w_PRODUCER_shown w_PRODUCER_shown_value w_WORKER_shown w_WORKER_shown_value w_OPERATOR_shown w_OPERATOR_shown_value w_ADMIN_shown w_ADMIN_shown_value k__VALUES k_PRODUCER_shown_value k_WORKER_shown_value k_OPERATOR_shown_value k_ADMIN_shown_value h0 n0 O0 HW) hZ (ow hw 45 rfl) (ow hw 5 rfl) (by decide) (by decide)) (g := (mkF m 2 #[rv a0, .val .null, un, un, un, un] [])) rfl (by rw [hml]; rfl) (argsL := []) (rest := []) (lenOf pd_0 rfl) rfl (by show 2 * 0 + _ ≤ _; exact Nat.le_of_eq rfl) (hb hby d9_2) (fun _ _ => ⟨rfl, e0, (by decide : 0 + 1 ≤ _), (by decide : 0 + 4 ≤ _)⟩)
 dsimp only [Pt.U, Pt.locs, Pt.cells, Pt.slots] at X1 l1 y1 z1 st1 hQ1
 subst l1 y1 z1
 obtain ⟨b_1, kb_1, rfl, N1q, Kq1, u1_0, u1_1, u1_2⟩ := hQ1
 have N1 := Fr.app N0 N1q
 have E1_2 := pf0.keep Kq1
 have F1_3 := pf1.keep Kq1 nin0
 have F1_4 := pf2.keep Kq1 nin0
 have V1_5 := pf3.keep Kq1 nin0
 have K1 := (Keep.refl h0 []).trans Kq1 all0
 have O1 := O0.keep Kq1 all0
 have sz6 : h0.size ≤ b_1 := Nat.le_trans (Keep.refl h0 []).1 u1_1
 have gn6 : n0 ≤ b_1 := Nat.le_trans (Nat.le_trans (Nat.le_of_eq O0.1.symm) O0.2.1) u1_1
 have ne7 : a0 ≠ b_1 := Nat.ne_of_lt (Nat.lt_of_lt_of_le (pf0).lt u1_1)
 have ne8 : u ≠ b_1 := Nat.ne_of_lt (Nat.lt_of_lt_of_le (pf3).lt u1_1)
 obtain ⟨cl9, Ar9, q9, S9, N9, H9, G9⟩ := id u1_0
 obtain ⟨cl10, Ar10, q10, S10, N10, H10, G10⟩ := id u1_0
 have hin10 := own_in (0 : Int32) S10 ⟨by decide, by decide⟩
 have hat10 : cl10.slots[((0 : Int32)).toNatClampNeg]? = some (.ref w_PRODUCER) := Has.at H10 hin10 rfl
 obtain ⟨T11, X11, e11, st11⟩ := getF X1 hx hZ hown (host := "") (Or.inl (ow hw 61 rfl)) Via.refl rfl (F_shown_PRODUCER.ext O1.2) (g := (mkF m 26 #[rv a0, .val .null, rv b_1, iv (4 : Int32), iv (0 : Int32), rv w_PRODUCER] [(.ref w_PRODUCER)])) rfl rfl (hb hby d9_26)
 obtain ⟨cq12, kq12, q12a, q12b, q12c⟩ := isOf hZ e11 (E_PRODUCER_shown.ext O1.2)
 obtain ⟨_, _, ⟨T12, L12, k12, n12⟩, -, X12, ⟨Lc12, hQ12, l12, y12, z12⟩, st12⟩ := X11.virtualBack hx (y := y11) (z := y11) hown (mvT hZ (ow hw 63 rfl)) (mvT hZ (ow hw 64 rfl)) (notFace_of_selects (args := #[]) (mvT hZ (ow hw 66 rfl))) (mvT hZ (ow hw 66 rfl)) (mvT hZ (ow hw 65 rfl)) (by decide) (backOf (W := 0) (rm11_8x l Z ar hw [] w_PRODUCER_shown a0 w_CS0 w_SF1 w_PRODUCER w__VALUES w_WORKER w_OPERATOR w_ADMIN w_PRODUCER_shown w_PRODUCER_shown_value w_WORKER_shown w_WORKER_shown_value w_OPERATOR_shown w_OPERATOR_shown_value w_ADMIN_shown w_ADMIN_shown_value k__VALUES k_PRODUCER_shown_value k_WORKER_shown_value k_OPERATOR_shown_value k_ADMIN_shown_value w_PRODUCER_shown_value u k_PRODUCER_shown_value ku zn vs (112 : Int32) (114 : Int32) (111 : Int32) (100 : Int32) (117 : Int32) (99 : Int32) (101 : Int32) (114 : Int32) T1.heap n0 O1 HW (E_PRODUCER_shown.ext O1.2) E1_2 (F_coder_PRODUCER_shown.ext O1.2) F1_3 (F_value_PRODUCER_shown.ext O1.2) F1_4 (V_PRODUCER_shown_value.ext O1.2) V1_5 (Old.ne O1 E_PRODUCER_shown.lt pf4) h8) hZ (ow hw 67 rfl) (ow hw 13 rfl) (by decide) (by decide)) q12a q12c (g := (mkF m 30 #[rv a0, .val .null, rv b_1, iv (4 : Int32), iv (0 : Int32), rv w_PRODUCER] [(.ref a0), (.ref w_PRODUCER_shown)])) rfl (by rw [hml]; rfl) (Steps.refl _) (argsL := [(.ref a0)]) (rest := []) (lenOf pd_1 rfl) rfl (by show 2 * 0 + _ ≤ _; exact Nat.le_of_eq rfl) (hb hby d9_30) (fun _ _ => ⟨rfl, e11, (by decide : 1 + 0 ≤ _), (by decide : 4 + 0 ≤ _)⟩)
 dsimp only [Pt.U, Pt.locs, Pt.cells, Pt.slots] at X12 l12 y12 z12 st12 hQ12
 subst l12 y12 z12
 obtain ⟨rfl, N12q, e12⟩ := hQ12
 have N12 := Fr.app N1 N12q
 obtain ⟨cl13, Ar13, q13, S13, N13, H13, G13⟩ := id u1_0
 have hin13 := own_in (1 : Int32) S13 ⟨by decide, by decide⟩
 have hat13 : cl13.slots[((1 : Int32)).toNatClampNeg]? = some (.ref w_WORKER) := Has.at H13 hin13 rfl
 obtain ⟨T14, X14, e14, st14⟩ := getF X12 hx hZ hown (host := "") (Or.inl (ow hw 61 rfl)) Via.refl e12 (F_shown_WORKER.ext O1.2) (g := (mkF m 26 #[rv a0, .val .null, rv b_1, iv (4 : Int32), iv (1 : Int32), rv w_WORKER] [(.ref w_WORKER)])) rfl rfl (hb hby d9_26)
 obtain ⟨cq15, kq15, q15a, q15b, q15c⟩ := isOf hZ e14 (E_WORKER_shown.ext O1.2)
 obtain ⟨_, _, ⟨T15, L15, k15, n15⟩, -, X15, ⟨Lc15, hQ15, l15, y15, z15⟩, st15⟩ := X14.virtualBack hx (y := y11) (z := y11) hown (mvT hZ (ow hw 63 rfl)) (mvT hZ (ow hw 64 rfl)) (notFace_of_selects (args := #[]) (mvT hZ (ow hw 66 rfl))) (mvT hZ (ow hw 66 rfl)) (mvT hZ (ow hw 65 rfl)) (by decide) (backOf (W := 0) (rm11_6x l Z ar hw [] w_WORKER_shown a0 w_CS0 w_SF1 w_PRODUCER w__VALUES w_WORKER w_OPERATOR w_ADMIN w_PRODUCER_shown w_PRODUCER_shown_value w_WORKER_shown w_WORKER_shown_value w_OPERATOR_shown w_OPERATOR_shown_value w_ADMIN_shown w_ADMIN_shown_value k__VALUES k_PRODUCER_shown_value k_WORKER_shown_value k_OPERATOR_shown_value k_ADMIN_shown_value w_WORKER_shown_value u k_WORKER_shown_value ku zn vs (119 : Int32) (111 : Int32) (114 : Int32) (107 : Int32) (101 : Int32) (114 : Int32) T1.heap n0 O1 HW (E_WORKER_shown.ext O1.2) E1_2 (F_coder_WORKER_shown.ext O1.2) F1_3 (F_value_WORKER_shown.ext O1.2) F1_4 (V_WORKER_shown_value.ext O1.2) V1_5 (Old.ne O1 E_WORKER_shown.lt pf4) h6) hZ (ow hw 67 rfl) (ow hw 13 rfl) (by decide) (by decide)) q15a q15c (g := (mkF m 30 #[rv a0, .val .null, rv b_1, iv (4 : Int32), iv (1 : Int32), rv w_WORKER] [(.ref a0), (.ref w_WORKER_shown)])) rfl (by rw [hml]; rfl) (Steps.refl _) (argsL := [(.ref a0)]) (rest := []) (lenOf pd_1 rfl) rfl (by show 2 * 0 + _ ≤ _; exact Nat.le_of_eq rfl) (hb hby d9_30) (fun _ _ => ⟨rfl, e14, (by decide : 1 + 0 ≤ _), (by decide : 4 + 0 ≤ _)⟩)
 dsimp only [Pt.U, Pt.locs, Pt.cells, Pt.slots] at X15 l15 y15 z15 st15 hQ15
 subst l15 y15 z15
 obtain ⟨rfl, N15q, e15⟩ := hQ15
 have N15 := Fr.app N12 N15q
 obtain ⟨cl16, Ar16, q16, S16, N16, H16, G16⟩ := id u1_0
 have hin16 := own_in (2 : Int32) S16 ⟨by decide, by decide⟩
 have hat16 : cl16.slots[((2 : Int32)).toNatClampNeg]? = some (.ref w_OPERATOR) := Has.at H16 hin16 rfl
 obtain ⟨T17, X17, e17, st17⟩ := getF X15 hx hZ hown (host := "") (Or.inl (ow hw 61 rfl)) Via.refl e15 (F_shown_OPERATOR.ext O1.2) (g := (mkF m 26 #[rv a0, .val .null, rv b_1, iv (4 : Int32), iv (2 : Int32), rv w_OPERATOR] [(.ref w_OPERATOR)])) rfl rfl (hb hby d9_26)
 obtain ⟨cq18, kq18, q18a, q18b, q18c⟩ := isOf hZ e17 (E_OPERATOR_shown.ext O1.2)
 obtain ⟨_, _, ⟨T18, L18, k18, n18⟩, -, X18, ⟨Lc18, hQ18, l18, y18, z18⟩, st18⟩ := X17.virtualBack hx (y := y11) (z := y11) hown (mvT hZ (ow hw 63 rfl)) (mvT hZ (ow hw 64 rfl)) (notFace_of_selects (args := #[]) (mvT hZ (ow hw 66 rfl))) (mvT hZ (ow hw 66 rfl)) (mvT hZ (ow hw 65 rfl)) (by decide) (backOf (W := 0) (rm11_8x l Z ar hw [] w_OPERATOR_shown a0 w_CS0 w_SF1 w_PRODUCER w__VALUES w_WORKER w_OPERATOR w_ADMIN w_PRODUCER_shown w_PRODUCER_shown_value w_WORKER_shown w_WORKER_shown_value w_OPERATOR_shown w_OPERATOR_shown_value w_ADMIN_shown w_ADMIN_shown_value k__VALUES k_PRODUCER_shown_value k_WORKER_shown_value k_OPERATOR_shown_value k_ADMIN_shown_value w_OPERATOR_shown_value u k_OPERATOR_shown_value ku zn vs (111 : Int32) (112 : Int32) (101 : Int32) (114 : Int32) (97 : Int32) (116 : Int32) (111 : Int32) (114 : Int32) T1.heap n0 O1 HW (E_OPERATOR_shown.ext O1.2) E1_2 (F_coder_OPERATOR_shown.ext O1.2) F1_3 (F_value_OPERATOR_shown.ext O1.2) F1_4 (V_OPERATOR_shown_value.ext O1.2) V1_5 (Old.ne O1 E_OPERATOR_shown.lt pf4) h8) hZ (ow hw 67 rfl) (ow hw 13 rfl) (by decide) (by decide)) q18a q18c (g := (mkF m 30 #[rv a0, .val .null, rv b_1, iv (4 : Int32), iv (2 : Int32), rv w_OPERATOR] [(.ref a0), (.ref w_OPERATOR_shown)])) rfl (by rw [hml]; rfl) (Steps.refl _) (argsL := [(.ref a0)]) (rest := []) (lenOf pd_1 rfl) rfl (by show 2 * 0 + _ ≤ _; exact Nat.le_of_eq rfl) (hb hby d9_30) (fun _ _ => ⟨rfl, e17, (by decide : 1 + 0 ≤ _), (by decide : 4 + 0 ≤ _)⟩)
 dsimp only [Pt.U, Pt.locs, Pt.cells, Pt.slots] at X18 l18 y18 z18 st18 hQ18
 subst l18 y18 z18
 obtain ⟨rfl, N18q, e18⟩ := hQ18
 have N18 := Fr.app N15 N18q
 obtain ⟨cl19, Ar19, q19, S19, N19, H19, G19⟩ := id u1_0
 have hin19 := own_in (3 : Int32) S19 ⟨by decide, by decide⟩
 have hat19 : cl19.slots[((3 : Int32)).toNatClampNeg]? = some (.ref w_ADMIN) := Has.at H19 hin19 rfl
 obtain ⟨T20, X20, e20, st20⟩ := getF X18 hx hZ hown (host := "") (Or.inl (ow hw 61 rfl)) Via.refl e18 (F_shown_ADMIN.ext O1.2) (g := (mkF m 26 #[rv a0, .val .null, rv b_1, iv (4 : Int32), iv (3 : Int32), rv w_ADMIN] [(.ref w_ADMIN)])) rfl rfl (hb hby d9_26)
 obtain ⟨cq21, kq21, q21a, q21b, q21c⟩ := isOf hZ e20 (E_ADMIN_shown.ext O1.2)
 obtain ⟨_, _, ⟨T21, L21, k21, n21⟩, -, X21, ⟨Lc21, hQ21, l21, y21, z21⟩, st21⟩ := X20.virtualBack hx (y := y11) (z := y11) hown (mvT hZ (ow hw 63 rfl)) (mvT hZ (ow hw 64 rfl)) (notFace_of_selects (args := #[]) (mvT hZ (ow hw 66 rfl))) (mvT hZ (ow hw 66 rfl)) (mvT hZ (ow hw 65 rfl)) (by decide) (backOf (W := 0) (rm11_5x l Z ar hw [] w_ADMIN_shown a0 w_CS0 w_SF1 w_PRODUCER w__VALUES w_WORKER w_OPERATOR w_ADMIN w_PRODUCER_shown w_PRODUCER_shown_value w_WORKER_shown w_WORKER_shown_value w_OPERATOR_shown w_OPERATOR_shown_value w_ADMIN_shown w_ADMIN_shown_value k__VALUES k_PRODUCER_shown_value k_WORKER_shown_value k_OPERATOR_shown_value k_ADMIN_shown_value w_ADMIN_shown_value u k_ADMIN_shown_value ku zn vs (97 : Int32) (100 : Int32) (109 : Int32) (105 : Int32) (110 : Int32) T1.heap n0 O1 HW (E_ADMIN_shown.ext O1.2) E1_2 (F_coder_ADMIN_shown.ext O1.2) F1_3 (F_value_ADMIN_shown.ext O1.2) F1_4 (V_ADMIN_shown_value.ext O1.2) V1_5 (Old.ne O1 E_ADMIN_shown.lt pf4) h5) hZ (ow hw 67 rfl) (ow hw 13 rfl) (by decide) (by decide)) q21a q21c (g := (mkF m 30 #[rv a0, .val .null, rv b_1, iv (4 : Int32), iv (3 : Int32), rv w_ADMIN] [(.ref a0), (.ref w_ADMIN_shown)])) rfl (by rw [hml]; rfl) (Steps.refl _) (argsL := [(.ref a0)]) (rest := []) (lenOf pd_1 rfl) rfl (by show 2 * 0 + _ ≤ _; exact Nat.le_of_eq rfl) (hb hby d9_30) (fun _ _ => ⟨rfl, e20, (by decide : 1 + 0 ≤ _), (by decide : 4 + 0 ≤ _)⟩)
 dsimp only [Pt.U, Pt.locs, Pt.cells, Pt.slots] at X21 l21 y21 z21 st21 hQ21
 subst l21 y21 z21
 obtain ⟨rfl, N21q, e21⟩ := hQ21
 have N21 := Fr.app N18 N21q
 obtain ⟨fs, hr, hrun, hended, hW, hsame⟩ := X21.leave (v := some .null) (fun h => by rw [Bd.returns] at h; cases h)
 subst hS0
 refine ⟨_, _, pre0 _ ?_, hrun, hended, _, _, rfl, ?_, ⟨_, rfl⟩, hW, hsame.mono (by decide) (by decide)⟩
 ·
  refine XS.aconstNull X0.here hx rfl (hb hby d9_0) ?_
  refine XS.astoreN X0.here hx rfl (hb hby d9_1) rfl rfl (l' := #[rv a0, .val .null, un, un, un, un]) rfl ?_
  refine st1 _ ?_
  refine XS.astoreN X1.here hx rfl (hb hby d9_5) rfl rfl (l' := #[rv a0, .val .null, rv b_1, un, un, un]) rfl ?_
  refine XS.aloadN X1.here hx rfl (hb hby d9_6) rfl rfl ?_
  refine X1.arraylength hx Ar9.1 (State.isArrayOf_alike hZ.alike Ar9.2.1) (g := (mkF m 7 #[rv a0, .val .null, rv b_1, un, un, un] [(.ref b_1)])) rfl rfl (hb hby d9_7) _ ?_
  rw [len_of S9 N9]
  refine XS.istoreN X1.here hx rfl (hb hby d9_8) rfl (l' := #[rv a0, .val .null, rv b_1, iv (4 : Int32), un, un]) rfl ?_
  refine XS.iconst X1.here hx rfl (hb hby d9_9) ?_
  refine XS.istore X1.here hx rfl (hb hby d9_10) rfl (l' := #[rv a0, .val .null, rv b_1, iv (4 : Int32), iv (0 : Int32), un]) rfl ?_
  refine XS.iload X1.here hx rfl (hb hby d9_12) rfl ?_
  refine XS.iloadN X1.here hx rfl (hb hby d9_14) rfl ?_
  show AT p e below T1 m 15 #[rv a0, .val .null, rv b_1, iv (4 : Int32), iv (0 : Int32), un] [(.int (4 : Int32)), (.int (0 : Int32))] _
  refine XS.icmpNo X1.here hx rfl (hb hby d9_15) rfl (XT.ii_ge_f ((by decide) : (0 : Int32) < (4 : Int32))) ?_
  refine XS.aloadN X1.here hx rfl (hb hby d9_18) rfl rfl ?_
  refine XS.iload X1.here hx rfl (hb hby d9_19) rfl ?_
  refine X1.aaload hx (j := (0 : Int32)) (v := (.ref w_PRODUCER)) Ar10.1 (State.isArrayOf_alike hZ.alike Ar10.2.1) rfl Ar10.2.2 hin10 hat10 (g := (mkF m 21 #[rv a0, .val .null, rv b_1, iv (4 : Int32), iv (0 : Int32), un] [(.int (0 : Int32)), (.ref b_1)])) rfl rfl (hb hby d9_21) _ ?_
  refine XS.astore X1.here hx rfl (hb hby d9_22) rfl rfl (l' := #[rv a0, .val .null, rv b_1, iv (4 : Int32), iv (0 : Int32), rv w_PRODUCER]) rfl ?_
  refine XS.aload X1.here hx rfl (hb hby d9_24) rfl rfl ?_
  show AT p e below T1 m 26 #[rv a0, .val .null, rv b_1, iv (4 : Int32), iv (0 : Int32), rv w_PRODUCER] [(.ref w_PRODUCER)] _
  refine st11 _ ?_
  refine XS.aloadN X11.here hx rfl (hb hby d9_29) rfl rfl ?_
  refine st12.trans ?_
  show AT p e below T12 m 33 #[rv a0, .val .null, rv b_1, iv (4 : Int32), iv (0 : Int32), rv w_PRODUCER] [(.int (0 : Int32))] _
  refine XS.ifYes X12.here hx rfl (pc0 := 33) (pc' := 39) rfl (hb hby d9_33) rfl (XT.i0_eq_t ((by decide) : (0 : Int32) = (0 : Int32))) (by decide) (by decide) ?_
  refine XS.iinc X12.here hx rfl (hb hby d9_39) rfl (l' := #[rv a0, .val .null, rv b_1, iv (4 : Int32), iv (1 : Int32), rv w_PRODUCER]) rfl ?_
  refine XS.goto X12.here hx rfl (pc0 := 42) (pc' := 12) rfl (hb hby d9_42) (by decide) (by decide) ?_
  refine XS.iload X12.here hx rfl (hb hby d9_12) rfl ?_
  refine XS.iloadN X12.here hx rfl (hb hby d9_14) rfl ?_
  show AT p e below T12 m 15 #[rv a0, .val .null, rv b_1, iv (4 : Int32), iv (1 : Int32), rv w_PRODUCER] [(.int (4 : Int32)), (.int (1 : Int32))] _
  refine XS.icmpNo X12.here hx rfl (hb hby d9_15) rfl (XT.ii_ge_f ((by decide) : (1 : Int32) < (4 : Int32))) ?_
  refine XS.aloadN X12.here hx rfl (hb hby d9_18) rfl rfl ?_
  refine XS.iload X12.here hx rfl (hb hby d9_19) rfl ?_
  refine X12.aaload hx (j := (1 : Int32)) (v := (.ref w_WORKER)) (by rw [e12]; exact Ar13.1) (State.isArrayOf_alike hZ.alike Ar13.2.1) rfl Ar13.2.2 hin13 hat13 (g := (mkF m 21 #[rv a0, .val .null, rv b_1, iv (4 : Int32), iv (1 : Int32), rv w_PRODUCER] [(.int (1 : Int32)), (.ref b_1)])) rfl rfl (hb hby d9_21) _ ?_
  refine XS.astore X12.here hx rfl (hb hby d9_22) rfl rfl (l' := #[rv a0, .val .null, rv b_1, iv (4 : Int32), iv (1 : Int32), rv w_WORKER]) rfl ?_
  refine XS.aload X12.here hx rfl (hb hby d9_24) rfl rfl ?_
  refine st14 _ ?_
  refine XS.aloadN X14.here hx rfl (hb hby d9_29) rfl rfl ?_
  refine st15.trans ?_
  show AT p e below T15 m 33 #[rv a0, .val .null, rv b_1, iv (4 : Int32), iv (1 : Int32), rv w_WORKER] [(.int (0 : Int32))] _
  refine XS.ifYes X15.here hx rfl (pc0 := 33) (pc' := 39) rfl (hb hby d9_33) rfl (XT.i0_eq_t ((by decide) : (0 : Int32) = (0 : Int32))) (by decide) (by decide) ?_
  refine XS.iinc X15.here hx rfl (hb hby d9_39) rfl (l' := #[rv a0, .val .null, rv b_1, iv (4 : Int32), iv (2 : Int32), rv w_WORKER]) rfl ?_
  show AT p e below T15 m 42 #[rv a0, .val .null, rv b_1, iv (4 : Int32), iv (2 : Int32), rv w_WORKER] [] _
  refine XS.goto X15.here hx rfl (pc0 := 42) (pc' := 12) rfl (hb hby d9_42) (by decide) (by decide) ?_
  refine XS.iload X15.here hx rfl (hb hby d9_12) rfl ?_
  refine XS.iloadN X15.here hx rfl (hb hby d9_14) rfl ?_
  show AT p e below T15 m 15 #[rv a0, .val .null, rv b_1, iv (4 : Int32), iv (2 : Int32), rv w_WORKER] [(.int (4 : Int32)), (.int (2 : Int32))] _
  refine XS.icmpNo X15.here hx rfl (hb hby d9_15) rfl (XT.ii_ge_f ((by decide) : (2 : Int32) < (4 : Int32))) ?_
  refine XS.aloadN X15.here hx rfl (hb hby d9_18) rfl rfl ?_
  refine XS.iload X15.here hx rfl (hb hby d9_19) rfl ?_
  refine X15.aaload hx (j := (2 : Int32)) (v := (.ref w_OPERATOR)) (by rw [e15]; exact Ar16.1) (State.isArrayOf_alike hZ.alike Ar16.2.1) rfl Ar16.2.2 hin16 hat16 (g := (mkF m 21 #[rv a0, .val .null, rv b_1, iv (4 : Int32), iv (2 : Int32), rv w_WORKER] [(.int (2 : Int32)), (.ref b_1)])) rfl rfl (hb hby d9_21) _ ?_
  refine XS.astore X15.here hx rfl (hb hby d9_22) rfl rfl (l' := #[rv a0, .val .null, rv b_1, iv (4 : Int32), iv (2 : Int32), rv w_OPERATOR]) rfl ?_
  refine XS.aload X15.here hx rfl (hb hby d9_24) rfl rfl ?_
  refine st17 _ ?_
  refine XS.aloadN X17.here hx rfl (hb hby d9_29) rfl rfl ?_
  refine st18.trans ?_
  show AT p e below T18 m 33 #[rv a0, .val .null, rv b_1, iv (4 : Int32), iv (2 : Int32), rv w_OPERATOR] [(.int (0 : Int32))] _
  refine XS.ifYes X18.here hx rfl (pc0 := 33) (pc' := 39) rfl (hb hby d9_33) rfl (XT.i0_eq_t ((by decide) : (0 : Int32) = (0 : Int32))) (by decide) (by decide) ?_
  refine XS.iinc X18.here hx rfl (hb hby d9_39) rfl (l' := #[rv a0, .val .null, rv b_1, iv (4 : Int32), iv (3 : Int32), rv w_OPERATOR]) rfl ?_
  refine XS.goto X18.here hx rfl (pc0 := 42) (pc' := 12) rfl (hb hby d9_42) (by decide) (by decide) ?_
  refine XS.iload X18.here hx rfl (hb hby d9_12) rfl ?_
  refine XS.iloadN X18.here hx rfl (hb hby d9_14) rfl ?_
  show AT p e below T18 m 15 #[rv a0, .val .null, rv b_1, iv (4 : Int32), iv (3 : Int32), rv w_OPERATOR] [(.int (4 : Int32)), (.int (3 : Int32))] _
  refine XS.icmpNo X18.here hx rfl (hb hby d9_15) rfl (XT.ii_ge_f ((by decide) : (3 : Int32) < (4 : Int32))) ?_
  refine XS.aloadN X18.here hx rfl (hb hby d9_18) rfl rfl ?_
  show AT p e below T18 m 19 #[rv a0, .val .null, rv b_1, iv (4 : Int32), iv (3 : Int32), rv w_OPERATOR] [(.ref b_1)] _
  refine XS.iload X18.here hx rfl (hb hby d9_19) rfl ?_
  refine X18.aaload hx (j := (3 : Int32)) (v := (.ref w_ADMIN)) (by rw [e18]; exact Ar19.1) (State.isArrayOf_alike hZ.alike Ar19.2.1) rfl Ar19.2.2 hin19 hat19 (g := (mkF m 21 #[rv a0, .val .null, rv b_1, iv (4 : Int32), iv (3 : Int32), rv w_OPERATOR] [(.int (3 : Int32)), (.ref b_1)])) rfl rfl (hb hby d9_21) _ ?_
  refine XS.astore X18.here hx rfl (hb hby d9_22) rfl rfl (l' := #[rv a0, .val .null, rv b_1, iv (4 : Int32), iv (3 : Int32), rv w_ADMIN]) rfl ?_
  refine XS.aload X18.here hx rfl (hb hby d9_24) rfl rfl ?_
  refine st20 _ ?_
  refine XS.aloadN X20.here hx rfl (hb hby d9_29) rfl rfl ?_
  refine st21.trans ?_
  show AT p e below T21 m 33 #[rv a0, .val .null, rv b_1, iv (4 : Int32), iv (3 : Int32), rv w_ADMIN] [(.int (0 : Int32))] _
  refine XS.ifYes X21.here hx rfl (pc0 := 33) (pc' := 39) rfl (hb hby d9_33) rfl (XT.i0_eq_t ((by decide) : (0 : Int32) = (0 : Int32))) (by decide) (by decide) ?_
  refine XS.iinc X21.here hx rfl (hb hby d9_39) rfl (l' := #[rv a0, .val .null, rv b_1, iv (4 : Int32), iv (4 : Int32), rv w_ADMIN]) rfl ?_
  refine XS.goto X21.here hx rfl (pc0 := 42) (pc' := 12) rfl (hb hby d9_42) (by decide) (by decide) ?_
  refine XS.iload X21.here hx rfl (hb hby d9_12) rfl ?_
  refine XS.iloadN X21.here hx rfl (hb hby d9_14) rfl ?_
  show AT p e below T21 m 15 #[rv a0, .val .null, rv b_1, iv (4 : Int32), iv (4 : Int32), rv w_ADMIN] [(.int (4 : Int32)), (.int (4 : Int32))] _
  refine XS.icmpYes X21.here hx rfl (pc0 := 15) (pc' := 45) rfl (hb hby d9_15) rfl (XT.ii_ge_t ((by decide) : ¬ ((4 : Int32) < (4 : Int32)))) (by decide) (by decide) ?_
  refine XS.aloadN X21.here hx rfl (hb hby d9_45) rfl rfl ?_
  exact retOut X21 hx (t := (.object "com/example/lease/lease/Role")) (i := .areturn) Bd.returns rfl (Or.inr (Or.inr (Or.inr (Or.inr ⟨rfl, rfl, rfl⟩)))) (hb hby d9_46) hr
 ·
  show Q9x Z a0 w_CS0 w_SF1 w_PRODUCER w__VALUES w_WORKER w_OPERATOR w_ADMIN w_PRODUCER_shown w_PRODUCER_shown_value w_WORKER_shown w_WORKER_shown_value w_OPERATOR_shown w_OPERATOR_shown_value w_ADMIN_shown w_ADMIN_shown_value k__VALUES k_PRODUCER_shown_value k_WORKER_shown_value k_OPERATOR_shown_value k_ADMIN_shown_value u ku zn vs h0 n0 _ T21.heap _
  rw [e21]
  exact ⟨rfl, N21, K1⟩

theorem d12_7 : decode jdk_43_method_13_code 7 = .ok (.iconst 0, 1) := by decide +kernel
theorem d12_8 : decode jdk_43_method_13_code 8 = .ok (.istore_n 2, 1) := by decide +kernel
theorem d12_9 : decode jdk_43_method_13_code 9 = .ok (.iload_n 2, 1) := by decide +kernel
theorem d12_10 : decode jdk_43_method_13_code 10 = .ok (.aload_n 0, 1) := by decide +kernel
theorem d12_11 : decode jdk_43_method_13_code 11 = .ok (.arraylength, 1) := by decide +kernel
theorem d12_12 : decode jdk_43_method_13_code 12 = .ok (.if_icmp .ge 20, 3) := by decide +kernel
theorem d12_15 : decode jdk_43_method_13_code 15 = .ok (.aload_n 0, 1) := by decide +kernel
theorem d12_16 : decode jdk_43_method_13_code 16 = .ok (.iload_n 2, 1) := by decide +kernel
theorem d12_17 : decode jdk_43_method_13_code 17 = .ok (.baload, 1) := by decide +kernel
theorem d12_18 : decode jdk_43_method_13_code 18 = .ok (.aload_n 1, 1) := by decide +kernel
theorem d12_19 : decode jdk_43_method_13_code 19 = .ok (.iload_n 2, 1) := by decide +kernel
theorem d12_20 : decode jdk_43_method_13_code 20 = .ok (.baload, 1) := by decide +kernel
theorem d12_21 : decode jdk_43_method_13_code 21 = .ok (.if_icmp .eq 5, 3) := by decide +kernel
theorem d12_24 : decode jdk_43_method_13_code 24 = .ok (.iconst 0, 1) := by decide +kernel
theorem d12_25 : decode jdk_43_method_13_code 25 = .ok (.ireturn, 1) := by decide +kernel
theorem d12_26 : decode jdk_43_method_13_code 26 = .ok (.iinc 2 1, 3) := by decide +kernel
theorem d12_29 : decode jdk_43_method_13_code 29 = .ok (.goto (-20), 3) := by decide +kernel
theorem d12_32 : decode jdk_43_method_13_code 32 = .ok (.iconst 1, 1) := by decide +kernel
theorem d12_33 : decode jdk_43_method_13_code 33 = .ok (.ireturn, 1) := by decide +kernel
theorem ef_12_5_5 (m : MethodId) (a0 : Addr) (a1 : Addr) : entryFrame m #[(.ref a0), (.ref a1)] 3 = mkF m 0 #[rv a0, rv a1, un] [] := by first | (simp [entryFrame, mkF, argsToLocals, Value.category]; done) | rfl
def f12_5_5 (x0 : Int32) (x1 : Int32) (x2 : Int32) (x3 : Int32) (x4 : Int32) (y0 : Int32) (y1 : Int32) (y2 : Int32) (y3 : Int32) (y4 : Int32) : Int32 := if x0 = y0 then (if x1 = y1 then (if x2 = y2 then (if x3 = y3 then (if x4 = y4 then (1 : Int32) else (0 : Int32)) else ((0 : Int32))) else ((0 : Int32))) else ((0 : Int32))) else ((0 : Int32))
def Q12_5_5 (Z : State) (a0 : Addr) (a1 : Addr) (ka : ClassId) (kb : ClassId) (x0 : Int32) (x1 : Int32) (x2 : Int32) (x3 : Int32) (x4 : Int32) (y0 : Int32) (y1 : Int32) (y2 : Int32) (y3 : Int32) (y4 : Int32) (h0 : Heap) (n0 : Nat) (v : Option Value) (h : Heap) (L : List Loc) : Prop := v = some (.int (f12_5_5 x0 x1 x2 x3 x4 y0 y1 y2 y3 y4)) ∧ Fr n0 L ∧ h = h0
set_option maxRecDepth 65536 in
set_option maxHeartbeats 40000000 in
theorem rm12_5_5 (l : Launch) (Z : State) (ar : Array Value) (hw : ∀ d ∈ tables_1, d.before ar Z = true) (ws : List Jvm.Cond) (a0 : Addr) (a1 : Addr) (ka : ClassId) (kb : ClassId) (x0 : Int32) (x1 : Int32) (x2 : Int32) (x3 : Int32) (x4 : Int32) (y0 : Int32) (y1 : Int32) (y2 : Int32) (y3 : Int32) (y4 : Int32) (h0 : Heap) (n0 : Nat) (O0 : Old Z n0 h0) (pf0 : Arv Z h0 a0 ka .byte (5 : Int32) [(.int x0), (.int x1), (.int x2), (.int x3), (.int x4)] (.int (0 : Int32))) (pf1 : Arv Z h0 a1 kb .byte (5 : Int32) [(.int y0), (.int y1), (.int y2), (.int y3), (.int y4)] (.int (0 : Int32))) :
    MetFree l y12 (head1 (Jvm.Cond.code y12 jdk_43_method_13_code 3 (some .boolean) :: ws) ({ frames := 0, cells := 0, slots := 0, locals := 0 } : Room)) (fun a U => a = #[(.ref a0), (.ref a1)] ∧ Z.Warmed39 U.vm ∧ U.heap = h0) (fun _ _ _ _ _ => True) (fun _ U o U' => ∃ v L, o = .returned v ∧ Q12_5_5 Z a0 a1 ka kb x0 x1 x2 x3 x4 y0 y1 y2 y3 y4 h0 n0 v U'.heap L ∧ FrameEnd U o U' L ({ frames := 0, cells := 0, slots := 0, locals := 0 } : Room).cells ({ frames := 0, cells := 0, slots := 0, locals := 0 } : Room).slots) := by
 refine MetFree.of_bodySF (plainFor_of_name pn_3) hisR ?_
 intro p e s m args below meth c s₁ Bd hml0 hP hK
 obtain ⟨rfl, hZ, hh⟩ := hP
 have hx := Bd.exec
 have hby := Bd.bytes
 have hml : c.maxLocals = 3 := hml0
 have hown : s.vm.findClass "java/lang/StringLatin1" = some m.cls := findClass_of_methodNamed Bd.named
 have hnm := (name_of_methodNamed Bd.named Bd.method).1
 have X0 : Stand p l e ({ frames := 0, cells := 0, slots := 0, locals := 0 } : Room) s m #[(.ref a0), (.ref a1)] below meth c s₁ [] 0 0 := Stand.of_body Bd
 have e0 : s₁.heap = h0 := by rw [← hh, Bd.state]; rfl
 have N0 := Fr.nil n0
 have Z0 : n0 ≤ h0.size := Nat.le_trans (Nat.le_of_eq O0.1.symm) O0.2.1
 obtain ⟨S0, hS0⟩ : ∃ z, z = s₁.setTop (entryFrame m #[(.ref a0), (.ref a1)] 3) := ⟨_, rfl⟩
 have pre0 : ∀ tg, AT p e below s₁ m 0 #[rv a0, rv a1, un] [] tg → Steps p.tables e below S0 tg := fun tg kg => by rw [hS0]; exact castTop (ef_12_5_5 m a0 a1) kg
 obtain ⟨cl1, Ar1, q1, S1, N1, H1, G1⟩ := id pf0
 obtain ⟨cl2, Ar2, q2, S2, N2, H2, G2⟩ := id pf1
 obtain ⟨cl3, Ar3, q3, S3, N3, H3, G3⟩ := id pf0
 obtain ⟨cl4, Ar4, q4, S4, N4, H4, G4⟩ := id pf0
 have hin4 := own_in (0 : Int32) S4 ⟨by decide, by decide⟩
 have hat4 : cl4.slots[((0 : Int32)).toNatClampNeg]? = some (.int x0) := Has.at H4 hin4 rfl
 obtain ⟨cl5, Ar5, q5, S5, N5, H5, G5⟩ := id pf1
 have hin5 := own_in (0 : Int32) S5 ⟨by decide, by decide⟩
 have hat5 : cl5.slots[((0 : Int32)).toNatClampNeg]? = some (.int y0) := Has.at H5 hin5 rfl
 have pre6 : ∀ tg, AT p e below s₁ m 21 #[rv a0, rv a1, iv (0 : Int32)] [(.int y0), (.int x0)] tg → Steps p.tables e below S0 tg := fun tg kg => pre0 tg (by
  refine XS.aloadN X0.here hx rfl (hb hby d12_0) rfl rfl ?_
  refine X0.arraylength hx (by rw [e0]; exact Ar1.1) (State.isArrayOf_alike hZ.alike Ar1.2.1) (g := (mkF m 1 #[rv a0, rv a1, un] [(.ref a0)])) rfl rfl (hb hby d12_1) _ ?_
  rw [len_of S1 N1]
  refine XS.aloadN X0.here hx rfl (hb hby d12_2) rfl rfl ?_
  refine X0.arraylength hx (by rw [e0]; exact Ar2.1) (State.isArrayOf_alike hZ.alike Ar2.2.1) (g := (mkF m 3 #[rv a0, rv a1, un] [(.ref a1), (.int (5 : Int32))])) rfl rfl (hb hby d12_3) _ ?_
  rw [len_of S2 N2]
  show AT p e below s₁ m 4 #[rv a0, rv a1, un] [(.int (5 : Int32)), (.int (5 : Int32))] _
  refine XS.icmpNo X0.here hx rfl (hb hby d12_4) rfl (XT.ii_ne_f ((by decide) : (5 : Int32) = (5 : Int32))) ?_
  refine XS.iconst X0.here hx rfl (hb hby d12_7) ?_
  refine XS.istoreN X0.here hx rfl (hb hby d12_8) rfl (l' := #[rv a0, rv a1, iv (0 : Int32)]) rfl ?_
  refine XS.iloadN X0.here hx rfl (hb hby d12_9) rfl ?_
  refine XS.aloadN X0.here hx rfl (hb hby d12_10) rfl rfl ?_
  refine X0.arraylength hx (by rw [e0]; exact Ar3.1) (State.isArrayOf_alike hZ.alike Ar3.2.1) (g := (mkF m 11 #[rv a0, rv a1, iv (0 : Int32)] [(.ref a0), (.int (0 : Int32))])) rfl rfl (hb hby d12_11) _ ?_
  rw [len_of S3 N3]
  show AT p e below s₁ m 12 #[rv a0, rv a1, iv (0 : Int32)] [(.int (5 : Int32)), (.int (0 : Int32))] _
  refine XS.icmpNo X0.here hx rfl (hb hby d12_12) rfl (XT.ii_ge_f ((by decide) : (0 : Int32) < (5 : Int32))) ?_
  refine XS.aloadN X0.here hx rfl (hb hby d12_15) rfl rfl ?_
  refine XS.iloadN X0.here hx rfl (hb hby d12_16) rfl ?_
  refine X0.baloadBytes hx (j := (0 : Int32)) (v := (.int x0)) (by rw [e0]; exact Ar4.1) (State.isArrayOf_alike hZ.alike Ar4.2.1) Ar4.2.2 hin4 hat4 (g := (mkF m 17 #[rv a0, rv a1, iv (0 : Int32)] [(.int (0 : Int32)), (.ref a0)])) rfl rfl (hb hby d12_17) _ ?_
  show AT p e below s₁ m 18 #[rv a0, rv a1, iv (0 : Int32)] [(.int x0)] _
  refine XS.aloadN X0.here hx rfl (hb hby d12_18) rfl rfl ?_
  refine XS.iloadN X0.here hx rfl (hb hby d12_19) rfl ?_
  refine X0.baloadBytes hx (j := (0 : Int32)) (v := (.int y0)) (by rw [e0]; exact Ar5.1) (State.isArrayOf_alike hZ.alike Ar5.2.1) Ar5.2.2 hin5 hat5 (g := (mkF m 20 #[rv a0, rv a1, iv (0 : Int32)] [(.int (0 : Int32)), (.ref a1), (.int x0)])) rfl rfl (hb hby d12_20) _ ?_
  exact kg)
 rcases Decidable.em (x0 = y0) with hc7 | hc7
 ·
  obtain ⟨cl8, Ar8, q8, S8, N8, H8, G8⟩ := id pf0
  obtain ⟨cl9, Ar9, q9, S9, N9, H9, G9⟩ := id pf0
  have hin9 := own_in (1 : Int32) S9 ⟨by decide, by decide⟩
  have hat9 : cl9.slots[((1 : Int32)).toNatClampNeg]? = some (.int x1) := Has.at H9 hin9 rfl
  obtain ⟨cl10, Ar10, q10, S10, N10, H10, G10⟩ := id pf1
  have hin10 := own_in (1 : Int32) S10 ⟨by decide, by decide⟩
  have hat10 : cl10.slots[((1 : Int32)).toNatClampNeg]? = some (.int y1) := Has.at H10 hin10 rfl
  have pre11 : ∀ tg, AT p e below s₁ m 21 #[rv a0, rv a1, iv (1 : Int32)] [(.int y1), (.int x1)] tg → Steps p.tables e below S0 tg := fun tg kg => pre6 tg (by
   refine XS.icmpYes X0.here hx rfl (pc0 := 21) (pc' := 26) rfl (hb hby d12_21) rfl (XT.ii_eq_t hc7) (by decide) (by decide) ?_
   refine XS.iinc X0.here hx rfl (hb hby d12_26) rfl (l' := #[rv a0, rv a1, iv (1 : Int32)]) rfl ?_
   refine XS.goto X0.here hx rfl (pc0 := 29) (pc' := 9) rfl (hb hby d12_29) (by decide) (by decide) ?_
   refine XS.iloadN X0.here hx rfl (hb hby d12_9) rfl ?_
   refine XS.aloadN X0.here hx rfl (hb hby d12_10) rfl rfl ?_
   refine X0.arraylength hx (by rw [e0]; exact Ar8.1) (State.isArrayOf_alike hZ.alike Ar8.2.1) (g := (mkF m 11 #[rv a0, rv a1, iv (1 : Int32)] [(.ref a0), (.int (1 : Int32))])) rfl rfl (hb hby d12_11) _ ?_
   rw [len_of S8 N8]
   show AT p e below s₁ m 12 #[rv a0, rv a1, iv (1 : Int32)] [(.int (5 : Int32)), (.int (1 : Int32))] _
   refine XS.icmpNo X0.here hx rfl (hb hby d12_12) rfl (XT.ii_ge_f ((by decide) : (1 : Int32) < (5 : Int32))) ?_
   refine XS.aloadN X0.here hx rfl (hb hby d12_15) rfl rfl ?_
   refine XS.iloadN X0.here hx rfl (hb hby d12_16) rfl ?_
   refine X0.baloadBytes hx (j := (1 : Int32)) (v := (.int x1)) (by rw [e0]; exact Ar9.1) (State.isArrayOf_alike hZ.alike Ar9.2.1) Ar9.2.2 hin9 hat9 (g := (mkF m 17 #[rv a0, rv a1, iv (1 : Int32)] [(.int (1 : Int32)), (.ref a0)])) rfl rfl (hb hby d12_17) _ ?_
   refine XS.aloadN X0.here hx rfl (hb hby d12_18) rfl rfl ?_
   show AT p e below s₁ m 19 #[rv a0, rv a1, iv (1 : Int32)] [(.ref a1), (.int x1)] _
   refine XS.iloadN X0.here hx rfl (hb hby d12_19) rfl ?_
   refine X0.baloadBytes hx (j := (1 : Int32)) (v := (.int y1)) (by rw [e0]; exact Ar10.1) (State.isArrayOf_alike hZ.alike Ar10.2.1) Ar10.2.2 hin10 hat10 (g := (mkF m 20 #[rv a0, rv a1, iv (1 : Int32)] [(.int (1 : Int32)), (.ref a1), (.int x1)])) rfl rfl (hb hby d12_20) _ ?_
   exact kg)
  rcases Decidable.em (x1 = y1) with hc12 | hc12
  ·
   obtain ⟨cl13, Ar13, q13, S13, N13, H13, G13⟩ := id pf0
   obtain ⟨cl14, Ar14, q14, S14, N14, H14, G14⟩ := id pf0
   have hin14 := own_in (2 : Int32) S14 ⟨by decide, by decide⟩
   have hat14 : cl14.slots[((2 : Int32)).toNatClampNeg]? = some (.int x2) := Has.at H14 hin14 rfl
   obtain ⟨cl15, Ar15, q15, S15, N15, H15, G15⟩ := id pf1
   have hin15 := own_in (2 : Int32) S15 ⟨by decide, by decide⟩
   have hat15 : cl15.slots[((2 : Int32)).toNatClampNeg]? = some (.int y2) := Has.at H15 hin15 rfl
   have pre16 : ∀ tg, AT p e below s₁ m 21 #[rv a0, rv a1, iv (2 : Int32)] [(.int y2), (.int x2)] tg → Steps p.tables e below S0 tg := fun tg kg => pre11 tg (by
    refine XS.icmpYes X0.here hx rfl (pc0 := 21) (pc' := 26) rfl (hb hby d12_21) rfl (XT.ii_eq_t hc12) (by decide) (by decide) ?_
    refine XS.iinc X0.here hx rfl (hb hby d12_26) rfl (l' := #[rv a0, rv a1, iv (2 : Int32)]) rfl ?_
    refine XS.goto X0.here hx rfl (pc0 := 29) (pc' := 9) rfl (hb hby d12_29) (by decide) (by decide) ?_
    refine XS.iloadN X0.here hx rfl (hb hby d12_9) rfl ?_
    refine XS.aloadN X0.here hx rfl (hb hby d12_10) rfl rfl ?_
    refine X0.arraylength hx (by rw [e0]; exact Ar13.1) (State.isArrayOf_alike hZ.alike Ar13.2.1) (g := (mkF m 11 #[rv a0, rv a1, iv (2 : Int32)] [(.ref a0), (.int (2 : Int32))])) rfl rfl (hb hby d12_11) _ ?_
    rw [len_of S13 N13]
    show AT p e below s₁ m 12 #[rv a0, rv a1, iv (2 : Int32)] [(.int (5 : Int32)), (.int (2 : Int32))] _
    refine XS.icmpNo X0.here hx rfl (hb hby d12_12) rfl (XT.ii_ge_f ((by decide) : (2 : Int32) < (5 : Int32))) ?_
    refine XS.aloadN X0.here hx rfl (hb hby d12_15) rfl rfl ?_
    refine XS.iloadN X0.here hx rfl (hb hby d12_16) rfl ?_
    refine X0.baloadBytes hx (j := (2 : Int32)) (v := (.int x2)) (by rw [e0]; exact Ar14.1) (State.isArrayOf_alike hZ.alike Ar14.2.1) Ar14.2.2 hin14 hat14 (g := (mkF m 17 #[rv a0, rv a1, iv (2 : Int32)] [(.int (2 : Int32)), (.ref a0)])) rfl rfl (hb hby d12_17) _ ?_
    refine XS.aloadN X0.here hx rfl (hb hby d12_18) rfl rfl ?_
    refine XS.iloadN X0.here hx rfl (hb hby d12_19) rfl ?_
    show AT p e below s₁ m 20 #[rv a0, rv a1, iv (2 : Int32)] [(.int (2 : Int32)), (.ref a1), (.int x2)] _
    refine X0.baloadBytes hx (j := (2 : Int32)) (v := (.int y2)) (by rw [e0]; exact Ar15.1) (State.isArrayOf_alike hZ.alike Ar15.2.1) Ar15.2.2 hin15 hat15 (g := (mkF m 20 #[rv a0, rv a1, iv (2 : Int32)] [(.int (2 : Int32)), (.ref a1), (.int x2)])) rfl rfl (hb hby d12_20) _ ?_
    exact kg)
   rcases Decidable.em (x2 = y2) with hc17 | hc17
   ·
    obtain ⟨cl18, Ar18, q18, S18, N18, H18, G18⟩ := id pf0
    obtain ⟨cl19, Ar19, q19, S19, N19, H19, G19⟩ := id pf0
    have hin19 := own_in (3 : Int32) S19 ⟨by decide, by decide⟩
    have hat19 : cl19.slots[((3 : Int32)).toNatClampNeg]? = some (.int x3) := Has.at H19 hin19 rfl
    obtain ⟨cl20, Ar20, q20, S20, N20, H20, G20⟩ := id pf1
    have hin20 := own_in (3 : Int32) S20 ⟨by decide, by decide⟩
    have hat20 : cl20.slots[((3 : Int32)).toNatClampNeg]? = some (.int y3) := Has.at H20 hin20 rfl
    have pre21 : ∀ tg, AT p e below s₁ m 21 #[rv a0, rv a1, iv (3 : Int32)] [(.int y3), (.int x3)] tg → Steps p.tables e below S0 tg := fun tg kg => pre16 tg (by
     refine XS.icmpYes X0.here hx rfl (pc0 := 21) (pc' := 26) rfl (hb hby d12_21) rfl (XT.ii_eq_t hc17) (by decide) (by decide) ?_
     refine XS.iinc X0.here hx rfl (hb hby d12_26) rfl (l' := #[rv a0, rv a1, iv (3 : Int32)]) rfl ?_
     refine XS.goto X0.here hx rfl (pc0 := 29) (pc' := 9) rfl (hb hby d12_29) (by decide) (by decide) ?_
     refine XS.iloadN X0.here hx rfl (hb hby d12_9) rfl ?_
     refine XS.aloadN X0.here hx rfl (hb hby d12_10) rfl rfl ?_
     refine X0.arraylength hx (by rw [e0]; exact Ar18.1) (State.isArrayOf_alike hZ.alike Ar18.2.1) (g := (mkF m 11 #[rv a0, rv a1, iv (3 : Int32)] [(.ref a0), (.int (3 : Int32))])) rfl rfl (hb hby d12_11) _ ?_
     rw [len_of S18 N18]
     show AT p e below s₁ m 12 #[rv a0, rv a1, iv (3 : Int32)] [(.int (5 : Int32)), (.int (3 : Int32))] _
     refine XS.icmpNo X0.here hx rfl (hb hby d12_12) rfl (XT.ii_ge_f ((by decide) : (3 : Int32) < (5 : Int32))) ?_
     refine XS.aloadN X0.here hx rfl (hb hby d12_15) rfl rfl ?_
     refine XS.iloadN X0.here hx rfl (hb hby d12_16) rfl ?_
     refine X0.baloadBytes hx (j := (3 : Int32)) (v := (.int x3)) (by rw [e0]; exact Ar19.1) (State.isArrayOf_alike hZ.alike Ar19.2.1) Ar19.2.2 hin19 hat19 (g := (mkF m 17 #[rv a0, rv a1, iv (3 : Int32)] [(.int (3 : Int32)), (.ref a0)])) rfl rfl (hb hby d12_17) _ ?_
     refine XS.aloadN X0.here hx rfl (hb hby d12_18) rfl rfl ?_
     refine XS.iloadN X0.here hx rfl (hb hby d12_19) rfl ?_
     refine X0.baloadBytes hx (j := (3 : Int32)) (v := (.int y3)) (by rw [e0]; exact Ar20.1) (State.isArrayOf_alike hZ.alike Ar20.2.1) Ar20.2.2 hin20 hat20 (g := (mkF m 20 #[rv a0, rv a1, iv (3 : Int32)] [(.int (3 : Int32)), (.ref a1), (.int x3)])) rfl rfl (hb hby d12_20) _ ?_
     exact kg)
    rcases Decidable.em (x3 = y3) with hc22 | hc22
    ·
     obtain ⟨cl23, Ar23, q23, S23, N23, H23, G23⟩ := id pf0
     obtain ⟨cl24, Ar24, q24, S24, N24, H24, G24⟩ := id pf0
     have hin24 := own_in (4 : Int32) S24 ⟨by decide, by decide⟩
     have hat24 : cl24.slots[((4 : Int32)).toNatClampNeg]? = some (.int x4) := Has.at H24 hin24 rfl
     obtain ⟨cl25, Ar25, q25, S25, N25, H25, G25⟩ := id pf1
     have hin25 := own_in (4 : Int32) S25 ⟨by decide, by decide⟩
     have hat25 : cl25.slots[((4 : Int32)).toNatClampNeg]? = some (.int y4) := Has.at H25 hin25 rfl
     have pre26 : ∀ tg, AT p e below s₁ m 21 #[rv a0, rv a1, iv (4 : Int32)] [(.int y4), (.int x4)] tg → Steps p.tables e below S0 tg := fun tg kg => pre21 tg (by
      refine XS.icmpYes X0.here hx rfl (pc0 := 21) (pc' := 26) rfl (hb hby d12_21) rfl (XT.ii_eq_t hc22) (by decide) (by decide) ?_
      show AT p e below s₁ m 26 #[rv a0, rv a1, iv (3 : Int32)] [] _
      refine XS.iinc X0.here hx rfl (hb hby d12_26) rfl (l' := #[rv a0, rv a1, iv (4 : Int32)]) rfl ?_
      refine XS.goto X0.here hx rfl (pc0 := 29) (pc' := 9) rfl (hb hby d12_29) (by decide) (by decide) ?_
      refine XS.iloadN X0.here hx rfl (hb hby d12_9) rfl ?_
      refine XS.aloadN X0.here hx rfl (hb hby d12_10) rfl rfl ?_
      refine X0.arraylength hx (by rw [e0]; exact Ar23.1) (State.isArrayOf_alike hZ.alike Ar23.2.1) (g := (mkF m 11 #[rv a0, rv a1, iv (4 : Int32)] [(.ref a0), (.int (4 : Int32))])) rfl rfl (hb hby d12_11) _ ?_
      rw [len_of S23 N23]
      show AT p e below s₁ m 12 #[rv a0, rv a1, iv (4 : Int32)] [(.int (5 : Int32)), (.int (4 : Int32))] _
      refine XS.icmpNo X0.here hx rfl (hb hby d12_12) rfl (XT.ii_ge_f ((by decide) : (4 : Int32) < (5 : Int32))) ?_
      refine XS.aloadN X0.here hx rfl (hb hby d12_15) rfl rfl ?_
      refine XS.iloadN X0.here hx rfl (hb hby d12_16) rfl ?_
      refine X0.baloadBytes hx (j := (4 : Int32)) (v := (.int x4)) (by rw [e0]; exact Ar24.1) (State.isArrayOf_alike hZ.alike Ar24.2.1) Ar24.2.2 hin24 hat24 (g := (mkF m 17 #[rv a0, rv a1, iv (4 : Int32)] [(.int (4 : Int32)), (.ref a0)])) rfl rfl (hb hby d12_17) _ ?_
      refine XS.aloadN X0.here hx rfl (hb hby d12_18) rfl rfl ?_
      refine XS.iloadN X0.here hx rfl (hb hby d12_19) rfl ?_
      refine X0.baloadBytes hx (j := (4 : Int32)) (v := (.int y4)) (by rw [e0]; exact Ar25.1) (State.isArrayOf_alike hZ.alike Ar25.2.1) Ar25.2.2 hin25 hat25 (g := (mkF m 20 #[rv a0, rv a1, iv (4 : Int32)] [(.int (4 : Int32)), (.ref a1), (.int x4)])) rfl rfl (hb hby d12_20) _ ?_
      exact kg)
     rcases Decidable.em (x4 = y4) with hc27 | hc27
     ·
      obtain ⟨cl28, Ar28, q28, S28, N28, H28, G28⟩ := id pf0
      obtain ⟨fs, hr, hrun, hended, hW, hsame⟩ := X0.leave (v := some (.int (1 : Int32))) (fun h => by rw [Bd.returns] at h; cases h)
      subst hS0
      refine ⟨_, _, pre26 _ ?_, hrun, hended, _, _, rfl, ?_, ⟨_, rfl⟩, hW, hsame.mono (by decide) (by decide)⟩
      ·
       refine XS.icmpYes X0.here hx rfl (pc0 := 21) (pc' := 26) rfl (hb hby d12_21) rfl (XT.ii_eq_t hc27) (by decide) (by decide) ?_
       refine XS.iinc X0.here hx rfl (hb hby d12_26) rfl (l' := #[rv a0, rv a1, iv (5 : Int32)]) rfl ?_
       show AT p e below s₁ m 29 #[rv a0, rv a1, iv (5 : Int32)] [] _
       refine XS.goto X0.here hx rfl (pc0 := 29) (pc' := 9) rfl (hb hby d12_29) (by decide) (by decide) ?_
       refine XS.iloadN X0.here hx rfl (hb hby d12_9) rfl ?_
       refine XS.aloadN X0.here hx rfl (hb hby d12_10) rfl rfl ?_
       refine X0.arraylength hx (by rw [e0]; exact Ar28.1) (State.isArrayOf_alike hZ.alike Ar28.2.1) (g := (mkF m 11 #[rv a0, rv a1, iv (5 : Int32)] [(.ref a0), (.int (5 : Int32))])) rfl rfl (hb hby d12_11) _ ?_
       rw [len_of S28 N28]
       show AT p e below s₁ m 12 #[rv a0, rv a1, iv (5 : Int32)] [(.int (5 : Int32)), (.int (5 : Int32))] _
       refine XS.icmpYes X0.here hx rfl (pc0 := 12) (pc' := 32) rfl (hb hby d12_12) rfl (XT.ii_ge_t ((by decide) : ¬ ((5 : Int32) < (5 : Int32)))) (by decide) (by decide) ?_
       refine XS.iconst X0.here hx rfl (hb hby d12_32) ?_
       exact retN X0 hx (t := .boolean) Bd.returns (by simp) (hb hby d12_33) hr
      ·
       show Q12_5_5 Z a0 a1 ka kb x0 x1 x2 x3 x4 y0 y1 y2 y3 y4 h0 n0 _ s₁.heap _
       rw [e0]
       exact ⟨(by rw [f12_5_5, if_pos hc7, if_pos hc12, if_pos hc17, if_pos hc22, if_pos hc27]), N0, rfl⟩
     ·
      obtain ⟨fs, hr, hrun, hended, hW, hsame⟩ := X0.leave (v := some (.int (0 : Int32))) (fun h => by rw [Bd.returns] at h; cases h)
      subst hS0
      refine ⟨_, _, pre26 _ ?_, hrun, hended, _, _, rfl, ?_, ⟨_, rfl⟩, hW, hsame.mono (by decide) (by decide)⟩
      ·
       refine XS.icmpNo X0.here hx rfl (hb hby d12_21) rfl (XT.ii_eq_f hc27) ?_
       refine XS.iconst X0.here hx rfl (hb hby d12_24) ?_
       show AT p e below s₁ m 25 #[rv a0, rv a1, iv (4 : Int32)] [(.int (0 : Int32))] _
       exact retN X0 hx (t := .boolean) Bd.returns (by simp) (hb hby d12_25) hr
      ·
       show Q12_5_5 Z a0 a1 ka kb x0 x1 x2 x3 x4 y0 y1 y2 y3 y4 h0 n0 _ s₁.heap _
       rw [e0]
       exact ⟨(by rw [f12_5_5, if_pos hc7, if_pos hc12, if_pos hc17, if_pos hc22, if_neg hc27]), N0, rfl⟩
    ·
     obtain ⟨fs, hr, hrun, hended, hW, hsame⟩ := X0.leave (v := some (.int (0 : Int32))) (fun h => by rw [Bd.returns] at h; cases h)
     subst hS0
     refine ⟨_, _, pre21 _ ?_, hrun, hended, _, _, rfl, ?_, ⟨_, rfl⟩, hW, hsame.mono (by decide) (by decide)⟩
     ·
      refine XS.icmpNo X0.here hx rfl (hb hby d12_21) rfl (XT.ii_eq_f hc22) ?_
      show AT p e below s₁ m 24 #[rv a0, rv a1, iv (3 : Int32)] [] _
      refine XS.iconst X0.here hx rfl (hb hby d12_24) ?_
      exact retN X0 hx (t := .boolean) Bd.returns (by simp) (hb hby d12_25) hr
     ·
      show Q12_5_5 Z a0 a1 ka kb x0 x1 x2 x3 x4 y0 y1 y2 y3 y4 h0 n0 _ s₁.heap _
      rw [e0]
      exact ⟨(by rw [f12_5_5, if_pos hc7, if_pos hc12, if_pos hc17, if_neg hc22]), N0, rfl⟩
   ·
    obtain ⟨fs, hr, hrun, hended, hW, hsame⟩ := X0.leave (v := some (.int (0 : Int32))) (fun h => by rw [Bd.returns] at h; cases h)
    subst hS0
    refine ⟨_, _, pre16 _ ?_, hrun, hended, _, _, rfl, ?_, ⟨_, rfl⟩, hW, hsame.mono (by decide) (by decide)⟩
    ·
     refine XS.icmpNo X0.here hx rfl (hb hby d12_21) rfl (XT.ii_eq_f hc17) ?_
     refine XS.iconst X0.here hx rfl (hb hby d12_24) ?_
     exact retN X0 hx (t := .boolean) Bd.returns (by simp) (hb hby d12_25) hr
    ·
     show Q12_5_5 Z a0 a1 ka kb x0 x1 x2 x3 x4 y0 y1 y2 y3 y4 h0 n0 _ s₁.heap _
     rw [e0]
     exact ⟨(by rw [f12_5_5, if_pos hc7, if_pos hc12, if_neg hc17]), N0, rfl⟩
  ·
   obtain ⟨fs, hr, hrun, hended, hW, hsame⟩ := X0.leave (v := some (.int (0 : Int32))) (fun h => by rw [Bd.returns] at h; cases h)
   subst hS0
   refine ⟨_, _, pre11 _ ?_, hrun, hended, _, _, rfl, ?_, ⟨_, rfl⟩, hW, hsame.mono (by decide) (by decide)⟩
   ·
    refine XS.icmpNo X0.here hx rfl (hb hby d12_21) rfl (XT.ii_eq_f hc12) ?_
    refine XS.iconst X0.here hx rfl (hb hby d12_24) ?_
    exact retN X0 hx (t := .boolean) Bd.returns (by simp) (hb hby d12_25) hr
   ·
    show Q12_5_5 Z a0 a1 ka kb x0 x1 x2 x3 x4 y0 y1 y2 y3 y4 h0 n0 _ s₁.heap _
    rw [e0]
    exact ⟨(by rw [f12_5_5, if_pos hc7, if_neg hc12]), N0, rfl⟩
 ·
  obtain ⟨fs, hr, hrun, hended, hW, hsame⟩ := X0.leave (v := some (.int (0 : Int32))) (fun h => by rw [Bd.returns] at h; cases h)
  subst hS0
  refine ⟨_, _, pre6 _ ?_, hrun, hended, _, _, rfl, ?_, ⟨_, rfl⟩, hW, hsame.mono (by decide) (by decide)⟩
  ·
   refine XS.icmpNo X0.here hx rfl (hb hby d12_21) rfl (XT.ii_eq_f hc7) ?_
   refine XS.iconst X0.here hx rfl (hb hby d12_24) ?_
   exact retN X0 hx (t := .boolean) Bd.returns (by simp) (hb hby d12_25) hr
  ·
   show Q12_5_5 Z a0 a1 ka kb x0 x1 x2 x3 x4 y0 y1 y2 y3 y4 h0 n0 _ s₁.heap _
   rw [e0]
   exact ⟨(by rw [f12_5_5, if_neg hc7]), N0, rfl⟩

theorem d11_50 : decode jdk_42_method_66_code 50 = .ok (.iconst 1, 1) := by decide +kernel
theorem d11_51 : decode jdk_42_method_66_code 51 = .ok (.goto 4, 3) := by decide +kernel
theorem ef_11_5_5 (m : MethodId) (a0 : Addr) (a1 : Addr) : entryFrame m #[(.ref a0), (.ref a1)] 3 = mkF m 0 #[rv a0, rv a1, un] [] := by first | (simp [entryFrame, mkF, argsToLocals, Value.category]; done) | rfl
def f11_5_5 (x0 : Int32) (x1 : Int32) (x2 : Int32) (x3 : Int32) (x4 : Int32) (y0 : Int32) (y1 : Int32) (y2 : Int32) (y3 : Int32) (y4 : Int32) : Int32 := if (f12_5_5 x0 x1 x2 x3 x4 y0 y1 y2 y3 y4) = (0 : Int32) then (0 : Int32) else (1 : Int32)
def Q11_5_5 (Z : State) (a0 : Addr) (a1 : Addr) (w_CS0 : Int32) (w_SF1 : Value) (w_PRODUCER : Addr) (w__VALUES : Addr) (w_WORKER : Addr) (w_OPERATOR : Addr) (w_ADMIN : Addr) (w_PRODUCER_shown : Addr) (w_PRODUCER_shown_value : Addr) (w_WORKER_shown : Addr) (w_WORKER_shown_value : Addr) (w_OPERATOR_shown : Addr) (w_OPERATOR_shown_value : Addr) (w_ADMIN_shown : Addr) (w_ADMIN_shown_value : Addr) (k__VALUES : ClassId) (k_PRODUCER_shown_value : ClassId) (k_WORKER_shown_value : ClassId) (k_OPERATOR_shown_value : ClassId) (k_ADMIN_shown_value : ClassId) (u : Addr) (w : Addr) (ka : ClassId) (kb : ClassId) (x0 : Int32) (x1 : Int32) (x2 : Int32) (x3 : Int32) (x4 : Int32) (y0 : Int32) (y1 : Int32) (y2 : Int32) (y3 : Int32) (y4 : Int32) (h0 : Heap) (n0 : Nat) (v : Option Value) (h : Heap) (L : List Loc) : Prop := v = some (.int (f11_5_5 x0 x1 x2 x3 x4 y0 y1 y2 y3 y4)) ∧ Fr n0 L ∧ h = h0
set_option maxRecDepth 65536 in
set_option maxHeartbeats 40000000 in
theorem rm11_5_5 (l : Launch) (Z : State) (ar : Array Value) (hw : ∀ d ∈ tables_1, d.before ar Z = true) (ws : List Jvm.Cond) (a0 : Addr) (a1 : Addr) (w_CS0 : Int32) (w_SF1 : Value) (w_PRODUCER : Addr) (w__VALUES : Addr) (w_WORKER : Addr) (w_OPERATOR : Addr) (w_ADMIN : Addr) (w_PRODUCER_shown : Addr) (w_PRODUCER_shown_value : Addr) (w_WORKER_shown : Addr) (w_WORKER_shown_value : Addr) (w_OPERATOR_shown : Addr) (w_OPERATOR_shown_value : Addr) (w_ADMIN_shown : Addr) (w_ADMIN_shown_value : Addr) (k__VALUES : ClassId) (k_PRODUCER_shown_value : ClassId) (k_WORKER_shown_value : ClassId) (k_OPERATOR_shown_value : ClassId) (k_ADMIN_shown_value : ClassId) (u : Addr) (w : Addr) (ka : ClassId) (kb : ClassId) (x0 : Int32) (x1 : Int32) (x2 : Int32) (x3 : Int32) (x4 : Int32) (y0 : Int32) (y1 : Int32) (y2 : Int32) (y3 : Int32) (y4 : Int32) (h0 : Heap) (n0 : Nat) (O0 : Old Z n0 h0) (HW : Wd Z w_CS0 w_SF1 w_PRODUCER w__VALUES w_WORKER w_OPERATOR w_ADMIN w_PRODUCER_shown w_PRODUCER_shown_value w_WORKER_shown w_WORKER_shown_value w_OPERATOR_shown w_OPERATOR_shown_value w_ADMIN_shown w_ADMIN_shown_value k__VALUES k_PRODUCER_shown_value k_WORKER_shown_value k_OPERATOR_shown_value k_ADMIN_shown_value) (pf0 : Exa Z h0 a0 "java/lang/String") (pf1 : Exa Z h0 a1 "java/lang/String") (pf2 : Fld Z h0 a0 "java/lang/String" "coder" "B" (.int (0 : Int32))) (pf3 : Fld Z h0 a1 "java/lang/String" "coder" "B" (.int (0 : Int32))) (pf4 : Fld Z h0 a0 "java/lang/String" "value" "[B" (.ref u)) (pf5 : Fld Z h0 a1 "java/lang/String" "value" "[B" (.ref w)) (pf6 : Arv Z h0 u ka .byte (5 : Int32) [(.int x0), (.int x1), (.int x2), (.int x3), (.int x4)] (.int (0 : Int32))) (pf7 : Arv Z h0 w kb .byte (5 : Int32) [(.int y0), (.int y1), (.int y2), (.int y3), (.int y4)] (.int (0 : Int32))) (pf8 : a0 ≠ a1) :
    MetFree l y11 (head1 (Jvm.Cond.code y11 jdk_42_method_66_code 3 (some .boolean) :: ws) ({ frames := 1, cells := 0, slots := 0, locals := 14 } : Room)) (fun a U => a = #[(.ref a0), (.ref a1)] ∧ Z.Warmed39 U.vm ∧ U.heap = h0) (fun _ _ _ _ _ => True) (fun _ U o U' => ∃ v L, o = .returned v ∧ Q11_5_5 Z a0 a1 w_CS0 w_SF1 w_PRODUCER w__VALUES w_WORKER w_OPERATOR w_ADMIN w_PRODUCER_shown w_PRODUCER_shown_value w_WORKER_shown w_WORKER_shown_value w_OPERATOR_shown w_OPERATOR_shown_value w_ADMIN_shown w_ADMIN_shown_value k__VALUES k_PRODUCER_shown_value k_WORKER_shown_value k_OPERATOR_shown_value k_ADMIN_shown_value u w ka kb x0 x1 x2 x3 x4 y0 y1 y2 y3 y4 h0 n0 v U'.heap L ∧ FrameEnd U o U' L ({ frames := 1, cells := 0, slots := 0, locals := 14 } : Room).cells ({ frames := 1, cells := 0, slots := 0, locals := 14 } : Room).slots) := by
 refine MetFree.of_bodySF (plainFor_of_name pn_2) hisR ?_
 intro p e s m args below meth c s₁ Bd hml0 hP hK
 obtain ⟨rfl, hZ, hh⟩ := hP
 have hx := Bd.exec
 have hby := Bd.bytes
 have hml : c.maxLocals = 3 := hml0
 have hown : s.vm.findClass "java/lang/String" = some m.cls := findClass_of_methodNamed Bd.named
 have hnm := (name_of_methodNamed Bd.named Bd.method).1
 have X0 : Stand p l e ({ frames := 1, cells := 0, slots := 0, locals := 14 } : Room) s m #[(.ref a0), (.ref a1)] below meth c s₁ [] 0 0 := Stand.of_body Bd
 have e0 : s₁.heap = h0 := by rw [← hh, Bd.state]; rfl
 have N0 := Fr.nil n0
 have Z0 : n0 ≤ h0.size := Nat.le_trans (Nat.le_of_eq O0.1.symm) O0.2.1
 obtain ⟨S0, hS0⟩ : ∃ z, z = s₁.setTop (entryFrame m #[(.ref a0), (.ref a1)] 3) := ⟨_, rfl⟩
 have pre0 : ∀ tg, AT p e below s₁ m 0 #[rv a0, rv a1, un] [] tg → Steps p.tables e below S0 tg := fun tg kg => by rw [hS0]; exact castTop (ef_11_5_5 m a0 a1) kg
 obtain ⟨S_COMPACT_STRINGS, hz_w_CS0, S_SIOOBE_FORMATTER, ir_w_SF1, S_PRODUCER, E_PRODUCER, S__VALUES, E__VALUES, S_WORKER, E_WORKER, S_OPERATOR, E_OPERATOR, S_ADMIN, E_ADMIN, F_shown_PRODUCER, E_PRODUCER_shown, F_coder_PRODUCER_shown, F_value_PRODUCER_shown, F_shown_WORKER, E_WORKER_shown, F_coder_WORKER_shown, F_value_WORKER_shown, F_shown_OPERATOR, E_OPERATOR_shown, F_coder_OPERATOR_shown, F_value_OPERATOR_shown, F_shown_ADMIN, E_ADMIN_shown, F_coder_ADMIN_shown, F_value_ADMIN_shown, V__VALUES, V_PRODUCER_shown_value, V_WORKER_shown_value, V_OPERATOR_shown_value, V_ADMIN_shown_value⟩ := id HW
 obtain ⟨T1, X1, e1, st1⟩ := instY X0 hx hZ hown (ow hw 68 rfl) e0 (Ins.self pf1) (g := (mkF m 8 #[rv a0, rv a1, un] [(.ref a1)])) rfl rfl (hb hby d11_8)
 obtain ⟨T2, X2, e2, st2⟩ := castY X1 hx hZ hown (ow hw 68 rfl) e1 (Ins.self pf1) (g := (mkF m 15 #[rv a0, rv a1, un] [(.ref a1)])) rfl rfl (hb hby d11_15)
 obtain ⟨T3, X3, e3, st3⟩ := getS2 X2 hx hZ hown (host := "") (Or.inl (ow hw 24 rfl)) Via.refl e2 (S_COMPACT_STRINGS.ext O0.2) (g := (mkF m 19 #[rv a0, rv a1, rv a1] [])) rfl (hb hby d11_19)
 obtain ⟨T4, X4, e4, st4⟩ := getF X3 hx hZ hown (host := "") (Or.inl (ow hw 36 rfl)) Via.refl e3 pf2 (g := (mkF m 26 #[rv a0, rv a1, rv a1] [(.ref a0)])) rfl rfl (hb hby d11_26)
 obtain ⟨T5, X5, e5, st5⟩ := getF X4 hx hZ hown (host := "") (Or.inl (ow hw 36 rfl)) Via.refl e4 pf3 (g := (mkF m 30 #[rv a0, rv a1, rv a1] [(.ref a1), (.int (0 : Int32))])) rfl rfl (hb hby d11_30)
 obtain ⟨T6, X6, e6, st6⟩ := getF X5 hx hZ hown (host := "") (Or.inl (ow hw 38 rfl)) Via.refl e5 pf4 (g := (mkF m 37 #[rv a0, rv a1, rv a1] [(.ref a0)])) rfl rfl (hb hby d11_37)
 obtain ⟨T7, X7, e7, st7⟩ := getF X6 hx hZ hown (host := "") (Or.inl (ow hw 38 rfl)) Via.refl e6 pf5 (g := (mkF m 41 #[rv a0, rv a1, rv a1] [(.ref a1), (.ref u)])) rfl rfl (hb hby d11_41)
 obtain ⟨_, _, ⟨T8, L8, k8, n8⟩, -, X8, ⟨Lc8, hQ8, l8, y8, z8⟩, st8⟩ := Jvm.LawKit.callS X7 hx (y := y12) hown (mvT hZ (ow hw 69 rfl)) (mvT hZ (ow hw 70 rfl)) (mvT hZ (ow hw 71 rfl)) (mvT hZ (ow hw 72 rfl)) (by decide) (backOf (W := 0) (rm12_5_5 l Z ar hw [] u w ka kb x0 x1 x2 x3 x4 y0 y1 y2 y3 y4 h0 n0 O0 pf6 pf7) hZ (ow hw 72 rfl) (ow hw 71 rfl) (by decide) (by decide)) (g := (mkF m 44 #[rv a0, rv a1, rv a1] [(.ref w), (.ref u)])) rfl (by rw [hml]; rfl) (argsL := [(.ref u), (.ref w)]) (rest := []) (lenOf pd_2 rfl) rfl (by show 2 * 0 + _ ≤ _; exact Nat.le_of_eq rfl) (hb hby d11_44) (fun _ _ => ⟨rfl, e7, (by decide : 0 + 0 ≤ _), (by decide : 0 + 0 ≤ _)⟩)
 dsimp only [Pt.U, Pt.locs, Pt.cells, Pt.slots] at X8 l8 y8 z8 st8 hQ8
 subst l8 y8 z8
 obtain ⟨rfl, N8q, e8⟩ := hQ8
 have N8 := Fr.app N0 N8q
 have pre9 : ∀ tg, AT p e below T8 m 47 #[rv a0, rv a1, rv a1] [(.int (f12_5_5 x0 x1 x2 x3 x4 y0 y1 y2 y3 y4))] tg → Steps p.tables e below S0 tg := fun tg kg => pre0 tg (by
  refine XS.aloadN X0.here hx rfl (hb hby d11_0) rfl rfl ?_
  refine XS.aloadN X0.here hx rfl (hb hby d11_1) rfl rfl ?_
  show AT p e below s₁ m 2 #[rv a0, rv a1, un] [(.ref a1), (.ref a0)] _
  refine Jvm.RoadKit.acmp (g := (mkF m 2 #[rv a0, rv a1, un] [(.ref a1), (.ref a0)])) X0 hx rfl rfl rfl (pc0 := 2) (pc' := 7) (same := false) rfl (hb hby d11_2) rfl (decide_eq_false fun q => (pf8 : ¬ (a0 = a1)) (Value.ref.inj q)) (by decide) (by decide) ?_
  refine XS.aloadN X0.here hx rfl (hb hby d11_7) rfl rfl ?_
  refine st1 _ ?_
  show AT p e below T1 m 11 #[rv a0, rv a1, un] [(.int (1 : Int32))] _
  refine XS.ifNo X1.here hx rfl (hb hby d11_11) rfl (XT.i0_eq_f ((by decide) : ¬ ((1 : Int32) = (0 : Int32)))) ?_
  refine XS.aloadN X1.here hx rfl (hb hby d11_14) rfl rfl ?_
  refine st2 _ ?_
  refine XS.astoreN X2.here hx rfl (hb hby d11_18) rfl rfl (l' := #[rv a0, rv a1, rv a1]) rfl ?_
  refine st3 _ ?_
  show AT p e below T3 m 22 #[rv a0, rv a1, rv a1] [(.int w_CS0)] _
  refine XS.ifNo X3.here hx rfl (hb hby d11_22) rfl (XT.i0_eq_f (hz_w_CS0 : ¬ (w_CS0 = (0 : Int32)))) ?_
  refine XS.aloadN X3.here hx rfl (hb hby d11_25) rfl rfl ?_
  refine st4 _ ?_
  refine XS.aloadN X4.here hx rfl (hb hby d11_29) rfl rfl ?_
  refine st5 _ ?_
  show AT p e below T5 m 33 #[rv a0, rv a1, rv a1] [(.int (0 : Int32)), (.int (0 : Int32))] _
  refine XS.icmpNo X5.here hx rfl (hb hby d11_33) rfl (XT.ii_ne_f ((by decide) : (0 : Int32) = (0 : Int32))) ?_
  show AT p e below T5 m 36 #[rv a0, rv a1, rv a1] [] _
  refine XS.aloadN X5.here hx rfl (hb hby d11_36) rfl rfl ?_
  refine st6 _ ?_
  refine XS.aloadN X6.here hx rfl (hb hby d11_40) rfl rfl ?_
  refine st7 _ ?_
  refine st8 _ ?_
  exact kg)
 rcases Decidable.em ((f12_5_5 x0 x1 x2 x3 x4 y0 y1 y2 y3 y4) = (0 : Int32)) with hc10 | hc10
 ·
  obtain ⟨fs, hr, hrun, hended, hW, hsame⟩ := X8.leave (v := some (.int (0 : Int32))) (fun h => by rw [Bd.returns] at h; cases h)
  subst hS0
  refine ⟨_, _, pre9 _ ?_, hrun, hended, _, _, rfl, ?_, ⟨_, rfl⟩, hW, hsame.mono (by decide) (by decide)⟩
  ·
   refine XS.ifYes X8.here hx rfl (pc0 := 47) (pc' := 54) rfl (hb hby d11_47) rfl (XT.i0_eq_t hc10) (by decide) (by decide) ?_
   refine XS.iconst X8.here hx rfl (hb hby d11_54) ?_
   exact retN X8 hx (t := .boolean) Bd.returns (by simp) (hb hby d11_55) hr
  ·
   show Q11_5_5 Z a0 a1 w_CS0 w_SF1 w_PRODUCER w__VALUES w_WORKER w_OPERATOR w_ADMIN w_PRODUCER_shown w_PRODUCER_shown_value w_WORKER_shown w_WORKER_shown_value w_OPERATOR_shown w_OPERATOR_shown_value w_ADMIN_shown w_ADMIN_shown_value k__VALUES k_PRODUCER_shown_value k_WORKER_shown_value k_OPERATOR_shown_value k_ADMIN_shown_value u w ka kb x0 x1 x2 x3 x4 y0 y1 y2 y3 y4 h0 n0 _ T8.heap _
   rw [e8]
   exact ⟨(by rw [f11_5_5, if_pos hc10]), N8, rfl⟩
 ·
  obtain ⟨fs, hr, hrun, hended, hW, hsame⟩ := X8.leave (v := some (.int (1 : Int32))) (fun h => by rw [Bd.returns] at h; cases h)
  subst hS0
  refine ⟨_, _, pre9 _ ?_, hrun, hended, _, _, rfl, ?_, ⟨_, rfl⟩, hW, hsame.mono (by decide) (by decide)⟩
  ·
   refine XS.ifNo X8.here hx rfl (hb hby d11_47) rfl (XT.i0_eq_f hc10) ?_
   refine XS.iconst X8.here hx rfl (hb hby d11_50) ?_
   refine XS.goto X8.here hx rfl (pc0 := 51) (pc' := 55) rfl (hb hby d11_51) (by decide) (by decide) ?_
   exact retN X8 hx (t := .boolean) Bd.returns (by simp) (hb hby d11_55) hr
  ·
   show Q11_5_5 Z a0 a1 w_CS0 w_SF1 w_PRODUCER w__VALUES w_WORKER w_OPERATOR w_ADMIN w_PRODUCER_shown w_PRODUCER_shown_value w_WORKER_shown w_WORKER_shown_value w_OPERATOR_shown w_OPERATOR_shown_value w_ADMIN_shown w_ADMIN_shown_value k__VALUES k_PRODUCER_shown_value k_WORKER_shown_value k_OPERATOR_shown_value k_ADMIN_shown_value u w ka kb x0 x1 x2 x3 x4 y0 y1 y2 y3 y4 h0 n0 _ T8.heap _
   rw [e8]
   exact ⟨(by rw [f11_5_5, if_neg hc10]), N8, rfl⟩

theorem d9_36 : decode prog_7_method_5_code 36 = .ok (.aload 5, 2) := by decide +kernel
theorem d9_38 : decode prog_7_method_5_code 38 = .ok (.astore_n 1, 1) := by decide +kernel
theorem ef_9_5 (m : MethodId) (a0 : Addr) : entryFrame m #[(.ref a0)] 6 = mkF m 0 #[rv a0, un, un, un, un, un] [] := by first | (simp [entryFrame, mkF, argsToLocals, Value.category]; done) | rfl
def f9_5 (w_ADMIN : Addr) (y0 : Int32) (y1 : Int32) (y2 : Int32) (y3 : Int32) (y4 : Int32) : Value := if (f11_5_5 (97 : Int32) (100 : Int32) (109 : Int32) (105 : Int32) (110 : Int32) y0 y1 y2 y3 y4) = (0 : Int32) then .null else (.ref w_ADMIN)
def Q9_5 (Z : State) (a0 : Addr) (w_CS0 : Int32) (w_SF1 : Value) (w_PRODUCER : Addr) (w__VALUES : Addr) (w_WORKER : Addr) (w_OPERATOR : Addr) (w_ADMIN : Addr) (w_PRODUCER_shown : Addr) (w_PRODUCER_shown_value : Addr) (w_WORKER_shown : Addr) (w_WORKER_shown_value : Addr) (w_OPERATOR_shown : Addr) (w_OPERATOR_shown_value : Addr) (w_ADMIN_shown : Addr) (w_ADMIN_shown_value : Addr) (k__VALUES : ClassId) (k_PRODUCER_shown_value : ClassId) (k_WORKER_shown_value : ClassId) (k_OPERATOR_shown_value : ClassId) (k_ADMIN_shown_value : ClassId) (u : Addr) (ku : ClassId) (y0 : Int32) (y1 : Int32) (y2 : Int32) (y3 : Int32) (y4 : Int32) (h0 : Heap) (n0 : Nat) (v : Option Value) (h : Heap) (L : List Loc) : Prop := v = some (f9_5 w_ADMIN y0 y1 y2 y3 y4) ∧ Fr n0 L ∧ Keep h0 h []
set_option maxRecDepth 65536 in
set_option maxHeartbeats 40000000 in
theorem rm9_5 (l : Launch) (Z : State) (ar : Array Value) (hw : ∀ d ∈ tables_1, d.before ar Z = true) (ws : List Jvm.Cond) (a0 : Addr) (w_CS0 : Int32) (w_SF1 : Value) (w_PRODUCER : Addr) (w__VALUES : Addr) (w_WORKER : Addr) (w_OPERATOR : Addr) (w_ADMIN : Addr) (w_PRODUCER_shown : Addr) (w_PRODUCER_shown_value : Addr) (w_WORKER_shown : Addr) (w_WORKER_shown_value : Addr) (w_OPERATOR_shown : Addr) (w_OPERATOR_shown_value : Addr) (w_ADMIN_shown : Addr) (w_ADMIN_shown_value : Addr) (k__VALUES : ClassId) (k_PRODUCER_shown_value : ClassId) (k_WORKER_shown_value : ClassId) (k_OPERATOR_shown_value : ClassId) (k_ADMIN_shown_value : ClassId) (u : Addr) (ku : ClassId) (y0 : Int32) (y1 : Int32) (y2 : Int32) (y3 : Int32) (y4 : Int32) (h0 : Heap) (n0 : Nat) (O0 : Old Z n0 h0) (HW : Wd Z w_CS0 w_SF1 w_PRODUCER w__VALUES w_WORKER w_OPERATOR w_ADMIN w_PRODUCER_shown w_PRODUCER_shown_value w_WORKER_shown w_WORKER_shown_value w_OPERATOR_shown w_OPERATOR_shown_value w_ADMIN_shown w_ADMIN_shown_value k__VALUES k_PRODUCER_shown_value k_WORKER_shown_value k_OPERATOR_shown_value k_ADMIN_shown_value) (pf0 : Exa Z h0 a0 "java/lang/String") (pf1 : Fld Z h0 a0 "java/lang/String" "coder" "B" (.int (0 : Int32))) (pf2 : Fld Z h0 a0 "java/lang/String" "value" "[B" (.ref u)) (pf3 : Arv Z h0 u ku .byte (5 : Int32) [(.int y0), (.int y1), (.int y2), (.int y3), (.int y4)] (.int (0 : Int32))) (pf4 : n0 ≤ a0) :
    MetFree l y9 (head1 (Jvm.Cond.code y9 prog_7_method_5_code 6 (some (.object "com/example/lease/lease/Role")) :: ws) ({ frames := 2, cells := 1, slots := 4, locals := 28 } : Room)) (fun a U => a = #[(.ref a0)] ∧ Z.Warmed39 U.vm ∧ U.heap = h0) (fun _ _ _ _ _ => True) (fun _ U o U' => ∃ v L, o = .returned v ∧ Q9_5 Z a0 w_CS0 w_SF1 w_PRODUCER w__VALUES w_WORKER w_OPERATOR w_ADMIN w_PRODUCER_shown w_PRODUCER_shown_value w_WORKER_shown w_WORKER_shown_value w_OPERATOR_shown w_OPERATOR_shown_value w_ADMIN_shown w_ADMIN_shown_value k__VALUES k_PRODUCER_shown_value k_WORKER_shown_value k_OPERATOR_shown_value k_ADMIN_shown_value u ku y0 y1 y2 y3 y4 h0 n0 v U'.heap L ∧ FrameEnd U o U' L ({ frames := 2, cells := 1, slots := 4, locals := 28 } : Room).cells ({ frames := 2, cells := 1, slots := 4, locals := 28 } : Room).slots) := by
 refine MetFree.of_bodySF (plainFor_of_name pn_1) hisR ?_
 intro p e s m args below meth c s₁ Bd hml0 hP hK
 obtain ⟨rfl, hZ, hh⟩ := hP
 have hx := Bd.exec
 have hby := Bd.bytes
 have hml : c.maxLocals = 6 := hml0
 have hown : s.vm.findClass "com/example/lease/lease/Role" = some m.cls := findClass_of_methodNamed Bd.named
 have hnm := (name_of_methodNamed Bd.named Bd.method).1
 have X0 : Stand p l e ({ frames := 2, cells := 1, slots := 4, locals := 28 } : Room) s m #[(.ref a0)] below meth c s₁ [] 0 0 := Stand.of_body Bd
 have e0 : s₁.heap = h0 := by rw [← hh, Bd.state]; rfl
 have N0 := Fr.nil n0
 have Z0 : n0 ≤ h0.size := Nat.le_trans (Nat.le_of_eq O0.1.symm) O0.2.1
 obtain ⟨S0, hS0⟩ : ∃ z, z = s₁.setTop (entryFrame m #[(.ref a0)] 6) := ⟨_, rfl⟩
 have pre0 : ∀ tg, AT p e below s₁ m 0 #[rv a0, un, un, un, un, un] [] tg → Steps p.tables e below S0 tg := fun tg kg => by rw [hS0]; exact castTop (ef_9_5 m a0) kg
 obtain ⟨S_COMPACT_STRINGS, hz_w_CS0, S_SIOOBE_FORMATTER, ir_w_SF1, S_PRODUCER, E_PRODUCER, S__VALUES, E__VALUES, S_WORKER, E_WORKER, S_OPERATOR, E_OPERATOR, S_ADMIN, E_ADMIN, F_shown_PRODUCER, E_PRODUCER_shown, F_coder_PRODUCER_shown, F_value_PRODUCER_shown, F_shown_WORKER, E_WORKER_shown, F_coder_WORKER_shown, F_value_WORKER_shown, F_shown_OPERATOR, E_OPERATOR_shown, F_coder_OPERATOR_shown, F_value_OPERATOR_shown, F_shown_ADMIN, E_ADMIN_shown, F_coder_ADMIN_shown, F_value_ADMIN_shown, V__VALUES, V_PRODUCER_shown_value, V_WORKER_shown_value, V_OPERATOR_shown_value, V_ADMIN_shown_value⟩ := id HW
 obtain ⟨_, _, ⟨T1, L1, k1, n1⟩, -, X1, ⟨Lc1, hQ1, l1, y1, z1⟩, st1⟩ := Jvm.LawKit.callS X0 hx (y := y10) hown (mvT hZ (ow hw 43 rfl)) (mvT hZ (ow hw 44 rfl)) (mvT hZ (ow hw 5 rfl)) (mvT hZ (ow hw 45 rfl)) (by decide) (backOf (W := 0) (rm10 l Z ar hw [] w_CS0 w_SF1 w_PRODUCER w__VALUES w_WORKER w_OPERATOR w_ADMIN w_PRODUCER_shown w_PRODUCER_shown_value w_WORKER_shown w_WORKER_shown_value w_OPERATOR_shown w_OPERATOR_shown_value w_ADMIN_shown w_ADMIN_shown_value k__VALUES k_PRODUCER_shown_value k_WORKER_shown_value k_OPERATOR_shown_value k_ADMIN_shown_value h0 n0 O0 HW) hZ (ow hw 45 rfl) (ow hw 5 rfl) (by decide) (by decide)) (g := (mkF m 2 #[rv a0, .val .null, un, un, un, un] [])) rfl (by rw [hml]; rfl) (argsL := []) (rest := []) (lenOf pd_0 rfl) rfl (by show 2 * 0 + _ ≤ _; exact Nat.le_of_eq rfl) (hb hby d9_2) (fun _ _ => ⟨rfl, e0, (by decide : 0 + 1 ≤ _), (by decide : 0 + 4 ≤ _)⟩)
 dsimp only [Pt.U, Pt.locs, Pt.cells, Pt.slots] at X1 l1 y1 z1 st1 hQ1
 subst l1 y1 z1
 obtain ⟨b_1, kb_1, rfl, N1q, Kq1, u1_0, u1_1, u1_2⟩ := hQ1
 have N1 := Fr.app N0 N1q
 have E1_2 := pf0.keep Kq1
 have F1_3 := pf1.keep Kq1 nin0
 have F1_4 := pf2.keep Kq1 nin0
 have V1_5 := pf3.keep Kq1 nin0
 have K1 := (Keep.refl h0 []).trans Kq1 all0
 have O1 := O0.keep Kq1 all0
 have sz6 : h0.size ≤ b_1 := Nat.le_trans (Keep.refl h0 []).1 u1_1
 have gn6 : n0 ≤ b_1 := Nat.le_trans (Nat.le_trans (Nat.le_of_eq O0.1.symm) O0.2.1) u1_1
 have ne7 : a0 ≠ b_1 := Nat.ne_of_lt (Nat.lt_of_lt_of_le (pf0).lt u1_1)
 have ne8 : u ≠ b_1 := Nat.ne_of_lt (Nat.lt_of_lt_of_le (pf3).lt u1_1)
 obtain ⟨cl9, Ar9, q9, S9, N9, H9, G9⟩ := id u1_0
 obtain ⟨cl10, Ar10, q10, S10, N10, H10, G10⟩ := id u1_0
 have hin10 := own_in (0 : Int32) S10 ⟨by decide, by decide⟩
 have hat10 : cl10.slots[((0 : Int32)).toNatClampNeg]? = some (.ref w_PRODUCER) := Has.at H10 hin10 rfl
 obtain ⟨T11, X11, e11, st11⟩ := getF X1 hx hZ hown (host := "") (Or.inl (ow hw 61 rfl)) Via.refl rfl (F_shown_PRODUCER.ext O1.2) (g := (mkF m 26 #[rv a0, .val .null, rv b_1, iv (4 : Int32), iv (0 : Int32), rv w_PRODUCER] [(.ref w_PRODUCER)])) rfl rfl (hb hby d9_26)
 obtain ⟨cq12, kq12, q12a, q12b, q12c⟩ := isOf hZ e11 (E_PRODUCER_shown.ext O1.2)
 obtain ⟨_, _, ⟨T12, L12, k12, n12⟩, -, X12, ⟨Lc12, hQ12, l12, y12, z12⟩, st12⟩ := X11.virtualBack hx (y := y11) (z := y11) hown (mvT hZ (ow hw 63 rfl)) (mvT hZ (ow hw 64 rfl)) (notFace_of_selects (args := #[]) (mvT hZ (ow hw 66 rfl))) (mvT hZ (ow hw 66 rfl)) (mvT hZ (ow hw 65 rfl)) (by decide) (backOf (W := 0) (rm11_8x l Z ar hw [] w_PRODUCER_shown a0 w_CS0 w_SF1 w_PRODUCER w__VALUES w_WORKER w_OPERATOR w_ADMIN w_PRODUCER_shown w_PRODUCER_shown_value w_WORKER_shown w_WORKER_shown_value w_OPERATOR_shown w_OPERATOR_shown_value w_ADMIN_shown w_ADMIN_shown_value k__VALUES k_PRODUCER_shown_value k_WORKER_shown_value k_OPERATOR_shown_value k_ADMIN_shown_value w_PRODUCER_shown_value u k_PRODUCER_shown_value ku (5 : Int32) [(.int y0), (.int y1), (.int y2), (.int y3), (.int y4)] (112 : Int32) (114 : Int32) (111 : Int32) (100 : Int32) (117 : Int32) (99 : Int32) (101 : Int32) (114 : Int32) T1.heap n0 O1 HW (E_PRODUCER_shown.ext O1.2) E1_2 (F_coder_PRODUCER_shown.ext O1.2) F1_3 (F_value_PRODUCER_shown.ext O1.2) F1_4 (V_PRODUCER_shown_value.ext O1.2) V1_5 (Old.ne O1 E_PRODUCER_shown.lt pf4) (by decide)) hZ (ow hw 67 rfl) (ow hw 13 rfl) (by decide) (by decide)) q12a q12c (g := (mkF m 30 #[rv a0, .val .null, rv b_1, iv (4 : Int32), iv (0 : Int32), rv w_PRODUCER] [(.ref a0), (.ref w_PRODUCER_shown)])) rfl (by rw [hml]; rfl) (Steps.refl _) (argsL := [(.ref a0)]) (rest := []) (lenOf pd_1 rfl) rfl (by show 2 * 0 + _ ≤ _; exact Nat.le_of_eq rfl) (hb hby d9_30) (fun _ _ => ⟨rfl, e11, (by decide : 1 + 0 ≤ _), (by decide : 4 + 0 ≤ _)⟩)
 dsimp only [Pt.U, Pt.locs, Pt.cells, Pt.slots] at X12 l12 y12 z12 st12 hQ12
 subst l12 y12 z12
 obtain ⟨rfl, N12q, e12⟩ := hQ12
 have N12 := Fr.app N1 N12q
 obtain ⟨cl13, Ar13, q13, S13, N13, H13, G13⟩ := id u1_0
 have hin13 := own_in (1 : Int32) S13 ⟨by decide, by decide⟩
 have hat13 : cl13.slots[((1 : Int32)).toNatClampNeg]? = some (.ref w_WORKER) := Has.at H13 hin13 rfl
 obtain ⟨T14, X14, e14, st14⟩ := getF X12 hx hZ hown (host := "") (Or.inl (ow hw 61 rfl)) Via.refl e12 (F_shown_WORKER.ext O1.2) (g := (mkF m 26 #[rv a0, .val .null, rv b_1, iv (4 : Int32), iv (1 : Int32), rv w_WORKER] [(.ref w_WORKER)])) rfl rfl (hb hby d9_26)
 obtain ⟨cq15, kq15, q15a, q15b, q15c⟩ := isOf hZ e14 (E_WORKER_shown.ext O1.2)
 obtain ⟨_, _, ⟨T15, L15, k15, n15⟩, -, X15, ⟨Lc15, hQ15, l15, y15, z15⟩, st15⟩ := X14.virtualBack hx (y := y11) (z := y11) hown (mvT hZ (ow hw 63 rfl)) (mvT hZ (ow hw 64 rfl)) (notFace_of_selects (args := #[]) (mvT hZ (ow hw 66 rfl))) (mvT hZ (ow hw 66 rfl)) (mvT hZ (ow hw 65 rfl)) (by decide) (backOf (W := 0) (rm11_6x l Z ar hw [] w_WORKER_shown a0 w_CS0 w_SF1 w_PRODUCER w__VALUES w_WORKER w_OPERATOR w_ADMIN w_PRODUCER_shown w_PRODUCER_shown_value w_WORKER_shown w_WORKER_shown_value w_OPERATOR_shown w_OPERATOR_shown_value w_ADMIN_shown w_ADMIN_shown_value k__VALUES k_PRODUCER_shown_value k_WORKER_shown_value k_OPERATOR_shown_value k_ADMIN_shown_value w_WORKER_shown_value u k_WORKER_shown_value ku (5 : Int32) [(.int y0), (.int y1), (.int y2), (.int y3), (.int y4)] (119 : Int32) (111 : Int32) (114 : Int32) (107 : Int32) (101 : Int32) (114 : Int32) T1.heap n0 O1 HW (E_WORKER_shown.ext O1.2) E1_2 (F_coder_WORKER_shown.ext O1.2) F1_3 (F_value_WORKER_shown.ext O1.2) F1_4 (V_WORKER_shown_value.ext O1.2) V1_5 (Old.ne O1 E_WORKER_shown.lt pf4) (by decide)) hZ (ow hw 67 rfl) (ow hw 13 rfl) (by decide) (by decide)) q15a q15c (g := (mkF m 30 #[rv a0, .val .null, rv b_1, iv (4 : Int32), iv (1 : Int32), rv w_WORKER] [(.ref a0), (.ref w_WORKER_shown)])) rfl (by rw [hml]; rfl) (Steps.refl _) (argsL := [(.ref a0)]) (rest := []) (lenOf pd_1 rfl) rfl (by show 2 * 0 + _ ≤ _; exact Nat.le_of_eq rfl) (hb hby d9_30) (fun _ _ => ⟨rfl, e14, (by decide : 1 + 0 ≤ _), (by decide : 4 + 0 ≤ _)⟩)
 dsimp only [Pt.U, Pt.locs, Pt.cells, Pt.slots] at X15 l15 y15 z15 st15 hQ15
 subst l15 y15 z15
 obtain ⟨rfl, N15q, e15⟩ := hQ15
 have N15 := Fr.app N12 N15q
 obtain ⟨cl16, Ar16, q16, S16, N16, H16, G16⟩ := id u1_0
 have hin16 := own_in (2 : Int32) S16 ⟨by decide, by decide⟩
 have hat16 : cl16.slots[((2 : Int32)).toNatClampNeg]? = some (.ref w_OPERATOR) := Has.at H16 hin16 rfl
 obtain ⟨T17, X17, e17, st17⟩ := getF X15 hx hZ hown (host := "") (Or.inl (ow hw 61 rfl)) Via.refl e15 (F_shown_OPERATOR.ext O1.2) (g := (mkF m 26 #[rv a0, .val .null, rv b_1, iv (4 : Int32), iv (2 : Int32), rv w_OPERATOR] [(.ref w_OPERATOR)])) rfl rfl (hb hby d9_26)
 obtain ⟨cq18, kq18, q18a, q18b, q18c⟩ := isOf hZ e17 (E_OPERATOR_shown.ext O1.2)
 obtain ⟨_, _, ⟨T18, L18, k18, n18⟩, -, X18, ⟨Lc18, hQ18, l18, y18, z18⟩, st18⟩ := X17.virtualBack hx (y := y11) (z := y11) hown (mvT hZ (ow hw 63 rfl)) (mvT hZ (ow hw 64 rfl)) (notFace_of_selects (args := #[]) (mvT hZ (ow hw 66 rfl))) (mvT hZ (ow hw 66 rfl)) (mvT hZ (ow hw 65 rfl)) (by decide) (backOf (W := 0) (rm11_8x l Z ar hw [] w_OPERATOR_shown a0 w_CS0 w_SF1 w_PRODUCER w__VALUES w_WORKER w_OPERATOR w_ADMIN w_PRODUCER_shown w_PRODUCER_shown_value w_WORKER_shown w_WORKER_shown_value w_OPERATOR_shown w_OPERATOR_shown_value w_ADMIN_shown w_ADMIN_shown_value k__VALUES k_PRODUCER_shown_value k_WORKER_shown_value k_OPERATOR_shown_value k_ADMIN_shown_value w_OPERATOR_shown_value u k_OPERATOR_shown_value ku (5 : Int32) [(.int y0), (.int y1), (.int y2), (.int y3), (.int y4)] (111 : Int32) (112 : Int32) (101 : Int32) (114 : Int32) (97 : Int32) (116 : Int32) (111 : Int32) (114 : Int32) T1.heap n0 O1 HW (E_OPERATOR_shown.ext O1.2) E1_2 (F_coder_OPERATOR_shown.ext O1.2) F1_3 (F_value_OPERATOR_shown.ext O1.2) F1_4 (V_OPERATOR_shown_value.ext O1.2) V1_5 (Old.ne O1 E_OPERATOR_shown.lt pf4) (by decide)) hZ (ow hw 67 rfl) (ow hw 13 rfl) (by decide) (by decide)) q18a q18c (g := (mkF m 30 #[rv a0, .val .null, rv b_1, iv (4 : Int32), iv (2 : Int32), rv w_OPERATOR] [(.ref a0), (.ref w_OPERATOR_shown)])) rfl (by rw [hml]; rfl) (Steps.refl _) (argsL := [(.ref a0)]) (rest := []) (lenOf pd_1 rfl) rfl (by show 2 * 0 + _ ≤ _; exact Nat.le_of_eq rfl) (hb hby d9_30) (fun _ _ => ⟨rfl, e17, (by decide : 1 + 0 ≤ _), (by decide : 4 + 0 ≤ _)⟩)
 dsimp only [Pt.U, Pt.locs, Pt.cells, Pt.slots] at X18 l18 y18 z18 st18 hQ18
 subst l18 y18 z18
 obtain ⟨rfl, N18q, e18⟩ := hQ18
 have N18 := Fr.app N15 N18q
 obtain ⟨cl19, Ar19, q19, S19, N19, H19, G19⟩ := id u1_0
 have hin19 := own_in (3 : Int32) S19 ⟨by decide, by decide⟩
 have hat19 : cl19.slots[((3 : Int32)).toNatClampNeg]? = some (.ref w_ADMIN) := Has.at H19 hin19 rfl
 obtain ⟨T20, X20, e20, st20⟩ := getF X18 hx hZ hown (host := "") (Or.inl (ow hw 61 rfl)) Via.refl e18 (F_shown_ADMIN.ext O1.2) (g := (mkF m 26 #[rv a0, .val .null, rv b_1, iv (4 : Int32), iv (3 : Int32), rv w_ADMIN] [(.ref w_ADMIN)])) rfl rfl (hb hby d9_26)
 obtain ⟨cq21, kq21, q21a, q21b, q21c⟩ := isOf hZ e20 (E_ADMIN_shown.ext O1.2)
 obtain ⟨_, _, ⟨T21, L21, k21, n21⟩, -, X21, ⟨Lc21, hQ21, l21, y21, z21⟩, st21⟩ := X20.virtualBack hx (y := y11) (z := y11) hown (mvT hZ (ow hw 63 rfl)) (mvT hZ (ow hw 64 rfl)) (notFace_of_selects (args := #[]) (mvT hZ (ow hw 66 rfl))) (mvT hZ (ow hw 66 rfl)) (mvT hZ (ow hw 65 rfl)) (by decide) (backOf (W := 0) (rm11_5_5 l Z ar hw [] w_ADMIN_shown a0 w_CS0 w_SF1 w_PRODUCER w__VALUES w_WORKER w_OPERATOR w_ADMIN w_PRODUCER_shown w_PRODUCER_shown_value w_WORKER_shown w_WORKER_shown_value w_OPERATOR_shown w_OPERATOR_shown_value w_ADMIN_shown w_ADMIN_shown_value k__VALUES k_PRODUCER_shown_value k_WORKER_shown_value k_OPERATOR_shown_value k_ADMIN_shown_value w_ADMIN_shown_value u k_ADMIN_shown_value ku (97 : Int32) (100 : Int32) (109 : Int32) (105 : Int32) (110 : Int32) y0 y1 y2 y3 y4 T1.heap n0 O1 HW (E_ADMIN_shown.ext O1.2) E1_2 (F_coder_ADMIN_shown.ext O1.2) F1_3 (F_value_ADMIN_shown.ext O1.2) F1_4 (V_ADMIN_shown_value.ext O1.2) V1_5 (Old.ne O1 E_ADMIN_shown.lt pf4)) hZ (ow hw 67 rfl) (ow hw 13 rfl) (by decide) (by decide)) q21a q21c (g := (mkF m 30 #[rv a0, .val .null, rv b_1, iv (4 : Int32), iv (3 : Int32), rv w_ADMIN] [(.ref a0), (.ref w_ADMIN_shown)])) rfl (by rw [hml]; rfl) (Steps.refl _) (argsL := [(.ref a0)]) (rest := []) (lenOf pd_1 rfl) rfl (by show 2 * 0 + _ ≤ _; exact Nat.le_of_eq rfl) (hb hby d9_30) (fun _ _ => ⟨rfl, e20, (by decide : 1 + 0 ≤ _), (by decide : 4 + 0 ≤ _)⟩)
 dsimp only [Pt.U, Pt.locs, Pt.cells, Pt.slots] at X21 l21 y21 z21 st21 hQ21
 subst l21 y21 z21
 obtain ⟨rfl, N21q, e21⟩ := hQ21
 have N21 := Fr.app N18 N21q
 have pre22 : ∀ tg, AT p e below T21 m 33 #[rv a0, .val .null, rv b_1, iv (4 : Int32), iv (3 : Int32), rv w_ADMIN] [(.int (f11_5_5 (97 : Int32) (100 : Int32) (109 : Int32) (105 : Int32) (110 : Int32) y0 y1 y2 y3 y4))] tg → Steps p.tables e below S0 tg := fun tg kg => pre0 tg (by
  refine XS.aconstNull X0.here hx rfl (hb hby d9_0) ?_
  refine XS.astoreN X0.here hx rfl (hb hby d9_1) rfl rfl (l' := #[rv a0, .val .null, un, un, un, un]) rfl ?_
  refine st1 _ ?_
  refine XS.astoreN X1.here hx rfl (hb hby d9_5) rfl rfl (l' := #[rv a0, .val .null, rv b_1, un, un, un]) rfl ?_
  refine XS.aloadN X1.here hx rfl (hb hby d9_6) rfl rfl ?_
  refine X1.arraylength hx Ar9.1 (State.isArrayOf_alike hZ.alike Ar9.2.1) (g := (mkF m 7 #[rv a0, .val .null, rv b_1, un, un, un] [(.ref b_1)])) rfl rfl (hb hby d9_7) _ ?_
  rw [len_of S9 N9]
  refine XS.istoreN X1.here hx rfl (hb hby d9_8) rfl (l' := #[rv a0, .val .null, rv b_1, iv (4 : Int32), un, un]) rfl ?_
  refine XS.iconst X1.here hx rfl (hb hby d9_9) ?_
  refine XS.istore X1.here hx rfl (hb hby d9_10) rfl (l' := #[rv a0, .val .null, rv b_1, iv (4 : Int32), iv (0 : Int32), un]) rfl ?_
  refine XS.iload X1.here hx rfl (hb hby d9_12) rfl ?_
  refine XS.iloadN X1.here hx rfl (hb hby d9_14) rfl ?_
  show AT p e below T1 m 15 #[rv a0, .val .null, rv b_1, iv (4 : Int32), iv (0 : Int32), un] [(.int (4 : Int32)), (.int (0 : Int32))] _
  refine XS.icmpNo X1.here hx rfl (hb hby d9_15) rfl (XT.ii_ge_f ((by decide) : (0 : Int32) < (4 : Int32))) ?_
  refine XS.aloadN X1.here hx rfl (hb hby d9_18) rfl rfl ?_
  refine XS.iload X1.here hx rfl (hb hby d9_19) rfl ?_
  refine X1.aaload hx (j := (0 : Int32)) (v := (.ref w_PRODUCER)) Ar10.1 (State.isArrayOf_alike hZ.alike Ar10.2.1) rfl Ar10.2.2 hin10 hat10 (g := (mkF m 21 #[rv a0, .val .null, rv b_1, iv (4 : Int32), iv (0 : Int32), un] [(.int (0 : Int32)), (.ref b_1)])) rfl rfl (hb hby d9_21) _ ?_
  refine XS.astore X1.here hx rfl (hb hby d9_22) rfl rfl (l' := #[rv a0, .val .null, rv b_1, iv (4 : Int32), iv (0 : Int32), rv w_PRODUCER]) rfl ?_
  refine XS.aload X1.here hx rfl (hb hby d9_24) rfl rfl ?_
  show AT p e below T1 m 26 #[rv a0, .val .null, rv b_1, iv (4 : Int32), iv (0 : Int32), rv w_PRODUCER] [(.ref w_PRODUCER)] _
  refine st11 _ ?_
  refine XS.aloadN X11.here hx rfl (hb hby d9_29) rfl rfl ?_
  refine st12.trans ?_
  show AT p e below T12 m 33 #[rv a0, .val .null, rv b_1, iv (4 : Int32), iv (0 : Int32), rv w_PRODUCER] [(.int (0 : Int32))] _
  refine XS.ifYes X12.here hx rfl (pc0 := 33) (pc' := 39) rfl (hb hby d9_33) rfl (XT.i0_eq_t ((by decide) : (0 : Int32) = (0 : Int32))) (by decide) (by decide) ?_
  refine XS.iinc X12.here hx rfl (hb hby d9_39) rfl (l' := #[rv a0, .val .null, rv b_1, iv (4 : Int32), iv (1 : Int32), rv w_PRODUCER]) rfl ?_
  refine XS.goto X12.here hx rfl (pc0 := 42) (pc' := 12) rfl (hb hby d9_42) (by decide) (by decide) ?_
  refine XS.iload X12.here hx rfl (hb hby d9_12) rfl ?_
  refine XS.iloadN X12.here hx rfl (hb hby d9_14) rfl ?_
  show AT p e below T12 m 15 #[rv a0, .val .null, rv b_1, iv (4 : Int32), iv (1 : Int32), rv w_PRODUCER] [(.int (4 : Int32)), (.int (1 : Int32))] _
  refine XS.icmpNo X12.here hx rfl (hb hby d9_15) rfl (XT.ii_ge_f ((by decide) : (1 : Int32) < (4 : Int32))) ?_
  refine XS.aloadN X12.here hx rfl (hb hby d9_18) rfl rfl ?_
  refine XS.iload X12.here hx rfl (hb hby d9_19) rfl ?_
  refine X12.aaload hx (j := (1 : Int32)) (v := (.ref w_WORKER)) (by rw [e12]; exact Ar13.1) (State.isArrayOf_alike hZ.alike Ar13.2.1) rfl Ar13.2.2 hin13 hat13 (g := (mkF m 21 #[rv a0, .val .null, rv b_1, iv (4 : Int32), iv (1 : Int32), rv w_PRODUCER] [(.int (1 : Int32)), (.ref b_1)])) rfl rfl (hb hby d9_21) _ ?_
  refine XS.astore X12.here hx rfl (hb hby d9_22) rfl rfl (l' := #[rv a0, .val .null, rv b_1, iv (4 : Int32), iv (1 : Int32), rv w_WORKER]) rfl ?_
  refine XS.aload X12.here hx rfl (hb hby d9_24) rfl rfl ?_
  refine st14 _ ?_
  refine XS.aloadN X14.here hx rfl (hb hby d9_29) rfl rfl ?_
  refine st15.trans ?_
  show AT p e below T15 m 33 #[rv a0, .val .null, rv b_1, iv (4 : Int32), iv (1 : Int32), rv w_WORKER] [(.int (0 : Int32))] _
  refine XS.ifYes X15.here hx rfl (pc0 := 33) (pc' := 39) rfl (hb hby d9_33) rfl (XT.i0_eq_t ((by decide) : (0 : Int32) = (0 : Int32))) (by decide) (by decide) ?_
  refine XS.iinc X15.here hx rfl (hb hby d9_39) rfl (l' := #[rv a0, .val .null, rv b_1, iv (4 : Int32), iv (2 : Int32), rv w_WORKER]) rfl ?_
  show AT p e below T15 m 42 #[rv a0, .val .null, rv b_1, iv (4 : Int32), iv (2 : Int32), rv w_WORKER] [] _
  refine XS.goto X15.here hx rfl (pc0 := 42) (pc' := 12) rfl (hb hby d9_42) (by decide) (by decide) ?_
  refine XS.iload X15.here hx rfl (hb hby d9_12) rfl ?_
  refine XS.iloadN X15.here hx rfl (hb hby d9_14) rfl ?_
  show AT p e below T15 m 15 #[rv a0, .val .null, rv b_1, iv (4 : Int32), iv (2 : Int32), rv w_WORKER] [(.int (4 : Int32)), (.int (2 : Int32))] _
  refine XS.icmpNo X15.here hx rfl (hb hby d9_15) rfl (XT.ii_ge_f ((by decide) : (2 : Int32) < (4 : Int32))) ?_
  refine XS.aloadN X15.here hx rfl (hb hby d9_18) rfl rfl ?_
  refine XS.iload X15.here hx rfl (hb hby d9_19) rfl ?_
  refine X15.aaload hx (j := (2 : Int32)) (v := (.ref w_OPERATOR)) (by rw [e15]; exact Ar16.1) (State.isArrayOf_alike hZ.alike Ar16.2.1) rfl Ar16.2.2 hin16 hat16 (g := (mkF m 21 #[rv a0, .val .null, rv b_1, iv (4 : Int32), iv (2 : Int32), rv w_WORKER] [(.int (2 : Int32)), (.ref b_1)])) rfl rfl (hb hby d9_21) _ ?_
  refine XS.astore X15.here hx rfl (hb hby d9_22) rfl rfl (l' := #[rv a0, .val .null, rv b_1, iv (4 : Int32), iv (2 : Int32), rv w_OPERATOR]) rfl ?_
  refine XS.aload X15.here hx rfl (hb hby d9_24) rfl rfl ?_
  refine st17 _ ?_
  refine XS.aloadN X17.here hx rfl (hb hby d9_29) rfl rfl ?_
  refine st18.trans ?_
  show AT p e below T18 m 33 #[rv a0, .val .null, rv b_1, iv (4 : Int32), iv (2 : Int32), rv w_OPERATOR] [(.int (0 : Int32))] _
  refine XS.ifYes X18.here hx rfl (pc0 := 33) (pc' := 39) rfl (hb hby d9_33) rfl (XT.i0_eq_t ((by decide) : (0 : Int32) = (0 : Int32))) (by decide) (by decide) ?_
  refine XS.iinc X18.here hx rfl (hb hby d9_39) rfl (l' := #[rv a0, .val .null, rv b_1, iv (4 : Int32), iv (3 : Int32), rv w_OPERATOR]) rfl ?_
  refine XS.goto X18.here hx rfl (pc0 := 42) (pc' := 12) rfl (hb hby d9_42) (by decide) (by decide) ?_
  refine XS.iload X18.here hx rfl (hb hby d9_12) rfl ?_
  refine XS.iloadN X18.here hx rfl (hb hby d9_14) rfl ?_
  show AT p e below T18 m 15 #[rv a0, .val .null, rv b_1, iv (4 : Int32), iv (3 : Int32), rv w_OPERATOR] [(.int (4 : Int32)), (.int (3 : Int32))] _
  refine XS.icmpNo X18.here hx rfl (hb hby d9_15) rfl (XT.ii_ge_f ((by decide) : (3 : Int32) < (4 : Int32))) ?_
  refine XS.aloadN X18.here hx rfl (hb hby d9_18) rfl rfl ?_
  show AT p e below T18 m 19 #[rv a0, .val .null, rv b_1, iv (4 : Int32), iv (3 : Int32), rv w_OPERATOR] [(.ref b_1)] _
  refine XS.iload X18.here hx rfl (hb hby d9_19) rfl ?_
  refine X18.aaload hx (j := (3 : Int32)) (v := (.ref w_ADMIN)) (by rw [e18]; exact Ar19.1) (State.isArrayOf_alike hZ.alike Ar19.2.1) rfl Ar19.2.2 hin19 hat19 (g := (mkF m 21 #[rv a0, .val .null, rv b_1, iv (4 : Int32), iv (3 : Int32), rv w_OPERATOR] [(.int (3 : Int32)), (.ref b_1)])) rfl rfl (hb hby d9_21) _ ?_
  refine XS.astore X18.here hx rfl (hb hby d9_22) rfl rfl (l' := #[rv a0, .val .null, rv b_1, iv (4 : Int32), iv (3 : Int32), rv w_ADMIN]) rfl ?_
  refine XS.aload X18.here hx rfl (hb hby d9_24) rfl rfl ?_
  refine st20 _ ?_
  refine XS.aloadN X20.here hx rfl (hb hby d9_29) rfl rfl ?_
  refine st21.trans ?_
  exact kg)
 rcases Decidable.em ((f11_5_5 (97 : Int32) (100 : Int32) (109 : Int32) (105 : Int32) (110 : Int32) y0 y1 y2 y3 y4) = (0 : Int32)) with hc23 | hc23
 ·
  obtain ⟨fs, hr, hrun, hended, hW, hsame⟩ := X21.leave (v := some .null) (fun h => by rw [Bd.returns] at h; cases h)
  subst hS0
  refine ⟨_, _, pre22 _ ?_, hrun, hended, _, _, rfl, ?_, ⟨_, rfl⟩, hW, hsame.mono (by decide) (by decide)⟩
  ·
   refine XS.ifYes X21.here hx rfl (pc0 := 33) (pc' := 39) rfl (hb hby d9_33) rfl (XT.i0_eq_t hc23) (by decide) (by decide) ?_
   refine XS.iinc X21.here hx rfl (hb hby d9_39) rfl (l' := #[rv a0, .val .null, rv b_1, iv (4 : Int32), iv (4 : Int32), rv w_ADMIN]) rfl ?_
   refine XS.goto X21.here hx rfl (pc0 := 42) (pc' := 12) rfl (hb hby d9_42) (by decide) (by decide) ?_
   refine XS.iload X21.here hx rfl (hb hby d9_12) rfl ?_
   refine XS.iloadN X21.here hx rfl (hb hby d9_14) rfl ?_
   show AT p e below T21 m 15 #[rv a0, .val .null, rv b_1, iv (4 : Int32), iv (4 : Int32), rv w_ADMIN] [(.int (4 : Int32)), (.int (4 : Int32))] _
   refine XS.icmpYes X21.here hx rfl (pc0 := 15) (pc' := 45) rfl (hb hby d9_15) rfl (XT.ii_ge_t ((by decide) : ¬ ((4 : Int32) < (4 : Int32)))) (by decide) (by decide) ?_
   refine XS.aloadN X21.here hx rfl (hb hby d9_45) rfl rfl ?_
   exact retOut X21 hx (t := (.object "com/example/lease/lease/Role")) (i := .areturn) Bd.returns rfl (Or.inr (Or.inr (Or.inr (Or.inr ⟨rfl, rfl, rfl⟩)))) (hb hby d9_46) hr
  ·
   show Q9_5 Z a0 w_CS0 w_SF1 w_PRODUCER w__VALUES w_WORKER w_OPERATOR w_ADMIN w_PRODUCER_shown w_PRODUCER_shown_value w_WORKER_shown w_WORKER_shown_value w_OPERATOR_shown w_OPERATOR_shown_value w_ADMIN_shown w_ADMIN_shown_value k__VALUES k_PRODUCER_shown_value k_WORKER_shown_value k_OPERATOR_shown_value k_ADMIN_shown_value u ku y0 y1 y2 y3 y4 h0 n0 _ T21.heap _
   rw [e21]
   exact ⟨(by rw [f9_5, if_pos hc23]), N21, K1⟩
 ·
  obtain ⟨fs, hr, hrun, hended, hW, hsame⟩ := X21.leave (v := some (.ref w_ADMIN)) (fun h => by rw [Bd.returns] at h; cases h)
  subst hS0
  refine ⟨_, _, pre22 _ ?_, hrun, hended, _, _, rfl, ?_, ⟨_, rfl⟩, hW, hsame.mono (by decide) (by decide)⟩
  ·
   refine XS.ifNo X21.here hx rfl (hb hby d9_33) rfl (XT.i0_eq_f hc23) ?_
   refine XS.aload X21.here hx rfl (hb hby d9_36) rfl rfl ?_
   refine XS.astoreN X21.here hx rfl (hb hby d9_38) rfl rfl (l' := #[rv a0, rv w_ADMIN, rv b_1, iv (4 : Int32), iv (3 : Int32), rv w_ADMIN]) rfl ?_
   refine XS.iinc X21.here hx rfl (hb hby d9_39) rfl (l' := #[rv a0, rv w_ADMIN, rv b_1, iv (4 : Int32), iv (4 : Int32), rv w_ADMIN]) rfl ?_
   refine XS.goto X21.here hx rfl (pc0 := 42) (pc' := 12) rfl (hb hby d9_42) (by decide) (by decide) ?_
   refine XS.iload X21.here hx rfl (hb hby d9_12) rfl ?_
   refine XS.iloadN X21.here hx rfl (hb hby d9_14) rfl ?_
   show AT p e below T21 m 15 #[rv a0, rv w_ADMIN, rv b_1, iv (4 : Int32), iv (4 : Int32), rv w_ADMIN] [(.int (4 : Int32)), (.int (4 : Int32))] _
   refine XS.icmpYes X21.here hx rfl (pc0 := 15) (pc' := 45) rfl (hb hby d9_15) rfl (XT.ii_ge_t ((by decide) : ¬ ((4 : Int32) < (4 : Int32)))) (by decide) (by decide) ?_
   refine XS.aloadN X21.here hx rfl (hb hby d9_45) rfl rfl ?_
   exact retOut X21 hx (t := (.object "com/example/lease/lease/Role")) (i := .areturn) Bd.returns rfl (Or.inr (Or.inr (Or.inr (Or.inr ⟨rfl, rfl, rfl⟩)))) (hb hby d9_46) hr
  ·
   show Q9_5 Z a0 w_CS0 w_SF1 w_PRODUCER w__VALUES w_WORKER w_OPERATOR w_ADMIN w_PRODUCER_shown w_PRODUCER_shown_value w_WORKER_shown w_WORKER_shown_value w_OPERATOR_shown w_OPERATOR_shown_value w_ADMIN_shown w_ADMIN_shown_value k__VALUES k_PRODUCER_shown_value k_WORKER_shown_value k_OPERATOR_shown_value k_ADMIN_shown_value u ku y0 y1 y2 y3 y4 h0 n0 _ T21.heap _
   rw [e21]
   exact ⟨(by rw [f9_5, if_neg hc23]), N21, K1⟩

theorem ef_12_6_6 (m : MethodId) (a0 : Addr) (a1 : Addr) : entryFrame m #[(.ref a0), (.ref a1)] 3 = mkF m 0 #[rv a0, rv a1, un] [] := by first | (simp [entryFrame, mkF, argsToLocals, Value.category]; done) | rfl
def f12_6_6 (x0 : Int32) (x1 : Int32) (x2 : Int32) (x3 : Int32) (x4 : Int32) (x5 : Int32) (y0 : Int32) (y1 : Int32) (y2 : Int32) (y3 : Int32) (y4 : Int32) (y5 : Int32) : Int32 := if x0 = y0 then (if x1 = y1 then (if x2 = y2 then (if x3 = y3 then (if x4 = y4 then (if x5 = y5 then (1 : Int32) else (0 : Int32)) else ((0 : Int32))) else ((0 : Int32))) else ((0 : Int32))) else ((0 : Int32))) else ((0 : Int32))
def Q12_6_6 (Z : State) (a0 : Addr) (a1 : Addr) (ka : ClassId) (kb : ClassId) (x0 : Int32) (x1 : Int32) (x2 : Int32) (x3 : Int32) (x4 : Int32) (x5 : Int32) (y0 : Int32) (y1 : Int32) (y2 : Int32) (y3 : Int32) (y4 : Int32) (y5 : Int32) (h0 : Heap) (n0 : Nat) (v : Option Value) (h : Heap) (L : List Loc) : Prop := v = some (.int (f12_6_6 x0 x1 x2 x3 x4 x5 y0 y1 y2 y3 y4 y5)) ∧ Fr n0 L ∧ h = h0
set_option maxRecDepth 65536 in
set_option maxHeartbeats 40000000 in
theorem rm12_6_6 (l : Launch) (Z : State) (ar : Array Value) (hw : ∀ d ∈ tables_1, d.before ar Z = true) (ws : List Jvm.Cond) (a0 : Addr) (a1 : Addr) (ka : ClassId) (kb : ClassId) (x0 : Int32) (x1 : Int32) (x2 : Int32) (x3 : Int32) (x4 : Int32) (x5 : Int32) (y0 : Int32) (y1 : Int32) (y2 : Int32) (y3 : Int32) (y4 : Int32) (y5 : Int32) (h0 : Heap) (n0 : Nat) (O0 : Old Z n0 h0) (pf0 : Arv Z h0 a0 ka .byte (6 : Int32) [(.int x0), (.int x1), (.int x2), (.int x3), (.int x4), (.int x5)] (.int (0 : Int32))) (pf1 : Arv Z h0 a1 kb .byte (6 : Int32) [(.int y0), (.int y1), (.int y2), (.int y3), (.int y4), (.int y5)] (.int (0 : Int32))) :
    MetFree l y12 (head1 (Jvm.Cond.code y12 jdk_43_method_13_code 3 (some .boolean) :: ws) ({ frames := 0, cells := 0, slots := 0, locals := 0 } : Room)) (fun a U => a = #[(.ref a0), (.ref a1)] ∧ Z.Warmed39 U.vm ∧ U.heap = h0) (fun _ _ _ _ _ => True) (fun _ U o U' => ∃ v L, o = .returned v ∧ Q12_6_6 Z a0 a1 ka kb x0 x1 x2 x3 x4 x5 y0 y1 y2 y3 y4 y5 h0 n0 v U'.heap L ∧ FrameEnd U o U' L ({ frames := 0, cells := 0, slots := 0, locals := 0 } : Room).cells ({ frames := 0, cells := 0, slots := 0, locals := 0 } : Room).slots) := by
 refine MetFree.of_bodySF (plainFor_of_name pn_3) hisR ?_
 intro p e s m args below meth c s₁ Bd hml0 hP hK
 obtain ⟨rfl, hZ, hh⟩ := hP
 have hx := Bd.exec
 have hby := Bd.bytes
 have hml : c.maxLocals = 3 := hml0
 have hown : s.vm.findClass "java/lang/StringLatin1" = some m.cls := findClass_of_methodNamed Bd.named
 have hnm := (name_of_methodNamed Bd.named Bd.method).1
 have X0 : Stand p l e ({ frames := 0, cells := 0, slots := 0, locals := 0 } : Room) s m #[(.ref a0), (.ref a1)] below meth c s₁ [] 0 0 := Stand.of_body Bd
 have e0 : s₁.heap = h0 := by rw [← hh, Bd.state]; rfl
 have N0 := Fr.nil n0
 have Z0 : n0 ≤ h0.size := Nat.le_trans (Nat.le_of_eq O0.1.symm) O0.2.1
 obtain ⟨S0, hS0⟩ : ∃ z, z = s₁.setTop (entryFrame m #[(.ref a0), (.ref a1)] 3) := ⟨_, rfl⟩
 have pre0 : ∀ tg, AT p e below s₁ m 0 #[rv a0, rv a1, un] [] tg → Steps p.tables e below S0 tg := fun tg kg => by rw [hS0]; exact castTop (ef_12_6_6 m a0 a1) kg
 obtain ⟨cl1, Ar1, q1, S1, N1, H1, G1⟩ := id pf0
 obtain ⟨cl2, Ar2, q2, S2, N2, H2, G2⟩ := id pf1
 obtain ⟨cl3, Ar3, q3, S3, N3, H3, G3⟩ := id pf0
 obtain ⟨cl4, Ar4, q4, S4, N4, H4, G4⟩ := id pf0
 have hin4 := own_in (0 : Int32) S4 ⟨by decide, by decide⟩
 have hat4 : cl4.slots[((0 : Int32)).toNatClampNeg]? = some (.int x0) := Has.at H4 hin4 rfl
 obtain ⟨cl5, Ar5, q5, S5, N5, H5, G5⟩ := id pf1
 have hin5 := own_in (0 : Int32) S5 ⟨by decide, by decide⟩
 have hat5 : cl5.slots[((0 : Int32)).toNatClampNeg]? = some (.int y0) := Has.at H5 hin5 rfl
 have pre6 : ∀ tg, AT p e below s₁ m 21 #[rv a0, rv a1, iv (0 : Int32)] [(.int y0), (.int x0)] tg → Steps p.tables e below S0 tg := fun tg kg => pre0 tg (by
  refine XS.aloadN X0.here hx rfl (hb hby d12_0) rfl rfl ?_
  refine X0.arraylength hx (by rw [e0]; exact Ar1.1) (State.isArrayOf_alike hZ.alike Ar1.2.1) (g := (mkF m 1 #[rv a0, rv a1, un] [(.ref a0)])) rfl rfl (hb hby d12_1) _ ?_
  rw [len_of S1 N1]
  refine XS.aloadN X0.here hx rfl (hb hby d12_2) rfl rfl ?_
  refine X0.arraylength hx (by rw [e0]; exact Ar2.1) (State.isArrayOf_alike hZ.alike Ar2.2.1) (g := (mkF m 3 #[rv a0, rv a1, un] [(.ref a1), (.int (6 : Int32))])) rfl rfl (hb hby d12_3) _ ?_
  rw [len_of S2 N2]
  show AT p e below s₁ m 4 #[rv a0, rv a1, un] [(.int (6 : Int32)), (.int (6 : Int32))] _
  refine XS.icmpNo X0.here hx rfl (hb hby d12_4) rfl (XT.ii_ne_f ((by decide) : (6 : Int32) = (6 : Int32))) ?_
  refine XS.iconst X0.here hx rfl (hb hby d12_7) ?_
  refine XS.istoreN X0.here hx rfl (hb hby d12_8) rfl (l' := #[rv a0, rv a1, iv (0 : Int32)]) rfl ?_
  refine XS.iloadN X0.here hx rfl (hb hby d12_9) rfl ?_
  refine XS.aloadN X0.here hx rfl (hb hby d12_10) rfl rfl ?_
  refine X0.arraylength hx (by rw [e0]; exact Ar3.1) (State.isArrayOf_alike hZ.alike Ar3.2.1) (g := (mkF m 11 #[rv a0, rv a1, iv (0 : Int32)] [(.ref a0), (.int (0 : Int32))])) rfl rfl (hb hby d12_11) _ ?_
  rw [len_of S3 N3]
  show AT p e below s₁ m 12 #[rv a0, rv a1, iv (0 : Int32)] [(.int (6 : Int32)), (.int (0 : Int32))] _
  refine XS.icmpNo X0.here hx rfl (hb hby d12_12) rfl (XT.ii_ge_f ((by decide) : (0 : Int32) < (6 : Int32))) ?_
  refine XS.aloadN X0.here hx rfl (hb hby d12_15) rfl rfl ?_
  refine XS.iloadN X0.here hx rfl (hb hby d12_16) rfl ?_
  refine X0.baloadBytes hx (j := (0 : Int32)) (v := (.int x0)) (by rw [e0]; exact Ar4.1) (State.isArrayOf_alike hZ.alike Ar4.2.1) Ar4.2.2 hin4 hat4 (g := (mkF m 17 #[rv a0, rv a1, iv (0 : Int32)] [(.int (0 : Int32)), (.ref a0)])) rfl rfl (hb hby d12_17) _ ?_
  show AT p e below s₁ m 18 #[rv a0, rv a1, iv (0 : Int32)] [(.int x0)] _
  refine XS.aloadN X0.here hx rfl (hb hby d12_18) rfl rfl ?_
  refine XS.iloadN X0.here hx rfl (hb hby d12_19) rfl ?_
  refine X0.baloadBytes hx (j := (0 : Int32)) (v := (.int y0)) (by rw [e0]; exact Ar5.1) (State.isArrayOf_alike hZ.alike Ar5.2.1) Ar5.2.2 hin5 hat5 (g := (mkF m 20 #[rv a0, rv a1, iv (0 : Int32)] [(.int (0 : Int32)), (.ref a1), (.int x0)])) rfl rfl (hb hby d12_20) _ ?_
  exact kg)
 rcases Decidable.em (x0 = y0) with hc7 | hc7
 ·
  obtain ⟨cl8, Ar8, q8, S8, N8, H8, G8⟩ := id pf0
  obtain ⟨cl9, Ar9, q9, S9, N9, H9, G9⟩ := id pf0
  have hin9 := own_in (1 : Int32) S9 ⟨by decide, by decide⟩
  have hat9 : cl9.slots[((1 : Int32)).toNatClampNeg]? = some (.int x1) := Has.at H9 hin9 rfl
  obtain ⟨cl10, Ar10, q10, S10, N10, H10, G10⟩ := id pf1
  have hin10 := own_in (1 : Int32) S10 ⟨by decide, by decide⟩
  have hat10 : cl10.slots[((1 : Int32)).toNatClampNeg]? = some (.int y1) := Has.at H10 hin10 rfl
  have pre11 : ∀ tg, AT p e below s₁ m 21 #[rv a0, rv a1, iv (1 : Int32)] [(.int y1), (.int x1)] tg → Steps p.tables e below S0 tg := fun tg kg => pre6 tg (by
   refine XS.icmpYes X0.here hx rfl (pc0 := 21) (pc' := 26) rfl (hb hby d12_21) rfl (XT.ii_eq_t hc7) (by decide) (by decide) ?_
   refine XS.iinc X0.here hx rfl (hb hby d12_26) rfl (l' := #[rv a0, rv a1, iv (1 : Int32)]) rfl ?_
   refine XS.goto X0.here hx rfl (pc0 := 29) (pc' := 9) rfl (hb hby d12_29) (by decide) (by decide) ?_
   refine XS.iloadN X0.here hx rfl (hb hby d12_9) rfl ?_
   refine XS.aloadN X0.here hx rfl (hb hby d12_10) rfl rfl ?_
   refine X0.arraylength hx (by rw [e0]; exact Ar8.1) (State.isArrayOf_alike hZ.alike Ar8.2.1) (g := (mkF m 11 #[rv a0, rv a1, iv (1 : Int32)] [(.ref a0), (.int (1 : Int32))])) rfl rfl (hb hby d12_11) _ ?_
   rw [len_of S8 N8]
   show AT p e below s₁ m 12 #[rv a0, rv a1, iv (1 : Int32)] [(.int (6 : Int32)), (.int (1 : Int32))] _
   refine XS.icmpNo X0.here hx rfl (hb hby d12_12) rfl (XT.ii_ge_f ((by decide) : (1 : Int32) < (6 : Int32))) ?_
   refine XS.aloadN X0.here hx rfl (hb hby d12_15) rfl rfl ?_
   refine XS.iloadN X0.here hx rfl (hb hby d12_16) rfl ?_
   refine X0.baloadBytes hx (j := (1 : Int32)) (v := (.int x1)) (by rw [e0]; exact Ar9.1) (State.isArrayOf_alike hZ.alike Ar9.2.1) Ar9.2.2 hin9 hat9 (g := (mkF m 17 #[rv a0, rv a1, iv (1 : Int32)] [(.int (1 : Int32)), (.ref a0)])) rfl rfl (hb hby d12_17) _ ?_
   refine XS.aloadN X0.here hx rfl (hb hby d12_18) rfl rfl ?_
   show AT p e below s₁ m 19 #[rv a0, rv a1, iv (1 : Int32)] [(.ref a1), (.int x1)] _
   refine XS.iloadN X0.here hx rfl (hb hby d12_19) rfl ?_
   refine X0.baloadBytes hx (j := (1 : Int32)) (v := (.int y1)) (by rw [e0]; exact Ar10.1) (State.isArrayOf_alike hZ.alike Ar10.2.1) Ar10.2.2 hin10 hat10 (g := (mkF m 20 #[rv a0, rv a1, iv (1 : Int32)] [(.int (1 : Int32)), (.ref a1), (.int x1)])) rfl rfl (hb hby d12_20) _ ?_
   exact kg)
  rcases Decidable.em (x1 = y1) with hc12 | hc12
  ·
   obtain ⟨cl13, Ar13, q13, S13, N13, H13, G13⟩ := id pf0
   obtain ⟨cl14, Ar14, q14, S14, N14, H14, G14⟩ := id pf0
   have hin14 := own_in (2 : Int32) S14 ⟨by decide, by decide⟩
   have hat14 : cl14.slots[((2 : Int32)).toNatClampNeg]? = some (.int x2) := Has.at H14 hin14 rfl
   obtain ⟨cl15, Ar15, q15, S15, N15, H15, G15⟩ := id pf1
   have hin15 := own_in (2 : Int32) S15 ⟨by decide, by decide⟩
   have hat15 : cl15.slots[((2 : Int32)).toNatClampNeg]? = some (.int y2) := Has.at H15 hin15 rfl
   have pre16 : ∀ tg, AT p e below s₁ m 21 #[rv a0, rv a1, iv (2 : Int32)] [(.int y2), (.int x2)] tg → Steps p.tables e below S0 tg := fun tg kg => pre11 tg (by
    refine XS.icmpYes X0.here hx rfl (pc0 := 21) (pc' := 26) rfl (hb hby d12_21) rfl (XT.ii_eq_t hc12) (by decide) (by decide) ?_
    refine XS.iinc X0.here hx rfl (hb hby d12_26) rfl (l' := #[rv a0, rv a1, iv (2 : Int32)]) rfl ?_
    refine XS.goto X0.here hx rfl (pc0 := 29) (pc' := 9) rfl (hb hby d12_29) (by decide) (by decide) ?_
    refine XS.iloadN X0.here hx rfl (hb hby d12_9) rfl ?_
    refine XS.aloadN X0.here hx rfl (hb hby d12_10) rfl rfl ?_
    refine X0.arraylength hx (by rw [e0]; exact Ar13.1) (State.isArrayOf_alike hZ.alike Ar13.2.1) (g := (mkF m 11 #[rv a0, rv a1, iv (2 : Int32)] [(.ref a0), (.int (2 : Int32))])) rfl rfl (hb hby d12_11) _ ?_
    rw [len_of S13 N13]
    show AT p e below s₁ m 12 #[rv a0, rv a1, iv (2 : Int32)] [(.int (6 : Int32)), (.int (2 : Int32))] _
    refine XS.icmpNo X0.here hx rfl (hb hby d12_12) rfl (XT.ii_ge_f ((by decide) : (2 : Int32) < (6 : Int32))) ?_
    refine XS.aloadN X0.here hx rfl (hb hby d12_15) rfl rfl ?_
    refine XS.iloadN X0.here hx rfl (hb hby d12_16) rfl ?_
    refine X0.baloadBytes hx (j := (2 : Int32)) (v := (.int x2)) (by rw [e0]; exact Ar14.1) (State.isArrayOf_alike hZ.alike Ar14.2.1) Ar14.2.2 hin14 hat14 (g := (mkF m 17 #[rv a0, rv a1, iv (2 : Int32)] [(.int (2 : Int32)), (.ref a0)])) rfl rfl (hb hby d12_17) _ ?_
    refine XS.aloadN X0.here hx rfl (hb hby d12_18) rfl rfl ?_
    refine XS.iloadN X0.here hx rfl (hb hby d12_19) rfl ?_
    show AT p e below s₁ m 20 #[rv a0, rv a1, iv (2 : Int32)] [(.int (2 : Int32)), (.ref a1), (.int x2)] _
    refine X0.baloadBytes hx (j := (2 : Int32)) (v := (.int y2)) (by rw [e0]; exact Ar15.1) (State.isArrayOf_alike hZ.alike Ar15.2.1) Ar15.2.2 hin15 hat15 (g := (mkF m 20 #[rv a0, rv a1, iv (2 : Int32)] [(.int (2 : Int32)), (.ref a1), (.int x2)])) rfl rfl (hb hby d12_20) _ ?_
    exact kg)
   rcases Decidable.em (x2 = y2) with hc17 | hc17
   ·
    obtain ⟨cl18, Ar18, q18, S18, N18, H18, G18⟩ := id pf0
    obtain ⟨cl19, Ar19, q19, S19, N19, H19, G19⟩ := id pf0
    have hin19 := own_in (3 : Int32) S19 ⟨by decide, by decide⟩
    have hat19 : cl19.slots[((3 : Int32)).toNatClampNeg]? = some (.int x3) := Has.at H19 hin19 rfl
    obtain ⟨cl20, Ar20, q20, S20, N20, H20, G20⟩ := id pf1
    have hin20 := own_in (3 : Int32) S20 ⟨by decide, by decide⟩
    have hat20 : cl20.slots[((3 : Int32)).toNatClampNeg]? = some (.int y3) := Has.at H20 hin20 rfl
    have pre21 : ∀ tg, AT p e below s₁ m 21 #[rv a0, rv a1, iv (3 : Int32)] [(.int y3), (.int x3)] tg → Steps p.tables e below S0 tg := fun tg kg => pre16 tg (by
     refine XS.icmpYes X0.here hx rfl (pc0 := 21) (pc' := 26) rfl (hb hby d12_21) rfl (XT.ii_eq_t hc17) (by decide) (by decide) ?_
     refine XS.iinc X0.here hx rfl (hb hby d12_26) rfl (l' := #[rv a0, rv a1, iv (3 : Int32)]) rfl ?_
     refine XS.goto X0.here hx rfl (pc0 := 29) (pc' := 9) rfl (hb hby d12_29) (by decide) (by decide) ?_
     refine XS.iloadN X0.here hx rfl (hb hby d12_9) rfl ?_
     refine XS.aloadN X0.here hx rfl (hb hby d12_10) rfl rfl ?_
     refine X0.arraylength hx (by rw [e0]; exact Ar18.1) (State.isArrayOf_alike hZ.alike Ar18.2.1) (g := (mkF m 11 #[rv a0, rv a1, iv (3 : Int32)] [(.ref a0), (.int (3 : Int32))])) rfl rfl (hb hby d12_11) _ ?_
     rw [len_of S18 N18]
     show AT p e below s₁ m 12 #[rv a0, rv a1, iv (3 : Int32)] [(.int (6 : Int32)), (.int (3 : Int32))] _
     refine XS.icmpNo X0.here hx rfl (hb hby d12_12) rfl (XT.ii_ge_f ((by decide) : (3 : Int32) < (6 : Int32))) ?_
     refine XS.aloadN X0.here hx rfl (hb hby d12_15) rfl rfl ?_
     refine XS.iloadN X0.here hx rfl (hb hby d12_16) rfl ?_
     refine X0.baloadBytes hx (j := (3 : Int32)) (v := (.int x3)) (by rw [e0]; exact Ar19.1) (State.isArrayOf_alike hZ.alike Ar19.2.1) Ar19.2.2 hin19 hat19 (g := (mkF m 17 #[rv a0, rv a1, iv (3 : Int32)] [(.int (3 : Int32)), (.ref a0)])) rfl rfl (hb hby d12_17) _ ?_
     refine XS.aloadN X0.here hx rfl (hb hby d12_18) rfl rfl ?_
     refine XS.iloadN X0.here hx rfl (hb hby d12_19) rfl ?_
     refine X0.baloadBytes hx (j := (3 : Int32)) (v := (.int y3)) (by rw [e0]; exact Ar20.1) (State.isArrayOf_alike hZ.alike Ar20.2.1) Ar20.2.2 hin20 hat20 (g := (mkF m 20 #[rv a0, rv a1, iv (3 : Int32)] [(.int (3 : Int32)), (.ref a1), (.int x3)])) rfl rfl (hb hby d12_20) _ ?_
     exact kg)
    rcases Decidable.em (x3 = y3) with hc22 | hc22
    ·
     obtain ⟨cl23, Ar23, q23, S23, N23, H23, G23⟩ := id pf0
     obtain ⟨cl24, Ar24, q24, S24, N24, H24, G24⟩ := id pf0
     have hin24 := own_in (4 : Int32) S24 ⟨by decide, by decide⟩
     have hat24 : cl24.slots[((4 : Int32)).toNatClampNeg]? = some (.int x4) := Has.at H24 hin24 rfl
     obtain ⟨cl25, Ar25, q25, S25, N25, H25, G25⟩ := id pf1
     have hin25 := own_in (4 : Int32) S25 ⟨by decide, by decide⟩
     have hat25 : cl25.slots[((4 : Int32)).toNatClampNeg]? = some (.int y4) := Has.at H25 hin25 rfl
     have pre26 : ∀ tg, AT p e below s₁ m 21 #[rv a0, rv a1, iv (4 : Int32)] [(.int y4), (.int x4)] tg → Steps p.tables e below S0 tg := fun tg kg => pre21 tg (by
      refine XS.icmpYes X0.here hx rfl (pc0 := 21) (pc' := 26) rfl (hb hby d12_21) rfl (XT.ii_eq_t hc22) (by decide) (by decide) ?_
      show AT p e below s₁ m 26 #[rv a0, rv a1, iv (3 : Int32)] [] _
      refine XS.iinc X0.here hx rfl (hb hby d12_26) rfl (l' := #[rv a0, rv a1, iv (4 : Int32)]) rfl ?_
      refine XS.goto X0.here hx rfl (pc0 := 29) (pc' := 9) rfl (hb hby d12_29) (by decide) (by decide) ?_
      refine XS.iloadN X0.here hx rfl (hb hby d12_9) rfl ?_
      refine XS.aloadN X0.here hx rfl (hb hby d12_10) rfl rfl ?_
      refine X0.arraylength hx (by rw [e0]; exact Ar23.1) (State.isArrayOf_alike hZ.alike Ar23.2.1) (g := (mkF m 11 #[rv a0, rv a1, iv (4 : Int32)] [(.ref a0), (.int (4 : Int32))])) rfl rfl (hb hby d12_11) _ ?_
      rw [len_of S23 N23]
      show AT p e below s₁ m 12 #[rv a0, rv a1, iv (4 : Int32)] [(.int (6 : Int32)), (.int (4 : Int32))] _
      refine XS.icmpNo X0.here hx rfl (hb hby d12_12) rfl (XT.ii_ge_f ((by decide) : (4 : Int32) < (6 : Int32))) ?_
      refine XS.aloadN X0.here hx rfl (hb hby d12_15) rfl rfl ?_
      refine XS.iloadN X0.here hx rfl (hb hby d12_16) rfl ?_
      refine X0.baloadBytes hx (j := (4 : Int32)) (v := (.int x4)) (by rw [e0]; exact Ar24.1) (State.isArrayOf_alike hZ.alike Ar24.2.1) Ar24.2.2 hin24 hat24 (g := (mkF m 17 #[rv a0, rv a1, iv (4 : Int32)] [(.int (4 : Int32)), (.ref a0)])) rfl rfl (hb hby d12_17) _ ?_
      refine XS.aloadN X0.here hx rfl (hb hby d12_18) rfl rfl ?_
      refine XS.iloadN X0.here hx rfl (hb hby d12_19) rfl ?_
      refine X0.baloadBytes hx (j := (4 : Int32)) (v := (.int y4)) (by rw [e0]; exact Ar25.1) (State.isArrayOf_alike hZ.alike Ar25.2.1) Ar25.2.2 hin25 hat25 (g := (mkF m 20 #[rv a0, rv a1, iv (4 : Int32)] [(.int (4 : Int32)), (.ref a1), (.int x4)])) rfl rfl (hb hby d12_20) _ ?_
      exact kg)
     rcases Decidable.em (x4 = y4) with hc27 | hc27
     ·
      obtain ⟨cl28, Ar28, q28, S28, N28, H28, G28⟩ := id pf0
      obtain ⟨cl29, Ar29, q29, S29, N29, H29, G29⟩ := id pf0
      have hin29 := own_in (5 : Int32) S29 ⟨by decide, by decide⟩
      have hat29 : cl29.slots[((5 : Int32)).toNatClampNeg]? = some (.int x5) := Has.at H29 hin29 rfl
      obtain ⟨cl30, Ar30, q30, S30, N30, H30, G30⟩ := id pf1
      have hin30 := own_in (5 : Int32) S30 ⟨by decide, by decide⟩
      have hat30 : cl30.slots[((5 : Int32)).toNatClampNeg]? = some (.int y5) := Has.at H30 hin30 rfl
      have pre31 : ∀ tg, AT p e below s₁ m 21 #[rv a0, rv a1, iv (5 : Int32)] [(.int y5), (.int x5)] tg → Steps p.tables e below S0 tg := fun tg kg => pre26 tg (by
       refine XS.icmpYes X0.here hx rfl (pc0 := 21) (pc' := 26) rfl (hb hby d12_21) rfl (XT.ii_eq_t hc27) (by decide) (by decide) ?_
       refine XS.iinc X0.here hx rfl (hb hby d12_26) rfl (l' := #[rv a0, rv a1, iv (5 : Int32)]) rfl ?_
       show AT p e below s₁ m 29 #[rv a0, rv a1, iv (5 : Int32)] [] _
       refine XS.goto X0.here hx rfl (pc0 := 29) (pc' := 9) rfl (hb hby d12_29) (by decide) (by decide) ?_
       refine XS.iloadN X0.here hx rfl (hb hby d12_9) rfl ?_
       refine XS.aloadN X0.here hx rfl (hb hby d12_10) rfl rfl ?_
       refine X0.arraylength hx (by rw [e0]; exact Ar28.1) (State.isArrayOf_alike hZ.alike Ar28.2.1) (g := (mkF m 11 #[rv a0, rv a1, iv (5 : Int32)] [(.ref a0), (.int (5 : Int32))])) rfl rfl (hb hby d12_11) _ ?_
       rw [len_of S28 N28]
       show AT p e below s₁ m 12 #[rv a0, rv a1, iv (5 : Int32)] [(.int (6 : Int32)), (.int (5 : Int32))] _
       refine XS.icmpNo X0.here hx rfl (hb hby d12_12) rfl (XT.ii_ge_f ((by decide) : (5 : Int32) < (6 : Int32))) ?_
       refine XS.aloadN X0.here hx rfl (hb hby d12_15) rfl rfl ?_
       refine XS.iloadN X0.here hx rfl (hb hby d12_16) rfl ?_
       refine X0.baloadBytes hx (j := (5 : Int32)) (v := (.int x5)) (by rw [e0]; exact Ar29.1) (State.isArrayOf_alike hZ.alike Ar29.2.1) Ar29.2.2 hin29 hat29 (g := (mkF m 17 #[rv a0, rv a1, iv (5 : Int32)] [(.int (5 : Int32)), (.ref a0)])) rfl rfl (hb hby d12_17) _ ?_
       refine XS.aloadN X0.here hx rfl (hb hby d12_18) rfl rfl ?_
       refine XS.iloadN X0.here hx rfl (hb hby d12_19) rfl ?_
       refine X0.baloadBytes hx (j := (5 : Int32)) (v := (.int y5)) (by rw [e0]; exact Ar30.1) (State.isArrayOf_alike hZ.alike Ar30.2.1) Ar30.2.2 hin30 hat30 (g := (mkF m 20 #[rv a0, rv a1, iv (5 : Int32)] [(.int (5 : Int32)), (.ref a1), (.int x5)])) rfl rfl (hb hby d12_20) _ ?_
       exact kg)
      rcases Decidable.em (x5 = y5) with hc32 | hc32
      ·
       obtain ⟨cl33, Ar33, q33, S33, N33, H33, G33⟩ := id pf0
       obtain ⟨fs, hr, hrun, hended, hW, hsame⟩ := X0.leave (v := some (.int (1 : Int32))) (fun h => by rw [Bd.returns] at h; cases h)
       subst hS0
       refine ⟨_, _, pre31 _ ?_, hrun, hended, _, _, rfl, ?_, ⟨_, rfl⟩, hW, hsame.mono (by decide) (by decide)⟩
       ·
        refine XS.icmpYes X0.here hx rfl (pc0 := 21) (pc' := 26) rfl (hb hby d12_21) rfl (XT.ii_eq_t hc32) (by decide) (by decide) ?_
        refine XS.iinc X0.here hx rfl (hb hby d12_26) rfl (l' := #[rv a0, rv a1, iv (6 : Int32)]) rfl ?_
        refine XS.goto X0.here hx rfl (pc0 := 29) (pc' := 9) rfl (hb hby d12_29) (by decide) (by decide) ?_
        show AT p e below s₁ m 9 #[rv a0, rv a1, iv (6 : Int32)] [] _
        refine XS.iloadN X0.here hx rfl (hb hby d12_9) rfl ?_
        refine XS.aloadN X0.here hx rfl (hb hby d12_10) rfl rfl ?_
        refine X0.arraylength hx (by rw [e0]; exact Ar33.1) (State.isArrayOf_alike hZ.alike Ar33.2.1) (g := (mkF m 11 #[rv a0, rv a1, iv (6 : Int32)] [(.ref a0), (.int (6 : Int32))])) rfl rfl (hb hby d12_11) _ ?_
        rw [len_of S33 N33]
        show AT p e below s₁ m 12 #[rv a0, rv a1, iv (6 : Int32)] [(.int (6 : Int32)), (.int (6 : Int32))] _
        refine XS.icmpYes X0.here hx rfl (pc0 := 12) (pc' := 32) rfl (hb hby d12_12) rfl (XT.ii_ge_t ((by decide) : ¬ ((6 : Int32) < (6 : Int32)))) (by decide) (by decide) ?_
        refine XS.iconst X0.here hx rfl (hb hby d12_32) ?_
        exact retN X0 hx (t := .boolean) Bd.returns (by simp) (hb hby d12_33) hr
       ·
        show Q12_6_6 Z a0 a1 ka kb x0 x1 x2 x3 x4 x5 y0 y1 y2 y3 y4 y5 h0 n0 _ s₁.heap _
        rw [e0]
        exact ⟨(by rw [f12_6_6, if_pos hc7, if_pos hc12, if_pos hc17, if_pos hc22, if_pos hc27, if_pos hc32]), N0, rfl⟩
      ·
       obtain ⟨fs, hr, hrun, hended, hW, hsame⟩ := X0.leave (v := some (.int (0 : Int32))) (fun h => by rw [Bd.returns] at h; cases h)
       subst hS0
       refine ⟨_, _, pre31 _ ?_, hrun, hended, _, _, rfl, ?_, ⟨_, rfl⟩, hW, hsame.mono (by decide) (by decide)⟩
       ·
        refine XS.icmpNo X0.here hx rfl (hb hby d12_21) rfl (XT.ii_eq_f hc32) ?_
        refine XS.iconst X0.here hx rfl (hb hby d12_24) ?_
        exact retN X0 hx (t := .boolean) Bd.returns (by simp) (hb hby d12_25) hr
       ·
        show Q12_6_6 Z a0 a1 ka kb x0 x1 x2 x3 x4 x5 y0 y1 y2 y3 y4 y5 h0 n0 _ s₁.heap _
        rw [e0]
        exact ⟨(by rw [f12_6_6, if_pos hc7, if_pos hc12, if_pos hc17, if_pos hc22, if_pos hc27, if_neg hc32]), N0, rfl⟩
     ·
      obtain ⟨fs, hr, hrun, hended, hW, hsame⟩ := X0.leave (v := some (.int (0 : Int32))) (fun h => by rw [Bd.returns] at h; cases h)
      subst hS0
      refine ⟨_, _, pre26 _ ?_, hrun, hended, _, _, rfl, ?_, ⟨_, rfl⟩, hW, hsame.mono (by decide) (by decide)⟩
      ·
       refine XS.icmpNo X0.here hx rfl (hb hby d12_21) rfl (XT.ii_eq_f hc27) ?_
       refine XS.iconst X0.here hx rfl (hb hby d12_24) ?_
       show AT p e below s₁ m 25 #[rv a0, rv a1, iv (4 : Int32)] [(.int (0 : Int32))] _
       exact retN X0 hx (t := .boolean) Bd.returns (by simp) (hb hby d12_25) hr
      ·
       show Q12_6_6 Z a0 a1 ka kb x0 x1 x2 x3 x4 x5 y0 y1 y2 y3 y4 y5 h0 n0 _ s₁.heap _
       rw [e0]
       exact ⟨(by rw [f12_6_6, if_pos hc7, if_pos hc12, if_pos hc17, if_pos hc22, if_neg hc27]), N0, rfl⟩
    ·
     obtain ⟨fs, hr, hrun, hended, hW, hsame⟩ := X0.leave (v := some (.int (0 : Int32))) (fun h => by rw [Bd.returns] at h; cases h)
     subst hS0
     refine ⟨_, _, pre21 _ ?_, hrun, hended, _, _, rfl, ?_, ⟨_, rfl⟩, hW, hsame.mono (by decide) (by decide)⟩
     ·
      refine XS.icmpNo X0.here hx rfl (hb hby d12_21) rfl (XT.ii_eq_f hc22) ?_
      show AT p e below s₁ m 24 #[rv a0, rv a1, iv (3 : Int32)] [] _
      refine XS.iconst X0.here hx rfl (hb hby d12_24) ?_
      exact retN X0 hx (t := .boolean) Bd.returns (by simp) (hb hby d12_25) hr
     ·
      show Q12_6_6 Z a0 a1 ka kb x0 x1 x2 x3 x4 x5 y0 y1 y2 y3 y4 y5 h0 n0 _ s₁.heap _
      rw [e0]
      exact ⟨(by rw [f12_6_6, if_pos hc7, if_pos hc12, if_pos hc17, if_neg hc22]), N0, rfl⟩
   ·
    obtain ⟨fs, hr, hrun, hended, hW, hsame⟩ := X0.leave (v := some (.int (0 : Int32))) (fun h => by rw [Bd.returns] at h; cases h)
    subst hS0
    refine ⟨_, _, pre16 _ ?_, hrun, hended, _, _, rfl, ?_, ⟨_, rfl⟩, hW, hsame.mono (by decide) (by decide)⟩
    ·
     refine XS.icmpNo X0.here hx rfl (hb hby d12_21) rfl (XT.ii_eq_f hc17) ?_
     refine XS.iconst X0.here hx rfl (hb hby d12_24) ?_
     exact retN X0 hx (t := .boolean) Bd.returns (by simp) (hb hby d12_25) hr
    ·
     show Q12_6_6 Z a0 a1 ka kb x0 x1 x2 x3 x4 x5 y0 y1 y2 y3 y4 y5 h0 n0 _ s₁.heap _
     rw [e0]
     exact ⟨(by rw [f12_6_6, if_pos hc7, if_pos hc12, if_neg hc17]), N0, rfl⟩
  ·
   obtain ⟨fs, hr, hrun, hended, hW, hsame⟩ := X0.leave (v := some (.int (0 : Int32))) (fun h => by rw [Bd.returns] at h; cases h)
   subst hS0
   refine ⟨_, _, pre11 _ ?_, hrun, hended, _, _, rfl, ?_, ⟨_, rfl⟩, hW, hsame.mono (by decide) (by decide)⟩
   ·
    refine XS.icmpNo X0.here hx rfl (hb hby d12_21) rfl (XT.ii_eq_f hc12) ?_
    refine XS.iconst X0.here hx rfl (hb hby d12_24) ?_
    exact retN X0 hx (t := .boolean) Bd.returns (by simp) (hb hby d12_25) hr
   ·
    show Q12_6_6 Z a0 a1 ka kb x0 x1 x2 x3 x4 x5 y0 y1 y2 y3 y4 y5 h0 n0 _ s₁.heap _
    rw [e0]
    exact ⟨(by rw [f12_6_6, if_pos hc7, if_neg hc12]), N0, rfl⟩
 ·
  obtain ⟨fs, hr, hrun, hended, hW, hsame⟩ := X0.leave (v := some (.int (0 : Int32))) (fun h => by rw [Bd.returns] at h; cases h)
  subst hS0
  refine ⟨_, _, pre6 _ ?_, hrun, hended, _, _, rfl, ?_, ⟨_, rfl⟩, hW, hsame.mono (by decide) (by decide)⟩
  ·
   refine XS.icmpNo X0.here hx rfl (hb hby d12_21) rfl (XT.ii_eq_f hc7) ?_
   refine XS.iconst X0.here hx rfl (hb hby d12_24) ?_
   exact retN X0 hx (t := .boolean) Bd.returns (by simp) (hb hby d12_25) hr
  ·
   show Q12_6_6 Z a0 a1 ka kb x0 x1 x2 x3 x4 x5 y0 y1 y2 y3 y4 y5 h0 n0 _ s₁.heap _
   rw [e0]
   exact ⟨(by rw [f12_6_6, if_neg hc7]), N0, rfl⟩

theorem ef_11_6_6 (m : MethodId) (a0 : Addr) (a1 : Addr) : entryFrame m #[(.ref a0), (.ref a1)] 3 = mkF m 0 #[rv a0, rv a1, un] [] := by first | (simp [entryFrame, mkF, argsToLocals, Value.category]; done) | rfl
def f11_6_6 (x0 : Int32) (x1 : Int32) (x2 : Int32) (x3 : Int32) (x4 : Int32) (x5 : Int32) (y0 : Int32) (y1 : Int32) (y2 : Int32) (y3 : Int32) (y4 : Int32) (y5 : Int32) : Int32 := if (f12_6_6 x0 x1 x2 x3 x4 x5 y0 y1 y2 y3 y4 y5) = (0 : Int32) then (0 : Int32) else (1 : Int32)
def Q11_6_6 (Z : State) (a0 : Addr) (a1 : Addr) (w_CS0 : Int32) (w_SF1 : Value) (w_PRODUCER : Addr) (w__VALUES : Addr) (w_WORKER : Addr) (w_OPERATOR : Addr) (w_ADMIN : Addr) (w_PRODUCER_shown : Addr) (w_PRODUCER_shown_value : Addr) (w_WORKER_shown : Addr) (w_WORKER_shown_value : Addr) (w_OPERATOR_shown : Addr) (w_OPERATOR_shown_value : Addr) (w_ADMIN_shown : Addr) (w_ADMIN_shown_value : Addr) (k__VALUES : ClassId) (k_PRODUCER_shown_value : ClassId) (k_WORKER_shown_value : ClassId) (k_OPERATOR_shown_value : ClassId) (k_ADMIN_shown_value : ClassId) (u : Addr) (w : Addr) (ka : ClassId) (kb : ClassId) (x0 : Int32) (x1 : Int32) (x2 : Int32) (x3 : Int32) (x4 : Int32) (x5 : Int32) (y0 : Int32) (y1 : Int32) (y2 : Int32) (y3 : Int32) (y4 : Int32) (y5 : Int32) (h0 : Heap) (n0 : Nat) (v : Option Value) (h : Heap) (L : List Loc) : Prop := v = some (.int (f11_6_6 x0 x1 x2 x3 x4 x5 y0 y1 y2 y3 y4 y5)) ∧ Fr n0 L ∧ h = h0
set_option maxRecDepth 65536 in
set_option maxHeartbeats 40000000 in
theorem rm11_6_6 (l : Launch) (Z : State) (ar : Array Value) (hw : ∀ d ∈ tables_1, d.before ar Z = true) (ws : List Jvm.Cond) (a0 : Addr) (a1 : Addr) (w_CS0 : Int32) (w_SF1 : Value) (w_PRODUCER : Addr) (w__VALUES : Addr) (w_WORKER : Addr) (w_OPERATOR : Addr) (w_ADMIN : Addr) (w_PRODUCER_shown : Addr) (w_PRODUCER_shown_value : Addr) (w_WORKER_shown : Addr) (w_WORKER_shown_value : Addr) (w_OPERATOR_shown : Addr) (w_OPERATOR_shown_value : Addr) (w_ADMIN_shown : Addr) (w_ADMIN_shown_value : Addr) (k__VALUES : ClassId) (k_PRODUCER_shown_value : ClassId) (k_WORKER_shown_value : ClassId) (k_OPERATOR_shown_value : ClassId) (k_ADMIN_shown_value : ClassId) (u : Addr) (w : Addr) (ka : ClassId) (kb : ClassId) (x0 : Int32) (x1 : Int32) (x2 : Int32) (x3 : Int32) (x4 : Int32) (x5 : Int32) (y0 : Int32) (y1 : Int32) (y2 : Int32) (y3 : Int32) (y4 : Int32) (y5 : Int32) (h0 : Heap) (n0 : Nat) (O0 : Old Z n0 h0) (HW : Wd Z w_CS0 w_SF1 w_PRODUCER w__VALUES w_WORKER w_OPERATOR w_ADMIN w_PRODUCER_shown w_PRODUCER_shown_value w_WORKER_shown w_WORKER_shown_value w_OPERATOR_shown w_OPERATOR_shown_value w_ADMIN_shown w_ADMIN_shown_value k__VALUES k_PRODUCER_shown_value k_WORKER_shown_value k_OPERATOR_shown_value k_ADMIN_shown_value) (pf0 : Exa Z h0 a0 "java/lang/String") (pf1 : Exa Z h0 a1 "java/lang/String") (pf2 : Fld Z h0 a0 "java/lang/String" "coder" "B" (.int (0 : Int32))) (pf3 : Fld Z h0 a1 "java/lang/String" "coder" "B" (.int (0 : Int32))) (pf4 : Fld Z h0 a0 "java/lang/String" "value" "[B" (.ref u)) (pf5 : Fld Z h0 a1 "java/lang/String" "value" "[B" (.ref w)) (pf6 : Arv Z h0 u ka .byte (6 : Int32) [(.int x0), (.int x1), (.int x2), (.int x3), (.int x4), (.int x5)] (.int (0 : Int32))) (pf7 : Arv Z h0 w kb .byte (6 : Int32) [(.int y0), (.int y1), (.int y2), (.int y3), (.int y4), (.int y5)] (.int (0 : Int32))) (pf8 : a0 ≠ a1) :
    MetFree l y11 (head1 (Jvm.Cond.code y11 jdk_42_method_66_code 3 (some .boolean) :: ws) ({ frames := 1, cells := 0, slots := 0, locals := 14 } : Room)) (fun a U => a = #[(.ref a0), (.ref a1)] ∧ Z.Warmed39 U.vm ∧ U.heap = h0) (fun _ _ _ _ _ => True) (fun _ U o U' => ∃ v L, o = .returned v ∧ Q11_6_6 Z a0 a1 w_CS0 w_SF1 w_PRODUCER w__VALUES w_WORKER w_OPERATOR w_ADMIN w_PRODUCER_shown w_PRODUCER_shown_value w_WORKER_shown w_WORKER_shown_value w_OPERATOR_shown w_OPERATOR_shown_value w_ADMIN_shown w_ADMIN_shown_value k__VALUES k_PRODUCER_shown_value k_WORKER_shown_value k_OPERATOR_shown_value k_ADMIN_shown_value u w ka kb x0 x1 x2 x3 x4 x5 y0 y1 y2 y3 y4 y5 h0 n0 v U'.heap L ∧ FrameEnd U o U' L ({ frames := 1, cells := 0, slots := 0, locals := 14 } : Room).cells ({ frames := 1, cells := 0, slots := 0, locals := 14 } : Room).slots) := by
 refine MetFree.of_bodySF (plainFor_of_name pn_2) hisR ?_
 intro p e s m args below meth c s₁ Bd hml0 hP hK
 obtain ⟨rfl, hZ, hh⟩ := hP
 have hx := Bd.exec
 have hby := Bd.bytes
 have hml : c.maxLocals = 3 := hml0
 have hown : s.vm.findClass "java/lang/String" = some m.cls := findClass_of_methodNamed Bd.named
 have hnm := (name_of_methodNamed Bd.named Bd.method).1
 have X0 : Stand p l e ({ frames := 1, cells := 0, slots := 0, locals := 14 } : Room) s m #[(.ref a0), (.ref a1)] below meth c s₁ [] 0 0 := Stand.of_body Bd
 have e0 : s₁.heap = h0 := by rw [← hh, Bd.state]; rfl
 have N0 := Fr.nil n0
 have Z0 : n0 ≤ h0.size := Nat.le_trans (Nat.le_of_eq O0.1.symm) O0.2.1
 obtain ⟨S0, hS0⟩ : ∃ z, z = s₁.setTop (entryFrame m #[(.ref a0), (.ref a1)] 3) := ⟨_, rfl⟩
 have pre0 : ∀ tg, AT p e below s₁ m 0 #[rv a0, rv a1, un] [] tg → Steps p.tables e below S0 tg := fun tg kg => by rw [hS0]; exact castTop (ef_11_6_6 m a0 a1) kg
 obtain ⟨S_COMPACT_STRINGS, hz_w_CS0, S_SIOOBE_FORMATTER, ir_w_SF1, S_PRODUCER, E_PRODUCER, S__VALUES, E__VALUES, S_WORKER, E_WORKER, S_OPERATOR, E_OPERATOR, S_ADMIN, E_ADMIN, F_shown_PRODUCER, E_PRODUCER_shown, F_coder_PRODUCER_shown, F_value_PRODUCER_shown, F_shown_WORKER, E_WORKER_shown, F_coder_WORKER_shown, F_value_WORKER_shown, F_shown_OPERATOR, E_OPERATOR_shown, F_coder_OPERATOR_shown, F_value_OPERATOR_shown, F_shown_ADMIN, E_ADMIN_shown, F_coder_ADMIN_shown, F_value_ADMIN_shown, V__VALUES, V_PRODUCER_shown_value, V_WORKER_shown_value, V_OPERATOR_shown_value, V_ADMIN_shown_value⟩ := id HW
 obtain ⟨T1, X1, e1, st1⟩ := instY X0 hx hZ hown (ow hw 68 rfl) e0 (Ins.self pf1) (g := (mkF m 8 #[rv a0, rv a1, un] [(.ref a1)])) rfl rfl (hb hby d11_8)
 obtain ⟨T2, X2, e2, st2⟩ := castY X1 hx hZ hown (ow hw 68 rfl) e1 (Ins.self pf1) (g := (mkF m 15 #[rv a0, rv a1, un] [(.ref a1)])) rfl rfl (hb hby d11_15)
 obtain ⟨T3, X3, e3, st3⟩ := getS2 X2 hx hZ hown (host := "") (Or.inl (ow hw 24 rfl)) Via.refl e2 (S_COMPACT_STRINGS.ext O0.2) (g := (mkF m 19 #[rv a0, rv a1, rv a1] [])) rfl (hb hby d11_19)
 obtain ⟨T4, X4, e4, st4⟩ := getF X3 hx hZ hown (host := "") (Or.inl (ow hw 36 rfl)) Via.refl e3 pf2 (g := (mkF m 26 #[rv a0, rv a1, rv a1] [(.ref a0)])) rfl rfl (hb hby d11_26)
 obtain ⟨T5, X5, e5, st5⟩ := getF X4 hx hZ hown (host := "") (Or.inl (ow hw 36 rfl)) Via.refl e4 pf3 (g := (mkF m 30 #[rv a0, rv a1, rv a1] [(.ref a1), (.int (0 : Int32))])) rfl rfl (hb hby d11_30)
 obtain ⟨T6, X6, e6, st6⟩ := getF X5 hx hZ hown (host := "") (Or.inl (ow hw 38 rfl)) Via.refl e5 pf4 (g := (mkF m 37 #[rv a0, rv a1, rv a1] [(.ref a0)])) rfl rfl (hb hby d11_37)
 obtain ⟨T7, X7, e7, st7⟩ := getF X6 hx hZ hown (host := "") (Or.inl (ow hw 38 rfl)) Via.refl e6 pf5 (g := (mkF m 41 #[rv a0, rv a1, rv a1] [(.ref a1), (.ref u)])) rfl rfl (hb hby d11_41)
 obtain ⟨_, _, ⟨T8, L8, k8, n8⟩, -, X8, ⟨Lc8, hQ8, l8, y8, z8⟩, st8⟩ := Jvm.LawKit.callS X7 hx (y := y12) hown (mvT hZ (ow hw 69 rfl)) (mvT hZ (ow hw 70 rfl)) (mvT hZ (ow hw 71 rfl)) (mvT hZ (ow hw 72 rfl)) (by decide) (backOf (W := 0) (rm12_6_6 l Z ar hw [] u w ka kb x0 x1 x2 x3 x4 x5 y0 y1 y2 y3 y4 y5 h0 n0 O0 pf6 pf7) hZ (ow hw 72 rfl) (ow hw 71 rfl) (by decide) (by decide)) (g := (mkF m 44 #[rv a0, rv a1, rv a1] [(.ref w), (.ref u)])) rfl (by rw [hml]; rfl) (argsL := [(.ref u), (.ref w)]) (rest := []) (lenOf pd_2 rfl) rfl (by show 2 * 0 + _ ≤ _; exact Nat.le_of_eq rfl) (hb hby d11_44) (fun _ _ => ⟨rfl, e7, (by decide : 0 + 0 ≤ _), (by decide : 0 + 0 ≤ _)⟩)
 dsimp only [Pt.U, Pt.locs, Pt.cells, Pt.slots] at X8 l8 y8 z8 st8 hQ8
 subst l8 y8 z8
 obtain ⟨rfl, N8q, e8⟩ := hQ8
 have N8 := Fr.app N0 N8q
 have pre9 : ∀ tg, AT p e below T8 m 47 #[rv a0, rv a1, rv a1] [(.int (f12_6_6 x0 x1 x2 x3 x4 x5 y0 y1 y2 y3 y4 y5))] tg → Steps p.tables e below S0 tg := fun tg kg => pre0 tg (by
  refine XS.aloadN X0.here hx rfl (hb hby d11_0) rfl rfl ?_
  refine XS.aloadN X0.here hx rfl (hb hby d11_1) rfl rfl ?_
  show AT p e below s₁ m 2 #[rv a0, rv a1, un] [(.ref a1), (.ref a0)] _
  refine Jvm.RoadKit.acmp (g := (mkF m 2 #[rv a0, rv a1, un] [(.ref a1), (.ref a0)])) X0 hx rfl rfl rfl (pc0 := 2) (pc' := 7) (same := false) rfl (hb hby d11_2) rfl (decide_eq_false fun q => (pf8 : ¬ (a0 = a1)) (Value.ref.inj q)) (by decide) (by decide) ?_
  refine XS.aloadN X0.here hx rfl (hb hby d11_7) rfl rfl ?_
  refine st1 _ ?_
  show AT p e below T1 m 11 #[rv a0, rv a1, un] [(.int (1 : Int32))] _
  refine XS.ifNo X1.here hx rfl (hb hby d11_11) rfl (XT.i0_eq_f ((by decide) : ¬ ((1 : Int32) = (0 : Int32)))) ?_
  refine XS.aloadN X1.here hx rfl (hb hby d11_14) rfl rfl ?_
  refine st2 _ ?_
  refine XS.astoreN X2.here hx rfl (hb hby d11_18) rfl rfl (l' := #[rv a0, rv a1, rv a1]) rfl ?_
  refine st3 _ ?_
  show AT p e below T3 m 22 #[rv a0, rv a1, rv a1] [(.int w_CS0)] _
  refine XS.ifNo X3.here hx rfl (hb hby d11_22) rfl (XT.i0_eq_f (hz_w_CS0 : ¬ (w_CS0 = (0 : Int32)))) ?_
  refine XS.aloadN X3.here hx rfl (hb hby d11_25) rfl rfl ?_
  refine st4 _ ?_
  refine XS.aloadN X4.here hx rfl (hb hby d11_29) rfl rfl ?_
  refine st5 _ ?_
  show AT p e below T5 m 33 #[rv a0, rv a1, rv a1] [(.int (0 : Int32)), (.int (0 : Int32))] _
  refine XS.icmpNo X5.here hx rfl (hb hby d11_33) rfl (XT.ii_ne_f ((by decide) : (0 : Int32) = (0 : Int32))) ?_
  show AT p e below T5 m 36 #[rv a0, rv a1, rv a1] [] _
  refine XS.aloadN X5.here hx rfl (hb hby d11_36) rfl rfl ?_
  refine st6 _ ?_
  refine XS.aloadN X6.here hx rfl (hb hby d11_40) rfl rfl ?_
  refine st7 _ ?_
  refine st8 _ ?_
  exact kg)
 rcases Decidable.em ((f12_6_6 x0 x1 x2 x3 x4 x5 y0 y1 y2 y3 y4 y5) = (0 : Int32)) with hc10 | hc10
 ·
  obtain ⟨fs, hr, hrun, hended, hW, hsame⟩ := X8.leave (v := some (.int (0 : Int32))) (fun h => by rw [Bd.returns] at h; cases h)
  subst hS0
  refine ⟨_, _, pre9 _ ?_, hrun, hended, _, _, rfl, ?_, ⟨_, rfl⟩, hW, hsame.mono (by decide) (by decide)⟩
  ·
   refine XS.ifYes X8.here hx rfl (pc0 := 47) (pc' := 54) rfl (hb hby d11_47) rfl (XT.i0_eq_t hc10) (by decide) (by decide) ?_
   refine XS.iconst X8.here hx rfl (hb hby d11_54) ?_
   exact retN X8 hx (t := .boolean) Bd.returns (by simp) (hb hby d11_55) hr
  ·
   show Q11_6_6 Z a0 a1 w_CS0 w_SF1 w_PRODUCER w__VALUES w_WORKER w_OPERATOR w_ADMIN w_PRODUCER_shown w_PRODUCER_shown_value w_WORKER_shown w_WORKER_shown_value w_OPERATOR_shown w_OPERATOR_shown_value w_ADMIN_shown w_ADMIN_shown_value k__VALUES k_PRODUCER_shown_value k_WORKER_shown_value k_OPERATOR_shown_value k_ADMIN_shown_value u w ka kb x0 x1 x2 x3 x4 x5 y0 y1 y2 y3 y4 y5 h0 n0 _ T8.heap _
   rw [e8]
   exact ⟨(by rw [f11_6_6, if_pos hc10]), N8, rfl⟩
 ·
  obtain ⟨fs, hr, hrun, hended, hW, hsame⟩ := X8.leave (v := some (.int (1 : Int32))) (fun h => by rw [Bd.returns] at h; cases h)
  subst hS0
  refine ⟨_, _, pre9 _ ?_, hrun, hended, _, _, rfl, ?_, ⟨_, rfl⟩, hW, hsame.mono (by decide) (by decide)⟩
  ·
   refine XS.ifNo X8.here hx rfl (hb hby d11_47) rfl (XT.i0_eq_f hc10) ?_
   refine XS.iconst X8.here hx rfl (hb hby d11_50) ?_
   refine XS.goto X8.here hx rfl (pc0 := 51) (pc' := 55) rfl (hb hby d11_51) (by decide) (by decide) ?_
   exact retN X8 hx (t := .boolean) Bd.returns (by simp) (hb hby d11_55) hr
  ·
   show Q11_6_6 Z a0 a1 w_CS0 w_SF1 w_PRODUCER w__VALUES w_WORKER w_OPERATOR w_ADMIN w_PRODUCER_shown w_PRODUCER_shown_value w_WORKER_shown w_WORKER_shown_value w_OPERATOR_shown w_OPERATOR_shown_value w_ADMIN_shown w_ADMIN_shown_value k__VALUES k_PRODUCER_shown_value k_WORKER_shown_value k_OPERATOR_shown_value k_ADMIN_shown_value u w ka kb x0 x1 x2 x3 x4 x5 y0 y1 y2 y3 y4 y5 h0 n0 _ T8.heap _
   rw [e8]
   exact ⟨(by rw [f11_6_6, if_neg hc10]), N8, rfl⟩

theorem ef_9_6 (m : MethodId) (a0 : Addr) : entryFrame m #[(.ref a0)] 6 = mkF m 0 #[rv a0, un, un, un, un, un] [] := by first | (simp [entryFrame, mkF, argsToLocals, Value.category]; done) | rfl
def f9_6 (w_WORKER : Addr) (y0 : Int32) (y1 : Int32) (y2 : Int32) (y3 : Int32) (y4 : Int32) (y5 : Int32) : Value := if (f11_6_6 (119 : Int32) (111 : Int32) (114 : Int32) (107 : Int32) (101 : Int32) (114 : Int32) y0 y1 y2 y3 y4 y5) = (0 : Int32) then .null else (.ref w_WORKER)
def Q9_6 (Z : State) (a0 : Addr) (w_CS0 : Int32) (w_SF1 : Value) (w_PRODUCER : Addr) (w__VALUES : Addr) (w_WORKER : Addr) (w_OPERATOR : Addr) (w_ADMIN : Addr) (w_PRODUCER_shown : Addr) (w_PRODUCER_shown_value : Addr) (w_WORKER_shown : Addr) (w_WORKER_shown_value : Addr) (w_OPERATOR_shown : Addr) (w_OPERATOR_shown_value : Addr) (w_ADMIN_shown : Addr) (w_ADMIN_shown_value : Addr) (k__VALUES : ClassId) (k_PRODUCER_shown_value : ClassId) (k_WORKER_shown_value : ClassId) (k_OPERATOR_shown_value : ClassId) (k_ADMIN_shown_value : ClassId) (u : Addr) (ku : ClassId) (y0 : Int32) (y1 : Int32) (y2 : Int32) (y3 : Int32) (y4 : Int32) (y5 : Int32) (h0 : Heap) (n0 : Nat) (v : Option Value) (h : Heap) (L : List Loc) : Prop := v = some (f9_6 w_WORKER y0 y1 y2 y3 y4 y5) ∧ Fr n0 L ∧ Keep h0 h []
set_option maxRecDepth 65536 in
set_option maxHeartbeats 40000000 in
theorem rm9_6 (l : Launch) (Z : State) (ar : Array Value) (hw : ∀ d ∈ tables_1, d.before ar Z = true) (ws : List Jvm.Cond) (a0 : Addr) (w_CS0 : Int32) (w_SF1 : Value) (w_PRODUCER : Addr) (w__VALUES : Addr) (w_WORKER : Addr) (w_OPERATOR : Addr) (w_ADMIN : Addr) (w_PRODUCER_shown : Addr) (w_PRODUCER_shown_value : Addr) (w_WORKER_shown : Addr) (w_WORKER_shown_value : Addr) (w_OPERATOR_shown : Addr) (w_OPERATOR_shown_value : Addr) (w_ADMIN_shown : Addr) (w_ADMIN_shown_value : Addr) (k__VALUES : ClassId) (k_PRODUCER_shown_value : ClassId) (k_WORKER_shown_value : ClassId) (k_OPERATOR_shown_value : ClassId) (k_ADMIN_shown_value : ClassId) (u : Addr) (ku : ClassId) (y0 : Int32) (y1 : Int32) (y2 : Int32) (y3 : Int32) (y4 : Int32) (y5 : Int32) (h0 : Heap) (n0 : Nat) (O0 : Old Z n0 h0) (HW : Wd Z w_CS0 w_SF1 w_PRODUCER w__VALUES w_WORKER w_OPERATOR w_ADMIN w_PRODUCER_shown w_PRODUCER_shown_value w_WORKER_shown w_WORKER_shown_value w_OPERATOR_shown w_OPERATOR_shown_value w_ADMIN_shown w_ADMIN_shown_value k__VALUES k_PRODUCER_shown_value k_WORKER_shown_value k_OPERATOR_shown_value k_ADMIN_shown_value) (pf0 : Exa Z h0 a0 "java/lang/String") (pf1 : Fld Z h0 a0 "java/lang/String" "coder" "B" (.int (0 : Int32))) (pf2 : Fld Z h0 a0 "java/lang/String" "value" "[B" (.ref u)) (pf3 : Arv Z h0 u ku .byte (6 : Int32) [(.int y0), (.int y1), (.int y2), (.int y3), (.int y4), (.int y5)] (.int (0 : Int32))) (pf4 : n0 ≤ a0) :
    MetFree l y9 (head1 (Jvm.Cond.code y9 prog_7_method_5_code 6 (some (.object "com/example/lease/lease/Role")) :: ws) ({ frames := 2, cells := 1, slots := 4, locals := 28 } : Room)) (fun a U => a = #[(.ref a0)] ∧ Z.Warmed39 U.vm ∧ U.heap = h0) (fun _ _ _ _ _ => True) (fun _ U o U' => ∃ v L, o = .returned v ∧ Q9_6 Z a0 w_CS0 w_SF1 w_PRODUCER w__VALUES w_WORKER w_OPERATOR w_ADMIN w_PRODUCER_shown w_PRODUCER_shown_value w_WORKER_shown w_WORKER_shown_value w_OPERATOR_shown w_OPERATOR_shown_value w_ADMIN_shown w_ADMIN_shown_value k__VALUES k_PRODUCER_shown_value k_WORKER_shown_value k_OPERATOR_shown_value k_ADMIN_shown_value u ku y0 y1 y2 y3 y4 y5 h0 n0 v U'.heap L ∧ FrameEnd U o U' L ({ frames := 2, cells := 1, slots := 4, locals := 28 } : Room).cells ({ frames := 2, cells := 1, slots := 4, locals := 28 } : Room).slots) := by
 refine MetFree.of_bodySF (plainFor_of_name pn_1) hisR ?_
 intro p e s m args below meth c s₁ Bd hml0 hP hK
 obtain ⟨rfl, hZ, hh⟩ := hP
 have hx := Bd.exec
 have hby := Bd.bytes
 have hml : c.maxLocals = 6 := hml0
 have hown : s.vm.findClass "com/example/lease/lease/Role" = some m.cls := findClass_of_methodNamed Bd.named
 have hnm := (name_of_methodNamed Bd.named Bd.method).1
 have X0 : Stand p l e ({ frames := 2, cells := 1, slots := 4, locals := 28 } : Room) s m #[(.ref a0)] below meth c s₁ [] 0 0 := Stand.of_body Bd
 have e0 : s₁.heap = h0 := by rw [← hh, Bd.state]; rfl
 have N0 := Fr.nil n0
 have Z0 : n0 ≤ h0.size := Nat.le_trans (Nat.le_of_eq O0.1.symm) O0.2.1
 obtain ⟨S0, hS0⟩ : ∃ z, z = s₁.setTop (entryFrame m #[(.ref a0)] 6) := ⟨_, rfl⟩
 have pre0 : ∀ tg, AT p e below s₁ m 0 #[rv a0, un, un, un, un, un] [] tg → Steps p.tables e below S0 tg := fun tg kg => by rw [hS0]; exact castTop (ef_9_6 m a0) kg
 obtain ⟨S_COMPACT_STRINGS, hz_w_CS0, S_SIOOBE_FORMATTER, ir_w_SF1, S_PRODUCER, E_PRODUCER, S__VALUES, E__VALUES, S_WORKER, E_WORKER, S_OPERATOR, E_OPERATOR, S_ADMIN, E_ADMIN, F_shown_PRODUCER, E_PRODUCER_shown, F_coder_PRODUCER_shown, F_value_PRODUCER_shown, F_shown_WORKER, E_WORKER_shown, F_coder_WORKER_shown, F_value_WORKER_shown, F_shown_OPERATOR, E_OPERATOR_shown, F_coder_OPERATOR_shown, F_value_OPERATOR_shown, F_shown_ADMIN, E_ADMIN_shown, F_coder_ADMIN_shown, F_value_ADMIN_shown, V__VALUES, V_PRODUCER_shown_value, V_WORKER_shown_value, V_OPERATOR_shown_value, V_ADMIN_shown_value⟩ := id HW
 obtain ⟨_, _, ⟨T1, L1, k1, n1⟩, -, X1, ⟨Lc1, hQ1, l1, y1, z1⟩, st1⟩ := Jvm.LawKit.callS X0 hx (y := y10) hown (mvT hZ (ow hw 43 rfl)) (mvT hZ (ow hw 44 rfl)) (mvT hZ (ow hw 5 rfl)) (mvT hZ (ow hw 45 rfl)) (by decide) (backOf (W := 0) (rm10 l Z ar hw [] w_CS0 w_SF1 w_PRODUCER w__VALUES w_WORKER w_OPERATOR w_ADMIN w_PRODUCER_shown w_PRODUCER_shown_value w_WORKER_shown w_WORKER_shown_value w_OPERATOR_shown w_OPERATOR_shown_value w_ADMIN_shown w_ADMIN_shown_value k__VALUES k_PRODUCER_shown_value k_WORKER_shown_value k_OPERATOR_shown_value k_ADMIN_shown_value h0 n0 O0 HW) hZ (ow hw 45 rfl) (ow hw 5 rfl) (by decide) (by decide)) (g := (mkF m 2 #[rv a0, .val .null, un, un, un, un] [])) rfl (by rw [hml]; rfl) (argsL := []) (rest := []) (lenOf pd_0 rfl) rfl (by show 2 * 0 + _ ≤ _; exact Nat.le_of_eq rfl) (hb hby d9_2) (fun _ _ => ⟨rfl, e0, (by decide : 0 + 1 ≤ _), (by decide : 0 + 4 ≤ _)⟩)
 dsimp only [Pt.U, Pt.locs, Pt.cells, Pt.slots] at X1 l1 y1 z1 st1 hQ1
 subst l1 y1 z1
 obtain ⟨b_1, kb_1, rfl, N1q, Kq1, u1_0, u1_1, u1_2⟩ := hQ1
 have N1 := Fr.app N0 N1q
 have E1_2 := pf0.keep Kq1
 have F1_3 := pf1.keep Kq1 nin0
 have F1_4 := pf2.keep Kq1 nin0
 have V1_5 := pf3.keep Kq1 nin0
 have K1 := (Keep.refl h0 []).trans Kq1 all0
 have O1 := O0.keep Kq1 all0
 have sz6 : h0.size ≤ b_1 := Nat.le_trans (Keep.refl h0 []).1 u1_1
 have gn6 : n0 ≤ b_1 := Nat.le_trans (Nat.le_trans (Nat.le_of_eq O0.1.symm) O0.2.1) u1_1
 have ne7 : a0 ≠ b_1 := Nat.ne_of_lt (Nat.lt_of_lt_of_le (pf0).lt u1_1)
 have ne8 : u ≠ b_1 := Nat.ne_of_lt (Nat.lt_of_lt_of_le (pf3).lt u1_1)
 obtain ⟨cl9, Ar9, q9, S9, N9, H9, G9⟩ := id u1_0
 obtain ⟨cl10, Ar10, q10, S10, N10, H10, G10⟩ := id u1_0
 have hin10 := own_in (0 : Int32) S10 ⟨by decide, by decide⟩
 have hat10 : cl10.slots[((0 : Int32)).toNatClampNeg]? = some (.ref w_PRODUCER) := Has.at H10 hin10 rfl
 obtain ⟨T11, X11, e11, st11⟩ := getF X1 hx hZ hown (host := "") (Or.inl (ow hw 61 rfl)) Via.refl rfl (F_shown_PRODUCER.ext O1.2) (g := (mkF m 26 #[rv a0, .val .null, rv b_1, iv (4 : Int32), iv (0 : Int32), rv w_PRODUCER] [(.ref w_PRODUCER)])) rfl rfl (hb hby d9_26)
 obtain ⟨cq12, kq12, q12a, q12b, q12c⟩ := isOf hZ e11 (E_PRODUCER_shown.ext O1.2)
 obtain ⟨_, _, ⟨T12, L12, k12, n12⟩, -, X12, ⟨Lc12, hQ12, l12, y12, z12⟩, st12⟩ := X11.virtualBack hx (y := y11) (z := y11) hown (mvT hZ (ow hw 63 rfl)) (mvT hZ (ow hw 64 rfl)) (notFace_of_selects (args := #[]) (mvT hZ (ow hw 66 rfl))) (mvT hZ (ow hw 66 rfl)) (mvT hZ (ow hw 65 rfl)) (by decide) (backOf (W := 0) (rm11_8x l Z ar hw [] w_PRODUCER_shown a0 w_CS0 w_SF1 w_PRODUCER w__VALUES w_WORKER w_OPERATOR w_ADMIN w_PRODUCER_shown w_PRODUCER_shown_value w_WORKER_shown w_WORKER_shown_value w_OPERATOR_shown w_OPERATOR_shown_value w_ADMIN_shown w_ADMIN_shown_value k__VALUES k_PRODUCER_shown_value k_WORKER_shown_value k_OPERATOR_shown_value k_ADMIN_shown_value w_PRODUCER_shown_value u k_PRODUCER_shown_value ku (6 : Int32) [(.int y0), (.int y1), (.int y2), (.int y3), (.int y4), (.int y5)] (112 : Int32) (114 : Int32) (111 : Int32) (100 : Int32) (117 : Int32) (99 : Int32) (101 : Int32) (114 : Int32) T1.heap n0 O1 HW (E_PRODUCER_shown.ext O1.2) E1_2 (F_coder_PRODUCER_shown.ext O1.2) F1_3 (F_value_PRODUCER_shown.ext O1.2) F1_4 (V_PRODUCER_shown_value.ext O1.2) V1_5 (Old.ne O1 E_PRODUCER_shown.lt pf4) (by decide)) hZ (ow hw 67 rfl) (ow hw 13 rfl) (by decide) (by decide)) q12a q12c (g := (mkF m 30 #[rv a0, .val .null, rv b_1, iv (4 : Int32), iv (0 : Int32), rv w_PRODUCER] [(.ref a0), (.ref w_PRODUCER_shown)])) rfl (by rw [hml]; rfl) (Steps.refl _) (argsL := [(.ref a0)]) (rest := []) (lenOf pd_1 rfl) rfl (by show 2 * 0 + _ ≤ _; exact Nat.le_of_eq rfl) (hb hby d9_30) (fun _ _ => ⟨rfl, e11, (by decide : 1 + 0 ≤ _), (by decide : 4 + 0 ≤ _)⟩)
 dsimp only [Pt.U, Pt.locs, Pt.cells, Pt.slots] at X12 l12 y12 z12 st12 hQ12
 subst l12 y12 z12
 obtain ⟨rfl, N12q, e12⟩ := hQ12
 have N12 := Fr.app N1 N12q
 obtain ⟨cl13, Ar13, q13, S13, N13, H13, G13⟩ := id u1_0
 have hin13 := own_in (1 : Int32) S13 ⟨by decide, by decide⟩
 have hat13 : cl13.slots[((1 : Int32)).toNatClampNeg]? = some (.ref w_WORKER) := Has.at H13 hin13 rfl
 obtain ⟨T14, X14, e14, st14⟩ := getF X12 hx hZ hown (host := "") (Or.inl (ow hw 61 rfl)) Via.refl e12 (F_shown_WORKER.ext O1.2) (g := (mkF m 26 #[rv a0, .val .null, rv b_1, iv (4 : Int32), iv (1 : Int32), rv w_WORKER] [(.ref w_WORKER)])) rfl rfl (hb hby d9_26)
 obtain ⟨cq15, kq15, q15a, q15b, q15c⟩ := isOf hZ e14 (E_WORKER_shown.ext O1.2)
 obtain ⟨_, _, ⟨T15, L15, k15, n15⟩, -, X15, ⟨Lc15, hQ15, l15, y15, z15⟩, st15⟩ := X14.virtualBack hx (y := y11) (z := y11) hown (mvT hZ (ow hw 63 rfl)) (mvT hZ (ow hw 64 rfl)) (notFace_of_selects (args := #[]) (mvT hZ (ow hw 66 rfl))) (mvT hZ (ow hw 66 rfl)) (mvT hZ (ow hw 65 rfl)) (by decide) (backOf (W := 0) (rm11_6_6 l Z ar hw [] w_WORKER_shown a0 w_CS0 w_SF1 w_PRODUCER w__VALUES w_WORKER w_OPERATOR w_ADMIN w_PRODUCER_shown w_PRODUCER_shown_value w_WORKER_shown w_WORKER_shown_value w_OPERATOR_shown w_OPERATOR_shown_value w_ADMIN_shown w_ADMIN_shown_value k__VALUES k_PRODUCER_shown_value k_WORKER_shown_value k_OPERATOR_shown_value k_ADMIN_shown_value w_WORKER_shown_value u k_WORKER_shown_value ku (119 : Int32) (111 : Int32) (114 : Int32) (107 : Int32) (101 : Int32) (114 : Int32) y0 y1 y2 y3 y4 y5 T1.heap n0 O1 HW (E_WORKER_shown.ext O1.2) E1_2 (F_coder_WORKER_shown.ext O1.2) F1_3 (F_value_WORKER_shown.ext O1.2) F1_4 (V_WORKER_shown_value.ext O1.2) V1_5 (Old.ne O1 E_WORKER_shown.lt pf4)) hZ (ow hw 67 rfl) (ow hw 13 rfl) (by decide) (by decide)) q15a q15c (g := (mkF m 30 #[rv a0, .val .null, rv b_1, iv (4 : Int32), iv (1 : Int32), rv w_WORKER] [(.ref a0), (.ref w_WORKER_shown)])) rfl (by rw [hml]; rfl) (Steps.refl _) (argsL := [(.ref a0)]) (rest := []) (lenOf pd_1 rfl) rfl (by show 2 * 0 + _ ≤ _; exact Nat.le_of_eq rfl) (hb hby d9_30) (fun _ _ => ⟨rfl, e14, (by decide : 1 + 0 ≤ _), (by decide : 4 + 0 ≤ _)⟩)
 dsimp only [Pt.U, Pt.locs, Pt.cells, Pt.slots] at X15 l15 y15 z15 st15 hQ15
 subst l15 y15 z15
 obtain ⟨rfl, N15q, e15⟩ := hQ15
 have N15 := Fr.app N12 N15q
 have pre16 : ∀ tg, AT p e below T15 m 33 #[rv a0, .val .null, rv b_1, iv (4 : Int32), iv (1 : Int32), rv w_WORKER] [(.int (f11_6_6 (119 : Int32) (111 : Int32) (114 : Int32) (107 : Int32) (101 : Int32) (114 : Int32) y0 y1 y2 y3 y4 y5))] tg → Steps p.tables e below S0 tg := fun tg kg => pre0 tg (by
  refine XS.aconstNull X0.here hx rfl (hb hby d9_0) ?_
  refine XS.astoreN X0.here hx rfl (hb hby d9_1) rfl rfl (l' := #[rv a0, .val .null, un, un, un, un]) rfl ?_
  refine st1 _ ?_
  refine XS.astoreN X1.here hx rfl (hb hby d9_5) rfl rfl (l' := #[rv a0, .val .null, rv b_1, un, un, un]) rfl ?_
  refine XS.aloadN X1.here hx rfl (hb hby d9_6) rfl rfl ?_
  refine X1.arraylength hx Ar9.1 (State.isArrayOf_alike hZ.alike Ar9.2.1) (g := (mkF m 7 #[rv a0, .val .null, rv b_1, un, un, un] [(.ref b_1)])) rfl rfl (hb hby d9_7) _ ?_
  rw [len_of S9 N9]
  refine XS.istoreN X1.here hx rfl (hb hby d9_8) rfl (l' := #[rv a0, .val .null, rv b_1, iv (4 : Int32), un, un]) rfl ?_
  refine XS.iconst X1.here hx rfl (hb hby d9_9) ?_
  refine XS.istore X1.here hx rfl (hb hby d9_10) rfl (l' := #[rv a0, .val .null, rv b_1, iv (4 : Int32), iv (0 : Int32), un]) rfl ?_
  refine XS.iload X1.here hx rfl (hb hby d9_12) rfl ?_
  refine XS.iloadN X1.here hx rfl (hb hby d9_14) rfl ?_
  show AT p e below T1 m 15 #[rv a0, .val .null, rv b_1, iv (4 : Int32), iv (0 : Int32), un] [(.int (4 : Int32)), (.int (0 : Int32))] _
  refine XS.icmpNo X1.here hx rfl (hb hby d9_15) rfl (XT.ii_ge_f ((by decide) : (0 : Int32) < (4 : Int32))) ?_
  refine XS.aloadN X1.here hx rfl (hb hby d9_18) rfl rfl ?_
  refine XS.iload X1.here hx rfl (hb hby d9_19) rfl ?_
  refine X1.aaload hx (j := (0 : Int32)) (v := (.ref w_PRODUCER)) Ar10.1 (State.isArrayOf_alike hZ.alike Ar10.2.1) rfl Ar10.2.2 hin10 hat10 (g := (mkF m 21 #[rv a0, .val .null, rv b_1, iv (4 : Int32), iv (0 : Int32), un] [(.int (0 : Int32)), (.ref b_1)])) rfl rfl (hb hby d9_21) _ ?_
  refine XS.astore X1.here hx rfl (hb hby d9_22) rfl rfl (l' := #[rv a0, .val .null, rv b_1, iv (4 : Int32), iv (0 : Int32), rv w_PRODUCER]) rfl ?_
  refine XS.aload X1.here hx rfl (hb hby d9_24) rfl rfl ?_
  show AT p e below T1 m 26 #[rv a0, .val .null, rv b_1, iv (4 : Int32), iv (0 : Int32), rv w_PRODUCER] [(.ref w_PRODUCER)] _
  refine st11 _ ?_
  refine XS.aloadN X11.here hx rfl (hb hby d9_29) rfl rfl ?_
  refine st12.trans ?_
  show AT p e below T12 m 33 #[rv a0, .val .null, rv b_1, iv (4 : Int32), iv (0 : Int32), rv w_PRODUCER] [(.int (0 : Int32))] _
  refine XS.ifYes X12.here hx rfl (pc0 := 33) (pc' := 39) rfl (hb hby d9_33) rfl (XT.i0_eq_t ((by decide) : (0 : Int32) = (0 : Int32))) (by decide) (by decide) ?_
  refine XS.iinc X12.here hx rfl (hb hby d9_39) rfl (l' := #[rv a0, .val .null, rv b_1, iv (4 : Int32), iv (1 : Int32), rv w_PRODUCER]) rfl ?_
  refine XS.goto X12.here hx rfl (pc0 := 42) (pc' := 12) rfl (hb hby d9_42) (by decide) (by decide) ?_
  refine XS.iload X12.here hx rfl (hb hby d9_12) rfl ?_
  refine XS.iloadN X12.here hx rfl (hb hby d9_14) rfl ?_
  show AT p e below T12 m 15 #[rv a0, .val .null, rv b_1, iv (4 : Int32), iv (1 : Int32), rv w_PRODUCER] [(.int (4 : Int32)), (.int (1 : Int32))] _
  refine XS.icmpNo X12.here hx rfl (hb hby d9_15) rfl (XT.ii_ge_f ((by decide) : (1 : Int32) < (4 : Int32))) ?_
  refine XS.aloadN X12.here hx rfl (hb hby d9_18) rfl rfl ?_
  refine XS.iload X12.here hx rfl (hb hby d9_19) rfl ?_
  refine X12.aaload hx (j := (1 : Int32)) (v := (.ref w_WORKER)) (by rw [e12]; exact Ar13.1) (State.isArrayOf_alike hZ.alike Ar13.2.1) rfl Ar13.2.2 hin13 hat13 (g := (mkF m 21 #[rv a0, .val .null, rv b_1, iv (4 : Int32), iv (1 : Int32), rv w_PRODUCER] [(.int (1 : Int32)), (.ref b_1)])) rfl rfl (hb hby d9_21) _ ?_
  refine XS.astore X12.here hx rfl (hb hby d9_22) rfl rfl (l' := #[rv a0, .val .null, rv b_1, iv (4 : Int32), iv (1 : Int32), rv w_WORKER]) rfl ?_
  refine XS.aload X12.here hx rfl (hb hby d9_24) rfl rfl ?_
  refine st14 _ ?_
  refine XS.aloadN X14.here hx rfl (hb hby d9_29) rfl rfl ?_
  refine st15.trans ?_
  exact kg)
 rcases Decidable.em ((f11_6_6 (119 : Int32) (111 : Int32) (114 : Int32) (107 : Int32) (101 : Int32) (114 : Int32) y0 y1 y2 y3 y4 y5) = (0 : Int32)) with hc17 | hc17
 ·
  obtain ⟨cl18, Ar18, q18, S18, N18, H18, G18⟩ := id u1_0
  have hin18 := own_in (2 : Int32) S18 ⟨by decide, by decide⟩
  have hat18 : cl18.slots[((2 : Int32)).toNatClampNeg]? = some (.ref w_OPERATOR) := Has.at H18 hin18 rfl
  obtain ⟨T19, X19, e19, st19⟩ := getF X15 hx hZ hown (host := "") (Or.inl (ow hw 61 rfl)) Via.refl e15 (F_shown_OPERATOR.ext O1.2) (g := (mkF m 26 #[rv a0, .val .null, rv b_1, iv (4 : Int32), iv (2 : Int32), rv w_OPERATOR] [(.ref w_OPERATOR)])) rfl rfl (hb hby d9_26)
  obtain ⟨cq20, kq20, q20a, q20b, q20c⟩ := isOf hZ e19 (E_OPERATOR_shown.ext O1.2)
  obtain ⟨_, _, ⟨T20, L20, k20, n20⟩, -, X20, ⟨Lc20, hQ20, l20, y20, z20⟩, st20⟩ := X19.virtualBack hx (y := y11) (z := y11) hown (mvT hZ (ow hw 63 rfl)) (mvT hZ (ow hw 64 rfl)) (notFace_of_selects (args := #[]) (mvT hZ (ow hw 66 rfl))) (mvT hZ (ow hw 66 rfl)) (mvT hZ (ow hw 65 rfl)) (by decide) (backOf (W := 0) (rm11_8x l Z ar hw [] w_OPERATOR_shown a0 w_CS0 w_SF1 w_PRODUCER w__VALUES w_WORKER w_OPERATOR w_ADMIN w_PRODUCER_shown w_PRODUCER_shown_value w_WORKER_shown w_WORKER_shown_value w_OPERATOR_shown w_OPERATOR_shown_value w_ADMIN_shown w_ADMIN_shown_value k__VALUES k_PRODUCER_shown_value k_WORKER_shown_value k_OPERATOR_shown_value k_ADMIN_shown_value w_OPERATOR_shown_value u k_OPERATOR_shown_value ku (6 : Int32) [(.int y0), (.int y1), (.int y2), (.int y3), (.int y4), (.int y5)] (111 : Int32) (112 : Int32) (101 : Int32) (114 : Int32) (97 : Int32) (116 : Int32) (111 : Int32) (114 : Int32) T1.heap n0 O1 HW (E_OPERATOR_shown.ext O1.2) E1_2 (F_coder_OPERATOR_shown.ext O1.2) F1_3 (F_value_OPERATOR_shown.ext O1.2) F1_4 (V_OPERATOR_shown_value.ext O1.2) V1_5 (Old.ne O1 E_OPERATOR_shown.lt pf4) (by decide)) hZ (ow hw 67 rfl) (ow hw 13 rfl) (by decide) (by decide)) q20a q20c (g := (mkF m 30 #[rv a0, .val .null, rv b_1, iv (4 : Int32), iv (2 : Int32), rv w_OPERATOR] [(.ref a0), (.ref w_OPERATOR_shown)])) rfl (by rw [hml]; rfl) (Steps.refl _) (argsL := [(.ref a0)]) (rest := []) (lenOf pd_1 rfl) rfl (by show 2 * 0 + _ ≤ _; exact Nat.le_of_eq rfl) (hb hby d9_30) (fun _ _ => ⟨rfl, e19, (by decide : 1 + 0 ≤ _), (by decide : 4 + 0 ≤ _)⟩)
  dsimp only [Pt.U, Pt.locs, Pt.cells, Pt.slots] at X20 l20 y20 z20 st20 hQ20
  subst l20 y20 z20
  obtain ⟨rfl, N20q, e20⟩ := hQ20
  have N20 := Fr.app N15 N20q
  obtain ⟨cl21, Ar21, q21, S21, N21, H21, G21⟩ := id u1_0
  have hin21 := own_in (3 : Int32) S21 ⟨by decide, by decide⟩
  have hat21 : cl21.slots[((3 : Int32)).toNatClampNeg]? = some (.ref w_ADMIN) := Has.at H21 hin21 rfl
  obtain ⟨T22, X22, e22, st22⟩ := getF X20 hx hZ hown (host := "") (Or.inl (ow hw 61 rfl)) Via.refl e20 (F_shown_ADMIN.ext O1.2) (g := (mkF m 26 #[rv a0, .val .null, rv b_1, iv (4 : Int32), iv (3 : Int32), rv w_ADMIN] [(.ref w_ADMIN)])) rfl rfl (hb hby d9_26)
  obtain ⟨cq23, kq23, q23a, q23b, q23c⟩ := isOf hZ e22 (E_ADMIN_shown.ext O1.2)
  obtain ⟨_, _, ⟨T23, L23, k23, n23⟩, -, X23, ⟨Lc23, hQ23, l23, y23, z23⟩, st23⟩ := X22.virtualBack hx (y := y11) (z := y11) hown (mvT hZ (ow hw 63 rfl)) (mvT hZ (ow hw 64 rfl)) (notFace_of_selects (args := #[]) (mvT hZ (ow hw 66 rfl))) (mvT hZ (ow hw 66 rfl)) (mvT hZ (ow hw 65 rfl)) (by decide) (backOf (W := 0) (rm11_5x l Z ar hw [] w_ADMIN_shown a0 w_CS0 w_SF1 w_PRODUCER w__VALUES w_WORKER w_OPERATOR w_ADMIN w_PRODUCER_shown w_PRODUCER_shown_value w_WORKER_shown w_WORKER_shown_value w_OPERATOR_shown w_OPERATOR_shown_value w_ADMIN_shown w_ADMIN_shown_value k__VALUES k_PRODUCER_shown_value k_WORKER_shown_value k_OPERATOR_shown_value k_ADMIN_shown_value w_ADMIN_shown_value u k_ADMIN_shown_value ku (6 : Int32) [(.int y0), (.int y1), (.int y2), (.int y3), (.int y4), (.int y5)] (97 : Int32) (100 : Int32) (109 : Int32) (105 : Int32) (110 : Int32) T1.heap n0 O1 HW (E_ADMIN_shown.ext O1.2) E1_2 (F_coder_ADMIN_shown.ext O1.2) F1_3 (F_value_ADMIN_shown.ext O1.2) F1_4 (V_ADMIN_shown_value.ext O1.2) V1_5 (Old.ne O1 E_ADMIN_shown.lt pf4) (by decide)) hZ (ow hw 67 rfl) (ow hw 13 rfl) (by decide) (by decide)) q23a q23c (g := (mkF m 30 #[rv a0, .val .null, rv b_1, iv (4 : Int32), iv (3 : Int32), rv w_ADMIN] [(.ref a0), (.ref w_ADMIN_shown)])) rfl (by rw [hml]; rfl) (Steps.refl _) (argsL := [(.ref a0)]) (rest := []) (lenOf pd_1 rfl) rfl (by show 2 * 0 + _ ≤ _; exact Nat.le_of_eq rfl) (hb hby d9_30) (fun _ _ => ⟨rfl, e22, (by decide : 1 + 0 ≤ _), (by decide : 4 + 0 ≤ _)⟩)
  dsimp only [Pt.U, Pt.locs, Pt.cells, Pt.slots] at X23 l23 y23 z23 st23 hQ23
  subst l23 y23 z23
  obtain ⟨rfl, N23q, e23⟩ := hQ23
  have N23 := Fr.app N20 N23q
  obtain ⟨fs, hr, hrun, hended, hW, hsame⟩ := X23.leave (v := some .null) (fun h => by rw [Bd.returns] at h; cases h)
  subst hS0
  refine ⟨_, _, pre16 _ ?_, hrun, hended, _, _, rfl, ?_, ⟨_, rfl⟩, hW, hsame.mono (by decide) (by decide)⟩
  ·
   refine XS.ifYes X15.here hx rfl (pc0 := 33) (pc' := 39) rfl (hb hby d9_33) rfl (XT.i0_eq_t hc17) (by decide) (by decide) ?_
   refine XS.iinc X15.here hx rfl (hb hby d9_39) rfl (l' := #[rv a0, .val .null, rv b_1, iv (4 : Int32), iv (2 : Int32), rv w_WORKER]) rfl ?_
   show AT p e below T15 m 42 #[rv a0, .val .null, rv b_1, iv (4 : Int32), iv (2 : Int32), rv w_WORKER] [] _
   refine XS.goto X15.here hx rfl (pc0 := 42) (pc' := 12) rfl (hb hby d9_42) (by decide) (by decide) ?_
   refine XS.iload X15.here hx rfl (hb hby d9_12) rfl ?_
   refine XS.iloadN X15.here hx rfl (hb hby d9_14) rfl ?_
   show AT p e below T15 m 15 #[rv a0, .val .null, rv b_1, iv (4 : Int32), iv (2 : Int32), rv w_WORKER] [(.int (4 : Int32)), (.int (2 : Int32))] _
   refine XS.icmpNo X15.here hx rfl (hb hby d9_15) rfl (XT.ii_ge_f ((by decide) : (2 : Int32) < (4 : Int32))) ?_
   refine XS.aloadN X15.here hx rfl (hb hby d9_18) rfl rfl ?_
   refine XS.iload X15.here hx rfl (hb hby d9_19) rfl ?_
   refine X15.aaload hx (j := (2 : Int32)) (v := (.ref w_OPERATOR)) (by rw [e15]; exact Ar18.1) (State.isArrayOf_alike hZ.alike Ar18.2.1) rfl Ar18.2.2 hin18 hat18 (g := (mkF m 21 #[rv a0, .val .null, rv b_1, iv (4 : Int32), iv (2 : Int32), rv w_WORKER] [(.int (2 : Int32)), (.ref b_1)])) rfl rfl (hb hby d9_21) _ ?_
   refine XS.astore X15.here hx rfl (hb hby d9_22) rfl rfl (l' := #[rv a0, .val .null, rv b_1, iv (4 : Int32), iv (2 : Int32), rv w_OPERATOR]) rfl ?_
   refine XS.aload X15.here hx rfl (hb hby d9_24) rfl rfl ?_
   refine st19 _ ?_
   refine XS.aloadN X19.here hx rfl (hb hby d9_29) rfl rfl ?_
   refine st20.trans ?_
   show AT p e below T20 m 33 #[rv a0, .val .null, rv b_1, iv (4 : Int32), iv (2 : Int32), rv w_OPERATOR] [(.int (0 : Int32))] _
   refine XS.ifYes X20.here hx rfl (pc0 := 33) (pc' := 39) rfl (hb hby d9_33) rfl (XT.i0_eq_t ((by decide) : (0 : Int32) = (0 : Int32))) (by decide) (by decide) ?_
   refine XS.iinc X20.here hx rfl (hb hby d9_39) rfl (l' := #[rv a0, .val .null, rv b_1, iv (4 : Int32), iv (3 : Int32), rv w_OPERATOR]) rfl ?_
   refine XS.goto X20.here hx rfl (pc0 := 42) (pc' := 12) rfl (hb hby d9_42) (by decide) (by decide) ?_
   refine XS.iload X20.here hx rfl (hb hby d9_12) rfl ?_
   refine XS.iloadN X20.here hx rfl (hb hby d9_14) rfl ?_
   show AT p e below T20 m 15 #[rv a0, .val .null, rv b_1, iv (4 : Int32), iv (3 : Int32), rv w_OPERATOR] [(.int (4 : Int32)), (.int (3 : Int32))] _
   refine XS.icmpNo X20.here hx rfl (hb hby d9_15) rfl (XT.ii_ge_f ((by decide) : (3 : Int32) < (4 : Int32))) ?_
   refine XS.aloadN X20.here hx rfl (hb hby d9_18) rfl rfl ?_
   show AT p e below T20 m 19 #[rv a0, .val .null, rv b_1, iv (4 : Int32), iv (3 : Int32), rv w_OPERATOR] [(.ref b_1)] _
   refine XS.iload X20.here hx rfl (hb hby d9_19) rfl ?_
   refine X20.aaload hx (j := (3 : Int32)) (v := (.ref w_ADMIN)) (by rw [e20]; exact Ar21.1) (State.isArrayOf_alike hZ.alike Ar21.2.1) rfl Ar21.2.2 hin21 hat21 (g := (mkF m 21 #[rv a0, .val .null, rv b_1, iv (4 : Int32), iv (3 : Int32), rv w_OPERATOR] [(.int (3 : Int32)), (.ref b_1)])) rfl rfl (hb hby d9_21) _ ?_
   refine XS.astore X20.here hx rfl (hb hby d9_22) rfl rfl (l' := #[rv a0, .val .null, rv b_1, iv (4 : Int32), iv (3 : Int32), rv w_ADMIN]) rfl ?_
   refine XS.aload X20.here hx rfl (hb hby d9_24) rfl rfl ?_
   refine st22 _ ?_
   refine XS.aloadN X22.here hx rfl (hb hby d9_29) rfl rfl ?_
   refine st23.trans ?_
   show AT p e below T23 m 33 #[rv a0, .val .null, rv b_1, iv (4 : Int32), iv (3 : Int32), rv w_ADMIN] [(.int (0 : Int32))] _
   refine XS.ifYes X23.here hx rfl (pc0 := 33) (pc' := 39) rfl (hb hby d9_33) rfl (XT.i0_eq_t ((by decide) : (0 : Int32) = (0 : Int32))) (by decide) (by decide) ?_
   refine XS.iinc X23.here hx rfl (hb hby d9_39) rfl (l' := #[rv a0, .val .null, rv b_1, iv (4 : Int32), iv (4 : Int32), rv w_ADMIN]) rfl ?_
   refine XS.goto X23.here hx rfl (pc0 := 42) (pc' := 12) rfl (hb hby d9_42) (by decide) (by decide) ?_
   refine XS.iload X23.here hx rfl (hb hby d9_12) rfl ?_
   refine XS.iloadN X23.here hx rfl (hb hby d9_14) rfl ?_
   show AT p e below T23 m 15 #[rv a0, .val .null, rv b_1, iv (4 : Int32), iv (4 : Int32), rv w_ADMIN] [(.int (4 : Int32)), (.int (4 : Int32))] _
   refine XS.icmpYes X23.here hx rfl (pc0 := 15) (pc' := 45) rfl (hb hby d9_15) rfl (XT.ii_ge_t ((by decide) : ¬ ((4 : Int32) < (4 : Int32)))) (by decide) (by decide) ?_
   refine XS.aloadN X23.here hx rfl (hb hby d9_45) rfl rfl ?_
   exact retOut X23 hx (t := (.object "com/example/lease/lease/Role")) (i := .areturn) Bd.returns rfl (Or.inr (Or.inr (Or.inr (Or.inr ⟨rfl, rfl, rfl⟩)))) (hb hby d9_46) hr
  ·
   show Q9_6 Z a0 w_CS0 w_SF1 w_PRODUCER w__VALUES w_WORKER w_OPERATOR w_ADMIN w_PRODUCER_shown w_PRODUCER_shown_value w_WORKER_shown w_WORKER_shown_value w_OPERATOR_shown w_OPERATOR_shown_value w_ADMIN_shown w_ADMIN_shown_value k__VALUES k_PRODUCER_shown_value k_WORKER_shown_value k_OPERATOR_shown_value k_ADMIN_shown_value u ku y0 y1 y2 y3 y4 y5 h0 n0 _ T23.heap _
   rw [e23]
   exact ⟨(by rw [f9_6, if_pos hc17]), N23, K1⟩
 ·
  obtain ⟨cl24, Ar24, q24, S24, N24, H24, G24⟩ := id u1_0
  have hin24 := own_in (2 : Int32) S24 ⟨by decide, by decide⟩
  have hat24 : cl24.slots[((2 : Int32)).toNatClampNeg]? = some (.ref w_OPERATOR) := Has.at H24 hin24 rfl
  obtain ⟨T25, X25, e25, st25⟩ := getF X15 hx hZ hown (host := "") (Or.inl (ow hw 61 rfl)) Via.refl e15 (F_shown_OPERATOR.ext O1.2) (g := (mkF m 26 #[rv a0, rv w_WORKER, rv b_1, iv (4 : Int32), iv (2 : Int32), rv w_OPERATOR] [(.ref w_OPERATOR)])) rfl rfl (hb hby d9_26)
  obtain ⟨cq26, kq26, q26a, q26b, q26c⟩ := isOf hZ e25 (E_OPERATOR_shown.ext O1.2)
  obtain ⟨_, _, ⟨T26, L26, k26, n26⟩, -, X26, ⟨Lc26, hQ26, l26, y26, z26⟩, st26⟩ := X25.virtualBack hx (y := y11) (z := y11) hown (mvT hZ (ow hw 63 rfl)) (mvT hZ (ow hw 64 rfl)) (notFace_of_selects (args := #[]) (mvT hZ (ow hw 66 rfl))) (mvT hZ (ow hw 66 rfl)) (mvT hZ (ow hw 65 rfl)) (by decide) (backOf (W := 0) (rm11_8x l Z ar hw [] w_OPERATOR_shown a0 w_CS0 w_SF1 w_PRODUCER w__VALUES w_WORKER w_OPERATOR w_ADMIN w_PRODUCER_shown w_PRODUCER_shown_value w_WORKER_shown w_WORKER_shown_value w_OPERATOR_shown w_OPERATOR_shown_value w_ADMIN_shown w_ADMIN_shown_value k__VALUES k_PRODUCER_shown_value k_WORKER_shown_value k_OPERATOR_shown_value k_ADMIN_shown_value w_OPERATOR_shown_value u k_OPERATOR_shown_value ku (6 : Int32) [(.int y0), (.int y1), (.int y2), (.int y3), (.int y4), (.int y5)] (111 : Int32) (112 : Int32) (101 : Int32) (114 : Int32) (97 : Int32) (116 : Int32) (111 : Int32) (114 : Int32) T1.heap n0 O1 HW (E_OPERATOR_shown.ext O1.2) E1_2 (F_coder_OPERATOR_shown.ext O1.2) F1_3 (F_value_OPERATOR_shown.ext O1.2) F1_4 (V_OPERATOR_shown_value.ext O1.2) V1_5 (Old.ne O1 E_OPERATOR_shown.lt pf4) (by decide)) hZ (ow hw 67 rfl) (ow hw 13 rfl) (by decide) (by decide)) q26a q26c (g := (mkF m 30 #[rv a0, rv w_WORKER, rv b_1, iv (4 : Int32), iv (2 : Int32), rv w_OPERATOR] [(.ref a0), (.ref w_OPERATOR_shown)])) rfl (by rw [hml]; rfl) (Steps.refl _) (argsL := [(.ref a0)]) (rest := []) (lenOf pd_1 rfl) rfl (by show 2 * 0 + _ ≤ _; exact Nat.le_of_eq rfl) (hb hby d9_30) (fun _ _ => ⟨rfl, e25, (by decide : 1 + 0 ≤ _), (by decide : 4 + 0 ≤ _)⟩)
  dsimp only [Pt.U, Pt.locs, Pt.cells, Pt.slots] at X26 l26 y26 z26 st26 hQ26
  subst l26 y26 z26
  obtain ⟨rfl, N26q, e26⟩ := hQ26
  have N26 := Fr.app N15 N26q
  obtain ⟨cl27, Ar27, q27, S27, N27, H27, G27⟩ := id u1_0
  have hin27 := own_in (3 : Int32) S27 ⟨by decide, by decide⟩
  have hat27 : cl27.slots[((3 : Int32)).toNatClampNeg]? = some (.ref w_ADMIN) := Has.at H27 hin27 rfl
  obtain ⟨T28, X28, e28, st28⟩ := getF X26 hx hZ hown (host := "") (Or.inl (ow hw 61 rfl)) Via.refl e26 (F_shown_ADMIN.ext O1.2) (g := (mkF m 26 #[rv a0, rv w_WORKER, rv b_1, iv (4 : Int32), iv (3 : Int32), rv w_ADMIN] [(.ref w_ADMIN)])) rfl rfl (hb hby d9_26)
  obtain ⟨cq29, kq29, q29a, q29b, q29c⟩ := isOf hZ e28 (E_ADMIN_shown.ext O1.2)
  obtain ⟨_, _, ⟨T29, L29, k29, n29⟩, -, X29, ⟨Lc29, hQ29, l29, y29, z29⟩, st29⟩ := X28.virtualBack hx (y := y11) (z := y11) hown (mvT hZ (ow hw 63 rfl)) (mvT hZ (ow hw 64 rfl)) (notFace_of_selects (args := #[]) (mvT hZ (ow hw 66 rfl))) (mvT hZ (ow hw 66 rfl)) (mvT hZ (ow hw 65 rfl)) (by decide) (backOf (W := 0) (rm11_5x l Z ar hw [] w_ADMIN_shown a0 w_CS0 w_SF1 w_PRODUCER w__VALUES w_WORKER w_OPERATOR w_ADMIN w_PRODUCER_shown w_PRODUCER_shown_value w_WORKER_shown w_WORKER_shown_value w_OPERATOR_shown w_OPERATOR_shown_value w_ADMIN_shown w_ADMIN_shown_value k__VALUES k_PRODUCER_shown_value k_WORKER_shown_value k_OPERATOR_shown_value k_ADMIN_shown_value w_ADMIN_shown_value u k_ADMIN_shown_value ku (6 : Int32) [(.int y0), (.int y1), (.int y2), (.int y3), (.int y4), (.int y5)] (97 : Int32) (100 : Int32) (109 : Int32) (105 : Int32) (110 : Int32) T1.heap n0 O1 HW (E_ADMIN_shown.ext O1.2) E1_2 (F_coder_ADMIN_shown.ext O1.2) F1_3 (F_value_ADMIN_shown.ext O1.2) F1_4 (V_ADMIN_shown_value.ext O1.2) V1_5 (Old.ne O1 E_ADMIN_shown.lt pf4) (by decide)) hZ (ow hw 67 rfl) (ow hw 13 rfl) (by decide) (by decide)) q29a q29c (g := (mkF m 30 #[rv a0, rv w_WORKER, rv b_1, iv (4 : Int32), iv (3 : Int32), rv w_ADMIN] [(.ref a0), (.ref w_ADMIN_shown)])) rfl (by rw [hml]; rfl) (Steps.refl _) (argsL := [(.ref a0)]) (rest := []) (lenOf pd_1 rfl) rfl (by show 2 * 0 + _ ≤ _; exact Nat.le_of_eq rfl) (hb hby d9_30) (fun _ _ => ⟨rfl, e28, (by decide : 1 + 0 ≤ _), (by decide : 4 + 0 ≤ _)⟩)
  dsimp only [Pt.U, Pt.locs, Pt.cells, Pt.slots] at X29 l29 y29 z29 st29 hQ29
  subst l29 y29 z29
  obtain ⟨rfl, N29q, e29⟩ := hQ29
  have N29 := Fr.app N26 N29q
  obtain ⟨fs, hr, hrun, hended, hW, hsame⟩ := X29.leave (v := some (.ref w_WORKER)) (fun h => by rw [Bd.returns] at h; cases h)
  subst hS0
  refine ⟨_, _, pre16 _ ?_, hrun, hended, _, _, rfl, ?_, ⟨_, rfl⟩, hW, hsame.mono (by decide) (by decide)⟩
  ·
   refine XS.ifNo X15.here hx rfl (hb hby d9_33) rfl (XT.i0_eq_f hc17) ?_
   refine XS.aload X15.here hx rfl (hb hby d9_36) rfl rfl ?_
   show AT p e below T15 m 38 #[rv a0, .val .null, rv b_1, iv (4 : Int32), iv (1 : Int32), rv w_WORKER] [(.ref w_WORKER)] _
   refine XS.astoreN X15.here hx rfl (hb hby d9_38) rfl rfl (l' := #[rv a0, rv w_WORKER, rv b_1, iv (4 : Int32), iv (1 : Int32), rv w_WORKER]) rfl ?_
   refine XS.iinc X15.here hx rfl (hb hby d9_39) rfl (l' := #[rv a0, rv w_WORKER, rv b_1, iv (4 : Int32), iv (2 : Int32), rv w_WORKER]) rfl ?_
   refine XS.goto X15.here hx rfl (pc0 := 42) (pc' := 12) rfl (hb hby d9_42) (by decide) (by decide) ?_
   refine XS.iload X15.here hx rfl (hb hby d9_12) rfl ?_
   refine XS.iloadN X15.here hx rfl (hb hby d9_14) rfl ?_
   show AT p e below T15 m 15 #[rv a0, rv w_WORKER, rv b_1, iv (4 : Int32), iv (2 : Int32), rv w_WORKER] [(.int (4 : Int32)), (.int (2 : Int32))] _
   refine XS.icmpNo X15.here hx rfl (hb hby d9_15) rfl (XT.ii_ge_f ((by decide) : (2 : Int32) < (4 : Int32))) ?_
   refine XS.aloadN X15.here hx rfl (hb hby d9_18) rfl rfl ?_
   refine XS.iload X15.here hx rfl (hb hby d9_19) rfl ?_
   refine X15.aaload hx (j := (2 : Int32)) (v := (.ref w_OPERATOR)) (by rw [e15]; exact Ar24.1) (State.isArrayOf_alike hZ.alike Ar24.2.1) rfl Ar24.2.2 hin24 hat24 (g := (mkF m 21 #[rv a0, rv w_WORKER, rv b_1, iv (4 : Int32), iv (2 : Int32), rv w_WORKER] [(.int (2 : Int32)), (.ref b_1)])) rfl rfl (hb hby d9_21) _ ?_
   refine XS.astore X15.here hx rfl (hb hby d9_22) rfl rfl (l' := #[rv a0, rv w_WORKER, rv b_1, iv (4 : Int32), iv (2 : Int32), rv w_OPERATOR]) rfl ?_
   refine XS.aload X15.here hx rfl (hb hby d9_24) rfl rfl ?_
   refine st25 _ ?_
   refine XS.aloadN X25.here hx rfl (hb hby d9_29) rfl rfl ?_
   refine st26.trans ?_
   show AT p e below T26 m 33 #[rv a0, rv w_WORKER, rv b_1, iv (4 : Int32), iv (2 : Int32), rv w_OPERATOR] [(.int (0 : Int32))] _
   refine XS.ifYes X26.here hx rfl (pc0 := 33) (pc' := 39) rfl (hb hby d9_33) rfl (XT.i0_eq_t ((by decide) : (0 : Int32) = (0 : Int32))) (by decide) (by decide) ?_
   refine XS.iinc X26.here hx rfl (hb hby d9_39) rfl (l' := #[rv a0, rv w_WORKER, rv b_1, iv (4 : Int32), iv (3 : Int32), rv w_OPERATOR]) rfl ?_
   refine XS.goto X26.here hx rfl (pc0 := 42) (pc' := 12) rfl (hb hby d9_42) (by decide) (by decide) ?_
   refine XS.iload X26.here hx rfl (hb hby d9_12) rfl ?_
   show AT p e below T26 m 14 #[rv a0, rv w_WORKER, rv b_1, iv (4 : Int32), iv (3 : Int32), rv w_OPERATOR] [(.int (3 : Int32))] _
   refine XS.iloadN X26.here hx rfl (hb hby d9_14) rfl ?_
   show AT p e below T26 m 15 #[rv a0, rv w_WORKER, rv b_1, iv (4 : Int32), iv (3 : Int32), rv w_OPERATOR] [(.int (4 : Int32)), (.int (3 : Int32))] _
   refine XS.icmpNo X26.here hx rfl (hb hby d9_15) rfl (XT.ii_ge_f ((by decide) : (3 : Int32) < (4 : Int32))) ?_
   refine XS.aloadN X26.here hx rfl (hb hby d9_18) rfl rfl ?_
   refine XS.iload X26.here hx rfl (hb hby d9_19) rfl ?_
   refine X26.aaload hx (j := (3 : Int32)) (v := (.ref w_ADMIN)) (by rw [e26]; exact Ar27.1) (State.isArrayOf_alike hZ.alike Ar27.2.1) rfl Ar27.2.2 hin27 hat27 (g := (mkF m 21 #[rv a0, rv w_WORKER, rv b_1, iv (4 : Int32), iv (3 : Int32), rv w_OPERATOR] [(.int (3 : Int32)), (.ref b_1)])) rfl rfl (hb hby d9_21) _ ?_
   refine XS.astore X26.here hx rfl (hb hby d9_22) rfl rfl (l' := #[rv a0, rv w_WORKER, rv b_1, iv (4 : Int32), iv (3 : Int32), rv w_ADMIN]) rfl ?_
   refine XS.aload X26.here hx rfl (hb hby d9_24) rfl rfl ?_
   refine st28 _ ?_
   refine XS.aloadN X28.here hx rfl (hb hby d9_29) rfl rfl ?_
   refine st29.trans ?_
   show AT p e below T29 m 33 #[rv a0, rv w_WORKER, rv b_1, iv (4 : Int32), iv (3 : Int32), rv w_ADMIN] [(.int (0 : Int32))] _
   refine XS.ifYes X29.here hx rfl (pc0 := 33) (pc' := 39) rfl (hb hby d9_33) rfl (XT.i0_eq_t ((by decide) : (0 : Int32) = (0 : Int32))) (by decide) (by decide) ?_
   refine XS.iinc X29.here hx rfl (hb hby d9_39) rfl (l' := #[rv a0, rv w_WORKER, rv b_1, iv (4 : Int32), iv (4 : Int32), rv w_ADMIN]) rfl ?_
   refine XS.goto X29.here hx rfl (pc0 := 42) (pc' := 12) rfl (hb hby d9_42) (by decide) (by decide) ?_
   refine XS.iload X29.here hx rfl (hb hby d9_12) rfl ?_
   refine XS.iloadN X29.here hx rfl (hb hby d9_14) rfl ?_
   show AT p e below T29 m 15 #[rv a0, rv w_WORKER, rv b_1, iv (4 : Int32), iv (4 : Int32), rv w_ADMIN] [(.int (4 : Int32)), (.int (4 : Int32))] _
   refine XS.icmpYes X29.here hx rfl (pc0 := 15) (pc' := 45) rfl (hb hby d9_15) rfl (XT.ii_ge_t ((by decide) : ¬ ((4 : Int32) < (4 : Int32)))) (by decide) (by decide) ?_
   refine XS.aloadN X29.here hx rfl (hb hby d9_45) rfl rfl ?_
   exact retOut X29 hx (t := (.object "com/example/lease/lease/Role")) (i := .areturn) Bd.returns rfl (Or.inr (Or.inr (Or.inr (Or.inr ⟨rfl, rfl, rfl⟩)))) (hb hby d9_46) hr
  ·
   show Q9_6 Z a0 w_CS0 w_SF1 w_PRODUCER w__VALUES w_WORKER w_OPERATOR w_ADMIN w_PRODUCER_shown w_PRODUCER_shown_value w_WORKER_shown w_WORKER_shown_value w_OPERATOR_shown w_OPERATOR_shown_value w_ADMIN_shown w_ADMIN_shown_value k__VALUES k_PRODUCER_shown_value k_WORKER_shown_value k_OPERATOR_shown_value k_ADMIN_shown_value u ku y0 y1 y2 y3 y4 y5 h0 n0 _ T29.heap _
   rw [e29]
   exact ⟨(by rw [f9_6, if_neg hc17]), N29, K1⟩

theorem ef_12_8_8 (m : MethodId) (a0 : Addr) (a1 : Addr) : entryFrame m #[(.ref a0), (.ref a1)] 3 = mkF m 0 #[rv a0, rv a1, un] [] := by first | (simp [entryFrame, mkF, argsToLocals, Value.category]; done) | rfl
def f12_8_8 (x0 : Int32) (x1 : Int32) (x2 : Int32) (x3 : Int32) (x4 : Int32) (x5 : Int32) (x6 : Int32) (x7 : Int32) (y0 : Int32) (y1 : Int32) (y2 : Int32) (y3 : Int32) (y4 : Int32) (y5 : Int32) (y6 : Int32) (y7 : Int32) : Int32 := if x0 = y0 then (if x1 = y1 then (if x2 = y2 then (if x3 = y3 then (if x4 = y4 then (if x5 = y5 then (if x6 = y6 then (if x7 = y7 then (1 : Int32) else (0 : Int32)) else ((0 : Int32))) else ((0 : Int32))) else ((0 : Int32))) else ((0 : Int32))) else ((0 : Int32))) else ((0 : Int32))) else ((0 : Int32))
def Q12_8_8 (Z : State) (a0 : Addr) (a1 : Addr) (ka : ClassId) (kb : ClassId) (x0 : Int32) (x1 : Int32) (x2 : Int32) (x3 : Int32) (x4 : Int32) (x5 : Int32) (x6 : Int32) (x7 : Int32) (y0 : Int32) (y1 : Int32) (y2 : Int32) (y3 : Int32) (y4 : Int32) (y5 : Int32) (y6 : Int32) (y7 : Int32) (h0 : Heap) (n0 : Nat) (v : Option Value) (h : Heap) (L : List Loc) : Prop := v = some (.int (f12_8_8 x0 x1 x2 x3 x4 x5 x6 x7 y0 y1 y2 y3 y4 y5 y6 y7)) ∧ Fr n0 L ∧ h = h0
set_option maxRecDepth 65536 in
set_option maxHeartbeats 40000000 in
theorem rm12_8_8 (l : Launch) (Z : State) (ar : Array Value) (hw : ∀ d ∈ tables_1, d.before ar Z = true) (ws : List Jvm.Cond) (a0 : Addr) (a1 : Addr) (ka : ClassId) (kb : ClassId) (x0 : Int32) (x1 : Int32) (x2 : Int32) (x3 : Int32) (x4 : Int32) (x5 : Int32) (x6 : Int32) (x7 : Int32) (y0 : Int32) (y1 : Int32) (y2 : Int32) (y3 : Int32) (y4 : Int32) (y5 : Int32) (y6 : Int32) (y7 : Int32) (h0 : Heap) (n0 : Nat) (O0 : Old Z n0 h0) (pf0 : Arv Z h0 a0 ka .byte (8 : Int32) [(.int x0), (.int x1), (.int x2), (.int x3), (.int x4), (.int x5), (.int x6), (.int x7)] (.int (0 : Int32))) (pf1 : Arv Z h0 a1 kb .byte (8 : Int32) [(.int y0), (.int y1), (.int y2), (.int y3), (.int y4), (.int y5), (.int y6), (.int y7)] (.int (0 : Int32))) :
    MetFree l y12 (head1 (Jvm.Cond.code y12 jdk_43_method_13_code 3 (some .boolean) :: ws) ({ frames := 0, cells := 0, slots := 0, locals := 0 } : Room)) (fun a U => a = #[(.ref a0), (.ref a1)] ∧ Z.Warmed39 U.vm ∧ U.heap = h0) (fun _ _ _ _ _ => True) (fun _ U o U' => ∃ v L, o = .returned v ∧ Q12_8_8 Z a0 a1 ka kb x0 x1 x2 x3 x4 x5 x6 x7 y0 y1 y2 y3 y4 y5 y6 y7 h0 n0 v U'.heap L ∧ FrameEnd U o U' L ({ frames := 0, cells := 0, slots := 0, locals := 0 } : Room).cells ({ frames := 0, cells := 0, slots := 0, locals := 0 } : Room).slots) := by
 refine MetFree.of_bodySF (plainFor_of_name pn_3) hisR ?_
 intro p e s m args below meth c s₁ Bd hml0 hP hK
 obtain ⟨rfl, hZ, hh⟩ := hP
 have hx := Bd.exec
 have hby := Bd.bytes
 have hml : c.maxLocals = 3 := hml0
 have hown : s.vm.findClass "java/lang/StringLatin1" = some m.cls := findClass_of_methodNamed Bd.named
 have hnm := (name_of_methodNamed Bd.named Bd.method).1
 have X0 : Stand p l e ({ frames := 0, cells := 0, slots := 0, locals := 0 } : Room) s m #[(.ref a0), (.ref a1)] below meth c s₁ [] 0 0 := Stand.of_body Bd
 have e0 : s₁.heap = h0 := by rw [← hh, Bd.state]; rfl
 have N0 := Fr.nil n0
 have Z0 : n0 ≤ h0.size := Nat.le_trans (Nat.le_of_eq O0.1.symm) O0.2.1
 obtain ⟨S0, hS0⟩ : ∃ z, z = s₁.setTop (entryFrame m #[(.ref a0), (.ref a1)] 3) := ⟨_, rfl⟩
 have pre0 : ∀ tg, AT p e below s₁ m 0 #[rv a0, rv a1, un] [] tg → Steps p.tables e below S0 tg := fun tg kg => by rw [hS0]; exact castTop (ef_12_8_8 m a0 a1) kg
 obtain ⟨cl1, Ar1, q1, S1, N1, H1, G1⟩ := id pf0
 obtain ⟨cl2, Ar2, q2, S2, N2, H2, G2⟩ := id pf1
 obtain ⟨cl3, Ar3, q3, S3, N3, H3, G3⟩ := id pf0
 obtain ⟨cl4, Ar4, q4, S4, N4, H4, G4⟩ := id pf0
 have hin4 := own_in (0 : Int32) S4 ⟨by decide, by decide⟩
 have hat4 : cl4.slots[((0 : Int32)).toNatClampNeg]? = some (.int x0) := Has.at H4 hin4 rfl
 obtain ⟨cl5, Ar5, q5, S5, N5, H5, G5⟩ := id pf1
 have hin5 := own_in (0 : Int32) S5 ⟨by decide, by decide⟩
 have hat5 : cl5.slots[((0 : Int32)).toNatClampNeg]? = some (.int y0) := Has.at H5 hin5 rfl
 have pre6 : ∀ tg, AT p e below s₁ m 21 #[rv a0, rv a1, iv (0 : Int32)] [(.int y0), (.int x0)] tg → Steps p.tables e below S0 tg := fun tg kg => pre0 tg (by
  refine XS.aloadN X0.here hx rfl (hb hby d12_0) rfl rfl ?_
  refine X0.arraylength hx (by rw [e0]; exact Ar1.1) (State.isArrayOf_alike hZ.alike Ar1.2.1) (g := (mkF m 1 #[rv a0, rv a1, un] [(.ref a0)])) rfl rfl (hb hby d12_1) _ ?_
  rw [len_of S1 N1]
  refine XS.aloadN X0.here hx rfl (hb hby d12_2) rfl rfl ?_
  refine X0.arraylength hx (by rw [e0]; exact Ar2.1) (State.isArrayOf_alike hZ.alike Ar2.2.1) (g := (mkF m 3 #[rv a0, rv a1, un] [(.ref a1), (.int (8 : Int32))])) rfl rfl (hb hby d12_3) _ ?_
  rw [len_of S2 N2]
  show AT p e below s₁ m 4 #[rv a0, rv a1, un] [(.int (8 : Int32)), (.int (8 : Int32))] _
  refine XS.icmpNo X0.here hx rfl (hb hby d12_4) rfl (XT.ii_ne_f ((by decide) : (8 : Int32) = (8 : Int32))) ?_
  refine XS.iconst X0.here hx rfl (hb hby d12_7) ?_
  refine XS.istoreN X0.here hx rfl (hb hby d12_8) rfl (l' := #[rv a0, rv a1, iv (0 : Int32)]) rfl ?_
  refine XS.iloadN X0.here hx rfl (hb hby d12_9) rfl ?_
  refine XS.aloadN X0.here hx rfl (hb hby d12_10) rfl rfl ?_
  refine X0.arraylength hx (by rw [e0]; exact Ar3.1) (State.isArrayOf_alike hZ.alike Ar3.2.1) (g := (mkF m 11 #[rv a0, rv a1, iv (0 : Int32)] [(.ref a0), (.int (0 : Int32))])) rfl rfl (hb hby d12_11) _ ?_
  rw [len_of S3 N3]
  show AT p e below s₁ m 12 #[rv a0, rv a1, iv (0 : Int32)] [(.int (8 : Int32)), (.int (0 : Int32))] _
  refine XS.icmpNo X0.here hx rfl (hb hby d12_12) rfl (XT.ii_ge_f ((by decide) : (0 : Int32) < (8 : Int32))) ?_
  refine XS.aloadN X0.here hx rfl (hb hby d12_15) rfl rfl ?_
  refine XS.iloadN X0.here hx rfl (hb hby d12_16) rfl ?_
  refine X0.baloadBytes hx (j := (0 : Int32)) (v := (.int x0)) (by rw [e0]; exact Ar4.1) (State.isArrayOf_alike hZ.alike Ar4.2.1) Ar4.2.2 hin4 hat4 (g := (mkF m 17 #[rv a0, rv a1, iv (0 : Int32)] [(.int (0 : Int32)), (.ref a0)])) rfl rfl (hb hby d12_17) _ ?_
  show AT p e below s₁ m 18 #[rv a0, rv a1, iv (0 : Int32)] [(.int x0)] _
  refine XS.aloadN X0.here hx rfl (hb hby d12_18) rfl rfl ?_
  refine XS.iloadN X0.here hx rfl (hb hby d12_19) rfl ?_
  refine X0.baloadBytes hx (j := (0 : Int32)) (v := (.int y0)) (by rw [e0]; exact Ar5.1) (State.isArrayOf_alike hZ.alike Ar5.2.1) Ar5.2.2 hin5 hat5 (g := (mkF m 20 #[rv a0, rv a1, iv (0 : Int32)] [(.int (0 : Int32)), (.ref a1), (.int x0)])) rfl rfl (hb hby d12_20) _ ?_
  exact kg)
 rcases Decidable.em (x0 = y0) with hc7 | hc7
 ·
  obtain ⟨cl8, Ar8, q8, S8, N8, H8, G8⟩ := id pf0
  obtain ⟨cl9, Ar9, q9, S9, N9, H9, G9⟩ := id pf0
  have hin9 := own_in (1 : Int32) S9 ⟨by decide, by decide⟩
  have hat9 : cl9.slots[((1 : Int32)).toNatClampNeg]? = some (.int x1) := Has.at H9 hin9 rfl
  obtain ⟨cl10, Ar10, q10, S10, N10, H10, G10⟩ := id pf1
  have hin10 := own_in (1 : Int32) S10 ⟨by decide, by decide⟩
  have hat10 : cl10.slots[((1 : Int32)).toNatClampNeg]? = some (.int y1) := Has.at H10 hin10 rfl
  have pre11 : ∀ tg, AT p e below s₁ m 21 #[rv a0, rv a1, iv (1 : Int32)] [(.int y1), (.int x1)] tg → Steps p.tables e below S0 tg := fun tg kg => pre6 tg (by
   refine XS.icmpYes X0.here hx rfl (pc0 := 21) (pc' := 26) rfl (hb hby d12_21) rfl (XT.ii_eq_t hc7) (by decide) (by decide) ?_
   refine XS.iinc X0.here hx rfl (hb hby d12_26) rfl (l' := #[rv a0, rv a1, iv (1 : Int32)]) rfl ?_
   refine XS.goto X0.here hx rfl (pc0 := 29) (pc' := 9) rfl (hb hby d12_29) (by decide) (by decide) ?_
   refine XS.iloadN X0.here hx rfl (hb hby d12_9) rfl ?_
   refine XS.aloadN X0.here hx rfl (hb hby d12_10) rfl rfl ?_
   refine X0.arraylength hx (by rw [e0]; exact Ar8.1) (State.isArrayOf_alike hZ.alike Ar8.2.1) (g := (mkF m 11 #[rv a0, rv a1, iv (1 : Int32)] [(.ref a0), (.int (1 : Int32))])) rfl rfl (hb hby d12_11) _ ?_
   rw [len_of S8 N8]
   show AT p e below s₁ m 12 #[rv a0, rv a1, iv (1 : Int32)] [(.int (8 : Int32)), (.int (1 : Int32))] _
   refine XS.icmpNo X0.here hx rfl (hb hby d12_12) rfl (XT.ii_ge_f ((by decide) : (1 : Int32) < (8 : Int32))) ?_
   refine XS.aloadN X0.here hx rfl (hb hby d12_15) rfl rfl ?_
   refine XS.iloadN X0.here hx rfl (hb hby d12_16) rfl ?_
   refine X0.baloadBytes hx (j := (1 : Int32)) (v := (.int x1)) (by rw [e0]; exact Ar9.1) (State.isArrayOf_alike hZ.alike Ar9.2.1) Ar9.2.2 hin9 hat9 (g := (mkF m 17 #[rv a0, rv a1, iv (1 : Int32)] [(.int (1 : Int32)), (.ref a0)])) rfl rfl (hb hby d12_17) _ ?_
   refine XS.aloadN X0.here hx rfl (hb hby d12_18) rfl rfl ?_
   show AT p e below s₁ m 19 #[rv a0, rv a1, iv (1 : Int32)] [(.ref a1), (.int x1)] _
   refine XS.iloadN X0.here hx rfl (hb hby d12_19) rfl ?_
   refine X0.baloadBytes hx (j := (1 : Int32)) (v := (.int y1)) (by rw [e0]; exact Ar10.1) (State.isArrayOf_alike hZ.alike Ar10.2.1) Ar10.2.2 hin10 hat10 (g := (mkF m 20 #[rv a0, rv a1, iv (1 : Int32)] [(.int (1 : Int32)), (.ref a1), (.int x1)])) rfl rfl (hb hby d12_20) _ ?_
   exact kg)
  rcases Decidable.em (x1 = y1) with hc12 | hc12
  ·
   obtain ⟨cl13, Ar13, q13, S13, N13, H13, G13⟩ := id pf0
   obtain ⟨cl14, Ar14, q14, S14, N14, H14, G14⟩ := id pf0
   have hin14 := own_in (2 : Int32) S14 ⟨by decide, by decide⟩
   have hat14 : cl14.slots[((2 : Int32)).toNatClampNeg]? = some (.int x2) := Has.at H14 hin14 rfl
   obtain ⟨cl15, Ar15, q15, S15, N15, H15, G15⟩ := id pf1
   have hin15 := own_in (2 : Int32) S15 ⟨by decide, by decide⟩
   have hat15 : cl15.slots[((2 : Int32)).toNatClampNeg]? = some (.int y2) := Has.at H15 hin15 rfl
   have pre16 : ∀ tg, AT p e below s₁ m 21 #[rv a0, rv a1, iv (2 : Int32)] [(.int y2), (.int x2)] tg → Steps p.tables e below S0 tg := fun tg kg => pre11 tg (by
    refine XS.icmpYes X0.here hx rfl (pc0 := 21) (pc' := 26) rfl (hb hby d12_21) rfl (XT.ii_eq_t hc12) (by decide) (by decide) ?_
    refine XS.iinc X0.here hx rfl (hb hby d12_26) rfl (l' := #[rv a0, rv a1, iv (2 : Int32)]) rfl ?_
    refine XS.goto X0.here hx rfl (pc0 := 29) (pc' := 9) rfl (hb hby d12_29) (by decide) (by decide) ?_
    refine XS.iloadN X0.here hx rfl (hb hby d12_9) rfl ?_
    refine XS.aloadN X0.here hx rfl (hb hby d12_10) rfl rfl ?_
    refine X0.arraylength hx (by rw [e0]; exact Ar13.1) (State.isArrayOf_alike hZ.alike Ar13.2.1) (g := (mkF m 11 #[rv a0, rv a1, iv (2 : Int32)] [(.ref a0), (.int (2 : Int32))])) rfl rfl (hb hby d12_11) _ ?_
    rw [len_of S13 N13]
    show AT p e below s₁ m 12 #[rv a0, rv a1, iv (2 : Int32)] [(.int (8 : Int32)), (.int (2 : Int32))] _
    refine XS.icmpNo X0.here hx rfl (hb hby d12_12) rfl (XT.ii_ge_f ((by decide) : (2 : Int32) < (8 : Int32))) ?_
    refine XS.aloadN X0.here hx rfl (hb hby d12_15) rfl rfl ?_
    refine XS.iloadN X0.here hx rfl (hb hby d12_16) rfl ?_
    refine X0.baloadBytes hx (j := (2 : Int32)) (v := (.int x2)) (by rw [e0]; exact Ar14.1) (State.isArrayOf_alike hZ.alike Ar14.2.1) Ar14.2.2 hin14 hat14 (g := (mkF m 17 #[rv a0, rv a1, iv (2 : Int32)] [(.int (2 : Int32)), (.ref a0)])) rfl rfl (hb hby d12_17) _ ?_
    refine XS.aloadN X0.here hx rfl (hb hby d12_18) rfl rfl ?_
    refine XS.iloadN X0.here hx rfl (hb hby d12_19) rfl ?_
    show AT p e below s₁ m 20 #[rv a0, rv a1, iv (2 : Int32)] [(.int (2 : Int32)), (.ref a1), (.int x2)] _
    refine X0.baloadBytes hx (j := (2 : Int32)) (v := (.int y2)) (by rw [e0]; exact Ar15.1) (State.isArrayOf_alike hZ.alike Ar15.2.1) Ar15.2.2 hin15 hat15 (g := (mkF m 20 #[rv a0, rv a1, iv (2 : Int32)] [(.int (2 : Int32)), (.ref a1), (.int x2)])) rfl rfl (hb hby d12_20) _ ?_
    exact kg)
   rcases Decidable.em (x2 = y2) with hc17 | hc17
   ·
    obtain ⟨cl18, Ar18, q18, S18, N18, H18, G18⟩ := id pf0
    obtain ⟨cl19, Ar19, q19, S19, N19, H19, G19⟩ := id pf0
    have hin19 := own_in (3 : Int32) S19 ⟨by decide, by decide⟩
    have hat19 : cl19.slots[((3 : Int32)).toNatClampNeg]? = some (.int x3) := Has.at H19 hin19 rfl
    obtain ⟨cl20, Ar20, q20, S20, N20, H20, G20⟩ := id pf1
    have hin20 := own_in (3 : Int32) S20 ⟨by decide, by decide⟩
    have hat20 : cl20.slots[((3 : Int32)).toNatClampNeg]? = some (.int y3) := Has.at H20 hin20 rfl
    have pre21 : ∀ tg, AT p e below s₁ m 21 #[rv a0, rv a1, iv (3 : Int32)] [(.int y3), (.int x3)] tg → Steps p.tables e below S0 tg := fun tg kg => pre16 tg (by
     refine XS.icmpYes X0.here hx rfl (pc0 := 21) (pc' := 26) rfl (hb hby d12_21) rfl (XT.ii_eq_t hc17) (by decide) (by decide) ?_
     refine XS.iinc X0.here hx rfl (hb hby d12_26) rfl (l' := #[rv a0, rv a1, iv (3 : Int32)]) rfl ?_
     refine XS.goto X0.here hx rfl (pc0 := 29) (pc' := 9) rfl (hb hby d12_29) (by decide) (by decide) ?_
     refine XS.iloadN X0.here hx rfl (hb hby d12_9) rfl ?_
     refine XS.aloadN X0.here hx rfl (hb hby d12_10) rfl rfl ?_
     refine X0.arraylength hx (by rw [e0]; exact Ar18.1) (State.isArrayOf_alike hZ.alike Ar18.2.1) (g := (mkF m 11 #[rv a0, rv a1, iv (3 : Int32)] [(.ref a0), (.int (3 : Int32))])) rfl rfl (hb hby d12_11) _ ?_
     rw [len_of S18 N18]
     show AT p e below s₁ m 12 #[rv a0, rv a1, iv (3 : Int32)] [(.int (8 : Int32)), (.int (3 : Int32))] _
     refine XS.icmpNo X0.here hx rfl (hb hby d12_12) rfl (XT.ii_ge_f ((by decide) : (3 : Int32) < (8 : Int32))) ?_
     refine XS.aloadN X0.here hx rfl (hb hby d12_15) rfl rfl ?_
     refine XS.iloadN X0.here hx rfl (hb hby d12_16) rfl ?_
     refine X0.baloadBytes hx (j := (3 : Int32)) (v := (.int x3)) (by rw [e0]; exact Ar19.1) (State.isArrayOf_alike hZ.alike Ar19.2.1) Ar19.2.2 hin19 hat19 (g := (mkF m 17 #[rv a0, rv a1, iv (3 : Int32)] [(.int (3 : Int32)), (.ref a0)])) rfl rfl (hb hby d12_17) _ ?_
     refine XS.aloadN X0.here hx rfl (hb hby d12_18) rfl rfl ?_
     refine XS.iloadN X0.here hx rfl (hb hby d12_19) rfl ?_
     refine X0.baloadBytes hx (j := (3 : Int32)) (v := (.int y3)) (by rw [e0]; exact Ar20.1) (State.isArrayOf_alike hZ.alike Ar20.2.1) Ar20.2.2 hin20 hat20 (g := (mkF m 20 #[rv a0, rv a1, iv (3 : Int32)] [(.int (3 : Int32)), (.ref a1), (.int x3)])) rfl rfl (hb hby d12_20) _ ?_
     exact kg)
    rcases Decidable.em (x3 = y3) with hc22 | hc22
    ·
     obtain ⟨cl23, Ar23, q23, S23, N23, H23, G23⟩ := id pf0
     obtain ⟨cl24, Ar24, q24, S24, N24, H24, G24⟩ := id pf0
     have hin24 := own_in (4 : Int32) S24 ⟨by decide, by decide⟩
     have hat24 : cl24.slots[((4 : Int32)).toNatClampNeg]? = some (.int x4) := Has.at H24 hin24 rfl
     obtain ⟨cl25, Ar25, q25, S25, N25, H25, G25⟩ := id pf1
     have hin25 := own_in (4 : Int32) S25 ⟨by decide, by decide⟩
     have hat25 : cl25.slots[((4 : Int32)).toNatClampNeg]? = some (.int y4) := Has.at H25 hin25 rfl
     have pre26 : ∀ tg, AT p e below s₁ m 21 #[rv a0, rv a1, iv (4 : Int32)] [(.int y4), (.int x4)] tg → Steps p.tables e below S0 tg := fun tg kg => pre21 tg (by
      refine XS.icmpYes X0.here hx rfl (pc0 := 21) (pc' := 26) rfl (hb hby d12_21) rfl (XT.ii_eq_t hc22) (by decide) (by decide) ?_
      show AT p e below s₁ m 26 #[rv a0, rv a1, iv (3 : Int32)] [] _
      refine XS.iinc X0.here hx rfl (hb hby d12_26) rfl (l' := #[rv a0, rv a1, iv (4 : Int32)]) rfl ?_
      refine XS.goto X0.here hx rfl (pc0 := 29) (pc' := 9) rfl (hb hby d12_29) (by decide) (by decide) ?_
      refine XS.iloadN X0.here hx rfl (hb hby d12_9) rfl ?_
      refine XS.aloadN X0.here hx rfl (hb hby d12_10) rfl rfl ?_
      refine X0.arraylength hx (by rw [e0]; exact Ar23.1) (State.isArrayOf_alike hZ.alike Ar23.2.1) (g := (mkF m 11 #[rv a0, rv a1, iv (4 : Int32)] [(.ref a0), (.int (4 : Int32))])) rfl rfl (hb hby d12_11) _ ?_
      rw [len_of S23 N23]
      show AT p e below s₁ m 12 #[rv a0, rv a1, iv (4 : Int32)] [(.int (8 : Int32)), (.int (4 : Int32))] _
      refine XS.icmpNo X0.here hx rfl (hb hby d12_12) rfl (XT.ii_ge_f ((by decide) : (4 : Int32) < (8 : Int32))) ?_
      refine XS.aloadN X0.here hx rfl (hb hby d12_15) rfl rfl ?_
      refine XS.iloadN X0.here hx rfl (hb hby d12_16) rfl ?_
      refine X0.baloadBytes hx (j := (4 : Int32)) (v := (.int x4)) (by rw [e0]; exact Ar24.1) (State.isArrayOf_alike hZ.alike Ar24.2.1) Ar24.2.2 hin24 hat24 (g := (mkF m 17 #[rv a0, rv a1, iv (4 : Int32)] [(.int (4 : Int32)), (.ref a0)])) rfl rfl (hb hby d12_17) _ ?_
      refine XS.aloadN X0.here hx rfl (hb hby d12_18) rfl rfl ?_
      refine XS.iloadN X0.here hx rfl (hb hby d12_19) rfl ?_
      refine X0.baloadBytes hx (j := (4 : Int32)) (v := (.int y4)) (by rw [e0]; exact Ar25.1) (State.isArrayOf_alike hZ.alike Ar25.2.1) Ar25.2.2 hin25 hat25 (g := (mkF m 20 #[rv a0, rv a1, iv (4 : Int32)] [(.int (4 : Int32)), (.ref a1), (.int x4)])) rfl rfl (hb hby d12_20) _ ?_
      exact kg)
     rcases Decidable.em (x4 = y4) with hc27 | hc27
     ·
      obtain ⟨cl28, Ar28, q28, S28, N28, H28, G28⟩ := id pf0
      obtain ⟨cl29, Ar29, q29, S29, N29, H29, G29⟩ := id pf0
      have hin29 := own_in (5 : Int32) S29 ⟨by decide, by decide⟩
      have hat29 : cl29.slots[((5 : Int32)).toNatClampNeg]? = some (.int x5) := Has.at H29 hin29 rfl
      obtain ⟨cl30, Ar30, q30, S30, N30, H30, G30⟩ := id pf1
      have hin30 := own_in (5 : Int32) S30 ⟨by decide, by decide⟩
      have hat30 : cl30.slots[((5 : Int32)).toNatClampNeg]? = some (.int y5) := Has.at H30 hin30 rfl
      have pre31 : ∀ tg, AT p e below s₁ m 21 #[rv a0, rv a1, iv (5 : Int32)] [(.int y5), (.int x5)] tg → Steps p.tables e below S0 tg := fun tg kg => pre26 tg (by
       refine XS.icmpYes X0.here hx rfl (pc0 := 21) (pc' := 26) rfl (hb hby d12_21) rfl (XT.ii_eq_t hc27) (by decide) (by decide) ?_
       refine XS.iinc X0.here hx rfl (hb hby d12_26) rfl (l' := #[rv a0, rv a1, iv (5 : Int32)]) rfl ?_
       show AT p e below s₁ m 29 #[rv a0, rv a1, iv (5 : Int32)] [] _
       refine XS.goto X0.here hx rfl (pc0 := 29) (pc' := 9) rfl (hb hby d12_29) (by decide) (by decide) ?_
       refine XS.iloadN X0.here hx rfl (hb hby d12_9) rfl ?_
       refine XS.aloadN X0.here hx rfl (hb hby d12_10) rfl rfl ?_
       refine X0.arraylength hx (by rw [e0]; exact Ar28.1) (State.isArrayOf_alike hZ.alike Ar28.2.1) (g := (mkF m 11 #[rv a0, rv a1, iv (5 : Int32)] [(.ref a0), (.int (5 : Int32))])) rfl rfl (hb hby d12_11) _ ?_
       rw [len_of S28 N28]
       show AT p e below s₁ m 12 #[rv a0, rv a1, iv (5 : Int32)] [(.int (8 : Int32)), (.int (5 : Int32))] _
       refine XS.icmpNo X0.here hx rfl (hb hby d12_12) rfl (XT.ii_ge_f ((by decide) : (5 : Int32) < (8 : Int32))) ?_
       refine XS.aloadN X0.here hx rfl (hb hby d12_15) rfl rfl ?_
       refine XS.iloadN X0.here hx rfl (hb hby d12_16) rfl ?_
       refine X0.baloadBytes hx (j := (5 : Int32)) (v := (.int x5)) (by rw [e0]; exact Ar29.1) (State.isArrayOf_alike hZ.alike Ar29.2.1) Ar29.2.2 hin29 hat29 (g := (mkF m 17 #[rv a0, rv a1, iv (5 : Int32)] [(.int (5 : Int32)), (.ref a0)])) rfl rfl (hb hby d12_17) _ ?_
       refine XS.aloadN X0.here hx rfl (hb hby d12_18) rfl rfl ?_
       refine XS.iloadN X0.here hx rfl (hb hby d12_19) rfl ?_
       refine X0.baloadBytes hx (j := (5 : Int32)) (v := (.int y5)) (by rw [e0]; exact Ar30.1) (State.isArrayOf_alike hZ.alike Ar30.2.1) Ar30.2.2 hin30 hat30 (g := (mkF m 20 #[rv a0, rv a1, iv (5 : Int32)] [(.int (5 : Int32)), (.ref a1), (.int x5)])) rfl rfl (hb hby d12_20) _ ?_
       exact kg)
      rcases Decidable.em (x5 = y5) with hc32 | hc32
      ·
       obtain ⟨cl33, Ar33, q33, S33, N33, H33, G33⟩ := id pf0
       obtain ⟨cl34, Ar34, q34, S34, N34, H34, G34⟩ := id pf0
       have hin34 := own_in (6 : Int32) S34 ⟨by decide, by decide⟩
       have hat34 : cl34.slots[((6 : Int32)).toNatClampNeg]? = some (.int x6) := Has.at H34 hin34 rfl
       obtain ⟨cl35, Ar35, q35, S35, N35, H35, G35⟩ := id pf1
       have hin35 := own_in (6 : Int32) S35 ⟨by decide, by decide⟩
       have hat35 : cl35.slots[((6 : Int32)).toNatClampNeg]? = some (.int y6) := Has.at H35 hin35 rfl
       have pre36 : ∀ tg, AT p e below s₁ m 21 #[rv a0, rv a1, iv (6 : Int32)] [(.int y6), (.int x6)] tg → Steps p.tables e below S0 tg := fun tg kg => pre31 tg (by
        refine XS.icmpYes X0.here hx rfl (pc0 := 21) (pc' := 26) rfl (hb hby d12_21) rfl (XT.ii_eq_t hc32) (by decide) (by decide) ?_
        refine XS.iinc X0.here hx rfl (hb hby d12_26) rfl (l' := #[rv a0, rv a1, iv (6 : Int32)]) rfl ?_
        refine XS.goto X0.here hx rfl (pc0 := 29) (pc' := 9) rfl (hb hby d12_29) (by decide) (by decide) ?_
        show AT p e below s₁ m 9 #[rv a0, rv a1, iv (6 : Int32)] [] _
        refine XS.iloadN X0.here hx rfl (hb hby d12_9) rfl ?_
        refine XS.aloadN X0.here hx rfl (hb hby d12_10) rfl rfl ?_
        refine X0.arraylength hx (by rw [e0]; exact Ar33.1) (State.isArrayOf_alike hZ.alike Ar33.2.1) (g := (mkF m 11 #[rv a0, rv a1, iv (6 : Int32)] [(.ref a0), (.int (6 : Int32))])) rfl rfl (hb hby d12_11) _ ?_
        rw [len_of S33 N33]
        show AT p e below s₁ m 12 #[rv a0, rv a1, iv (6 : Int32)] [(.int (8 : Int32)), (.int (6 : Int32))] _
        refine XS.icmpNo X0.here hx rfl (hb hby d12_12) rfl (XT.ii_ge_f ((by decide) : (6 : Int32) < (8 : Int32))) ?_
        refine XS.aloadN X0.here hx rfl (hb hby d12_15) rfl rfl ?_
        refine XS.iloadN X0.here hx rfl (hb hby d12_16) rfl ?_
        refine X0.baloadBytes hx (j := (6 : Int32)) (v := (.int x6)) (by rw [e0]; exact Ar34.1) (State.isArrayOf_alike hZ.alike Ar34.2.1) Ar34.2.2 hin34 hat34 (g := (mkF m 17 #[rv a0, rv a1, iv (6 : Int32)] [(.int (6 : Int32)), (.ref a0)])) rfl rfl (hb hby d12_17) _ ?_
        refine XS.aloadN X0.here hx rfl (hb hby d12_18) rfl rfl ?_
        refine XS.iloadN X0.here hx rfl (hb hby d12_19) rfl ?_
        refine X0.baloadBytes hx (j := (6 : Int32)) (v := (.int y6)) (by rw [e0]; exact Ar35.1) (State.isArrayOf_alike hZ.alike Ar35.2.1) Ar35.2.2 hin35 hat35 (g := (mkF m 20 #[rv a0, rv a1, iv (6 : Int32)] [(.int (6 : Int32)), (.ref a1), (.int x6)])) rfl rfl (hb hby d12_20) _ ?_
        exact kg)
       rcases Decidable.em (x6 = y6) with hc37 | hc37
       ·
        obtain ⟨cl38, Ar38, q38, S38, N38, H38, G38⟩ := id pf0
        obtain ⟨cl39, Ar39, q39, S39, N39, H39, G39⟩ := id pf0
        have hin39 := own_in (7 : Int32) S39 ⟨by decide, by decide⟩
        have hat39 : cl39.slots[((7 : Int32)).toNatClampNeg]? = some (.int x7) := Has.at H39 hin39 rfl
        obtain ⟨cl40, Ar40, q40, S40, N40, H40, G40⟩ := id pf1
        have hin40 := own_in (7 : Int32) S40 ⟨by decide, by decide⟩
        have hat40 : cl40.slots[((7 : Int32)).toNatClampNeg]? = some (.int y7) := Has.at H40 hin40 rfl
        have pre41 : ∀ tg, AT p e below s₁ m 21 #[rv a0, rv a1, iv (7 : Int32)] [(.int y7), (.int x7)] tg → Steps p.tables e below S0 tg := fun tg kg => pre36 tg (by
         refine XS.icmpYes X0.here hx rfl (pc0 := 21) (pc' := 26) rfl (hb hby d12_21) rfl (XT.ii_eq_t hc37) (by decide) (by decide) ?_
         refine XS.iinc X0.here hx rfl (hb hby d12_26) rfl (l' := #[rv a0, rv a1, iv (7 : Int32)]) rfl ?_
         refine XS.goto X0.here hx rfl (pc0 := 29) (pc' := 9) rfl (hb hby d12_29) (by decide) (by decide) ?_
         refine XS.iloadN X0.here hx rfl (hb hby d12_9) rfl ?_
         show AT p e below s₁ m 10 #[rv a0, rv a1, iv (7 : Int32)] [(.int (7 : Int32))] _
         refine XS.aloadN X0.here hx rfl (hb hby d12_10) rfl rfl ?_
         refine X0.arraylength hx (by rw [e0]; exact Ar38.1) (State.isArrayOf_alike hZ.alike Ar38.2.1) (g := (mkF m 11 #[rv a0, rv a1, iv (7 : Int32)] [(.ref a0), (.int (7 : Int32))])) rfl rfl (hb hby d12_11) _ ?_
         rw [len_of S38 N38]
         show AT p e below s₁ m 12 #[rv a0, rv a1, iv (7 : Int32)] [(.int (8 : Int32)), (.int (7 : Int32))] _
         refine XS.icmpNo X0.here hx rfl (hb hby d12_12) rfl (XT.ii_ge_f ((by decide) : (7 : Int32) < (8 : Int32))) ?_
         refine XS.aloadN X0.here hx rfl (hb hby d12_15) rfl rfl ?_
         refine XS.iloadN X0.here hx rfl (hb hby d12_16) rfl ?_
         refine X0.baloadBytes hx (j := (7 : Int32)) (v := (.int x7)) (by rw [e0]; exact Ar39.1) (State.isArrayOf_alike hZ.alike Ar39.2.1) Ar39.2.2 hin39 hat39 (g := (mkF m 17 #[rv a0, rv a1, iv (7 : Int32)] [(.int (7 : Int32)), (.ref a0)])) rfl rfl (hb hby d12_17) _ ?_
         refine XS.aloadN X0.here hx rfl (hb hby d12_18) rfl rfl ?_
         refine XS.iloadN X0.here hx rfl (hb hby d12_19) rfl ?_
         refine X0.baloadBytes hx (j := (7 : Int32)) (v := (.int y7)) (by rw [e0]; exact Ar40.1) (State.isArrayOf_alike hZ.alike Ar40.2.1) Ar40.2.2 hin40 hat40 (g := (mkF m 20 #[rv a0, rv a1, iv (7 : Int32)] [(.int (7 : Int32)), (.ref a1), (.int x7)])) rfl rfl (hb hby d12_20) _ ?_
         exact kg)
        rcases Decidable.em (x7 = y7) with hc42 | hc42
        ·
         obtain ⟨cl43, Ar43, q43, S43, N43, H43, G43⟩ := id pf0
         obtain ⟨fs, hr, hrun, hended, hW, hsame⟩ := X0.leave (v := some (.int (1 : Int32))) (fun h => by rw [Bd.returns] at h; cases h)
         subst hS0
         refine ⟨_, _, pre41 _ ?_, hrun, hended, _, _, rfl, ?_, ⟨_, rfl⟩, hW, hsame.mono (by decide) (by decide)⟩
         ·
          refine XS.icmpYes X0.here hx rfl (pc0 := 21) (pc' := 26) rfl (hb hby d12_21) rfl (XT.ii_eq_t hc42) (by decide) (by decide) ?_
          refine XS.iinc X0.here hx rfl (hb hby d12_26) rfl (l' := #[rv a0, rv a1, iv (8 : Int32)]) rfl ?_
          refine XS.goto X0.here hx rfl (pc0 := 29) (pc' := 9) rfl (hb hby d12_29) (by decide) (by decide) ?_
          refine XS.iloadN X0.here hx rfl (hb hby d12_9) rfl ?_
          refine XS.aloadN X0.here hx rfl (hb hby d12_10) rfl rfl ?_
          show AT p e below s₁ m 11 #[rv a0, rv a1, iv (8 : Int32)] [(.ref a0), (.int (8 : Int32))] _
          refine X0.arraylength hx (by rw [e0]; exact Ar43.1) (State.isArrayOf_alike hZ.alike Ar43.2.1) (g := (mkF m 11 #[rv a0, rv a1, iv (8 : Int32)] [(.ref a0), (.int (8 : Int32))])) rfl rfl (hb hby d12_11) _ ?_
          rw [len_of S43 N43]
          show AT p e below s₁ m 12 #[rv a0, rv a1, iv (8 : Int32)] [(.int (8 : Int32)), (.int (8 : Int32))] _
          refine XS.icmpYes X0.here hx rfl (pc0 := 12) (pc' := 32) rfl (hb hby d12_12) rfl (XT.ii_ge_t ((by decide) : ¬ ((8 : Int32) < (8 : Int32)))) (by decide) (by decide) ?_
          refine XS.iconst X0.here hx rfl (hb hby d12_32) ?_
          exact retN X0 hx (t := .boolean) Bd.returns (by simp) (hb hby d12_33) hr
         ·
          show Q12_8_8 Z a0 a1 ka kb x0 x1 x2 x3 x4 x5 x6 x7 y0 y1 y2 y3 y4 y5 y6 y7 h0 n0 _ s₁.heap _
          rw [e0]
          exact ⟨(by rw [f12_8_8, if_pos hc7, if_pos hc12, if_pos hc17, if_pos hc22, if_pos hc27, if_pos hc32, if_pos hc37, if_pos hc42]), N0, rfl⟩
        ·
         obtain ⟨fs, hr, hrun, hended, hW, hsame⟩ := X0.leave (v := some (.int (0 : Int32))) (fun h => by rw [Bd.returns] at h; cases h)
         subst hS0
         refine ⟨_, _, pre41 _ ?_, hrun, hended, _, _, rfl, ?_, ⟨_, rfl⟩, hW, hsame.mono (by decide) (by decide)⟩
         ·
          refine XS.icmpNo X0.here hx rfl (hb hby d12_21) rfl (XT.ii_eq_f hc42) ?_
          refine XS.iconst X0.here hx rfl (hb hby d12_24) ?_
          exact retN X0 hx (t := .boolean) Bd.returns (by simp) (hb hby d12_25) hr
         ·
          show Q12_8_8 Z a0 a1 ka kb x0 x1 x2 x3 x4 x5 x6 x7 y0 y1 y2 y3 y4 y5 y6 y7 h0 n0 _ s₁.heap _
          rw [e0]
          exact ⟨(by rw [f12_8_8, if_pos hc7, if_pos hc12, if_pos hc17, if_pos hc22, if_pos hc27, if_pos hc32, if_pos hc37, if_neg hc42]), N0, rfl⟩
       ·
        obtain ⟨fs, hr, hrun, hended, hW, hsame⟩ := X0.leave (v := some (.int (0 : Int32))) (fun h => by rw [Bd.returns] at h; cases h)
        subst hS0
        refine ⟨_, _, pre36 _ ?_, hrun, hended, _, _, rfl, ?_, ⟨_, rfl⟩, hW, hsame.mono (by decide) (by decide)⟩
        ·
         refine XS.icmpNo X0.here hx rfl (hb hby d12_21) rfl (XT.ii_eq_f hc37) ?_
         refine XS.iconst X0.here hx rfl (hb hby d12_24) ?_
         exact retN X0 hx (t := .boolean) Bd.returns (by simp) (hb hby d12_25) hr
        ·
         show Q12_8_8 Z a0 a1 ka kb x0 x1 x2 x3 x4 x5 x6 x7 y0 y1 y2 y3 y4 y5 y6 y7 h0 n0 _ s₁.heap _
         rw [e0]
         exact ⟨(by rw [f12_8_8, if_pos hc7, if_pos hc12, if_pos hc17, if_pos hc22, if_pos hc27, if_pos hc32, if_neg hc37]), N0, rfl⟩
      ·
       obtain ⟨fs, hr, hrun, hended, hW, hsame⟩ := X0.leave (v := some (.int (0 : Int32))) (fun h => by rw [Bd.returns] at h; cases h)
       subst hS0
       refine ⟨_, _, pre31 _ ?_, hrun, hended, _, _, rfl, ?_, ⟨_, rfl⟩, hW, hsame.mono (by decide) (by decide)⟩
       ·
        refine XS.icmpNo X0.here hx rfl (hb hby d12_21) rfl (XT.ii_eq_f hc32) ?_
        refine XS.iconst X0.here hx rfl (hb hby d12_24) ?_
        exact retN X0 hx (t := .boolean) Bd.returns (by simp) (hb hby d12_25) hr
       ·
        show Q12_8_8 Z a0 a1 ka kb x0 x1 x2 x3 x4 x5 x6 x7 y0 y1 y2 y3 y4 y5 y6 y7 h0 n0 _ s₁.heap _
        rw [e0]
        exact ⟨(by rw [f12_8_8, if_pos hc7, if_pos hc12, if_pos hc17, if_pos hc22, if_pos hc27, if_neg hc32]), N0, rfl⟩
     ·
      obtain ⟨fs, hr, hrun, hended, hW, hsame⟩ := X0.leave (v := some (.int (0 : Int32))) (fun h => by rw [Bd.returns] at h; cases h)
      subst hS0
      refine ⟨_, _, pre26 _ ?_, hrun, hended, _, _, rfl, ?_, ⟨_, rfl⟩, hW, hsame.mono (by decide) (by decide)⟩
      ·
       refine XS.icmpNo X0.here hx rfl (hb hby d12_21) rfl (XT.ii_eq_f hc27) ?_
       refine XS.iconst X0.here hx rfl (hb hby d12_24) ?_
       show AT p e below s₁ m 25 #[rv a0, rv a1, iv (4 : Int32)] [(.int (0 : Int32))] _
       exact retN X0 hx (t := .boolean) Bd.returns (by simp) (hb hby d12_25) hr
      ·
       show Q12_8_8 Z a0 a1 ka kb x0 x1 x2 x3 x4 x5 x6 x7 y0 y1 y2 y3 y4 y5 y6 y7 h0 n0 _ s₁.heap _
       rw [e0]
       exact ⟨(by rw [f12_8_8, if_pos hc7, if_pos hc12, if_pos hc17, if_pos hc22, if_neg hc27]), N0, rfl⟩
    ·
     obtain ⟨fs, hr, hrun, hended, hW, hsame⟩ := X0.leave (v := some (.int (0 : Int32))) (fun h => by rw [Bd.returns] at h; cases h)
     subst hS0
     refine ⟨_, _, pre21 _ ?_, hrun, hended, _, _, rfl, ?_, ⟨_, rfl⟩, hW, hsame.mono (by decide) (by decide)⟩
     ·
      refine XS.icmpNo X0.here hx rfl (hb hby d12_21) rfl (XT.ii_eq_f hc22) ?_
      show AT p e below s₁ m 24 #[rv a0, rv a1, iv (3 : Int32)] [] _
      refine XS.iconst X0.here hx rfl (hb hby d12_24) ?_
      exact retN X0 hx (t := .boolean) Bd.returns (by simp) (hb hby d12_25) hr
     ·
      show Q12_8_8 Z a0 a1 ka kb x0 x1 x2 x3 x4 x5 x6 x7 y0 y1 y2 y3 y4 y5 y6 y7 h0 n0 _ s₁.heap _
      rw [e0]
      exact ⟨(by rw [f12_8_8, if_pos hc7, if_pos hc12, if_pos hc17, if_neg hc22]), N0, rfl⟩
   ·
    obtain ⟨fs, hr, hrun, hended, hW, hsame⟩ := X0.leave (v := some (.int (0 : Int32))) (fun h => by rw [Bd.returns] at h; cases h)
    subst hS0
    refine ⟨_, _, pre16 _ ?_, hrun, hended, _, _, rfl, ?_, ⟨_, rfl⟩, hW, hsame.mono (by decide) (by decide)⟩
    ·
     refine XS.icmpNo X0.here hx rfl (hb hby d12_21) rfl (XT.ii_eq_f hc17) ?_
     refine XS.iconst X0.here hx rfl (hb hby d12_24) ?_
     exact retN X0 hx (t := .boolean) Bd.returns (by simp) (hb hby d12_25) hr
    ·
     show Q12_8_8 Z a0 a1 ka kb x0 x1 x2 x3 x4 x5 x6 x7 y0 y1 y2 y3 y4 y5 y6 y7 h0 n0 _ s₁.heap _
     rw [e0]
     exact ⟨(by rw [f12_8_8, if_pos hc7, if_pos hc12, if_neg hc17]), N0, rfl⟩
  ·
   obtain ⟨fs, hr, hrun, hended, hW, hsame⟩ := X0.leave (v := some (.int (0 : Int32))) (fun h => by rw [Bd.returns] at h; cases h)
   subst hS0
   refine ⟨_, _, pre11 _ ?_, hrun, hended, _, _, rfl, ?_, ⟨_, rfl⟩, hW, hsame.mono (by decide) (by decide)⟩
   ·
    refine XS.icmpNo X0.here hx rfl (hb hby d12_21) rfl (XT.ii_eq_f hc12) ?_
    refine XS.iconst X0.here hx rfl (hb hby d12_24) ?_
    exact retN X0 hx (t := .boolean) Bd.returns (by simp) (hb hby d12_25) hr
   ·
    show Q12_8_8 Z a0 a1 ka kb x0 x1 x2 x3 x4 x5 x6 x7 y0 y1 y2 y3 y4 y5 y6 y7 h0 n0 _ s₁.heap _
    rw [e0]
    exact ⟨(by rw [f12_8_8, if_pos hc7, if_neg hc12]), N0, rfl⟩
 ·
  obtain ⟨fs, hr, hrun, hended, hW, hsame⟩ := X0.leave (v := some (.int (0 : Int32))) (fun h => by rw [Bd.returns] at h; cases h)
  subst hS0
  refine ⟨_, _, pre6 _ ?_, hrun, hended, _, _, rfl, ?_, ⟨_, rfl⟩, hW, hsame.mono (by decide) (by decide)⟩
  ·
   refine XS.icmpNo X0.here hx rfl (hb hby d12_21) rfl (XT.ii_eq_f hc7) ?_
   refine XS.iconst X0.here hx rfl (hb hby d12_24) ?_
   exact retN X0 hx (t := .boolean) Bd.returns (by simp) (hb hby d12_25) hr
  ·
   show Q12_8_8 Z a0 a1 ka kb x0 x1 x2 x3 x4 x5 x6 x7 y0 y1 y2 y3 y4 y5 y6 y7 h0 n0 _ s₁.heap _
   rw [e0]
   exact ⟨(by rw [f12_8_8, if_neg hc7]), N0, rfl⟩

theorem ef_11_8_8 (m : MethodId) (a0 : Addr) (a1 : Addr) : entryFrame m #[(.ref a0), (.ref a1)] 3 = mkF m 0 #[rv a0, rv a1, un] [] := by first | (simp [entryFrame, mkF, argsToLocals, Value.category]; done) | rfl
def f11_8_8 (x0 : Int32) (x1 : Int32) (x2 : Int32) (x3 : Int32) (x4 : Int32) (x5 : Int32) (x6 : Int32) (x7 : Int32) (y0 : Int32) (y1 : Int32) (y2 : Int32) (y3 : Int32) (y4 : Int32) (y5 : Int32) (y6 : Int32) (y7 : Int32) : Int32 := if (f12_8_8 x0 x1 x2 x3 x4 x5 x6 x7 y0 y1 y2 y3 y4 y5 y6 y7) = (0 : Int32) then (0 : Int32) else (1 : Int32)
def Q11_8_8 (Z : State) (a0 : Addr) (a1 : Addr) (w_CS0 : Int32) (w_SF1 : Value) (w_PRODUCER : Addr) (w__VALUES : Addr) (w_WORKER : Addr) (w_OPERATOR : Addr) (w_ADMIN : Addr) (w_PRODUCER_shown : Addr) (w_PRODUCER_shown_value : Addr) (w_WORKER_shown : Addr) (w_WORKER_shown_value : Addr) (w_OPERATOR_shown : Addr) (w_OPERATOR_shown_value : Addr) (w_ADMIN_shown : Addr) (w_ADMIN_shown_value : Addr) (k__VALUES : ClassId) (k_PRODUCER_shown_value : ClassId) (k_WORKER_shown_value : ClassId) (k_OPERATOR_shown_value : ClassId) (k_ADMIN_shown_value : ClassId) (u : Addr) (w : Addr) (ka : ClassId) (kb : ClassId) (x0 : Int32) (x1 : Int32) (x2 : Int32) (x3 : Int32) (x4 : Int32) (x5 : Int32) (x6 : Int32) (x7 : Int32) (y0 : Int32) (y1 : Int32) (y2 : Int32) (y3 : Int32) (y4 : Int32) (y5 : Int32) (y6 : Int32) (y7 : Int32) (h0 : Heap) (n0 : Nat) (v : Option Value) (h : Heap) (L : List Loc) : Prop := v = some (.int (f11_8_8 x0 x1 x2 x3 x4 x5 x6 x7 y0 y1 y2 y3 y4 y5 y6 y7)) ∧ Fr n0 L ∧ h = h0
set_option maxRecDepth 65536 in
set_option maxHeartbeats 40000000 in
theorem rm11_8_8 (l : Launch) (Z : State) (ar : Array Value) (hw : ∀ d ∈ tables_1, d.before ar Z = true) (ws : List Jvm.Cond) (a0 : Addr) (a1 : Addr) (w_CS0 : Int32) (w_SF1 : Value) (w_PRODUCER : Addr) (w__VALUES : Addr) (w_WORKER : Addr) (w_OPERATOR : Addr) (w_ADMIN : Addr) (w_PRODUCER_shown : Addr) (w_PRODUCER_shown_value : Addr) (w_WORKER_shown : Addr) (w_WORKER_shown_value : Addr) (w_OPERATOR_shown : Addr) (w_OPERATOR_shown_value : Addr) (w_ADMIN_shown : Addr) (w_ADMIN_shown_value : Addr) (k__VALUES : ClassId) (k_PRODUCER_shown_value : ClassId) (k_WORKER_shown_value : ClassId) (k_OPERATOR_shown_value : ClassId) (k_ADMIN_shown_value : ClassId) (u : Addr) (w : Addr) (ka : ClassId) (kb : ClassId) (x0 : Int32) (x1 : Int32) (x2 : Int32) (x3 : Int32) (x4 : Int32) (x5 : Int32) (x6 : Int32) (x7 : Int32) (y0 : Int32) (y1 : Int32) (y2 : Int32) (y3 : Int32) (y4 : Int32) (y5 : Int32) (y6 : Int32) (y7 : Int32) (h0 : Heap) (n0 : Nat) (O0 : Old Z n0 h0) (HW : Wd Z w_CS0 w_SF1 w_PRODUCER w__VALUES w_WORKER w_OPERATOR w_ADMIN w_PRODUCER_shown w_PRODUCER_shown_value w_WORKER_shown w_WORKER_shown_value w_OPERATOR_shown w_OPERATOR_shown_value w_ADMIN_shown w_ADMIN_shown_value k__VALUES k_PRODUCER_shown_value k_WORKER_shown_value k_OPERATOR_shown_value k_ADMIN_shown_value) (pf0 : Exa Z h0 a0 "java/lang/String") (pf1 : Exa Z h0 a1 "java/lang/String") (pf2 : Fld Z h0 a0 "java/lang/String" "coder" "B" (.int (0 : Int32))) (pf3 : Fld Z h0 a1 "java/lang/String" "coder" "B" (.int (0 : Int32))) (pf4 : Fld Z h0 a0 "java/lang/String" "value" "[B" (.ref u)) (pf5 : Fld Z h0 a1 "java/lang/String" "value" "[B" (.ref w)) (pf6 : Arv Z h0 u ka .byte (8 : Int32) [(.int x0), (.int x1), (.int x2), (.int x3), (.int x4), (.int x5), (.int x6), (.int x7)] (.int (0 : Int32))) (pf7 : Arv Z h0 w kb .byte (8 : Int32) [(.int y0), (.int y1), (.int y2), (.int y3), (.int y4), (.int y5), (.int y6), (.int y7)] (.int (0 : Int32))) (pf8 : a0 ≠ a1) :
    MetFree l y11 (head1 (Jvm.Cond.code y11 jdk_42_method_66_code 3 (some .boolean) :: ws) ({ frames := 1, cells := 0, slots := 0, locals := 14 } : Room)) (fun a U => a = #[(.ref a0), (.ref a1)] ∧ Z.Warmed39 U.vm ∧ U.heap = h0) (fun _ _ _ _ _ => True) (fun _ U o U' => ∃ v L, o = .returned v ∧ Q11_8_8 Z a0 a1 w_CS0 w_SF1 w_PRODUCER w__VALUES w_WORKER w_OPERATOR w_ADMIN w_PRODUCER_shown w_PRODUCER_shown_value w_WORKER_shown w_WORKER_shown_value w_OPERATOR_shown w_OPERATOR_shown_value w_ADMIN_shown w_ADMIN_shown_value k__VALUES k_PRODUCER_shown_value k_WORKER_shown_value k_OPERATOR_shown_value k_ADMIN_shown_value u w ka kb x0 x1 x2 x3 x4 x5 x6 x7 y0 y1 y2 y3 y4 y5 y6 y7 h0 n0 v U'.heap L ∧ FrameEnd U o U' L ({ frames := 1, cells := 0, slots := 0, locals := 14 } : Room).cells ({ frames := 1, cells := 0, slots := 0, locals := 14 } : Room).slots) := by
 refine MetFree.of_bodySF (plainFor_of_name pn_2) hisR ?_
 intro p e s m args below meth c s₁ Bd hml0 hP hK
 obtain ⟨rfl, hZ, hh⟩ := hP
 have hx := Bd.exec
 have hby := Bd.bytes
 have hml : c.maxLocals = 3 := hml0
 have hown : s.vm.findClass "java/lang/String" = some m.cls := findClass_of_methodNamed Bd.named
 have hnm := (name_of_methodNamed Bd.named Bd.method).1
 have X0 : Stand p l e ({ frames := 1, cells := 0, slots := 0, locals := 14 } : Room) s m #[(.ref a0), (.ref a1)] below meth c s₁ [] 0 0 := Stand.of_body Bd
 have e0 : s₁.heap = h0 := by rw [← hh, Bd.state]; rfl
 have N0 := Fr.nil n0
 have Z0 : n0 ≤ h0.size := Nat.le_trans (Nat.le_of_eq O0.1.symm) O0.2.1
 obtain ⟨S0, hS0⟩ : ∃ z, z = s₁.setTop (entryFrame m #[(.ref a0), (.ref a1)] 3) := ⟨_, rfl⟩
 have pre0 : ∀ tg, AT p e below s₁ m 0 #[rv a0, rv a1, un] [] tg → Steps p.tables e below S0 tg := fun tg kg => by rw [hS0]; exact castTop (ef_11_8_8 m a0 a1) kg
 obtain ⟨S_COMPACT_STRINGS, hz_w_CS0, S_SIOOBE_FORMATTER, ir_w_SF1, S_PRODUCER, E_PRODUCER, S__VALUES, E__VALUES, S_WORKER, E_WORKER, S_OPERATOR, E_OPERATOR, S_ADMIN, E_ADMIN, F_shown_PRODUCER, E_PRODUCER_shown, F_coder_PRODUCER_shown, F_value_PRODUCER_shown, F_shown_WORKER, E_WORKER_shown, F_coder_WORKER_shown, F_value_WORKER_shown, F_shown_OPERATOR, E_OPERATOR_shown, F_coder_OPERATOR_shown, F_value_OPERATOR_shown, F_shown_ADMIN, E_ADMIN_shown, F_coder_ADMIN_shown, F_value_ADMIN_shown, V__VALUES, V_PRODUCER_shown_value, V_WORKER_shown_value, V_OPERATOR_shown_value, V_ADMIN_shown_value⟩ := id HW
 obtain ⟨T1, X1, e1, st1⟩ := instY X0 hx hZ hown (ow hw 68 rfl) e0 (Ins.self pf1) (g := (mkF m 8 #[rv a0, rv a1, un] [(.ref a1)])) rfl rfl (hb hby d11_8)
 obtain ⟨T2, X2, e2, st2⟩ := castY X1 hx hZ hown (ow hw 68 rfl) e1 (Ins.self pf1) (g := (mkF m 15 #[rv a0, rv a1, un] [(.ref a1)])) rfl rfl (hb hby d11_15)
 obtain ⟨T3, X3, e3, st3⟩ := getS2 X2 hx hZ hown (host := "") (Or.inl (ow hw 24 rfl)) Via.refl e2 (S_COMPACT_STRINGS.ext O0.2) (g := (mkF m 19 #[rv a0, rv a1, rv a1] [])) rfl (hb hby d11_19)
 obtain ⟨T4, X4, e4, st4⟩ := getF X3 hx hZ hown (host := "") (Or.inl (ow hw 36 rfl)) Via.refl e3 pf2 (g := (mkF m 26 #[rv a0, rv a1, rv a1] [(.ref a0)])) rfl rfl (hb hby d11_26)
 obtain ⟨T5, X5, e5, st5⟩ := getF X4 hx hZ hown (host := "") (Or.inl (ow hw 36 rfl)) Via.refl e4 pf3 (g := (mkF m 30 #[rv a0, rv a1, rv a1] [(.ref a1), (.int (0 : Int32))])) rfl rfl (hb hby d11_30)
 obtain ⟨T6, X6, e6, st6⟩ := getF X5 hx hZ hown (host := "") (Or.inl (ow hw 38 rfl)) Via.refl e5 pf4 (g := (mkF m 37 #[rv a0, rv a1, rv a1] [(.ref a0)])) rfl rfl (hb hby d11_37)
 obtain ⟨T7, X7, e7, st7⟩ := getF X6 hx hZ hown (host := "") (Or.inl (ow hw 38 rfl)) Via.refl e6 pf5 (g := (mkF m 41 #[rv a0, rv a1, rv a1] [(.ref a1), (.ref u)])) rfl rfl (hb hby d11_41)
 obtain ⟨_, _, ⟨T8, L8, k8, n8⟩, -, X8, ⟨Lc8, hQ8, l8, y8, z8⟩, st8⟩ := Jvm.LawKit.callS X7 hx (y := y12) hown (mvT hZ (ow hw 69 rfl)) (mvT hZ (ow hw 70 rfl)) (mvT hZ (ow hw 71 rfl)) (mvT hZ (ow hw 72 rfl)) (by decide) (backOf (W := 0) (rm12_8_8 l Z ar hw [] u w ka kb x0 x1 x2 x3 x4 x5 x6 x7 y0 y1 y2 y3 y4 y5 y6 y7 h0 n0 O0 pf6 pf7) hZ (ow hw 72 rfl) (ow hw 71 rfl) (by decide) (by decide)) (g := (mkF m 44 #[rv a0, rv a1, rv a1] [(.ref w), (.ref u)])) rfl (by rw [hml]; rfl) (argsL := [(.ref u), (.ref w)]) (rest := []) (lenOf pd_2 rfl) rfl (by show 2 * 0 + _ ≤ _; exact Nat.le_of_eq rfl) (hb hby d11_44) (fun _ _ => ⟨rfl, e7, (by decide : 0 + 0 ≤ _), (by decide : 0 + 0 ≤ _)⟩)
 dsimp only [Pt.U, Pt.locs, Pt.cells, Pt.slots] at X8 l8 y8 z8 st8 hQ8
 subst l8 y8 z8
 obtain ⟨rfl, N8q, e8⟩ := hQ8
 have N8 := Fr.app N0 N8q
 have pre9 : ∀ tg, AT p e below T8 m 47 #[rv a0, rv a1, rv a1] [(.int (f12_8_8 x0 x1 x2 x3 x4 x5 x6 x7 y0 y1 y2 y3 y4 y5 y6 y7))] tg → Steps p.tables e below S0 tg := fun tg kg => pre0 tg (by
  refine XS.aloadN X0.here hx rfl (hb hby d11_0) rfl rfl ?_
  refine XS.aloadN X0.here hx rfl (hb hby d11_1) rfl rfl ?_
  show AT p e below s₁ m 2 #[rv a0, rv a1, un] [(.ref a1), (.ref a0)] _
  refine Jvm.RoadKit.acmp (g := (mkF m 2 #[rv a0, rv a1, un] [(.ref a1), (.ref a0)])) X0 hx rfl rfl rfl (pc0 := 2) (pc' := 7) (same := false) rfl (hb hby d11_2) rfl (decide_eq_false fun q => (pf8 : ¬ (a0 = a1)) (Value.ref.inj q)) (by decide) (by decide) ?_
  refine XS.aloadN X0.here hx rfl (hb hby d11_7) rfl rfl ?_
  refine st1 _ ?_
  show AT p e below T1 m 11 #[rv a0, rv a1, un] [(.int (1 : Int32))] _
  refine XS.ifNo X1.here hx rfl (hb hby d11_11) rfl (XT.i0_eq_f ((by decide) : ¬ ((1 : Int32) = (0 : Int32)))) ?_
  refine XS.aloadN X1.here hx rfl (hb hby d11_14) rfl rfl ?_
  refine st2 _ ?_
  refine XS.astoreN X2.here hx rfl (hb hby d11_18) rfl rfl (l' := #[rv a0, rv a1, rv a1]) rfl ?_
  refine st3 _ ?_
  show AT p e below T3 m 22 #[rv a0, rv a1, rv a1] [(.int w_CS0)] _
  refine XS.ifNo X3.here hx rfl (hb hby d11_22) rfl (XT.i0_eq_f (hz_w_CS0 : ¬ (w_CS0 = (0 : Int32)))) ?_
  refine XS.aloadN X3.here hx rfl (hb hby d11_25) rfl rfl ?_
  refine st4 _ ?_
  refine XS.aloadN X4.here hx rfl (hb hby d11_29) rfl rfl ?_
  refine st5 _ ?_
  show AT p e below T5 m 33 #[rv a0, rv a1, rv a1] [(.int (0 : Int32)), (.int (0 : Int32))] _
  refine XS.icmpNo X5.here hx rfl (hb hby d11_33) rfl (XT.ii_ne_f ((by decide) : (0 : Int32) = (0 : Int32))) ?_
  show AT p e below T5 m 36 #[rv a0, rv a1, rv a1] [] _
  refine XS.aloadN X5.here hx rfl (hb hby d11_36) rfl rfl ?_
  refine st6 _ ?_
  refine XS.aloadN X6.here hx rfl (hb hby d11_40) rfl rfl ?_
  refine st7 _ ?_
  refine st8 _ ?_
  exact kg)
 rcases Decidable.em ((f12_8_8 x0 x1 x2 x3 x4 x5 x6 x7 y0 y1 y2 y3 y4 y5 y6 y7) = (0 : Int32)) with hc10 | hc10
 ·
  obtain ⟨fs, hr, hrun, hended, hW, hsame⟩ := X8.leave (v := some (.int (0 : Int32))) (fun h => by rw [Bd.returns] at h; cases h)
  subst hS0
  refine ⟨_, _, pre9 _ ?_, hrun, hended, _, _, rfl, ?_, ⟨_, rfl⟩, hW, hsame.mono (by decide) (by decide)⟩
  ·
   refine XS.ifYes X8.here hx rfl (pc0 := 47) (pc' := 54) rfl (hb hby d11_47) rfl (XT.i0_eq_t hc10) (by decide) (by decide) ?_
   refine XS.iconst X8.here hx rfl (hb hby d11_54) ?_
   exact retN X8 hx (t := .boolean) Bd.returns (by simp) (hb hby d11_55) hr
  ·
   show Q11_8_8 Z a0 a1 w_CS0 w_SF1 w_PRODUCER w__VALUES w_WORKER w_OPERATOR w_ADMIN w_PRODUCER_shown w_PRODUCER_shown_value w_WORKER_shown w_WORKER_shown_value w_OPERATOR_shown w_OPERATOR_shown_value w_ADMIN_shown w_ADMIN_shown_value k__VALUES k_PRODUCER_shown_value k_WORKER_shown_value k_OPERATOR_shown_value k_ADMIN_shown_value u w ka kb x0 x1 x2 x3 x4 x5 x6 x7 y0 y1 y2 y3 y4 y5 y6 y7 h0 n0 _ T8.heap _
   rw [e8]
   exact ⟨(by rw [f11_8_8, if_pos hc10]), N8, rfl⟩
 ·
  obtain ⟨fs, hr, hrun, hended, hW, hsame⟩ := X8.leave (v := some (.int (1 : Int32))) (fun h => by rw [Bd.returns] at h; cases h)
  subst hS0
  refine ⟨_, _, pre9 _ ?_, hrun, hended, _, _, rfl, ?_, ⟨_, rfl⟩, hW, hsame.mono (by decide) (by decide)⟩
  ·
   refine XS.ifNo X8.here hx rfl (hb hby d11_47) rfl (XT.i0_eq_f hc10) ?_
   refine XS.iconst X8.here hx rfl (hb hby d11_50) ?_
   refine XS.goto X8.here hx rfl (pc0 := 51) (pc' := 55) rfl (hb hby d11_51) (by decide) (by decide) ?_
   exact retN X8 hx (t := .boolean) Bd.returns (by simp) (hb hby d11_55) hr
  ·
   show Q11_8_8 Z a0 a1 w_CS0 w_SF1 w_PRODUCER w__VALUES w_WORKER w_OPERATOR w_ADMIN w_PRODUCER_shown w_PRODUCER_shown_value w_WORKER_shown w_WORKER_shown_value w_OPERATOR_shown w_OPERATOR_shown_value w_ADMIN_shown w_ADMIN_shown_value k__VALUES k_PRODUCER_shown_value k_WORKER_shown_value k_OPERATOR_shown_value k_ADMIN_shown_value u w ka kb x0 x1 x2 x3 x4 x5 x6 x7 y0 y1 y2 y3 y4 y5 y6 y7 h0 n0 _ T8.heap _
   rw [e8]
   exact ⟨(by rw [f11_8_8, if_neg hc10]), N8, rfl⟩

theorem ef_9_8 (m : MethodId) (a0 : Addr) : entryFrame m #[(.ref a0)] 6 = mkF m 0 #[rv a0, un, un, un, un, un] [] := by first | (simp [entryFrame, mkF, argsToLocals, Value.category]; done) | rfl
def f9_8 (w_PRODUCER : Addr) (w_OPERATOR : Addr) (y0 : Int32) (y1 : Int32) (y2 : Int32) (y3 : Int32) (y4 : Int32) (y5 : Int32) (y6 : Int32) (y7 : Int32) : Value := if (f11_8_8 (112 : Int32) (114 : Int32) (111 : Int32) (100 : Int32) (117 : Int32) (99 : Int32) (101 : Int32) (114 : Int32) y0 y1 y2 y3 y4 y5 y6 y7) = (0 : Int32) then (if (f11_8_8 (111 : Int32) (112 : Int32) (101 : Int32) (114 : Int32) (97 : Int32) (116 : Int32) (111 : Int32) (114 : Int32) y0 y1 y2 y3 y4 y5 y6 y7) = (0 : Int32) then .null else (.ref w_OPERATOR)) else (if (f11_8_8 (111 : Int32) (112 : Int32) (101 : Int32) (114 : Int32) (97 : Int32) (116 : Int32) (111 : Int32) (114 : Int32) y0 y1 y2 y3 y4 y5 y6 y7) = (0 : Int32) then (.ref w_PRODUCER) else (.ref w_OPERATOR))
def Q9_8 (Z : State) (a0 : Addr) (w_CS0 : Int32) (w_SF1 : Value) (w_PRODUCER : Addr) (w__VALUES : Addr) (w_WORKER : Addr) (w_OPERATOR : Addr) (w_ADMIN : Addr) (w_PRODUCER_shown : Addr) (w_PRODUCER_shown_value : Addr) (w_WORKER_shown : Addr) (w_WORKER_shown_value : Addr) (w_OPERATOR_shown : Addr) (w_OPERATOR_shown_value : Addr) (w_ADMIN_shown : Addr) (w_ADMIN_shown_value : Addr) (k__VALUES : ClassId) (k_PRODUCER_shown_value : ClassId) (k_WORKER_shown_value : ClassId) (k_OPERATOR_shown_value : ClassId) (k_ADMIN_shown_value : ClassId) (u : Addr) (ku : ClassId) (y0 : Int32) (y1 : Int32) (y2 : Int32) (y3 : Int32) (y4 : Int32) (y5 : Int32) (y6 : Int32) (y7 : Int32) (h0 : Heap) (n0 : Nat) (v : Option Value) (h : Heap) (L : List Loc) : Prop := v = some (f9_8 w_PRODUCER w_OPERATOR y0 y1 y2 y3 y4 y5 y6 y7) ∧ Fr n0 L ∧ Keep h0 h []
set_option maxRecDepth 65536 in
set_option maxHeartbeats 40000000 in
theorem rm9_8 (l : Launch) (Z : State) (ar : Array Value) (hw : ∀ d ∈ tables_1, d.before ar Z = true) (ws : List Jvm.Cond) (a0 : Addr) (w_CS0 : Int32) (w_SF1 : Value) (w_PRODUCER : Addr) (w__VALUES : Addr) (w_WORKER : Addr) (w_OPERATOR : Addr) (w_ADMIN : Addr) (w_PRODUCER_shown : Addr) (w_PRODUCER_shown_value : Addr) (w_WORKER_shown : Addr) (w_WORKER_shown_value : Addr) (w_OPERATOR_shown : Addr) (w_OPERATOR_shown_value : Addr) (w_ADMIN_shown : Addr) (w_ADMIN_shown_value : Addr) (k__VALUES : ClassId) (k_PRODUCER_shown_value : ClassId) (k_WORKER_shown_value : ClassId) (k_OPERATOR_shown_value : ClassId) (k_ADMIN_shown_value : ClassId) (u : Addr) (ku : ClassId) (y0 : Int32) (y1 : Int32) (y2 : Int32) (y3 : Int32) (y4 : Int32) (y5 : Int32) (y6 : Int32) (y7 : Int32) (h0 : Heap) (n0 : Nat) (O0 : Old Z n0 h0) (HW : Wd Z w_CS0 w_SF1 w_PRODUCER w__VALUES w_WORKER w_OPERATOR w_ADMIN w_PRODUCER_shown w_PRODUCER_shown_value w_WORKER_shown w_WORKER_shown_value w_OPERATOR_shown w_OPERATOR_shown_value w_ADMIN_shown w_ADMIN_shown_value k__VALUES k_PRODUCER_shown_value k_WORKER_shown_value k_OPERATOR_shown_value k_ADMIN_shown_value) (pf0 : Exa Z h0 a0 "java/lang/String") (pf1 : Fld Z h0 a0 "java/lang/String" "coder" "B" (.int (0 : Int32))) (pf2 : Fld Z h0 a0 "java/lang/String" "value" "[B" (.ref u)) (pf3 : Arv Z h0 u ku .byte (8 : Int32) [(.int y0), (.int y1), (.int y2), (.int y3), (.int y4), (.int y5), (.int y6), (.int y7)] (.int (0 : Int32))) (pf4 : n0 ≤ a0) :
    MetFree l y9 (head1 (Jvm.Cond.code y9 prog_7_method_5_code 6 (some (.object "com/example/lease/lease/Role")) :: ws) ({ frames := 2, cells := 1, slots := 4, locals := 28 } : Room)) (fun a U => a = #[(.ref a0)] ∧ Z.Warmed39 U.vm ∧ U.heap = h0) (fun _ _ _ _ _ => True) (fun _ U o U' => ∃ v L, o = .returned v ∧ Q9_8 Z a0 w_CS0 w_SF1 w_PRODUCER w__VALUES w_WORKER w_OPERATOR w_ADMIN w_PRODUCER_shown w_PRODUCER_shown_value w_WORKER_shown w_WORKER_shown_value w_OPERATOR_shown w_OPERATOR_shown_value w_ADMIN_shown w_ADMIN_shown_value k__VALUES k_PRODUCER_shown_value k_WORKER_shown_value k_OPERATOR_shown_value k_ADMIN_shown_value u ku y0 y1 y2 y3 y4 y5 y6 y7 h0 n0 v U'.heap L ∧ FrameEnd U o U' L ({ frames := 2, cells := 1, slots := 4, locals := 28 } : Room).cells ({ frames := 2, cells := 1, slots := 4, locals := 28 } : Room).slots) := by
 refine MetFree.of_bodySF (plainFor_of_name pn_1) hisR ?_
 intro p e s m args below meth c s₁ Bd hml0 hP hK
 obtain ⟨rfl, hZ, hh⟩ := hP
 have hx := Bd.exec
 have hby := Bd.bytes
 have hml : c.maxLocals = 6 := hml0
 have hown : s.vm.findClass "com/example/lease/lease/Role" = some m.cls := findClass_of_methodNamed Bd.named
 have hnm := (name_of_methodNamed Bd.named Bd.method).1
 have X0 : Stand p l e ({ frames := 2, cells := 1, slots := 4, locals := 28 } : Room) s m #[(.ref a0)] below meth c s₁ [] 0 0 := Stand.of_body Bd
 have e0 : s₁.heap = h0 := by rw [← hh, Bd.state]; rfl
 have N0 := Fr.nil n0
 have Z0 : n0 ≤ h0.size := Nat.le_trans (Nat.le_of_eq O0.1.symm) O0.2.1
 obtain ⟨S0, hS0⟩ : ∃ z, z = s₁.setTop (entryFrame m #[(.ref a0)] 6) := ⟨_, rfl⟩
 have pre0 : ∀ tg, AT p e below s₁ m 0 #[rv a0, un, un, un, un, un] [] tg → Steps p.tables e below S0 tg := fun tg kg => by rw [hS0]; exact castTop (ef_9_8 m a0) kg
 obtain ⟨S_COMPACT_STRINGS, hz_w_CS0, S_SIOOBE_FORMATTER, ir_w_SF1, S_PRODUCER, E_PRODUCER, S__VALUES, E__VALUES, S_WORKER, E_WORKER, S_OPERATOR, E_OPERATOR, S_ADMIN, E_ADMIN, F_shown_PRODUCER, E_PRODUCER_shown, F_coder_PRODUCER_shown, F_value_PRODUCER_shown, F_shown_WORKER, E_WORKER_shown, F_coder_WORKER_shown, F_value_WORKER_shown, F_shown_OPERATOR, E_OPERATOR_shown, F_coder_OPERATOR_shown, F_value_OPERATOR_shown, F_shown_ADMIN, E_ADMIN_shown, F_coder_ADMIN_shown, F_value_ADMIN_shown, V__VALUES, V_PRODUCER_shown_value, V_WORKER_shown_value, V_OPERATOR_shown_value, V_ADMIN_shown_value⟩ := id HW
 obtain ⟨_, _, ⟨T1, L1, k1, n1⟩, -, X1, ⟨Lc1, hQ1, l1, y1, z1⟩, st1⟩ := Jvm.LawKit.callS X0 hx (y := y10) hown (mvT hZ (ow hw 43 rfl)) (mvT hZ (ow hw 44 rfl)) (mvT hZ (ow hw 5 rfl)) (mvT hZ (ow hw 45 rfl)) (by decide) (backOf (W := 0) (rm10 l Z ar hw [] w_CS0 w_SF1 w_PRODUCER w__VALUES w_WORKER w_OPERATOR w_ADMIN w_PRODUCER_shown w_PRODUCER_shown_value w_WORKER_shown w_WORKER_shown_value w_OPERATOR_shown w_OPERATOR_shown_value w_ADMIN_shown w_ADMIN_shown_value k__VALUES k_PRODUCER_shown_value k_WORKER_shown_value k_OPERATOR_shown_value k_ADMIN_shown_value h0 n0 O0 HW) hZ (ow hw 45 rfl) (ow hw 5 rfl) (by decide) (by decide)) (g := (mkF m 2 #[rv a0, .val .null, un, un, un, un] [])) rfl (by rw [hml]; rfl) (argsL := []) (rest := []) (lenOf pd_0 rfl) rfl (by show 2 * 0 + _ ≤ _; exact Nat.le_of_eq rfl) (hb hby d9_2) (fun _ _ => ⟨rfl, e0, (by decide : 0 + 1 ≤ _), (by decide : 0 + 4 ≤ _)⟩)
 dsimp only [Pt.U, Pt.locs, Pt.cells, Pt.slots] at X1 l1 y1 z1 st1 hQ1
 subst l1 y1 z1
 obtain ⟨b_1, kb_1, rfl, N1q, Kq1, u1_0, u1_1, u1_2⟩ := hQ1
 have N1 := Fr.app N0 N1q
 have E1_2 := pf0.keep Kq1
 have F1_3 := pf1.keep Kq1 nin0
 have F1_4 := pf2.keep Kq1 nin0
 have V1_5 := pf3.keep Kq1 nin0
 have K1 := (Keep.refl h0 []).trans Kq1 all0
 have O1 := O0.keep Kq1 all0
 have sz6 : h0.size ≤ b_1 := Nat.le_trans (Keep.refl h0 []).1 u1_1
 have gn6 : n0 ≤ b_1 := Nat.le_trans (Nat.le_trans (Nat.le_of_eq O0.1.symm) O0.2.1) u1_1
 have ne7 : a0 ≠ b_1 := Nat.ne_of_lt (Nat.lt_of_lt_of_le (pf0).lt u1_1)
 have ne8 : u ≠ b_1 := Nat.ne_of_lt (Nat.lt_of_lt_of_le (pf3).lt u1_1)
 obtain ⟨cl9, Ar9, q9, S9, N9, H9, G9⟩ := id u1_0
 obtain ⟨cl10, Ar10, q10, S10, N10, H10, G10⟩ := id u1_0
 have hin10 := own_in (0 : Int32) S10 ⟨by decide, by decide⟩
 have hat10 : cl10.slots[((0 : Int32)).toNatClampNeg]? = some (.ref w_PRODUCER) := Has.at H10 hin10 rfl
 obtain ⟨T11, X11, e11, st11⟩ := getF X1 hx hZ hown (host := "") (Or.inl (ow hw 61 rfl)) Via.refl rfl (F_shown_PRODUCER.ext O1.2) (g := (mkF m 26 #[rv a0, .val .null, rv b_1, iv (4 : Int32), iv (0 : Int32), rv w_PRODUCER] [(.ref w_PRODUCER)])) rfl rfl (hb hby d9_26)
 obtain ⟨cq12, kq12, q12a, q12b, q12c⟩ := isOf hZ e11 (E_PRODUCER_shown.ext O1.2)
 obtain ⟨_, _, ⟨T12, L12, k12, n12⟩, -, X12, ⟨Lc12, hQ12, l12, y12, z12⟩, st12⟩ := X11.virtualBack hx (y := y11) (z := y11) hown (mvT hZ (ow hw 63 rfl)) (mvT hZ (ow hw 64 rfl)) (notFace_of_selects (args := #[]) (mvT hZ (ow hw 66 rfl))) (mvT hZ (ow hw 66 rfl)) (mvT hZ (ow hw 65 rfl)) (by decide) (backOf (W := 0) (rm11_8_8 l Z ar hw [] w_PRODUCER_shown a0 w_CS0 w_SF1 w_PRODUCER w__VALUES w_WORKER w_OPERATOR w_ADMIN w_PRODUCER_shown w_PRODUCER_shown_value w_WORKER_shown w_WORKER_shown_value w_OPERATOR_shown w_OPERATOR_shown_value w_ADMIN_shown w_ADMIN_shown_value k__VALUES k_PRODUCER_shown_value k_WORKER_shown_value k_OPERATOR_shown_value k_ADMIN_shown_value w_PRODUCER_shown_value u k_PRODUCER_shown_value ku (112 : Int32) (114 : Int32) (111 : Int32) (100 : Int32) (117 : Int32) (99 : Int32) (101 : Int32) (114 : Int32) y0 y1 y2 y3 y4 y5 y6 y7 T1.heap n0 O1 HW (E_PRODUCER_shown.ext O1.2) E1_2 (F_coder_PRODUCER_shown.ext O1.2) F1_3 (F_value_PRODUCER_shown.ext O1.2) F1_4 (V_PRODUCER_shown_value.ext O1.2) V1_5 (Old.ne O1 E_PRODUCER_shown.lt pf4)) hZ (ow hw 67 rfl) (ow hw 13 rfl) (by decide) (by decide)) q12a q12c (g := (mkF m 30 #[rv a0, .val .null, rv b_1, iv (4 : Int32), iv (0 : Int32), rv w_PRODUCER] [(.ref a0), (.ref w_PRODUCER_shown)])) rfl (by rw [hml]; rfl) (Steps.refl _) (argsL := [(.ref a0)]) (rest := []) (lenOf pd_1 rfl) rfl (by show 2 * 0 + _ ≤ _; exact Nat.le_of_eq rfl) (hb hby d9_30) (fun _ _ => ⟨rfl, e11, (by decide : 1 + 0 ≤ _), (by decide : 4 + 0 ≤ _)⟩)
 dsimp only [Pt.U, Pt.locs, Pt.cells, Pt.slots] at X12 l12 y12 z12 st12 hQ12
 subst l12 y12 z12
 obtain ⟨rfl, N12q, e12⟩ := hQ12
 have N12 := Fr.app N1 N12q
 have pre13 : ∀ tg, AT p e below T12 m 33 #[rv a0, .val .null, rv b_1, iv (4 : Int32), iv (0 : Int32), rv w_PRODUCER] [(.int (f11_8_8 (112 : Int32) (114 : Int32) (111 : Int32) (100 : Int32) (117 : Int32) (99 : Int32) (101 : Int32) (114 : Int32) y0 y1 y2 y3 y4 y5 y6 y7))] tg → Steps p.tables e below S0 tg := fun tg kg => pre0 tg (by
  refine XS.aconstNull X0.here hx rfl (hb hby d9_0) ?_
  refine XS.astoreN X0.here hx rfl (hb hby d9_1) rfl rfl (l' := #[rv a0, .val .null, un, un, un, un]) rfl ?_
  refine st1 _ ?_
  refine XS.astoreN X1.here hx rfl (hb hby d9_5) rfl rfl (l' := #[rv a0, .val .null, rv b_1, un, un, un]) rfl ?_
  refine XS.aloadN X1.here hx rfl (hb hby d9_6) rfl rfl ?_
  refine X1.arraylength hx Ar9.1 (State.isArrayOf_alike hZ.alike Ar9.2.1) (g := (mkF m 7 #[rv a0, .val .null, rv b_1, un, un, un] [(.ref b_1)])) rfl rfl (hb hby d9_7) _ ?_
  rw [len_of S9 N9]
  refine XS.istoreN X1.here hx rfl (hb hby d9_8) rfl (l' := #[rv a0, .val .null, rv b_1, iv (4 : Int32), un, un]) rfl ?_
  refine XS.iconst X1.here hx rfl (hb hby d9_9) ?_
  refine XS.istore X1.here hx rfl (hb hby d9_10) rfl (l' := #[rv a0, .val .null, rv b_1, iv (4 : Int32), iv (0 : Int32), un]) rfl ?_
  refine XS.iload X1.here hx rfl (hb hby d9_12) rfl ?_
  refine XS.iloadN X1.here hx rfl (hb hby d9_14) rfl ?_
  show AT p e below T1 m 15 #[rv a0, .val .null, rv b_1, iv (4 : Int32), iv (0 : Int32), un] [(.int (4 : Int32)), (.int (0 : Int32))] _
  refine XS.icmpNo X1.here hx rfl (hb hby d9_15) rfl (XT.ii_ge_f ((by decide) : (0 : Int32) < (4 : Int32))) ?_
  refine XS.aloadN X1.here hx rfl (hb hby d9_18) rfl rfl ?_
  refine XS.iload X1.here hx rfl (hb hby d9_19) rfl ?_
  refine X1.aaload hx (j := (0 : Int32)) (v := (.ref w_PRODUCER)) Ar10.1 (State.isArrayOf_alike hZ.alike Ar10.2.1) rfl Ar10.2.2 hin10 hat10 (g := (mkF m 21 #[rv a0, .val .null, rv b_1, iv (4 : Int32), iv (0 : Int32), un] [(.int (0 : Int32)), (.ref b_1)])) rfl rfl (hb hby d9_21) _ ?_
  refine XS.astore X1.here hx rfl (hb hby d9_22) rfl rfl (l' := #[rv a0, .val .null, rv b_1, iv (4 : Int32), iv (0 : Int32), rv w_PRODUCER]) rfl ?_
  refine XS.aload X1.here hx rfl (hb hby d9_24) rfl rfl ?_
  show AT p e below T1 m 26 #[rv a0, .val .null, rv b_1, iv (4 : Int32), iv (0 : Int32), rv w_PRODUCER] [(.ref w_PRODUCER)] _
  refine st11 _ ?_
  refine XS.aloadN X11.here hx rfl (hb hby d9_29) rfl rfl ?_
  refine st12.trans ?_
  exact kg)
 rcases Decidable.em ((f11_8_8 (112 : Int32) (114 : Int32) (111 : Int32) (100 : Int32) (117 : Int32) (99 : Int32) (101 : Int32) (114 : Int32) y0 y1 y2 y3 y4 y5 y6 y7) = (0 : Int32)) with hc14 | hc14
 ·
  obtain ⟨cl15, Ar15, q15, S15, N15, H15, G15⟩ := id u1_0
  have hin15 := own_in (1 : Int32) S15 ⟨by decide, by decide⟩
  have hat15 : cl15.slots[((1 : Int32)).toNatClampNeg]? = some (.ref w_WORKER) := Has.at H15 hin15 rfl
  obtain ⟨T16, X16, e16, st16⟩ := getF X12 hx hZ hown (host := "") (Or.inl (ow hw 61 rfl)) Via.refl e12 (F_shown_WORKER.ext O1.2) (g := (mkF m 26 #[rv a0, .val .null, rv b_1, iv (4 : Int32), iv (1 : Int32), rv w_WORKER] [(.ref w_WORKER)])) rfl rfl (hb hby d9_26)
  obtain ⟨cq17, kq17, q17a, q17b, q17c⟩ := isOf hZ e16 (E_WORKER_shown.ext O1.2)
  obtain ⟨_, _, ⟨T17, L17, k17, n17⟩, -, X17, ⟨Lc17, hQ17, l17, y17, z17⟩, st17⟩ := X16.virtualBack hx (y := y11) (z := y11) hown (mvT hZ (ow hw 63 rfl)) (mvT hZ (ow hw 64 rfl)) (notFace_of_selects (args := #[]) (mvT hZ (ow hw 66 rfl))) (mvT hZ (ow hw 66 rfl)) (mvT hZ (ow hw 65 rfl)) (by decide) (backOf (W := 0) (rm11_6x l Z ar hw [] w_WORKER_shown a0 w_CS0 w_SF1 w_PRODUCER w__VALUES w_WORKER w_OPERATOR w_ADMIN w_PRODUCER_shown w_PRODUCER_shown_value w_WORKER_shown w_WORKER_shown_value w_OPERATOR_shown w_OPERATOR_shown_value w_ADMIN_shown w_ADMIN_shown_value k__VALUES k_PRODUCER_shown_value k_WORKER_shown_value k_OPERATOR_shown_value k_ADMIN_shown_value w_WORKER_shown_value u k_WORKER_shown_value ku (8 : Int32) [(.int y0), (.int y1), (.int y2), (.int y3), (.int y4), (.int y5), (.int y6), (.int y7)] (119 : Int32) (111 : Int32) (114 : Int32) (107 : Int32) (101 : Int32) (114 : Int32) T1.heap n0 O1 HW (E_WORKER_shown.ext O1.2) E1_2 (F_coder_WORKER_shown.ext O1.2) F1_3 (F_value_WORKER_shown.ext O1.2) F1_4 (V_WORKER_shown_value.ext O1.2) V1_5 (Old.ne O1 E_WORKER_shown.lt pf4) (by decide)) hZ (ow hw 67 rfl) (ow hw 13 rfl) (by decide) (by decide)) q17a q17c (g := (mkF m 30 #[rv a0, .val .null, rv b_1, iv (4 : Int32), iv (1 : Int32), rv w_WORKER] [(.ref a0), (.ref w_WORKER_shown)])) rfl (by rw [hml]; rfl) (Steps.refl _) (argsL := [(.ref a0)]) (rest := []) (lenOf pd_1 rfl) rfl (by show 2 * 0 + _ ≤ _; exact Nat.le_of_eq rfl) (hb hby d9_30) (fun _ _ => ⟨rfl, e16, (by decide : 1 + 0 ≤ _), (by decide : 4 + 0 ≤ _)⟩)
  dsimp only [Pt.U, Pt.locs, Pt.cells, Pt.slots] at X17 l17 y17 z17 st17 hQ17
  subst l17 y17 z17
  obtain ⟨rfl, N17q, e17⟩ := hQ17
  have N17 := Fr.app N12 N17q
  obtain ⟨cl18, Ar18, q18, S18, N18, H18, G18⟩ := id u1_0
  have hin18 := own_in (2 : Int32) S18 ⟨by decide, by decide⟩
  have hat18 : cl18.slots[((2 : Int32)).toNatClampNeg]? = some (.ref w_OPERATOR) := Has.at H18 hin18 rfl
  obtain ⟨T19, X19, e19, st19⟩ := getF X17 hx hZ hown (host := "") (Or.inl (ow hw 61 rfl)) Via.refl e17 (F_shown_OPERATOR.ext O1.2) (g := (mkF m 26 #[rv a0, .val .null, rv b_1, iv (4 : Int32), iv (2 : Int32), rv w_OPERATOR] [(.ref w_OPERATOR)])) rfl rfl (hb hby d9_26)
  obtain ⟨cq20, kq20, q20a, q20b, q20c⟩ := isOf hZ e19 (E_OPERATOR_shown.ext O1.2)
  obtain ⟨_, _, ⟨T20, L20, k20, n20⟩, -, X20, ⟨Lc20, hQ20, l20, y20, z20⟩, st20⟩ := X19.virtualBack hx (y := y11) (z := y11) hown (mvT hZ (ow hw 63 rfl)) (mvT hZ (ow hw 64 rfl)) (notFace_of_selects (args := #[]) (mvT hZ (ow hw 66 rfl))) (mvT hZ (ow hw 66 rfl)) (mvT hZ (ow hw 65 rfl)) (by decide) (backOf (W := 0) (rm11_8_8 l Z ar hw [] w_OPERATOR_shown a0 w_CS0 w_SF1 w_PRODUCER w__VALUES w_WORKER w_OPERATOR w_ADMIN w_PRODUCER_shown w_PRODUCER_shown_value w_WORKER_shown w_WORKER_shown_value w_OPERATOR_shown w_OPERATOR_shown_value w_ADMIN_shown w_ADMIN_shown_value k__VALUES k_PRODUCER_shown_value k_WORKER_shown_value k_OPERATOR_shown_value k_ADMIN_shown_value w_OPERATOR_shown_value u k_OPERATOR_shown_value ku (111 : Int32) (112 : Int32) (101 : Int32) (114 : Int32) (97 : Int32) (116 : Int32) (111 : Int32) (114 : Int32) y0 y1 y2 y3 y4 y5 y6 y7 T1.heap n0 O1 HW (E_OPERATOR_shown.ext O1.2) E1_2 (F_coder_OPERATOR_shown.ext O1.2) F1_3 (F_value_OPERATOR_shown.ext O1.2) F1_4 (V_OPERATOR_shown_value.ext O1.2) V1_5 (Old.ne O1 E_OPERATOR_shown.lt pf4)) hZ (ow hw 67 rfl) (ow hw 13 rfl) (by decide) (by decide)) q20a q20c (g := (mkF m 30 #[rv a0, .val .null, rv b_1, iv (4 : Int32), iv (2 : Int32), rv w_OPERATOR] [(.ref a0), (.ref w_OPERATOR_shown)])) rfl (by rw [hml]; rfl) (Steps.refl _) (argsL := [(.ref a0)]) (rest := []) (lenOf pd_1 rfl) rfl (by show 2 * 0 + _ ≤ _; exact Nat.le_of_eq rfl) (hb hby d9_30) (fun _ _ => ⟨rfl, e19, (by decide : 1 + 0 ≤ _), (by decide : 4 + 0 ≤ _)⟩)
  dsimp only [Pt.U, Pt.locs, Pt.cells, Pt.slots] at X20 l20 y20 z20 st20 hQ20
  subst l20 y20 z20
  obtain ⟨rfl, N20q, e20⟩ := hQ20
  have N20 := Fr.app N17 N20q
  have pre21 : ∀ tg, AT p e below T20 m 33 #[rv a0, .val .null, rv b_1, iv (4 : Int32), iv (2 : Int32), rv w_OPERATOR] [(.int (f11_8_8 (111 : Int32) (112 : Int32) (101 : Int32) (114 : Int32) (97 : Int32) (116 : Int32) (111 : Int32) (114 : Int32) y0 y1 y2 y3 y4 y5 y6 y7))] tg → Steps p.tables e below S0 tg := fun tg kg => pre13 tg (by
   refine XS.ifYes X12.here hx rfl (pc0 := 33) (pc' := 39) rfl (hb hby d9_33) rfl (XT.i0_eq_t hc14) (by decide) (by decide) ?_
   refine XS.iinc X12.here hx rfl (hb hby d9_39) rfl (l' := #[rv a0, .val .null, rv b_1, iv (4 : Int32), iv (1 : Int32), rv w_PRODUCER]) rfl ?_
   refine XS.goto X12.here hx rfl (pc0 := 42) (pc' := 12) rfl (hb hby d9_42) (by decide) (by decide) ?_
   refine XS.iload X12.here hx rfl (hb hby d9_12) rfl ?_
   refine XS.iloadN X12.here hx rfl (hb hby d9_14) rfl ?_
   show AT p e below T12 m 15 #[rv a0, .val .null, rv b_1, iv (4 : Int32), iv (1 : Int32), rv w_PRODUCER] [(.int (4 : Int32)), (.int (1 : Int32))] _
   refine XS.icmpNo X12.here hx rfl (hb hby d9_15) rfl (XT.ii_ge_f ((by decide) : (1 : Int32) < (4 : Int32))) ?_
   refine XS.aloadN X12.here hx rfl (hb hby d9_18) rfl rfl ?_
   refine XS.iload X12.here hx rfl (hb hby d9_19) rfl ?_
   refine X12.aaload hx (j := (1 : Int32)) (v := (.ref w_WORKER)) (by rw [e12]; exact Ar15.1) (State.isArrayOf_alike hZ.alike Ar15.2.1) rfl Ar15.2.2 hin15 hat15 (g := (mkF m 21 #[rv a0, .val .null, rv b_1, iv (4 : Int32), iv (1 : Int32), rv w_PRODUCER] [(.int (1 : Int32)), (.ref b_1)])) rfl rfl (hb hby d9_21) _ ?_
   refine XS.astore X12.here hx rfl (hb hby d9_22) rfl rfl (l' := #[rv a0, .val .null, rv b_1, iv (4 : Int32), iv (1 : Int32), rv w_WORKER]) rfl ?_
   refine XS.aload X12.here hx rfl (hb hby d9_24) rfl rfl ?_
   refine st16 _ ?_
   refine XS.aloadN X16.here hx rfl (hb hby d9_29) rfl rfl ?_
   refine st17.trans ?_
   show AT p e below T17 m 33 #[rv a0, .val .null, rv b_1, iv (4 : Int32), iv (1 : Int32), rv w_WORKER] [(.int (0 : Int32))] _
   refine XS.ifYes X17.here hx rfl (pc0 := 33) (pc' := 39) rfl (hb hby d9_33) rfl (XT.i0_eq_t ((by decide) : (0 : Int32) = (0 : Int32))) (by decide) (by decide) ?_
   refine XS.iinc X17.here hx rfl (hb hby d9_39) rfl (l' := #[rv a0, .val .null, rv b_1, iv (4 : Int32), iv (2 : Int32), rv w_WORKER]) rfl ?_
   show AT p e below T17 m 42 #[rv a0, .val .null, rv b_1, iv (4 : Int32), iv (2 : Int32), rv w_WORKER] [] _
   refine XS.goto X17.here hx rfl (pc0 := 42) (pc' := 12) rfl (hb hby d9_42) (by decide) (by decide) ?_
   refine XS.iload X17.here hx rfl (hb hby d9_12) rfl ?_
   refine XS.iloadN X17.here hx rfl (hb hby d9_14) rfl ?_
   show AT p e below T17 m 15 #[rv a0, .val .null, rv b_1, iv (4 : Int32), iv (2 : Int32), rv w_WORKER] [(.int (4 : Int32)), (.int (2 : Int32))] _
   refine XS.icmpNo X17.here hx rfl (hb hby d9_15) rfl (XT.ii_ge_f ((by decide) : (2 : Int32) < (4 : Int32))) ?_
   refine XS.aloadN X17.here hx rfl (hb hby d9_18) rfl rfl ?_
   refine XS.iload X17.here hx rfl (hb hby d9_19) rfl ?_
   refine X17.aaload hx (j := (2 : Int32)) (v := (.ref w_OPERATOR)) (by rw [e17]; exact Ar18.1) (State.isArrayOf_alike hZ.alike Ar18.2.1) rfl Ar18.2.2 hin18 hat18 (g := (mkF m 21 #[rv a0, .val .null, rv b_1, iv (4 : Int32), iv (2 : Int32), rv w_WORKER] [(.int (2 : Int32)), (.ref b_1)])) rfl rfl (hb hby d9_21) _ ?_
   refine XS.astore X17.here hx rfl (hb hby d9_22) rfl rfl (l' := #[rv a0, .val .null, rv b_1, iv (4 : Int32), iv (2 : Int32), rv w_OPERATOR]) rfl ?_
   refine XS.aload X17.here hx rfl (hb hby d9_24) rfl rfl ?_
   refine st19 _ ?_
   refine XS.aloadN X19.here hx rfl (hb hby d9_29) rfl rfl ?_
   refine st20.trans ?_
   exact kg)
  rcases Decidable.em ((f11_8_8 (111 : Int32) (112 : Int32) (101 : Int32) (114 : Int32) (97 : Int32) (116 : Int32) (111 : Int32) (114 : Int32) y0 y1 y2 y3 y4 y5 y6 y7) = (0 : Int32)) with hc22 | hc22
  ·
   obtain ⟨cl23, Ar23, q23, S23, N23, H23, G23⟩ := id u1_0
   have hin23 := own_in (3 : Int32) S23 ⟨by decide, by decide⟩
   have hat23 : cl23.slots[((3 : Int32)).toNatClampNeg]? = some (.ref w_ADMIN) := Has.at H23 hin23 rfl
   obtain ⟨T24, X24, e24, st24⟩ := getF X20 hx hZ hown (host := "") (Or.inl (ow hw 61 rfl)) Via.refl e20 (F_shown_ADMIN.ext O1.2) (g := (mkF m 26 #[rv a0, .val .null, rv b_1, iv (4 : Int32), iv (3 : Int32), rv w_ADMIN] [(.ref w_ADMIN)])) rfl rfl (hb hby d9_26)
   obtain ⟨cq25, kq25, q25a, q25b, q25c⟩ := isOf hZ e24 (E_ADMIN_shown.ext O1.2)
   obtain ⟨_, _, ⟨T25, L25, k25, n25⟩, -, X25, ⟨Lc25, hQ25, l25, y25, z25⟩, st25⟩ := X24.virtualBack hx (y := y11) (z := y11) hown (mvT hZ (ow hw 63 rfl)) (mvT hZ (ow hw 64 rfl)) (notFace_of_selects (args := #[]) (mvT hZ (ow hw 66 rfl))) (mvT hZ (ow hw 66 rfl)) (mvT hZ (ow hw 65 rfl)) (by decide) (backOf (W := 0) (rm11_5x l Z ar hw [] w_ADMIN_shown a0 w_CS0 w_SF1 w_PRODUCER w__VALUES w_WORKER w_OPERATOR w_ADMIN w_PRODUCER_shown w_PRODUCER_shown_value w_WORKER_shown w_WORKER_shown_value w_OPERATOR_shown w_OPERATOR_shown_value w_ADMIN_shown w_ADMIN_shown_value k__VALUES k_PRODUCER_shown_value k_WORKER_shown_value k_OPERATOR_shown_value k_ADMIN_shown_value w_ADMIN_shown_value u k_ADMIN_shown_value ku (8 : Int32) [(.int y0), (.int y1), (.int y2), (.int y3), (.int y4), (.int y5), (.int y6), (.int y7)] (97 : Int32) (100 : Int32) (109 : Int32) (105 : Int32) (110 : Int32) T1.heap n0 O1 HW (E_ADMIN_shown.ext O1.2) E1_2 (F_coder_ADMIN_shown.ext O1.2) F1_3 (F_value_ADMIN_shown.ext O1.2) F1_4 (V_ADMIN_shown_value.ext O1.2) V1_5 (Old.ne O1 E_ADMIN_shown.lt pf4) (by decide)) hZ (ow hw 67 rfl) (ow hw 13 rfl) (by decide) (by decide)) q25a q25c (g := (mkF m 30 #[rv a0, .val .null, rv b_1, iv (4 : Int32), iv (3 : Int32), rv w_ADMIN] [(.ref a0), (.ref w_ADMIN_shown)])) rfl (by rw [hml]; rfl) (Steps.refl _) (argsL := [(.ref a0)]) (rest := []) (lenOf pd_1 rfl) rfl (by show 2 * 0 + _ ≤ _; exact Nat.le_of_eq rfl) (hb hby d9_30) (fun _ _ => ⟨rfl, e24, (by decide : 1 + 0 ≤ _), (by decide : 4 + 0 ≤ _)⟩)
   dsimp only [Pt.U, Pt.locs, Pt.cells, Pt.slots] at X25 l25 y25 z25 st25 hQ25
   subst l25 y25 z25
   obtain ⟨rfl, N25q, e25⟩ := hQ25
   have N25 := Fr.app N20 N25q
   obtain ⟨fs, hr, hrun, hended, hW, hsame⟩ := X25.leave (v := some .null) (fun h => by rw [Bd.returns] at h; cases h)
   subst hS0
   refine ⟨_, _, pre21 _ ?_, hrun, hended, _, _, rfl, ?_, ⟨_, rfl⟩, hW, hsame.mono (by decide) (by decide)⟩
   ·
    refine XS.ifYes X20.here hx rfl (pc0 := 33) (pc' := 39) rfl (hb hby d9_33) rfl (XT.i0_eq_t hc22) (by decide) (by decide) ?_
    refine XS.iinc X20.here hx rfl (hb hby d9_39) rfl (l' := #[rv a0, .val .null, rv b_1, iv (4 : Int32), iv (3 : Int32), rv w_OPERATOR]) rfl ?_
    refine XS.goto X20.here hx rfl (pc0 := 42) (pc' := 12) rfl (hb hby d9_42) (by decide) (by decide) ?_
    refine XS.iload X20.here hx rfl (hb hby d9_12) rfl ?_
    refine XS.iloadN X20.here hx rfl (hb hby d9_14) rfl ?_
    show AT p e below T20 m 15 #[rv a0, .val .null, rv b_1, iv (4 : Int32), iv (3 : Int32), rv w_OPERATOR] [(.int (4 : Int32)), (.int (3 : Int32))] _
    refine XS.icmpNo X20.here hx rfl (hb hby d9_15) rfl (XT.ii_ge_f ((by decide) : (3 : Int32) < (4 : Int32))) ?_
    refine XS.aloadN X20.here hx rfl (hb hby d9_18) rfl rfl ?_
    show AT p e below T20 m 19 #[rv a0, .val .null, rv b_1, iv (4 : Int32), iv (3 : Int32), rv w_OPERATOR] [(.ref b_1)] _
    refine XS.iload X20.here hx rfl (hb hby d9_19) rfl ?_
    refine X20.aaload hx (j := (3 : Int32)) (v := (.ref w_ADMIN)) (by rw [e20]; exact Ar23.1) (State.isArrayOf_alike hZ.alike Ar23.2.1) rfl Ar23.2.2 hin23 hat23 (g := (mkF m 21 #[rv a0, .val .null, rv b_1, iv (4 : Int32), iv (3 : Int32), rv w_OPERATOR] [(.int (3 : Int32)), (.ref b_1)])) rfl rfl (hb hby d9_21) _ ?_
    refine XS.astore X20.here hx rfl (hb hby d9_22) rfl rfl (l' := #[rv a0, .val .null, rv b_1, iv (4 : Int32), iv (3 : Int32), rv w_ADMIN]) rfl ?_
    refine XS.aload X20.here hx rfl (hb hby d9_24) rfl rfl ?_
    refine st24 _ ?_
    refine XS.aloadN X24.here hx rfl (hb hby d9_29) rfl rfl ?_
    refine st25.trans ?_
    show AT p e below T25 m 33 #[rv a0, .val .null, rv b_1, iv (4 : Int32), iv (3 : Int32), rv w_ADMIN] [(.int (0 : Int32))] _
    refine XS.ifYes X25.here hx rfl (pc0 := 33) (pc' := 39) rfl (hb hby d9_33) rfl (XT.i0_eq_t ((by decide) : (0 : Int32) = (0 : Int32))) (by decide) (by decide) ?_
    refine XS.iinc X25.here hx rfl (hb hby d9_39) rfl (l' := #[rv a0, .val .null, rv b_1, iv (4 : Int32), iv (4 : Int32), rv w_ADMIN]) rfl ?_
    refine XS.goto X25.here hx rfl (pc0 := 42) (pc' := 12) rfl (hb hby d9_42) (by decide) (by decide) ?_
    refine XS.iload X25.here hx rfl (hb hby d9_12) rfl ?_
    refine XS.iloadN X25.here hx rfl (hb hby d9_14) rfl ?_
    show AT p e below T25 m 15 #[rv a0, .val .null, rv b_1, iv (4 : Int32), iv (4 : Int32), rv w_ADMIN] [(.int (4 : Int32)), (.int (4 : Int32))] _
    refine XS.icmpYes X25.here hx rfl (pc0 := 15) (pc' := 45) rfl (hb hby d9_15) rfl (XT.ii_ge_t ((by decide) : ¬ ((4 : Int32) < (4 : Int32)))) (by decide) (by decide) ?_
    refine XS.aloadN X25.here hx rfl (hb hby d9_45) rfl rfl ?_
    exact retOut X25 hx (t := (.object "com/example/lease/lease/Role")) (i := .areturn) Bd.returns rfl (Or.inr (Or.inr (Or.inr (Or.inr ⟨rfl, rfl, rfl⟩)))) (hb hby d9_46) hr
   ·
    show Q9_8 Z a0 w_CS0 w_SF1 w_PRODUCER w__VALUES w_WORKER w_OPERATOR w_ADMIN w_PRODUCER_shown w_PRODUCER_shown_value w_WORKER_shown w_WORKER_shown_value w_OPERATOR_shown w_OPERATOR_shown_value w_ADMIN_shown w_ADMIN_shown_value k__VALUES k_PRODUCER_shown_value k_WORKER_shown_value k_OPERATOR_shown_value k_ADMIN_shown_value u ku y0 y1 y2 y3 y4 y5 y6 y7 h0 n0 _ T25.heap _
    rw [e25]
    exact ⟨(by rw [f9_8, if_pos hc14, if_pos hc22]), N25, K1⟩
  ·
   obtain ⟨cl26, Ar26, q26, S26, N26, H26, G26⟩ := id u1_0
   have hin26 := own_in (3 : Int32) S26 ⟨by decide, by decide⟩
   have hat26 : cl26.slots[((3 : Int32)).toNatClampNeg]? = some (.ref w_ADMIN) := Has.at H26 hin26 rfl
   obtain ⟨T27, X27, e27, st27⟩ := getF X20 hx hZ hown (host := "") (Or.inl (ow hw 61 rfl)) Via.refl e20 (F_shown_ADMIN.ext O1.2) (g := (mkF m 26 #[rv a0, rv w_OPERATOR, rv b_1, iv (4 : Int32), iv (3 : Int32), rv w_ADMIN] [(.ref w_ADMIN)])) rfl rfl (hb hby d9_26)
   obtain ⟨cq28, kq28, q28a, q28b, q28c⟩ := isOf hZ e27 (E_ADMIN_shown.ext O1.2)
   obtain ⟨_, _, ⟨T28, L28, k28, n28⟩, -, X28, ⟨Lc28, hQ28, l28, y28, z28⟩, st28⟩ := X27.virtualBack hx (y := y11) (z := y11) hown (mvT hZ (ow hw 63 rfl)) (mvT hZ (ow hw 64 rfl)) (notFace_of_selects (args := #[]) (mvT hZ (ow hw 66 rfl))) (mvT hZ (ow hw 66 rfl)) (mvT hZ (ow hw 65 rfl)) (by decide) (backOf (W := 0) (rm11_5x l Z ar hw [] w_ADMIN_shown a0 w_CS0 w_SF1 w_PRODUCER w__VALUES w_WORKER w_OPERATOR w_ADMIN w_PRODUCER_shown w_PRODUCER_shown_value w_WORKER_shown w_WORKER_shown_value w_OPERATOR_shown w_OPERATOR_shown_value w_ADMIN_shown w_ADMIN_shown_value k__VALUES k_PRODUCER_shown_value k_WORKER_shown_value k_OPERATOR_shown_value k_ADMIN_shown_value w_ADMIN_shown_value u k_ADMIN_shown_value ku (8 : Int32) [(.int y0), (.int y1), (.int y2), (.int y3), (.int y4), (.int y5), (.int y6), (.int y7)] (97 : Int32) (100 : Int32) (109 : Int32) (105 : Int32) (110 : Int32) T1.heap n0 O1 HW (E_ADMIN_shown.ext O1.2) E1_2 (F_coder_ADMIN_shown.ext O1.2) F1_3 (F_value_ADMIN_shown.ext O1.2) F1_4 (V_ADMIN_shown_value.ext O1.2) V1_5 (Old.ne O1 E_ADMIN_shown.lt pf4) (by decide)) hZ (ow hw 67 rfl) (ow hw 13 rfl) (by decide) (by decide)) q28a q28c (g := (mkF m 30 #[rv a0, rv w_OPERATOR, rv b_1, iv (4 : Int32), iv (3 : Int32), rv w_ADMIN] [(.ref a0), (.ref w_ADMIN_shown)])) rfl (by rw [hml]; rfl) (Steps.refl _) (argsL := [(.ref a0)]) (rest := []) (lenOf pd_1 rfl) rfl (by show 2 * 0 + _ ≤ _; exact Nat.le_of_eq rfl) (hb hby d9_30) (fun _ _ => ⟨rfl, e27, (by decide : 1 + 0 ≤ _), (by decide : 4 + 0 ≤ _)⟩)
   dsimp only [Pt.U, Pt.locs, Pt.cells, Pt.slots] at X28 l28 y28 z28 st28 hQ28
   subst l28 y28 z28
   obtain ⟨rfl, N28q, e28⟩ := hQ28
   have N28 := Fr.app N20 N28q
   obtain ⟨fs, hr, hrun, hended, hW, hsame⟩ := X28.leave (v := some (.ref w_OPERATOR)) (fun h => by rw [Bd.returns] at h; cases h)
   subst hS0
   refine ⟨_, _, pre21 _ ?_, hrun, hended, _, _, rfl, ?_, ⟨_, rfl⟩, hW, hsame.mono (by decide) (by decide)⟩
   ·
    refine XS.ifNo X20.here hx rfl (hb hby d9_33) rfl (XT.i0_eq_f hc22) ?_
    refine XS.aload X20.here hx rfl (hb hby d9_36) rfl rfl ?_
    refine XS.astoreN X20.here hx rfl (hb hby d9_38) rfl rfl (l' := #[rv a0, rv w_OPERATOR, rv b_1, iv (4 : Int32), iv (2 : Int32), rv w_OPERATOR]) rfl ?_
    refine XS.iinc X20.here hx rfl (hb hby d9_39) rfl (l' := #[rv a0, rv w_OPERATOR, rv b_1, iv (4 : Int32), iv (3 : Int32), rv w_OPERATOR]) rfl ?_
    refine XS.goto X20.here hx rfl (pc0 := 42) (pc' := 12) rfl (hb hby d9_42) (by decide) (by decide) ?_
    refine XS.iload X20.here hx rfl (hb hby d9_12) rfl ?_
    show AT p e below T20 m 14 #[rv a0, rv w_OPERATOR, rv b_1, iv (4 : Int32), iv (3 : Int32), rv w_OPERATOR] [(.int (3 : Int32))] _
    refine XS.iloadN X20.here hx rfl (hb hby d9_14) rfl ?_
    show AT p e below T20 m 15 #[rv a0, rv w_OPERATOR, rv b_1, iv (4 : Int32), iv (3 : Int32), rv w_OPERATOR] [(.int (4 : Int32)), (.int (3 : Int32))] _
    refine XS.icmpNo X20.here hx rfl (hb hby d9_15) rfl (XT.ii_ge_f ((by decide) : (3 : Int32) < (4 : Int32))) ?_
    refine XS.aloadN X20.here hx rfl (hb hby d9_18) rfl rfl ?_
    refine XS.iload X20.here hx rfl (hb hby d9_19) rfl ?_
    refine X20.aaload hx (j := (3 : Int32)) (v := (.ref w_ADMIN)) (by rw [e20]; exact Ar26.1) (State.isArrayOf_alike hZ.alike Ar26.2.1) rfl Ar26.2.2 hin26 hat26 (g := (mkF m 21 #[rv a0, rv w_OPERATOR, rv b_1, iv (4 : Int32), iv (3 : Int32), rv w_OPERATOR] [(.int (3 : Int32)), (.ref b_1)])) rfl rfl (hb hby d9_21) _ ?_
    refine XS.astore X20.here hx rfl (hb hby d9_22) rfl rfl (l' := #[rv a0, rv w_OPERATOR, rv b_1, iv (4 : Int32), iv (3 : Int32), rv w_ADMIN]) rfl ?_
    refine XS.aload X20.here hx rfl (hb hby d9_24) rfl rfl ?_
    refine st27 _ ?_
    refine XS.aloadN X27.here hx rfl (hb hby d9_29) rfl rfl ?_
    refine st28.trans ?_
    show AT p e below T28 m 33 #[rv a0, rv w_OPERATOR, rv b_1, iv (4 : Int32), iv (3 : Int32), rv w_ADMIN] [(.int (0 : Int32))] _
    refine XS.ifYes X28.here hx rfl (pc0 := 33) (pc' := 39) rfl (hb hby d9_33) rfl (XT.i0_eq_t ((by decide) : (0 : Int32) = (0 : Int32))) (by decide) (by decide) ?_
    refine XS.iinc X28.here hx rfl (hb hby d9_39) rfl (l' := #[rv a0, rv w_OPERATOR, rv b_1, iv (4 : Int32), iv (4 : Int32), rv w_ADMIN]) rfl ?_
    refine XS.goto X28.here hx rfl (pc0 := 42) (pc' := 12) rfl (hb hby d9_42) (by decide) (by decide) ?_
    refine XS.iload X28.here hx rfl (hb hby d9_12) rfl ?_
    refine XS.iloadN X28.here hx rfl (hb hby d9_14) rfl ?_
    show AT p e below T28 m 15 #[rv a0, rv w_OPERATOR, rv b_1, iv (4 : Int32), iv (4 : Int32), rv w_ADMIN] [(.int (4 : Int32)), (.int (4 : Int32))] _
    refine XS.icmpYes X28.here hx rfl (pc0 := 15) (pc' := 45) rfl (hb hby d9_15) rfl (XT.ii_ge_t ((by decide) : ¬ ((4 : Int32) < (4 : Int32)))) (by decide) (by decide) ?_
    refine XS.aloadN X28.here hx rfl (hb hby d9_45) rfl rfl ?_
    exact retOut X28 hx (t := (.object "com/example/lease/lease/Role")) (i := .areturn) Bd.returns rfl (Or.inr (Or.inr (Or.inr (Or.inr ⟨rfl, rfl, rfl⟩)))) (hb hby d9_46) hr
   ·
    show Q9_8 Z a0 w_CS0 w_SF1 w_PRODUCER w__VALUES w_WORKER w_OPERATOR w_ADMIN w_PRODUCER_shown w_PRODUCER_shown_value w_WORKER_shown w_WORKER_shown_value w_OPERATOR_shown w_OPERATOR_shown_value w_ADMIN_shown w_ADMIN_shown_value k__VALUES k_PRODUCER_shown_value k_WORKER_shown_value k_OPERATOR_shown_value k_ADMIN_shown_value u ku y0 y1 y2 y3 y4 y5 y6 y7 h0 n0 _ T28.heap _
    rw [e28]
    exact ⟨(by rw [f9_8, if_pos hc14, if_neg hc22]), N28, K1⟩
 ·
  obtain ⟨cl29, Ar29, q29, S29, N29, H29, G29⟩ := id u1_0
  have hin29 := own_in (1 : Int32) S29 ⟨by decide, by decide⟩
  have hat29 : cl29.slots[((1 : Int32)).toNatClampNeg]? = some (.ref w_WORKER) := Has.at H29 hin29 rfl
  obtain ⟨T30, X30, e30, st30⟩ := getF X12 hx hZ hown (host := "") (Or.inl (ow hw 61 rfl)) Via.refl e12 (F_shown_WORKER.ext O1.2) (g := (mkF m 26 #[rv a0, rv w_PRODUCER, rv b_1, iv (4 : Int32), iv (1 : Int32), rv w_WORKER] [(.ref w_WORKER)])) rfl rfl (hb hby d9_26)
  obtain ⟨cq31, kq31, q31a, q31b, q31c⟩ := isOf hZ e30 (E_WORKER_shown.ext O1.2)
  obtain ⟨_, _, ⟨T31, L31, k31, n31⟩, -, X31, ⟨Lc31, hQ31, l31, y31, z31⟩, st31⟩ := X30.virtualBack hx (y := y11) (z := y11) hown (mvT hZ (ow hw 63 rfl)) (mvT hZ (ow hw 64 rfl)) (notFace_of_selects (args := #[]) (mvT hZ (ow hw 66 rfl))) (mvT hZ (ow hw 66 rfl)) (mvT hZ (ow hw 65 rfl)) (by decide) (backOf (W := 0) (rm11_6x l Z ar hw [] w_WORKER_shown a0 w_CS0 w_SF1 w_PRODUCER w__VALUES w_WORKER w_OPERATOR w_ADMIN w_PRODUCER_shown w_PRODUCER_shown_value w_WORKER_shown w_WORKER_shown_value w_OPERATOR_shown w_OPERATOR_shown_value w_ADMIN_shown w_ADMIN_shown_value k__VALUES k_PRODUCER_shown_value k_WORKER_shown_value k_OPERATOR_shown_value k_ADMIN_shown_value w_WORKER_shown_value u k_WORKER_shown_value ku (8 : Int32) [(.int y0), (.int y1), (.int y2), (.int y3), (.int y4), (.int y5), (.int y6), (.int y7)] (119 : Int32) (111 : Int32) (114 : Int32) (107 : Int32) (101 : Int32) (114 : Int32) T1.heap n0 O1 HW (E_WORKER_shown.ext O1.2) E1_2 (F_coder_WORKER_shown.ext O1.2) F1_3 (F_value_WORKER_shown.ext O1.2) F1_4 (V_WORKER_shown_value.ext O1.2) V1_5 (Old.ne O1 E_WORKER_shown.lt pf4) (by decide)) hZ (ow hw 67 rfl) (ow hw 13 rfl) (by decide) (by decide)) q31a q31c (g := (mkF m 30 #[rv a0, rv w_PRODUCER, rv b_1, iv (4 : Int32), iv (1 : Int32), rv w_WORKER] [(.ref a0), (.ref w_WORKER_shown)])) rfl (by rw [hml]; rfl) (Steps.refl _) (argsL := [(.ref a0)]) (rest := []) (lenOf pd_1 rfl) rfl (by show 2 * 0 + _ ≤ _; exact Nat.le_of_eq rfl) (hb hby d9_30) (fun _ _ => ⟨rfl, e30, (by decide : 1 + 0 ≤ _), (by decide : 4 + 0 ≤ _)⟩)
  dsimp only [Pt.U, Pt.locs, Pt.cells, Pt.slots] at X31 l31 y31 z31 st31 hQ31
  subst l31 y31 z31
  obtain ⟨rfl, N31q, e31⟩ := hQ31
  have N31 := Fr.app N12 N31q
  obtain ⟨cl32, Ar32, q32, S32, N32, H32, G32⟩ := id u1_0
  have hin32 := own_in (2 : Int32) S32 ⟨by decide, by decide⟩
  have hat32 : cl32.slots[((2 : Int32)).toNatClampNeg]? = some (.ref w_OPERATOR) := Has.at H32 hin32 rfl
  obtain ⟨T33, X33, e33, st33⟩ := getF X31 hx hZ hown (host := "") (Or.inl (ow hw 61 rfl)) Via.refl e31 (F_shown_OPERATOR.ext O1.2) (g := (mkF m 26 #[rv a0, rv w_PRODUCER, rv b_1, iv (4 : Int32), iv (2 : Int32), rv w_OPERATOR] [(.ref w_OPERATOR)])) rfl rfl (hb hby d9_26)
  obtain ⟨cq34, kq34, q34a, q34b, q34c⟩ := isOf hZ e33 (E_OPERATOR_shown.ext O1.2)
  obtain ⟨_, _, ⟨T34, L34, k34, n34⟩, -, X34, ⟨Lc34, hQ34, l34, y34, z34⟩, st34⟩ := X33.virtualBack hx (y := y11) (z := y11) hown (mvT hZ (ow hw 63 rfl)) (mvT hZ (ow hw 64 rfl)) (notFace_of_selects (args := #[]) (mvT hZ (ow hw 66 rfl))) (mvT hZ (ow hw 66 rfl)) (mvT hZ (ow hw 65 rfl)) (by decide) (backOf (W := 0) (rm11_8_8 l Z ar hw [] w_OPERATOR_shown a0 w_CS0 w_SF1 w_PRODUCER w__VALUES w_WORKER w_OPERATOR w_ADMIN w_PRODUCER_shown w_PRODUCER_shown_value w_WORKER_shown w_WORKER_shown_value w_OPERATOR_shown w_OPERATOR_shown_value w_ADMIN_shown w_ADMIN_shown_value k__VALUES k_PRODUCER_shown_value k_WORKER_shown_value k_OPERATOR_shown_value k_ADMIN_shown_value w_OPERATOR_shown_value u k_OPERATOR_shown_value ku (111 : Int32) (112 : Int32) (101 : Int32) (114 : Int32) (97 : Int32) (116 : Int32) (111 : Int32) (114 : Int32) y0 y1 y2 y3 y4 y5 y6 y7 T1.heap n0 O1 HW (E_OPERATOR_shown.ext O1.2) E1_2 (F_coder_OPERATOR_shown.ext O1.2) F1_3 (F_value_OPERATOR_shown.ext O1.2) F1_4 (V_OPERATOR_shown_value.ext O1.2) V1_5 (Old.ne O1 E_OPERATOR_shown.lt pf4)) hZ (ow hw 67 rfl) (ow hw 13 rfl) (by decide) (by decide)) q34a q34c (g := (mkF m 30 #[rv a0, rv w_PRODUCER, rv b_1, iv (4 : Int32), iv (2 : Int32), rv w_OPERATOR] [(.ref a0), (.ref w_OPERATOR_shown)])) rfl (by rw [hml]; rfl) (Steps.refl _) (argsL := [(.ref a0)]) (rest := []) (lenOf pd_1 rfl) rfl (by show 2 * 0 + _ ≤ _; exact Nat.le_of_eq rfl) (hb hby d9_30) (fun _ _ => ⟨rfl, e33, (by decide : 1 + 0 ≤ _), (by decide : 4 + 0 ≤ _)⟩)
  dsimp only [Pt.U, Pt.locs, Pt.cells, Pt.slots] at X34 l34 y34 z34 st34 hQ34
  subst l34 y34 z34
  obtain ⟨rfl, N34q, e34⟩ := hQ34
  have N34 := Fr.app N31 N34q
  have pre35 : ∀ tg, AT p e below T34 m 33 #[rv a0, rv w_PRODUCER, rv b_1, iv (4 : Int32), iv (2 : Int32), rv w_OPERATOR] [(.int (f11_8_8 (111 : Int32) (112 : Int32) (101 : Int32) (114 : Int32) (97 : Int32) (116 : Int32) (111 : Int32) (114 : Int32) y0 y1 y2 y3 y4 y5 y6 y7))] tg → Steps p.tables e below S0 tg := fun tg kg => pre13 tg (by
   refine XS.ifNo X12.here hx rfl (hb hby d9_33) rfl (XT.i0_eq_f hc14) ?_
   refine XS.aload X12.here hx rfl (hb hby d9_36) rfl rfl ?_
   refine XS.astoreN X12.here hx rfl (hb hby d9_38) rfl rfl (l' := #[rv a0, rv w_PRODUCER, rv b_1, iv (4 : Int32), iv (0 : Int32), rv w_PRODUCER]) rfl ?_
   refine XS.iinc X12.here hx rfl (hb hby d9_39) rfl (l' := #[rv a0, rv w_PRODUCER, rv b_1, iv (4 : Int32), iv (1 : Int32), rv w_PRODUCER]) rfl ?_
   refine XS.goto X12.here hx rfl (pc0 := 42) (pc' := 12) rfl (hb hby d9_42) (by decide) (by decide) ?_
   refine XS.iload X12.here hx rfl (hb hby d9_12) rfl ?_
   refine XS.iloadN X12.here hx rfl (hb hby d9_14) rfl ?_
   show AT p e below T12 m 15 #[rv a0, rv w_PRODUCER, rv b_1, iv (4 : Int32), iv (1 : Int32), rv w_PRODUCER] [(.int (4 : Int32)), (.int (1 : Int32))] _
   refine XS.icmpNo X12.here hx rfl (hb hby d9_15) rfl (XT.ii_ge_f ((by decide) : (1 : Int32) < (4 : Int32))) ?_
   refine XS.aloadN X12.here hx rfl (hb hby d9_18) rfl rfl ?_
   refine XS.iload X12.here hx rfl (hb hby d9_19) rfl ?_
   refine X12.aaload hx (j := (1 : Int32)) (v := (.ref w_WORKER)) (by rw [e12]; exact Ar29.1) (State.isArrayOf_alike hZ.alike Ar29.2.1) rfl Ar29.2.2 hin29 hat29 (g := (mkF m 21 #[rv a0, rv w_PRODUCER, rv b_1, iv (4 : Int32), iv (1 : Int32), rv w_PRODUCER] [(.int (1 : Int32)), (.ref b_1)])) rfl rfl (hb hby d9_21) _ ?_
   refine XS.astore X12.here hx rfl (hb hby d9_22) rfl rfl (l' := #[rv a0, rv w_PRODUCER, rv b_1, iv (4 : Int32), iv (1 : Int32), rv w_WORKER]) rfl ?_
   refine XS.aload X12.here hx rfl (hb hby d9_24) rfl rfl ?_
   refine st30 _ ?_
   refine XS.aloadN X30.here hx rfl (hb hby d9_29) rfl rfl ?_
   show AT p e below T30 m 30 #[rv a0, rv w_PRODUCER, rv b_1, iv (4 : Int32), iv (1 : Int32), rv w_WORKER] [(.ref a0), (.ref w_WORKER_shown)] _
   refine st31.trans ?_
   show AT p e below T31 m 33 #[rv a0, rv w_PRODUCER, rv b_1, iv (4 : Int32), iv (1 : Int32), rv w_WORKER] [(.int (0 : Int32))] _
   refine XS.ifYes X31.here hx rfl (pc0 := 33) (pc' := 39) rfl (hb hby d9_33) rfl (XT.i0_eq_t ((by decide) : (0 : Int32) = (0 : Int32))) (by decide) (by decide) ?_
   refine XS.iinc X31.here hx rfl (hb hby d9_39) rfl (l' := #[rv a0, rv w_PRODUCER, rv b_1, iv (4 : Int32), iv (2 : Int32), rv w_WORKER]) rfl ?_
   refine XS.goto X31.here hx rfl (pc0 := 42) (pc' := 12) rfl (hb hby d9_42) (by decide) (by decide) ?_
   refine XS.iload X31.here hx rfl (hb hby d9_12) rfl ?_
   refine XS.iloadN X31.here hx rfl (hb hby d9_14) rfl ?_
   show AT p e below T31 m 15 #[rv a0, rv w_PRODUCER, rv b_1, iv (4 : Int32), iv (2 : Int32), rv w_WORKER] [(.int (4 : Int32)), (.int (2 : Int32))] _
   refine XS.icmpNo X31.here hx rfl (hb hby d9_15) rfl (XT.ii_ge_f ((by decide) : (2 : Int32) < (4 : Int32))) ?_
   refine XS.aloadN X31.here hx rfl (hb hby d9_18) rfl rfl ?_
   refine XS.iload X31.here hx rfl (hb hby d9_19) rfl ?_
   refine X31.aaload hx (j := (2 : Int32)) (v := (.ref w_OPERATOR)) (by rw [e31]; exact Ar32.1) (State.isArrayOf_alike hZ.alike Ar32.2.1) rfl Ar32.2.2 hin32 hat32 (g := (mkF m 21 #[rv a0, rv w_PRODUCER, rv b_1, iv (4 : Int32), iv (2 : Int32), rv w_WORKER] [(.int (2 : Int32)), (.ref b_1)])) rfl rfl (hb hby d9_21) _ ?_
   refine XS.astore X31.here hx rfl (hb hby d9_22) rfl rfl (l' := #[rv a0, rv w_PRODUCER, rv b_1, iv (4 : Int32), iv (2 : Int32), rv w_OPERATOR]) rfl ?_
   refine XS.aload X31.here hx rfl (hb hby d9_24) rfl rfl ?_
   refine st33 _ ?_
   refine XS.aloadN X33.here hx rfl (hb hby d9_29) rfl rfl ?_
   refine st34.trans ?_
   exact kg)
  rcases Decidable.em ((f11_8_8 (111 : Int32) (112 : Int32) (101 : Int32) (114 : Int32) (97 : Int32) (116 : Int32) (111 : Int32) (114 : Int32) y0 y1 y2 y3 y4 y5 y6 y7) = (0 : Int32)) with hc36 | hc36
  ·
   obtain ⟨cl37, Ar37, q37, S37, N37, H37, G37⟩ := id u1_0
   have hin37 := own_in (3 : Int32) S37 ⟨by decide, by decide⟩
   have hat37 : cl37.slots[((3 : Int32)).toNatClampNeg]? = some (.ref w_ADMIN) := Has.at H37 hin37 rfl
   obtain ⟨T38, X38, e38, st38⟩ := getF X34 hx hZ hown (host := "") (Or.inl (ow hw 61 rfl)) Via.refl e34 (F_shown_ADMIN.ext O1.2) (g := (mkF m 26 #[rv a0, rv w_PRODUCER, rv b_1, iv (4 : Int32), iv (3 : Int32), rv w_ADMIN] [(.ref w_ADMIN)])) rfl rfl (hb hby d9_26)
   obtain ⟨cq39, kq39, q39a, q39b, q39c⟩ := isOf hZ e38 (E_ADMIN_shown.ext O1.2)
   obtain ⟨_, _, ⟨T39, L39, k39, n39⟩, -, X39, ⟨Lc39, hQ39, l39, y39, z39⟩, st39⟩ := X38.virtualBack hx (y := y11) (z := y11) hown (mvT hZ (ow hw 63 rfl)) (mvT hZ (ow hw 64 rfl)) (notFace_of_selects (args := #[]) (mvT hZ (ow hw 66 rfl))) (mvT hZ (ow hw 66 rfl)) (mvT hZ (ow hw 65 rfl)) (by decide) (backOf (W := 0) (rm11_5x l Z ar hw [] w_ADMIN_shown a0 w_CS0 w_SF1 w_PRODUCER w__VALUES w_WORKER w_OPERATOR w_ADMIN w_PRODUCER_shown w_PRODUCER_shown_value w_WORKER_shown w_WORKER_shown_value w_OPERATOR_shown w_OPERATOR_shown_value w_ADMIN_shown w_ADMIN_shown_value k__VALUES k_PRODUCER_shown_value k_WORKER_shown_value k_OPERATOR_shown_value k_ADMIN_shown_value w_ADMIN_shown_value u k_ADMIN_shown_value ku (8 : Int32) [(.int y0), (.int y1), (.int y2), (.int y3), (.int y4), (.int y5), (.int y6), (.int y7)] (97 : Int32) (100 : Int32) (109 : Int32) (105 : Int32) (110 : Int32) T1.heap n0 O1 HW (E_ADMIN_shown.ext O1.2) E1_2 (F_coder_ADMIN_shown.ext O1.2) F1_3 (F_value_ADMIN_shown.ext O1.2) F1_4 (V_ADMIN_shown_value.ext O1.2) V1_5 (Old.ne O1 E_ADMIN_shown.lt pf4) (by decide)) hZ (ow hw 67 rfl) (ow hw 13 rfl) (by decide) (by decide)) q39a q39c (g := (mkF m 30 #[rv a0, rv w_PRODUCER, rv b_1, iv (4 : Int32), iv (3 : Int32), rv w_ADMIN] [(.ref a0), (.ref w_ADMIN_shown)])) rfl (by rw [hml]; rfl) (Steps.refl _) (argsL := [(.ref a0)]) (rest := []) (lenOf pd_1 rfl) rfl (by show 2 * 0 + _ ≤ _; exact Nat.le_of_eq rfl) (hb hby d9_30) (fun _ _ => ⟨rfl, e38, (by decide : 1 + 0 ≤ _), (by decide : 4 + 0 ≤ _)⟩)
   dsimp only [Pt.U, Pt.locs, Pt.cells, Pt.slots] at X39 l39 y39 z39 st39 hQ39
   subst l39 y39 z39
   obtain ⟨rfl, N39q, e39⟩ := hQ39
   have N39 := Fr.app N34 N39q
   obtain ⟨fs, hr, hrun, hended, hW, hsame⟩ := X39.leave (v := some (.ref w_PRODUCER)) (fun h => by rw [Bd.returns] at h; cases h)
   subst hS0
   refine ⟨_, _, pre35 _ ?_, hrun, hended, _, _, rfl, ?_, ⟨_, rfl⟩, hW, hsame.mono (by decide) (by decide)⟩
   ·
    refine XS.ifYes X34.here hx rfl (pc0 := 33) (pc' := 39) rfl (hb hby d9_33) rfl (XT.i0_eq_t hc36) (by decide) (by decide) ?_
    refine XS.iinc X34.here hx rfl (hb hby d9_39) rfl (l' := #[rv a0, rv w_PRODUCER, rv b_1, iv (4 : Int32), iv (3 : Int32), rv w_OPERATOR]) rfl ?_
    refine XS.goto X34.here hx rfl (pc0 := 42) (pc' := 12) rfl (hb hby d9_42) (by decide) (by decide) ?_
    refine XS.iload X34.here hx rfl (hb hby d9_12) rfl ?_
    show AT p e below T34 m 14 #[rv a0, rv w_PRODUCER, rv b_1, iv (4 : Int32), iv (3 : Int32), rv w_OPERATOR] [(.int (3 : Int32))] _
    refine XS.iloadN X34.here hx rfl (hb hby d9_14) rfl ?_
    show AT p e below T34 m 15 #[rv a0, rv w_PRODUCER, rv b_1, iv (4 : Int32), iv (3 : Int32), rv w_OPERATOR] [(.int (4 : Int32)), (.int (3 : Int32))] _
    refine XS.icmpNo X34.here hx rfl (hb hby d9_15) rfl (XT.ii_ge_f ((by decide) : (3 : Int32) < (4 : Int32))) ?_
    refine XS.aloadN X34.here hx rfl (hb hby d9_18) rfl rfl ?_
    refine XS.iload X34.here hx rfl (hb hby d9_19) rfl ?_
    refine X34.aaload hx (j := (3 : Int32)) (v := (.ref w_ADMIN)) (by rw [e34]; exact Ar37.1) (State.isArrayOf_alike hZ.alike Ar37.2.1) rfl Ar37.2.2 hin37 hat37 (g := (mkF m 21 #[rv a0, rv w_PRODUCER, rv b_1, iv (4 : Int32), iv (3 : Int32), rv w_OPERATOR] [(.int (3 : Int32)), (.ref b_1)])) rfl rfl (hb hby d9_21) _ ?_
    refine XS.astore X34.here hx rfl (hb hby d9_22) rfl rfl (l' := #[rv a0, rv w_PRODUCER, rv b_1, iv (4 : Int32), iv (3 : Int32), rv w_ADMIN]) rfl ?_
    refine XS.aload X34.here hx rfl (hb hby d9_24) rfl rfl ?_
    refine st38 _ ?_
    refine XS.aloadN X38.here hx rfl (hb hby d9_29) rfl rfl ?_
    refine st39.trans ?_
    show AT p e below T39 m 33 #[rv a0, rv w_PRODUCER, rv b_1, iv (4 : Int32), iv (3 : Int32), rv w_ADMIN] [(.int (0 : Int32))] _
    refine XS.ifYes X39.here hx rfl (pc0 := 33) (pc' := 39) rfl (hb hby d9_33) rfl (XT.i0_eq_t ((by decide) : (0 : Int32) = (0 : Int32))) (by decide) (by decide) ?_
    refine XS.iinc X39.here hx rfl (hb hby d9_39) rfl (l' := #[rv a0, rv w_PRODUCER, rv b_1, iv (4 : Int32), iv (4 : Int32), rv w_ADMIN]) rfl ?_
    refine XS.goto X39.here hx rfl (pc0 := 42) (pc' := 12) rfl (hb hby d9_42) (by decide) (by decide) ?_
    refine XS.iload X39.here hx rfl (hb hby d9_12) rfl ?_
    refine XS.iloadN X39.here hx rfl (hb hby d9_14) rfl ?_
    show AT p e below T39 m 15 #[rv a0, rv w_PRODUCER, rv b_1, iv (4 : Int32), iv (4 : Int32), rv w_ADMIN] [(.int (4 : Int32)), (.int (4 : Int32))] _
    refine XS.icmpYes X39.here hx rfl (pc0 := 15) (pc' := 45) rfl (hb hby d9_15) rfl (XT.ii_ge_t ((by decide) : ¬ ((4 : Int32) < (4 : Int32)))) (by decide) (by decide) ?_
    refine XS.aloadN X39.here hx rfl (hb hby d9_45) rfl rfl ?_
    exact retOut X39 hx (t := (.object "com/example/lease/lease/Role")) (i := .areturn) Bd.returns rfl (Or.inr (Or.inr (Or.inr (Or.inr ⟨rfl, rfl, rfl⟩)))) (hb hby d9_46) hr
   ·
    show Q9_8 Z a0 w_CS0 w_SF1 w_PRODUCER w__VALUES w_WORKER w_OPERATOR w_ADMIN w_PRODUCER_shown w_PRODUCER_shown_value w_WORKER_shown w_WORKER_shown_value w_OPERATOR_shown w_OPERATOR_shown_value w_ADMIN_shown w_ADMIN_shown_value k__VALUES k_PRODUCER_shown_value k_WORKER_shown_value k_OPERATOR_shown_value k_ADMIN_shown_value u ku y0 y1 y2 y3 y4 y5 y6 y7 h0 n0 _ T39.heap _
    rw [e39]
    exact ⟨(by rw [f9_8, if_neg hc14, if_pos hc36]), N39, K1⟩
  ·
   obtain ⟨cl40, Ar40, q40, S40, N40, H40, G40⟩ := id u1_0
   have hin40 := own_in (3 : Int32) S40 ⟨by decide, by decide⟩
   have hat40 : cl40.slots[((3 : Int32)).toNatClampNeg]? = some (.ref w_ADMIN) := Has.at H40 hin40 rfl
   obtain ⟨T41, X41, e41, st41⟩ := getF X34 hx hZ hown (host := "") (Or.inl (ow hw 61 rfl)) Via.refl e34 (F_shown_ADMIN.ext O1.2) (g := (mkF m 26 #[rv a0, rv w_OPERATOR, rv b_1, iv (4 : Int32), iv (3 : Int32), rv w_ADMIN] [(.ref w_ADMIN)])) rfl rfl (hb hby d9_26)
   obtain ⟨cq42, kq42, q42a, q42b, q42c⟩ := isOf hZ e41 (E_ADMIN_shown.ext O1.2)
   obtain ⟨_, _, ⟨T42, L42, k42, n42⟩, -, X42, ⟨Lc42, hQ42, l42, y42, z42⟩, st42⟩ := X41.virtualBack hx (y := y11) (z := y11) hown (mvT hZ (ow hw 63 rfl)) (mvT hZ (ow hw 64 rfl)) (notFace_of_selects (args := #[]) (mvT hZ (ow hw 66 rfl))) (mvT hZ (ow hw 66 rfl)) (mvT hZ (ow hw 65 rfl)) (by decide) (backOf (W := 0) (rm11_5x l Z ar hw [] w_ADMIN_shown a0 w_CS0 w_SF1 w_PRODUCER w__VALUES w_WORKER w_OPERATOR w_ADMIN w_PRODUCER_shown w_PRODUCER_shown_value w_WORKER_shown w_WORKER_shown_value w_OPERATOR_shown w_OPERATOR_shown_value w_ADMIN_shown w_ADMIN_shown_value k__VALUES k_PRODUCER_shown_value k_WORKER_shown_value k_OPERATOR_shown_value k_ADMIN_shown_value w_ADMIN_shown_value u k_ADMIN_shown_value ku (8 : Int32) [(.int y0), (.int y1), (.int y2), (.int y3), (.int y4), (.int y5), (.int y6), (.int y7)] (97 : Int32) (100 : Int32) (109 : Int32) (105 : Int32) (110 : Int32) T1.heap n0 O1 HW (E_ADMIN_shown.ext O1.2) E1_2 (F_coder_ADMIN_shown.ext O1.2) F1_3 (F_value_ADMIN_shown.ext O1.2) F1_4 (V_ADMIN_shown_value.ext O1.2) V1_5 (Old.ne O1 E_ADMIN_shown.lt pf4) (by decide)) hZ (ow hw 67 rfl) (ow hw 13 rfl) (by decide) (by decide)) q42a q42c (g := (mkF m 30 #[rv a0, rv w_OPERATOR, rv b_1, iv (4 : Int32), iv (3 : Int32), rv w_ADMIN] [(.ref a0), (.ref w_ADMIN_shown)])) rfl (by rw [hml]; rfl) (Steps.refl _) (argsL := [(.ref a0)]) (rest := []) (lenOf pd_1 rfl) rfl (by show 2 * 0 + _ ≤ _; exact Nat.le_of_eq rfl) (hb hby d9_30) (fun _ _ => ⟨rfl, e41, (by decide : 1 + 0 ≤ _), (by decide : 4 + 0 ≤ _)⟩)
   dsimp only [Pt.U, Pt.locs, Pt.cells, Pt.slots] at X42 l42 y42 z42 st42 hQ42
   subst l42 y42 z42
   obtain ⟨rfl, N42q, e42⟩ := hQ42
   have N42 := Fr.app N34 N42q
   obtain ⟨fs, hr, hrun, hended, hW, hsame⟩ := X42.leave (v := some (.ref w_OPERATOR)) (fun h => by rw [Bd.returns] at h; cases h)
   subst hS0
   refine ⟨_, _, pre35 _ ?_, hrun, hended, _, _, rfl, ?_, ⟨_, rfl⟩, hW, hsame.mono (by decide) (by decide)⟩
   ·
    refine XS.ifNo X34.here hx rfl (hb hby d9_33) rfl (XT.i0_eq_f hc36) ?_
    refine XS.aload X34.here hx rfl (hb hby d9_36) rfl rfl ?_
    refine XS.astoreN X34.here hx rfl (hb hby d9_38) rfl rfl (l' := #[rv a0, rv w_OPERATOR, rv b_1, iv (4 : Int32), iv (2 : Int32), rv w_OPERATOR]) rfl ?_
    refine XS.iinc X34.here hx rfl (hb hby d9_39) rfl (l' := #[rv a0, rv w_OPERATOR, rv b_1, iv (4 : Int32), iv (3 : Int32), rv w_OPERATOR]) rfl ?_
    show AT p e below T34 m 42 #[rv a0, rv w_OPERATOR, rv b_1, iv (4 : Int32), iv (3 : Int32), rv w_OPERATOR] [] _
    refine XS.goto X34.here hx rfl (pc0 := 42) (pc' := 12) rfl (hb hby d9_42) (by decide) (by decide) ?_
    refine XS.iload X34.here hx rfl (hb hby d9_12) rfl ?_
    refine XS.iloadN X34.here hx rfl (hb hby d9_14) rfl ?_
    show AT p e below T34 m 15 #[rv a0, rv w_OPERATOR, rv b_1, iv (4 : Int32), iv (3 : Int32), rv w_OPERATOR] [(.int (4 : Int32)), (.int (3 : Int32))] _
    refine XS.icmpNo X34.here hx rfl (hb hby d9_15) rfl (XT.ii_ge_f ((by decide) : (3 : Int32) < (4 : Int32))) ?_
    refine XS.aloadN X34.here hx rfl (hb hby d9_18) rfl rfl ?_
    refine XS.iload X34.here hx rfl (hb hby d9_19) rfl ?_
    refine X34.aaload hx (j := (3 : Int32)) (v := (.ref w_ADMIN)) (by rw [e34]; exact Ar40.1) (State.isArrayOf_alike hZ.alike Ar40.2.1) rfl Ar40.2.2 hin40 hat40 (g := (mkF m 21 #[rv a0, rv w_OPERATOR, rv b_1, iv (4 : Int32), iv (3 : Int32), rv w_OPERATOR] [(.int (3 : Int32)), (.ref b_1)])) rfl rfl (hb hby d9_21) _ ?_
    refine XS.astore X34.here hx rfl (hb hby d9_22) rfl rfl (l' := #[rv a0, rv w_OPERATOR, rv b_1, iv (4 : Int32), iv (3 : Int32), rv w_ADMIN]) rfl ?_
    refine XS.aload X34.here hx rfl (hb hby d9_24) rfl rfl ?_
    refine st41 _ ?_
    refine XS.aloadN X41.here hx rfl (hb hby d9_29) rfl rfl ?_
    refine st42.trans ?_
    show AT p e below T42 m 33 #[rv a0, rv w_OPERATOR, rv b_1, iv (4 : Int32), iv (3 : Int32), rv w_ADMIN] [(.int (0 : Int32))] _
    refine XS.ifYes X42.here hx rfl (pc0 := 33) (pc' := 39) rfl (hb hby d9_33) rfl (XT.i0_eq_t ((by decide) : (0 : Int32) = (0 : Int32))) (by decide) (by decide) ?_
    refine XS.iinc X42.here hx rfl (hb hby d9_39) rfl (l' := #[rv a0, rv w_OPERATOR, rv b_1, iv (4 : Int32), iv (4 : Int32), rv w_ADMIN]) rfl ?_
    refine XS.goto X42.here hx rfl (pc0 := 42) (pc' := 12) rfl (hb hby d9_42) (by decide) (by decide) ?_
    refine XS.iload X42.here hx rfl (hb hby d9_12) rfl ?_
    refine XS.iloadN X42.here hx rfl (hb hby d9_14) rfl ?_
    show AT p e below T42 m 15 #[rv a0, rv w_OPERATOR, rv b_1, iv (4 : Int32), iv (4 : Int32), rv w_ADMIN] [(.int (4 : Int32)), (.int (4 : Int32))] _
    refine XS.icmpYes X42.here hx rfl (pc0 := 15) (pc' := 45) rfl (hb hby d9_15) rfl (XT.ii_ge_t ((by decide) : ¬ ((4 : Int32) < (4 : Int32)))) (by decide) (by decide) ?_
    refine XS.aloadN X42.here hx rfl (hb hby d9_45) rfl rfl ?_
    show AT p e below T42 m 46 #[rv a0, rv w_OPERATOR, rv b_1, iv (4 : Int32), iv (4 : Int32), rv w_ADMIN] [(.ref w_OPERATOR)] _
    exact retOut X42 hx (t := (.object "com/example/lease/lease/Role")) (i := .areturn) Bd.returns rfl (Or.inr (Or.inr (Or.inr (Or.inr ⟨rfl, rfl, rfl⟩)))) (hb hby d9_46) hr
   ·
    show Q9_8 Z a0 w_CS0 w_SF1 w_PRODUCER w__VALUES w_WORKER w_OPERATOR w_ADMIN w_PRODUCER_shown w_PRODUCER_shown_value w_WORKER_shown w_WORKER_shown_value w_OPERATOR_shown w_OPERATOR_shown_value w_ADMIN_shown w_ADMIN_shown_value k__VALUES k_PRODUCER_shown_value k_WORKER_shown_value k_OPERATOR_shown_value k_ADMIN_shown_value u ku y0 y1 y2 y3 y4 y5 y6 y7 h0 n0 _ T42.heap _
    rw [e42]
    exact ⟨(by rw [f9_8, if_neg hc14, if_neg hc36]), N42, K1⟩


theorem own_and3 (x : Int32) : (x &&& (3 : Int32)) = (0 : Int32) ∨ (x &&& (3 : Int32)) = (1 : Int32) ∨ (x &&& (3 : Int32)) = (2 : Int32) ∨ (x &&& (3 : Int32)) = (3 : Int32) := by
  have h1 := c_mask x (3 : Int32) 2 (by decide) (by decide)
  have h2 : 0 ≤ x.toInt % (2 ^ 2 : Nat) := Int.emod_nonneg _ (by decide)
  have h3 : x.toInt % (2 ^ 2 : Nat) < 4 := Int.emod_lt_of_pos _ (by decide)
  have l0 : ((0 : Int32)).toInt = 0 := rfl
  have l1 : ((1 : Int32)).toInt = 1 := rfl
  have l2 : ((2 : Int32)).toInt = 2 := rfl
  have l3 : ((3 : Int32)).toInt = 3 := rfl
  simp only [← Int32.toInt_inj, l0, l1, l2, l3]
  omega
theorem own_nc (x : Int32) : nar .char ((x &&& (255 : Int32)).toUInt32.toUInt16.toUInt32.toInt32) = x &&& (255 : Int32) := by
  show ((x &&& (255 : Int32)).toUInt32.toUInt16.toUInt32.toInt32).toUInt32.toUInt16.toUInt32.toInt32 = _
  rw [i2c_mask, i2c_mask]
theorem own_le (x : Int32) : ¬ (255 : Int32) < nar .char ((x &&& (255 : Int32)).toUInt32.toUInt16.toUInt32.toInt32) := by
  rw [own_nc, Int32.lt_iff_toInt_lt]
  have k : ((255 : Int32)).toInt = 255 := rfl
  have := c_and x (255 : Int32) (by decide)
  omega
theorem own_cz (x : Int32) : 0 ≤ ((x &&& (255 : Int32)).toUInt32.toUInt16.toUInt32.toInt32).toInt ∧ ((x &&& (255 : Int32)).toUInt32.toUInt16.toUInt32.toInt32).toInt ≤ 255 := by
  rw [i2c_mask]
  have k : ((255 : Int32)).toInt = 255 := rfl
  have := c_and x (255 : Int32) (by decide)
  omega
theorem own_nch {x : Int32} (h : 0 ≤ x.toInt ∧ x.toInt ≤ 255) : nar .char x = x := by
  show x.toUInt32.toUInt16.toUInt32.toInt32 = x
  have := c_i2c x
  rw [← Int32.toInt_inj]
  omega
theorem own_255 {x : Int32} (h : 0 ≤ x.toInt ∧ x.toInt ≤ 255) : ¬ (255 : Int32) < x := by
  rw [Int32.lt_iff_toInt_lt]
  have k : ((255 : Int32)).toInt = 255 := rfl
  omega
theorem own_bz {N x : Int32} (hN : 0 ≤ N.toInt ∧ N.toInt < 128) (h : 0 ≤ x.toInt ∧ x.toInt ≤ 255) (hne : ¬ N = x) : ¬ N = (x.toInt8.toInt32) := fun q => by
  have a := c_i2b x
  rw [← q] at a
  exact hne (by rw [← Int32.toInt_inj]; omega)
theorem own_m8 (x : Int32) : (x &&& (2147483647 : Int32)) % (8 : Int32) = (0 : Int32) ∨ (x &&& (2147483647 : Int32)) % (8 : Int32) = (1 : Int32) ∨ (x &&& (2147483647 : Int32)) % (8 : Int32) = (2 : Int32) ∨ (x &&& (2147483647 : Int32)) % (8 : Int32) = (3 : Int32) ∨ (x &&& (2147483647 : Int32)) % (8 : Int32) = (4 : Int32) ∨ (x &&& (2147483647 : Int32)) % (8 : Int32) = (5 : Int32) ∨ (x &&& (2147483647 : Int32)) % (8 : Int32) = (6 : Int32) ∨ (x &&& (2147483647 : Int32)) % (8 : Int32) = (7 : Int32) := by
  have h1 := c_mask x (2147483647 : Int32) 31 (by decide) (by decide)
  have h0 : 0 ≤ x.toInt % (2 ^ 31 : Nat) := Int.emod_nonneg _ (by decide)
  have h2 := (c_irem (x &&& (2147483647 : Int32)) (8 : Int32) 8 rfl).1 (by rw [h1]; exact h0)
  have l0 : ((0 : Int32)).toInt = 0 := rfl
  have l1 : ((1 : Int32)).toInt = 1 := rfl
  have l2 : ((2 : Int32)).toInt = 2 := rfl
  have l3 : ((3 : Int32)).toInt = 3 := rfl
  have l4 : ((4 : Int32)).toInt = 4 := rfl
  have l5 : ((5 : Int32)).toInt = 5 := rfl
  have l6 : ((6 : Int32)).toInt = 6 := rfl
  have l7 : ((7 : Int32)).toInt = 7 := rfl
  simp only [← Int32.toInt_inj, l0, l1, l2, l3, l4, l5, l6, l7]
  omega
theorem own_m6 (x : Int32) : (x &&& (2147483647 : Int32)) % (6 : Int32) = (0 : Int32) ∨ (x &&& (2147483647 : Int32)) % (6 : Int32) = (1 : Int32) ∨ (x &&& (2147483647 : Int32)) % (6 : Int32) = (2 : Int32) ∨ (x &&& (2147483647 : Int32)) % (6 : Int32) = (3 : Int32) ∨ (x &&& (2147483647 : Int32)) % (6 : Int32) = (4 : Int32) ∨ (x &&& (2147483647 : Int32)) % (6 : Int32) = (5 : Int32) := by
  have h1 := c_mask x (2147483647 : Int32) 31 (by decide) (by decide)
  have h0 : 0 ≤ x.toInt % (2 ^ 31 : Nat) := Int.emod_nonneg _ (by decide)
  have h2 := (c_irem (x &&& (2147483647 : Int32)) (6 : Int32) 6 rfl).1 (by rw [h1]; exact h0)
  have l0 : ((0 : Int32)).toInt = 0 := rfl
  have l1 : ((1 : Int32)).toInt = 1 := rfl
  have l2 : ((2 : Int32)).toInt = 2 := rfl
  have l3 : ((3 : Int32)).toInt = 3 := rfl
  have l4 : ((4 : Int32)).toInt = 4 := rfl
  have l5 : ((5 : Int32)).toInt = 5 := rfl
  simp only [← Int32.toInt_inj, l0, l1, l2, l3, l4, l5]
  omega
theorem own_m5 (x : Int32) : (x &&& (2147483647 : Int32)) % (5 : Int32) = (0 : Int32) ∨ (x &&& (2147483647 : Int32)) % (5 : Int32) = (1 : Int32) ∨ (x &&& (2147483647 : Int32)) % (5 : Int32) = (2 : Int32) ∨ (x &&& (2147483647 : Int32)) % (5 : Int32) = (3 : Int32) ∨ (x &&& (2147483647 : Int32)) % (5 : Int32) = (4 : Int32) := by
  have h1 := c_mask x (2147483647 : Int32) 31 (by decide) (by decide)
  have h0 : 0 ≤ x.toInt % (2 ^ 31 : Nat) := Int.emod_nonneg _ (by decide)
  have h2 := (c_irem (x &&& (2147483647 : Int32)) (5 : Int32) 5 rfl).1 (by rw [h1]; exact h0)
  have l0 : ((0 : Int32)).toInt = 0 := rfl
  have l1 : ((1 : Int32)).toInt = 1 := rfl
  have l2 : ((2 : Int32)).toInt = 2 := rfl
  have l3 : ((3 : Int32)).toInt = 3 := rfl
  have l4 : ((4 : Int32)).toInt = 4 := rfl
  simp only [← Int32.toInt_inj, l0, l1, l2, l3, l4]
  omega

theorem ef_2x (m : MethodId) (p0 : Int32) : entryFrame m #[(.int p0)] 1 = mkF m 0 #[iv p0] [] := by first | (simp [entryFrame, mkF, argsToLocals, Value.category]; done) | rfl
def Q2x (Z : State) (p0 : Int32) (h0 : Heap) (n0 : Nat) (v : Option Value) (h : Heap) (L : List Loc) : Prop := ∃ (b : Addr), v = some (.ref b) ∧ Fr n0 L ∧ Keep h0 h [] ∧ h0.size ≤ b ∧ Exa Z h b "[C"
set_option maxRecDepth 65536 in
set_option maxHeartbeats 40000000 in
theorem rm2x (l : Launch) (Z : State) (ar : Array Value) (hw : ∀ d ∈ tables_1, d.before ar Z = true) (ws : List Jvm.Cond) (p0 : Int32) (h0 : Heap) (n0 : Nat) (O0 : Old Z n0 h0) :
    MetFree l y2 (head1 (Jvm.Cond.code y2 method_3_code 1 (some (.array .char)) :: ws) ({ frames := 0, cells := 1, slots := 8, locals := 0 } : Room)) (fun a U => a = #[(.int p0)] ∧ Z.Warmed39 U.vm ∧ U.heap = h0) (fun _ _ _ _ _ => True) (fun _ U o U' => ∃ v L, o = .returned v ∧ Q2x Z p0 h0 n0 v U'.heap L ∧ FrameEnd U o U' L ({ frames := 0, cells := 1, slots := 8, locals := 0 } : Room).cells ({ frames := 0, cells := 1, slots := 8, locals := 0 } : Room).slots) := by
 refine MetFree.of_bodySF (plainFor_of_name pn_0) hisR ?_
 intro p e s m args below meth c s₁ Bd hml0 hP hK
 obtain ⟨rfl, hZ, hh⟩ := hP
 have hx := Bd.exec
 have hby := Bd.bytes
 have hml : c.maxLocals = 1 := hml0
 have hown : s.vm.findClass "com/example/lease/lease/RoleNamedPinLaw" = some m.cls := findClass_of_methodNamed Bd.named
 have hnm := (name_of_methodNamed Bd.named Bd.method).1
 have X0 : Stand p l e ({ frames := 0, cells := 1, slots := 8, locals := 0 } : Room) s m #[(.int p0)] below meth c s₁ [] 0 0 := Stand.of_body Bd
 have e0 : s₁.heap = h0 := by rw [← hh, Bd.state]; rfl
 have N0 := Fr.nil n0
 have Z0 : n0 ≤ h0.size := Nat.le_trans (Nat.le_of_eq O0.1.symm) O0.2.1
 obtain ⟨S0, hS0⟩ : ∃ z, z = s₁.setTop (entryFrame m #[(.int p0)] 1) := ⟨_, rfl⟩
 have pre0 : ∀ tg, AT p e below s₁ m 0 #[iv p0] [] tg → Steps p.tables e below S0 tg := fun tg kg => by rw [hS0]; exact castTop (ef_2x m p0) kg
 have pre1 : ∀ tg, AT p e below s₁ m 1 #[iv p0] [(.int p0)] tg → Steps p.tables e below S0 tg := fun tg kg => pre0 tg (by
  refine XS.iloadN X0.here hx rfl (hb hby d2_0) rfl ?_
  exact kg)
 rcases Decidable.em (p0 = (0 : Int32)) with hc2 | hc2
 ·
  obtain ⟨T3, h3, k3, X3, e3, E3, A3, B3, st3⟩ := newPE X0 hx hZ (ow hw 10 rfl) e0 (g := (mkF m 6 #[iv p0] [(.int (8 : Int32))])) rfl (hb hby d2_6) rfl (by decide) (cap := 8) (by decide) (by decide) (by decide) (by decide) (ad := "[C") (by decide)
  obtain ⟨b3, g3⟩ : ∃ z, z = h0.size := ⟨_, rfl⟩
  rw [← g3] at A3 B3 st3
  have gn3 : n0 ≤ b3 := Nat.le_trans (Nat.le_trans (Nat.le_of_eq O0.1.symm) O0.2.1) (Nat.le_of_eq g3.symm)
  have sz3 : h0.size ≤ b3 := Nat.le_trans (Keep.refl h0 []).1 (Nat.le_of_eq g3.symm)
  have K3 := (Keep.refl h0 []).ext E3
  have O3 := O0.ext E3
  have V3_4 : Arv Z h3 b3 k3 .char (8 : Int32) [(.int (0 : Int32)), (.int (0 : Int32)), (.int (0 : Int32)), (.int (0 : Int32)), (.int (0 : Int32)), (.int (0 : Int32)), (.int (0 : Int32)), (.int (0 : Int32))] (.int (0 : Int32)) := (Arv.new A3 (by decide)).pad (pad_rep [] (.int (0 : Int32)) 8)
  obtain ⟨cl5, Ar5, q5, S5, M5, H5, G5⟩ := id V3_4
  have hin5 := own_in (0 : Int32) S5 ⟨by decide, by decide⟩
  obtain ⟨T5, h5, X5, e5, W5, st5⟩ := stC X3 hx hZ e3 Ar5 (j := (0 : Int32)) hin5 (g := (mkF m 12 #[iv p0] [(.int (112 : Int32)), (.int (0 : Int32)), (.ref b3), (.ref b3)])) rfl rfl (hb hby d2_12)
  have V5_6 : Arv Z h5 b3 k3 .char (8 : Int32) [(.int (112 : Int32)), (.int (0 : Int32)), (.int (0 : Int32)), (.int (0 : Int32)), (.int (0 : Int32)), (.int (0 : Int32)), (.int (0 : Int32)), (.int (0 : Int32))] (.int (0 : Int32)) := Arv.set Ar5 q5 S5 M5 H5 G5 (fits_nar_char _) W5 0 rfl (Nat.le_of_ble_eq_true rfl)
  have E5_7 := B3.wr W5
  have K5 := K3.wr W5 (Or.inr sz3)
  have O5 := O3.wr W5 gn3
  have N5 := Fr.snoc X5 N0 gn3
  obtain ⟨cl8, Ar8, q8, S8, M8, H8, G8⟩ := id V5_6
  have hin8 := own_in (1 : Int32) S8 ⟨by decide, by decide⟩
  obtain ⟨T8, h8, X8, e8, W8, st8⟩ := stC X5 hx hZ e5 Ar8 (j := (1 : Int32)) hin8 (g := (mkF m 17 #[iv p0] [(.int (114 : Int32)), (.int (1 : Int32)), (.ref b3), (.ref b3)])) rfl rfl (hb hby d2_17)
  have V8_9 : Arv Z h8 b3 k3 .char (8 : Int32) [(.int (112 : Int32)), (.int (114 : Int32)), (.int (0 : Int32)), (.int (0 : Int32)), (.int (0 : Int32)), (.int (0 : Int32)), (.int (0 : Int32)), (.int (0 : Int32))] (.int (0 : Int32)) := Arv.set Ar8 q8 S8 M8 H8 G8 (fits_nar_char _) W8 1 rfl (Nat.le_of_ble_eq_true rfl)
  have E8_10 := E5_7.wr W8
  have K8 := K5.wr W8 (Or.inr sz3)
  have O8 := O5.wr W8 gn3
  have N8 := Fr.snoc X8 N5 gn3
  obtain ⟨cl11, Ar11, q11, S11, M11, H11, G11⟩ := id V8_9
  have hin11 := own_in (2 : Int32) S11 ⟨by decide, by decide⟩
  obtain ⟨T11, h11, X11, e11, W11, st11⟩ := stC X8 hx hZ e8 Ar11 (j := (2 : Int32)) hin11 (g := (mkF m 22 #[iv p0] [(.int (111 : Int32)), (.int (2 : Int32)), (.ref b3), (.ref b3)])) rfl rfl (hb hby d2_22)
  have V11_12 : Arv Z h11 b3 k3 .char (8 : Int32) [(.int (112 : Int32)), (.int (114 : Int32)), (.int (111 : Int32)), (.int (0 : Int32)), (.int (0 : Int32)), (.int (0 : Int32)), (.int (0 : Int32)), (.int (0 : Int32))] (.int (0 : Int32)) := Arv.set Ar11 q11 S11 M11 H11 G11 (fits_nar_char _) W11 2 rfl (Nat.le_of_ble_eq_true rfl)
  have E11_13 := E8_10.wr W11
  have K11 := K8.wr W11 (Or.inr sz3)
  have O11 := O8.wr W11 gn3
  have N11 := Fr.snoc X11 N8 gn3
  obtain ⟨cl14, Ar14, q14, S14, M14, H14, G14⟩ := id V11_12
  have hin14 := own_in (3 : Int32) S14 ⟨by decide, by decide⟩
  obtain ⟨T14, h14, X14, e14, W14, st14⟩ := stC X11 hx hZ e11 Ar14 (j := (3 : Int32)) hin14 (g := (mkF m 27 #[iv p0] [(.int (100 : Int32)), (.int (3 : Int32)), (.ref b3), (.ref b3)])) rfl rfl (hb hby d2_27)
  have V14_15 : Arv Z h14 b3 k3 .char (8 : Int32) [(.int (112 : Int32)), (.int (114 : Int32)), (.int (111 : Int32)), (.int (100 : Int32)), (.int (0 : Int32)), (.int (0 : Int32)), (.int (0 : Int32)), (.int (0 : Int32))] (.int (0 : Int32)) := Arv.set Ar14 q14 S14 M14 H14 G14 (fits_nar_char _) W14 3 rfl (Nat.le_of_ble_eq_true rfl)
  have E14_16 := E11_13.wr W14
  have K14 := K11.wr W14 (Or.inr sz3)
  have O14 := O11.wr W14 gn3
  have N14 := Fr.snoc X14 N11 gn3
  obtain ⟨cl17, Ar17, q17, S17, M17, H17, G17⟩ := id V14_15
  have hin17 := own_in (4 : Int32) S17 ⟨by decide, by decide⟩
  obtain ⟨T17, h17, X17, e17, W17, st17⟩ := stC X14 hx hZ e14 Ar17 (j := (4 : Int32)) hin17 (g := (mkF m 32 #[iv p0] [(.int (117 : Int32)), (.int (4 : Int32)), (.ref b3), (.ref b3)])) rfl rfl (hb hby d2_32)
  have V17_18 : Arv Z h17 b3 k3 .char (8 : Int32) [(.int (112 : Int32)), (.int (114 : Int32)), (.int (111 : Int32)), (.int (100 : Int32)), (.int (117 : Int32)), (.int (0 : Int32)), (.int (0 : Int32)), (.int (0 : Int32))] (.int (0 : Int32)) := Arv.set Ar17 q17 S17 M17 H17 G17 (fits_nar_char _) W17 4 rfl (Nat.le_of_ble_eq_true rfl)
  have E17_19 := E14_16.wr W17
  have K17 := K14.wr W17 (Or.inr sz3)
  have O17 := O14.wr W17 gn3
  have N17 := Fr.snoc X17 N14 gn3
  obtain ⟨cl20, Ar20, q20, S20, M20, H20, G20⟩ := id V17_18
  have hin20 := own_in (5 : Int32) S20 ⟨by decide, by decide⟩
  obtain ⟨T20, h20, X20, e20, W20, st20⟩ := stC X17 hx hZ e17 Ar20 (j := (5 : Int32)) hin20 (g := (mkF m 37 #[iv p0] [(.int (99 : Int32)), (.int (5 : Int32)), (.ref b3), (.ref b3)])) rfl rfl (hb hby d2_37)
  have V20_21 : Arv Z h20 b3 k3 .char (8 : Int32) [(.int (112 : Int32)), (.int (114 : Int32)), (.int (111 : Int32)), (.int (100 : Int32)), (.int (117 : Int32)), (.int (99 : Int32)), (.int (0 : Int32)), (.int (0 : Int32))] (.int (0 : Int32)) := Arv.set Ar20 q20 S20 M20 H20 G20 (fits_nar_char _) W20 5 rfl (Nat.le_of_ble_eq_true rfl)
  have E20_22 := E17_19.wr W20
  have K20 := K17.wr W20 (Or.inr sz3)
  have O20 := O17.wr W20 gn3
  have N20 := Fr.snoc X20 N17 gn3
  obtain ⟨cl23, Ar23, q23, S23, M23, H23, G23⟩ := id V20_21
  have hin23 := own_in (6 : Int32) S23 ⟨by decide, by decide⟩
  obtain ⟨T23, h23, X23, e23, W23, st23⟩ := stC X20 hx hZ e20 Ar23 (j := (6 : Int32)) hin23 (g := (mkF m 43 #[iv p0] [(.int (101 : Int32)), (.int (6 : Int32)), (.ref b3), (.ref b3)])) rfl rfl (hb hby d2_43)
  have V23_24 : Arv Z h23 b3 k3 .char (8 : Int32) [(.int (112 : Int32)), (.int (114 : Int32)), (.int (111 : Int32)), (.int (100 : Int32)), (.int (117 : Int32)), (.int (99 : Int32)), (.int (101 : Int32)), (.int (0 : Int32))] (.int (0 : Int32)) := Arv.set Ar23 q23 S23 M23 H23 G23 (fits_nar_char _) W23 6 rfl (Nat.le_of_ble_eq_true rfl)
  have E23_25 := E20_22.wr W23
  have K23 := K20.wr W23 (Or.inr sz3)
  have O23 := O20.wr W23 gn3
  have N23 := Fr.snoc X23 N20 gn3
  obtain ⟨cl26, Ar26, q26, S26, M26, H26, G26⟩ := id V23_24
  have hin26 := own_in (7 : Int32) S26 ⟨by decide, by decide⟩
  obtain ⟨T26, h26, X26, e26, W26, st26⟩ := stC X23 hx hZ e23 Ar26 (j := (7 : Int32)) hin26 (g := (mkF m 49 #[iv p0] [(.int (114 : Int32)), (.int (7 : Int32)), (.ref b3), (.ref b3)])) rfl rfl (hb hby d2_49)
  have V26_27 : Arv Z h26 b3 k3 .char (8 : Int32) [(.int (112 : Int32)), (.int (114 : Int32)), (.int (111 : Int32)), (.int (100 : Int32)), (.int (117 : Int32)), (.int (99 : Int32)), (.int (101 : Int32)), (.int (114 : Int32))] (.int (0 : Int32)) := Arv.set Ar26 q26 S26 M26 H26 G26 (fits_nar_char _) W26 7 rfl (Nat.le_of_ble_eq_true rfl)
  have E26_28 := E23_25.wr W26
  have K26 := K23.wr W26 (Or.inr sz3)
  have O26 := O23.wr W26 gn3
  have N26 := Fr.snoc X26 N23 gn3
  obtain ⟨fs, hr, hrun, hended, hW, hsame⟩ := X26.leave (v := some (.ref b3)) (fun h => by rw [Bd.returns] at h; cases h)
  subst hS0
  refine ⟨_, _, pre1 _ ?_, hrun, hended, _, _, rfl, ?_, ⟨_, rfl⟩, hW, hsame.mono (by decide) (by decide)⟩
  ·
   refine XS.ifNo X0.here hx rfl (hb hby d2_1) rfl (XT.i0_ne_f hc2) ?_
   refine XS.bipush X0.here hx rfl (hb hby d2_4) ?_
   refine st3 _ ?_
   refine XS.dup X3.here hx rfl (hb hby d2_8) rfl rfl ?_
   refine XS.iconst X3.here hx rfl (hb hby d2_9) ?_
   refine XS.bipush X3.here hx rfl (hb hby d2_10) ?_
   refine st5 _ ?_
   refine XS.dup X5.here hx rfl (hb hby d2_13) rfl rfl ?_
   refine XS.iconst X5.here hx rfl (hb hby d2_14) ?_
   refine XS.bipush X5.here hx rfl (hb hby d2_15) ?_
   refine st8 _ ?_
   refine XS.dup X8.here hx rfl (hb hby d2_18) rfl rfl ?_
   show AT p e below T8 m 19 #[iv p0] [(.ref b3), (.ref b3)] _
   refine XS.iconst X8.here hx rfl (hb hby d2_19) ?_
   refine XS.bipush X8.here hx rfl (hb hby d2_20) ?_
   refine st11 _ ?_
   refine XS.dup X11.here hx rfl (hb hby d2_23) rfl rfl ?_
   refine XS.iconst X11.here hx rfl (hb hby d2_24) ?_
   refine XS.bipush X11.here hx rfl (hb hby d2_25) ?_
   refine st14 _ ?_
   refine XS.dup X14.here hx rfl (hb hby d2_28) rfl rfl ?_
   refine XS.iconst X14.here hx rfl (hb hby d2_29) ?_
   refine XS.bipush X14.here hx rfl (hb hby d2_30) ?_
   refine st17 _ ?_
   refine XS.dup X17.here hx rfl (hb hby d2_33) rfl rfl ?_
   show AT p e below T17 m 34 #[iv p0] [(.ref b3), (.ref b3)] _
   refine XS.iconst X17.here hx rfl (hb hby d2_34) ?_
   refine XS.bipush X17.here hx rfl (hb hby d2_35) ?_
   refine st20 _ ?_
   refine XS.dup X20.here hx rfl (hb hby d2_38) rfl rfl ?_
   refine XS.bipush X20.here hx rfl (hb hby d2_39) ?_
   refine XS.bipush X20.here hx rfl (hb hby d2_41) ?_
   refine st23 _ ?_
   refine XS.dup X23.here hx rfl (hb hby d2_44) rfl rfl ?_
   refine XS.bipush X23.here hx rfl (hb hby d2_45) ?_
   refine XS.bipush X23.here hx rfl (hb hby d2_47) ?_
   refine st26 _ ?_
   exact retOut X26 hx (t := (.array .char)) (i := .areturn) Bd.returns rfl (Or.inr (Or.inr (Or.inr (Or.inr ⟨rfl, rfl, rfl⟩)))) (hb hby d2_50) hr
  ·
   show Q2x Z p0 h0 n0 _ T26.heap _
   rw [e26]
   exact ⟨b3, rfl, N26, K26, sz3, E26_28⟩
 ·
  have pre29 : ∀ tg, AT p e below s₁ m 53 #[iv p0] [(.int (1 : Int32)), (.int p0)] tg → Steps p.tables e below S0 tg := fun tg kg => pre1 tg (by
   refine XS.ifYes X0.here hx rfl (pc0 := 1) (pc' := 51) rfl (hb hby d2_1) rfl (XT.i0_ne_t hc2) (by decide) (by decide) ?_
   refine XS.iloadN X0.here hx rfl (hb hby d2_51) rfl ?_
   refine XS.iconst X0.here hx rfl (hb hby d2_52) ?_
   exact kg)
  rcases Decidable.em (p0 = (1 : Int32)) with hc30 | hc30
  ·
   obtain ⟨T31, h31, k31, X31, e31, E31, A31, B31, st31⟩ := newPE X0 hx hZ (ow hw 10 rfl) e0 (g := (mkF m 58 #[iv p0] [(.int (6 : Int32))])) rfl (hb hby d2_58) rfl (by decide) (cap := 6) (by decide) (by decide) (by decide) (by decide) (ad := "[C") (by decide)
   obtain ⟨b31, g31⟩ : ∃ z, z = h0.size := ⟨_, rfl⟩
   rw [← g31] at A31 B31 st31
   have gn31 : n0 ≤ b31 := Nat.le_trans (Nat.le_trans (Nat.le_of_eq O0.1.symm) O0.2.1) (Nat.le_of_eq g31.symm)
   have sz31 : h0.size ≤ b31 := Nat.le_trans (Keep.refl h0 []).1 (Nat.le_of_eq g31.symm)
   have K31 := (Keep.refl h0 []).ext E31
   have O31 := O0.ext E31
   have V31_32 : Arv Z h31 b31 k31 .char (6 : Int32) [(.int (0 : Int32)), (.int (0 : Int32)), (.int (0 : Int32)), (.int (0 : Int32)), (.int (0 : Int32)), (.int (0 : Int32))] (.int (0 : Int32)) := (Arv.new A31 (by decide)).pad (pad_rep [] (.int (0 : Int32)) 6)
   obtain ⟨cl33, Ar33, q33, S33, M33, H33, G33⟩ := id V31_32
   have hin33 := own_in (0 : Int32) S33 ⟨by decide, by decide⟩
   obtain ⟨T33, h33, X33, e33, W33, st33⟩ := stC X31 hx hZ e31 Ar33 (j := (0 : Int32)) hin33 (g := (mkF m 64 #[iv p0] [(.int (119 : Int32)), (.int (0 : Int32)), (.ref b31), (.ref b31)])) rfl rfl (hb hby d2_64)
   have V33_34 : Arv Z h33 b31 k31 .char (6 : Int32) [(.int (119 : Int32)), (.int (0 : Int32)), (.int (0 : Int32)), (.int (0 : Int32)), (.int (0 : Int32)), (.int (0 : Int32))] (.int (0 : Int32)) := Arv.set Ar33 q33 S33 M33 H33 G33 (fits_nar_char _) W33 0 rfl (Nat.le_of_ble_eq_true rfl)
   have E33_35 := B31.wr W33
   have K33 := K31.wr W33 (Or.inr sz31)
   have O33 := O31.wr W33 gn31
   have N33 := Fr.snoc X33 N0 gn31
   obtain ⟨cl36, Ar36, q36, S36, M36, H36, G36⟩ := id V33_34
   have hin36 := own_in (1 : Int32) S36 ⟨by decide, by decide⟩
   obtain ⟨T36, h36, X36, e36, W36, st36⟩ := stC X33 hx hZ e33 Ar36 (j := (1 : Int32)) hin36 (g := (mkF m 69 #[iv p0] [(.int (111 : Int32)), (.int (1 : Int32)), (.ref b31), (.ref b31)])) rfl rfl (hb hby d2_69)
   have V36_37 : Arv Z h36 b31 k31 .char (6 : Int32) [(.int (119 : Int32)), (.int (111 : Int32)), (.int (0 : Int32)), (.int (0 : Int32)), (.int (0 : Int32)), (.int (0 : Int32))] (.int (0 : Int32)) := Arv.set Ar36 q36 S36 M36 H36 G36 (fits_nar_char _) W36 1 rfl (Nat.le_of_ble_eq_true rfl)
   have E36_38 := E33_35.wr W36
   have K36 := K33.wr W36 (Or.inr sz31)
   have O36 := O33.wr W36 gn31
   have N36 := Fr.snoc X36 N33 gn31
   obtain ⟨cl39, Ar39, q39, S39, M39, H39, G39⟩ := id V36_37
   have hin39 := own_in (2 : Int32) S39 ⟨by decide, by decide⟩
   obtain ⟨T39, h39, X39, e39, W39, st39⟩ := stC X36 hx hZ e36 Ar39 (j := (2 : Int32)) hin39 (g := (mkF m 74 #[iv p0] [(.int (114 : Int32)), (.int (2 : Int32)), (.ref b31), (.ref b31)])) rfl rfl (hb hby d2_74)
   have V39_40 : Arv Z h39 b31 k31 .char (6 : Int32) [(.int (119 : Int32)), (.int (111 : Int32)), (.int (114 : Int32)), (.int (0 : Int32)), (.int (0 : Int32)), (.int (0 : Int32))] (.int (0 : Int32)) := Arv.set Ar39 q39 S39 M39 H39 G39 (fits_nar_char _) W39 2 rfl (Nat.le_of_ble_eq_true rfl)
   have E39_41 := E36_38.wr W39
   have K39 := K36.wr W39 (Or.inr sz31)
   have O39 := O36.wr W39 gn31
   have N39 := Fr.snoc X39 N36 gn31
   obtain ⟨cl42, Ar42, q42, S42, M42, H42, G42⟩ := id V39_40
   have hin42 := own_in (3 : Int32) S42 ⟨by decide, by decide⟩
   obtain ⟨T42, h42, X42, e42, W42, st42⟩ := stC X39 hx hZ e39 Ar42 (j := (3 : Int32)) hin42 (g := (mkF m 79 #[iv p0] [(.int (107 : Int32)), (.int (3 : Int32)), (.ref b31), (.ref b31)])) rfl rfl (hb hby d2_79)
   have V42_43 : Arv Z h42 b31 k31 .char (6 : Int32) [(.int (119 : Int32)), (.int (111 : Int32)), (.int (114 : Int32)), (.int (107 : Int32)), (.int (0 : Int32)), (.int (0 : Int32))] (.int (0 : Int32)) := Arv.set Ar42 q42 S42 M42 H42 G42 (fits_nar_char _) W42 3 rfl (Nat.le_of_ble_eq_true rfl)
   have E42_44 := E39_41.wr W42
   have K42 := K39.wr W42 (Or.inr sz31)
   have O42 := O39.wr W42 gn31
   have N42 := Fr.snoc X42 N39 gn31
   obtain ⟨cl45, Ar45, q45, S45, M45, H45, G45⟩ := id V42_43
   have hin45 := own_in (4 : Int32) S45 ⟨by decide, by decide⟩
   obtain ⟨T45, h45, X45, e45, W45, st45⟩ := stC X42 hx hZ e42 Ar45 (j := (4 : Int32)) hin45 (g := (mkF m 84 #[iv p0] [(.int (101 : Int32)), (.int (4 : Int32)), (.ref b31), (.ref b31)])) rfl rfl (hb hby d2_84)
   have V45_46 : Arv Z h45 b31 k31 .char (6 : Int32) [(.int (119 : Int32)), (.int (111 : Int32)), (.int (114 : Int32)), (.int (107 : Int32)), (.int (101 : Int32)), (.int (0 : Int32))] (.int (0 : Int32)) := Arv.set Ar45 q45 S45 M45 H45 G45 (fits_nar_char _) W45 4 rfl (Nat.le_of_ble_eq_true rfl)
   have E45_47 := E42_44.wr W45
   have K45 := K42.wr W45 (Or.inr sz31)
   have O45 := O42.wr W45 gn31
   have N45 := Fr.snoc X45 N42 gn31
   obtain ⟨cl48, Ar48, q48, S48, M48, H48, G48⟩ := id V45_46
   have hin48 := own_in (5 : Int32) S48 ⟨by decide, by decide⟩
   obtain ⟨T48, h48, X48, e48, W48, st48⟩ := stC X45 hx hZ e45 Ar48 (j := (5 : Int32)) hin48 (g := (mkF m 89 #[iv p0] [(.int (114 : Int32)), (.int (5 : Int32)), (.ref b31), (.ref b31)])) rfl rfl (hb hby d2_89)
   have V48_49 : Arv Z h48 b31 k31 .char (6 : Int32) [(.int (119 : Int32)), (.int (111 : Int32)), (.int (114 : Int32)), (.int (107 : Int32)), (.int (101 : Int32)), (.int (114 : Int32))] (.int (0 : Int32)) := Arv.set Ar48 q48 S48 M48 H48 G48 (fits_nar_char _) W48 5 rfl (Nat.le_of_ble_eq_true rfl)
   have E48_50 := E45_47.wr W48
   have K48 := K45.wr W48 (Or.inr sz31)
   have O48 := O45.wr W48 gn31
   have N48 := Fr.snoc X48 N45 gn31
   obtain ⟨fs, hr, hrun, hended, hW, hsame⟩ := X48.leave (v := some (.ref b31)) (fun h => by rw [Bd.returns] at h; cases h)
   subst hS0
   refine ⟨_, _, pre29 _ ?_, hrun, hended, _, _, rfl, ?_, ⟨_, rfl⟩, hW, hsame.mono (by decide) (by decide)⟩
   ·
    refine XS.icmpNo X0.here hx rfl (hb hby d2_53) rfl (XT.ii_ne_f hc30) ?_
    refine XS.bipush X0.here hx rfl (hb hby d2_56) ?_
    refine st31 _ ?_
    refine XS.dup X31.here hx rfl (hb hby d2_60) rfl rfl ?_
    refine XS.iconst X31.here hx rfl (hb hby d2_61) ?_
    refine XS.bipush X31.here hx rfl (hb hby d2_62) ?_
    refine st33 _ ?_
    refine XS.dup X33.here hx rfl (hb hby d2_65) rfl rfl ?_
    refine XS.iconst X33.here hx rfl (hb hby d2_66) ?_
    refine XS.bipush X33.here hx rfl (hb hby d2_67) ?_
    show AT p e below T33 m 69 #[iv p0] [(.int (111 : Int32)), (.int (1 : Int32)), (.ref b31), (.ref b31)] _
    refine st36 _ ?_
    refine XS.dup X36.here hx rfl (hb hby d2_70) rfl rfl ?_
    refine XS.iconst X36.here hx rfl (hb hby d2_71) ?_
    refine XS.bipush X36.here hx rfl (hb hby d2_72) ?_
    refine st39 _ ?_
    refine XS.dup X39.here hx rfl (hb hby d2_75) rfl rfl ?_
    refine XS.iconst X39.here hx rfl (hb hby d2_76) ?_
    refine XS.bipush X39.here hx rfl (hb hby d2_77) ?_
    refine st42 _ ?_
    refine XS.dup X42.here hx rfl (hb hby d2_80) rfl rfl ?_
    refine XS.iconst X42.here hx rfl (hb hby d2_81) ?_
    refine XS.bipush X42.here hx rfl (hb hby d2_82) ?_
    show AT p e below T42 m 84 #[iv p0] [(.int (101 : Int32)), (.int (4 : Int32)), (.ref b31), (.ref b31)] _
    refine st45 _ ?_
    refine XS.dup X45.here hx rfl (hb hby d2_85) rfl rfl ?_
    refine XS.iconst X45.here hx rfl (hb hby d2_86) ?_
    refine XS.bipush X45.here hx rfl (hb hby d2_87) ?_
    refine st48 _ ?_
    exact retOut X48 hx (t := (.array .char)) (i := .areturn) Bd.returns rfl (Or.inr (Or.inr (Or.inr (Or.inr ⟨rfl, rfl, rfl⟩)))) (hb hby d2_90) hr
   ·
    show Q2x Z p0 h0 n0 _ T48.heap _
    rw [e48]
    exact ⟨b31, rfl, N48, K48, sz31, E48_50⟩
  ·
   have pre51 : ∀ tg, AT p e below s₁ m 93 #[iv p0] [(.int (2 : Int32)), (.int p0)] tg → Steps p.tables e below S0 tg := fun tg kg => pre29 tg (by
    refine XS.icmpYes X0.here hx rfl (pc0 := 53) (pc' := 91) rfl (hb hby d2_53) rfl (XT.ii_ne_t hc30) (by decide) (by decide) ?_
    refine XS.iloadN X0.here hx rfl (hb hby d2_91) rfl ?_
    refine XS.iconst X0.here hx rfl (hb hby d2_92) ?_
    exact kg)
   rcases Decidable.em (p0 = (2 : Int32)) with hc52 | hc52
   ·
    obtain ⟨T53, h53, k53, X53, e53, E53, A53, B53, st53⟩ := newPE X0 hx hZ (ow hw 10 rfl) e0 (g := (mkF m 98 #[iv p0] [(.int (8 : Int32))])) rfl (hb hby d2_98) rfl (by decide) (cap := 8) (by decide) (by decide) (by decide) (by decide) (ad := "[C") (by decide)
    obtain ⟨b53, g53⟩ : ∃ z, z = h0.size := ⟨_, rfl⟩
    rw [← g53] at A53 B53 st53
    have gn53 : n0 ≤ b53 := Nat.le_trans (Nat.le_trans (Nat.le_of_eq O0.1.symm) O0.2.1) (Nat.le_of_eq g53.symm)
    have sz53 : h0.size ≤ b53 := Nat.le_trans (Keep.refl h0 []).1 (Nat.le_of_eq g53.symm)
    have K53 := (Keep.refl h0 []).ext E53
    have O53 := O0.ext E53
    have V53_54 : Arv Z h53 b53 k53 .char (8 : Int32) [(.int (0 : Int32)), (.int (0 : Int32)), (.int (0 : Int32)), (.int (0 : Int32)), (.int (0 : Int32)), (.int (0 : Int32)), (.int (0 : Int32)), (.int (0 : Int32))] (.int (0 : Int32)) := (Arv.new A53 (by decide)).pad (pad_rep [] (.int (0 : Int32)) 8)
    obtain ⟨cl55, Ar55, q55, S55, M55, H55, G55⟩ := id V53_54
    have hin55 := own_in (0 : Int32) S55 ⟨by decide, by decide⟩
    obtain ⟨T55, h55, X55, e55, W55, st55⟩ := stC X53 hx hZ e53 Ar55 (j := (0 : Int32)) hin55 (g := (mkF m 104 #[iv p0] [(.int (111 : Int32)), (.int (0 : Int32)), (.ref b53), (.ref b53)])) rfl rfl (hb hby d2_104)
    have V55_56 : Arv Z h55 b53 k53 .char (8 : Int32) [(.int (111 : Int32)), (.int (0 : Int32)), (.int (0 : Int32)), (.int (0 : Int32)), (.int (0 : Int32)), (.int (0 : Int32)), (.int (0 : Int32)), (.int (0 : Int32))] (.int (0 : Int32)) := Arv.set Ar55 q55 S55 M55 H55 G55 (fits_nar_char _) W55 0 rfl (Nat.le_of_ble_eq_true rfl)
    have E55_57 := B53.wr W55
    have K55 := K53.wr W55 (Or.inr sz53)
    have O55 := O53.wr W55 gn53
    have N55 := Fr.snoc X55 N0 gn53
    obtain ⟨cl58, Ar58, q58, S58, M58, H58, G58⟩ := id V55_56
    have hin58 := own_in (1 : Int32) S58 ⟨by decide, by decide⟩
    obtain ⟨T58, h58, X58, e58, W58, st58⟩ := stC X55 hx hZ e55 Ar58 (j := (1 : Int32)) hin58 (g := (mkF m 109 #[iv p0] [(.int (112 : Int32)), (.int (1 : Int32)), (.ref b53), (.ref b53)])) rfl rfl (hb hby d2_109)
    have V58_59 : Arv Z h58 b53 k53 .char (8 : Int32) [(.int (111 : Int32)), (.int (112 : Int32)), (.int (0 : Int32)), (.int (0 : Int32)), (.int (0 : Int32)), (.int (0 : Int32)), (.int (0 : Int32)), (.int (0 : Int32))] (.int (0 : Int32)) := Arv.set Ar58 q58 S58 M58 H58 G58 (fits_nar_char _) W58 1 rfl (Nat.le_of_ble_eq_true rfl)
    have E58_60 := E55_57.wr W58
    have K58 := K55.wr W58 (Or.inr sz53)
    have O58 := O55.wr W58 gn53
    have N58 := Fr.snoc X58 N55 gn53
    obtain ⟨cl61, Ar61, q61, S61, M61, H61, G61⟩ := id V58_59
    have hin61 := own_in (2 : Int32) S61 ⟨by decide, by decide⟩
    obtain ⟨T61, h61, X61, e61, W61, st61⟩ := stC X58 hx hZ e58 Ar61 (j := (2 : Int32)) hin61 (g := (mkF m 114 #[iv p0] [(.int (101 : Int32)), (.int (2 : Int32)), (.ref b53), (.ref b53)])) rfl rfl (hb hby d2_114)
    have V61_62 : Arv Z h61 b53 k53 .char (8 : Int32) [(.int (111 : Int32)), (.int (112 : Int32)), (.int (101 : Int32)), (.int (0 : Int32)), (.int (0 : Int32)), (.int (0 : Int32)), (.int (0 : Int32)), (.int (0 : Int32))] (.int (0 : Int32)) := Arv.set Ar61 q61 S61 M61 H61 G61 (fits_nar_char _) W61 2 rfl (Nat.le_of_ble_eq_true rfl)
    have E61_63 := E58_60.wr W61
    have K61 := K58.wr W61 (Or.inr sz53)
    have O61 := O58.wr W61 gn53
    have N61 := Fr.snoc X61 N58 gn53
    obtain ⟨cl64, Ar64, q64, S64, M64, H64, G64⟩ := id V61_62
    have hin64 := own_in (3 : Int32) S64 ⟨by decide, by decide⟩
    obtain ⟨T64, h64, X64, e64, W64, st64⟩ := stC X61 hx hZ e61 Ar64 (j := (3 : Int32)) hin64 (g := (mkF m 119 #[iv p0] [(.int (114 : Int32)), (.int (3 : Int32)), (.ref b53), (.ref b53)])) rfl rfl (hb hby d2_119)
    have V64_65 : Arv Z h64 b53 k53 .char (8 : Int32) [(.int (111 : Int32)), (.int (112 : Int32)), (.int (101 : Int32)), (.int (114 : Int32)), (.int (0 : Int32)), (.int (0 : Int32)), (.int (0 : Int32)), (.int (0 : Int32))] (.int (0 : Int32)) := Arv.set Ar64 q64 S64 M64 H64 G64 (fits_nar_char _) W64 3 rfl (Nat.le_of_ble_eq_true rfl)
    have E64_66 := E61_63.wr W64
    have K64 := K61.wr W64 (Or.inr sz53)
    have O64 := O61.wr W64 gn53
    have N64 := Fr.snoc X64 N61 gn53
    obtain ⟨cl67, Ar67, q67, S67, M67, H67, G67⟩ := id V64_65
    have hin67 := own_in (4 : Int32) S67 ⟨by decide, by decide⟩
    obtain ⟨T67, h67, X67, e67, W67, st67⟩ := stC X64 hx hZ e64 Ar67 (j := (4 : Int32)) hin67 (g := (mkF m 124 #[iv p0] [(.int (97 : Int32)), (.int (4 : Int32)), (.ref b53), (.ref b53)])) rfl rfl (hb hby d2_124)
    have V67_68 : Arv Z h67 b53 k53 .char (8 : Int32) [(.int (111 : Int32)), (.int (112 : Int32)), (.int (101 : Int32)), (.int (114 : Int32)), (.int (97 : Int32)), (.int (0 : Int32)), (.int (0 : Int32)), (.int (0 : Int32))] (.int (0 : Int32)) := Arv.set Ar67 q67 S67 M67 H67 G67 (fits_nar_char _) W67 4 rfl (Nat.le_of_ble_eq_true rfl)
    have E67_69 := E64_66.wr W67
    have K67 := K64.wr W67 (Or.inr sz53)
    have O67 := O64.wr W67 gn53
    have N67 := Fr.snoc X67 N64 gn53
    obtain ⟨cl70, Ar70, q70, S70, M70, H70, G70⟩ := id V67_68
    have hin70 := own_in (5 : Int32) S70 ⟨by decide, by decide⟩
    obtain ⟨T70, h70, X70, e70, W70, st70⟩ := stC X67 hx hZ e67 Ar70 (j := (5 : Int32)) hin70 (g := (mkF m 129 #[iv p0] [(.int (116 : Int32)), (.int (5 : Int32)), (.ref b53), (.ref b53)])) rfl rfl (hb hby d2_129)
    have V70_71 : Arv Z h70 b53 k53 .char (8 : Int32) [(.int (111 : Int32)), (.int (112 : Int32)), (.int (101 : Int32)), (.int (114 : Int32)), (.int (97 : Int32)), (.int (116 : Int32)), (.int (0 : Int32)), (.int (0 : Int32))] (.int (0 : Int32)) := Arv.set Ar70 q70 S70 M70 H70 G70 (fits_nar_char _) W70 5 rfl (Nat.le_of_ble_eq_true rfl)
    have E70_72 := E67_69.wr W70
    have K70 := K67.wr W70 (Or.inr sz53)
    have O70 := O67.wr W70 gn53
    have N70 := Fr.snoc X70 N67 gn53
    obtain ⟨cl73, Ar73, q73, S73, M73, H73, G73⟩ := id V70_71
    have hin73 := own_in (6 : Int32) S73 ⟨by decide, by decide⟩
    obtain ⟨T73, h73, X73, e73, W73, st73⟩ := stC X70 hx hZ e70 Ar73 (j := (6 : Int32)) hin73 (g := (mkF m 135 #[iv p0] [(.int (111 : Int32)), (.int (6 : Int32)), (.ref b53), (.ref b53)])) rfl rfl (hb hby d2_135)
    have V73_74 : Arv Z h73 b53 k53 .char (8 : Int32) [(.int (111 : Int32)), (.int (112 : Int32)), (.int (101 : Int32)), (.int (114 : Int32)), (.int (97 : Int32)), (.int (116 : Int32)), (.int (111 : Int32)), (.int (0 : Int32))] (.int (0 : Int32)) := Arv.set Ar73 q73 S73 M73 H73 G73 (fits_nar_char _) W73 6 rfl (Nat.le_of_ble_eq_true rfl)
    have E73_75 := E70_72.wr W73
    have K73 := K70.wr W73 (Or.inr sz53)
    have O73 := O70.wr W73 gn53
    have N73 := Fr.snoc X73 N70 gn53
    obtain ⟨cl76, Ar76, q76, S76, M76, H76, G76⟩ := id V73_74
    have hin76 := own_in (7 : Int32) S76 ⟨by decide, by decide⟩
    obtain ⟨T76, h76, X76, e76, W76, st76⟩ := stC X73 hx hZ e73 Ar76 (j := (7 : Int32)) hin76 (g := (mkF m 141 #[iv p0] [(.int (114 : Int32)), (.int (7 : Int32)), (.ref b53), (.ref b53)])) rfl rfl (hb hby d2_141)
    have V76_77 : Arv Z h76 b53 k53 .char (8 : Int32) [(.int (111 : Int32)), (.int (112 : Int32)), (.int (101 : Int32)), (.int (114 : Int32)), (.int (97 : Int32)), (.int (116 : Int32)), (.int (111 : Int32)), (.int (114 : Int32))] (.int (0 : Int32)) := Arv.set Ar76 q76 S76 M76 H76 G76 (fits_nar_char _) W76 7 rfl (Nat.le_of_ble_eq_true rfl)
    have E76_78 := E73_75.wr W76
    have K76 := K73.wr W76 (Or.inr sz53)
    have O76 := O73.wr W76 gn53
    have N76 := Fr.snoc X76 N73 gn53
    obtain ⟨fs, hr, hrun, hended, hW, hsame⟩ := X76.leave (v := some (.ref b53)) (fun h => by rw [Bd.returns] at h; cases h)
    subst hS0
    refine ⟨_, _, pre51 _ ?_, hrun, hended, _, _, rfl, ?_, ⟨_, rfl⟩, hW, hsame.mono (by decide) (by decide)⟩
    ·
     refine XS.icmpNo X0.here hx rfl (hb hby d2_93) rfl (XT.ii_ne_f hc52) ?_
     refine XS.bipush X0.here hx rfl (hb hby d2_96) ?_
     refine st53 _ ?_
     refine XS.dup X53.here hx rfl (hb hby d2_100) rfl rfl ?_
     refine XS.iconst X53.here hx rfl (hb hby d2_101) ?_
     refine XS.bipush X53.here hx rfl (hb hby d2_102) ?_
     refine st55 _ ?_
     refine XS.dup X55.here hx rfl (hb hby d2_105) rfl rfl ?_
     show AT p e below T55 m 106 #[iv p0] [(.ref b53), (.ref b53)] _
     refine XS.iconst X55.here hx rfl (hb hby d2_106) ?_
     refine XS.bipush X55.here hx rfl (hb hby d2_107) ?_
     refine st58 _ ?_
     refine XS.dup X58.here hx rfl (hb hby d2_110) rfl rfl ?_
     refine XS.iconst X58.here hx rfl (hb hby d2_111) ?_
     refine XS.bipush X58.here hx rfl (hb hby d2_112) ?_
     refine st61 _ ?_
     refine XS.dup X61.here hx rfl (hb hby d2_115) rfl rfl ?_
     refine XS.iconst X61.here hx rfl (hb hby d2_116) ?_
     refine XS.bipush X61.here hx rfl (hb hby d2_117) ?_
     refine st64 _ ?_
     refine XS.dup X64.here hx rfl (hb hby d2_120) rfl rfl ?_
     show AT p e below T64 m 121 #[iv p0] [(.ref b53), (.ref b53)] _
     refine XS.iconst X64.here hx rfl (hb hby d2_121) ?_
     refine XS.bipush X64.here hx rfl (hb hby d2_122) ?_
     refine st67 _ ?_
     refine XS.dup X67.here hx rfl (hb hby d2_125) rfl rfl ?_
     refine XS.iconst X67.here hx rfl (hb hby d2_126) ?_
     refine XS.bipush X67.here hx rfl (hb hby d2_127) ?_
     refine st70 _ ?_
     refine XS.dup X70.here hx rfl (hb hby d2_130) rfl rfl ?_
     refine XS.bipush X70.here hx rfl (hb hby d2_131) ?_
     refine XS.bipush X70.here hx rfl (hb hby d2_133) ?_
     refine st73 _ ?_
     refine XS.dup X73.here hx rfl (hb hby d2_136) rfl rfl ?_
     show AT p e below T73 m 137 #[iv p0] [(.ref b53), (.ref b53)] _
     refine XS.bipush X73.here hx rfl (hb hby d2_137) ?_
     refine XS.bipush X73.here hx rfl (hb hby d2_139) ?_
     refine st76 _ ?_
     exact retOut X76 hx (t := (.array .char)) (i := .areturn) Bd.returns rfl (Or.inr (Or.inr (Or.inr (Or.inr ⟨rfl, rfl, rfl⟩)))) (hb hby d2_142) hr
    ·
     show Q2x Z p0 h0 n0 _ T76.heap _
     rw [e76]
     exact ⟨b53, rfl, N76, K76, sz53, E76_78⟩
   ·
    obtain ⟨T79, h79, k79, X79, e79, E79, A79, B79, st79⟩ := newPE X0 hx hZ (ow hw 10 rfl) e0 (g := (mkF m 144 #[iv p0] [(.int (5 : Int32))])) rfl (hb hby d2_144) rfl (by decide) (cap := 5) (by decide) (by decide) (by decide) (by decide) (ad := "[C") (by decide)
    obtain ⟨b79, g79⟩ : ∃ z, z = h0.size := ⟨_, rfl⟩
    rw [← g79] at A79 B79 st79
    have gn79 : n0 ≤ b79 := Nat.le_trans (Nat.le_trans (Nat.le_of_eq O0.1.symm) O0.2.1) (Nat.le_of_eq g79.symm)
    have sz79 : h0.size ≤ b79 := Nat.le_trans (Keep.refl h0 []).1 (Nat.le_of_eq g79.symm)
    have K79 := (Keep.refl h0 []).ext E79
    have O79 := O0.ext E79
    have V79_80 : Arv Z h79 b79 k79 .char (5 : Int32) [(.int (0 : Int32)), (.int (0 : Int32)), (.int (0 : Int32)), (.int (0 : Int32)), (.int (0 : Int32))] (.int (0 : Int32)) := (Arv.new A79 (by decide)).pad (pad_rep [] (.int (0 : Int32)) 5)
    obtain ⟨cl81, Ar81, q81, S81, M81, H81, G81⟩ := id V79_80
    have hin81 := own_in (0 : Int32) S81 ⟨by decide, by decide⟩
    obtain ⟨T81, h81, X81, e81, W81, st81⟩ := stC X79 hx hZ e79 Ar81 (j := (0 : Int32)) hin81 (g := (mkF m 150 #[iv p0] [(.int (97 : Int32)), (.int (0 : Int32)), (.ref b79), (.ref b79)])) rfl rfl (hb hby d2_150)
    have V81_82 : Arv Z h81 b79 k79 .char (5 : Int32) [(.int (97 : Int32)), (.int (0 : Int32)), (.int (0 : Int32)), (.int (0 : Int32)), (.int (0 : Int32))] (.int (0 : Int32)) := Arv.set Ar81 q81 S81 M81 H81 G81 (fits_nar_char _) W81 0 rfl (Nat.le_of_ble_eq_true rfl)
    have E81_83 := B79.wr W81
    have K81 := K79.wr W81 (Or.inr sz79)
    have O81 := O79.wr W81 gn79
    have N81 := Fr.snoc X81 N0 gn79
    obtain ⟨cl84, Ar84, q84, S84, M84, H84, G84⟩ := id V81_82
    have hin84 := own_in (1 : Int32) S84 ⟨by decide, by decide⟩
    obtain ⟨T84, h84, X84, e84, W84, st84⟩ := stC X81 hx hZ e81 Ar84 (j := (1 : Int32)) hin84 (g := (mkF m 155 #[iv p0] [(.int (100 : Int32)), (.int (1 : Int32)), (.ref b79), (.ref b79)])) rfl rfl (hb hby d2_155)
    have V84_85 : Arv Z h84 b79 k79 .char (5 : Int32) [(.int (97 : Int32)), (.int (100 : Int32)), (.int (0 : Int32)), (.int (0 : Int32)), (.int (0 : Int32))] (.int (0 : Int32)) := Arv.set Ar84 q84 S84 M84 H84 G84 (fits_nar_char _) W84 1 rfl (Nat.le_of_ble_eq_true rfl)
    have E84_86 := E81_83.wr W84
    have K84 := K81.wr W84 (Or.inr sz79)
    have O84 := O81.wr W84 gn79
    have N84 := Fr.snoc X84 N81 gn79
    obtain ⟨cl87, Ar87, q87, S87, M87, H87, G87⟩ := id V84_85
    have hin87 := own_in (2 : Int32) S87 ⟨by decide, by decide⟩
    obtain ⟨T87, h87, X87, e87, W87, st87⟩ := stC X84 hx hZ e84 Ar87 (j := (2 : Int32)) hin87 (g := (mkF m 160 #[iv p0] [(.int (109 : Int32)), (.int (2 : Int32)), (.ref b79), (.ref b79)])) rfl rfl (hb hby d2_160)
    have V87_88 : Arv Z h87 b79 k79 .char (5 : Int32) [(.int (97 : Int32)), (.int (100 : Int32)), (.int (109 : Int32)), (.int (0 : Int32)), (.int (0 : Int32))] (.int (0 : Int32)) := Arv.set Ar87 q87 S87 M87 H87 G87 (fits_nar_char _) W87 2 rfl (Nat.le_of_ble_eq_true rfl)
    have E87_89 := E84_86.wr W87
    have K87 := K84.wr W87 (Or.inr sz79)
    have O87 := O84.wr W87 gn79
    have N87 := Fr.snoc X87 N84 gn79
    obtain ⟨cl90, Ar90, q90, S90, M90, H90, G90⟩ := id V87_88
    have hin90 := own_in (3 : Int32) S90 ⟨by decide, by decide⟩
    obtain ⟨T90, h90, X90, e90, W90, st90⟩ := stC X87 hx hZ e87 Ar90 (j := (3 : Int32)) hin90 (g := (mkF m 165 #[iv p0] [(.int (105 : Int32)), (.int (3 : Int32)), (.ref b79), (.ref b79)])) rfl rfl (hb hby d2_165)
    have V90_91 : Arv Z h90 b79 k79 .char (5 : Int32) [(.int (97 : Int32)), (.int (100 : Int32)), (.int (109 : Int32)), (.int (105 : Int32)), (.int (0 : Int32))] (.int (0 : Int32)) := Arv.set Ar90 q90 S90 M90 H90 G90 (fits_nar_char _) W90 3 rfl (Nat.le_of_ble_eq_true rfl)
    have E90_92 := E87_89.wr W90
    have K90 := K87.wr W90 (Or.inr sz79)
    have O90 := O87.wr W90 gn79
    have N90 := Fr.snoc X90 N87 gn79
    obtain ⟨cl93, Ar93, q93, S93, M93, H93, G93⟩ := id V90_91
    have hin93 := own_in (4 : Int32) S93 ⟨by decide, by decide⟩
    obtain ⟨T93, h93, X93, e93, W93, st93⟩ := stC X90 hx hZ e90 Ar93 (j := (4 : Int32)) hin93 (g := (mkF m 170 #[iv p0] [(.int (110 : Int32)), (.int (4 : Int32)), (.ref b79), (.ref b79)])) rfl rfl (hb hby d2_170)
    have V93_94 : Arv Z h93 b79 k79 .char (5 : Int32) [(.int (97 : Int32)), (.int (100 : Int32)), (.int (109 : Int32)), (.int (105 : Int32)), (.int (110 : Int32))] (.int (0 : Int32)) := Arv.set Ar93 q93 S93 M93 H93 G93 (fits_nar_char _) W93 4 rfl (Nat.le_of_ble_eq_true rfl)
    have E93_95 := E90_92.wr W93
    have K93 := K90.wr W93 (Or.inr sz79)
    have O93 := O90.wr W93 gn79
    have N93 := Fr.snoc X93 N90 gn79
    obtain ⟨fs, hr, hrun, hended, hW, hsame⟩ := X93.leave (v := some (.ref b79)) (fun h => by rw [Bd.returns] at h; cases h)
    subst hS0
    refine ⟨_, _, pre51 _ ?_, hrun, hended, _, _, rfl, ?_, ⟨_, rfl⟩, hW, hsame.mono (by decide) (by decide)⟩
    ·
     refine XS.icmpYes X0.here hx rfl (pc0 := 93) (pc' := 143) rfl (hb hby d2_93) rfl (XT.ii_ne_t hc52) (by decide) (by decide) ?_
     refine XS.iconst X0.here hx rfl (hb hby d2_143) ?_
     refine st79 _ ?_
     refine XS.dup X79.here hx rfl (hb hby d2_146) rfl rfl ?_
     refine XS.iconst X79.here hx rfl (hb hby d2_147) ?_
     refine XS.bipush X79.here hx rfl (hb hby d2_148) ?_
     refine st81 _ ?_
     refine XS.dup X81.here hx rfl (hb hby d2_151) rfl rfl ?_
     show AT p e below T81 m 152 #[iv p0] [(.ref b79), (.ref b79)] _
     refine XS.iconst X81.here hx rfl (hb hby d2_152) ?_
     refine XS.bipush X81.here hx rfl (hb hby d2_153) ?_
     refine st84 _ ?_
     refine XS.dup X84.here hx rfl (hb hby d2_156) rfl rfl ?_
     refine XS.iconst X84.here hx rfl (hb hby d2_157) ?_
     refine XS.bipush X84.here hx rfl (hb hby d2_158) ?_
     refine st87 _ ?_
     refine XS.dup X87.here hx rfl (hb hby d2_161) rfl rfl ?_
     refine XS.iconst X87.here hx rfl (hb hby d2_162) ?_
     refine XS.bipush X87.here hx rfl (hb hby d2_163) ?_
     refine st90 _ ?_
     refine XS.dup X90.here hx rfl (hb hby d2_166) rfl rfl ?_
     show AT p e below T90 m 167 #[iv p0] [(.ref b79), (.ref b79)] _
     refine XS.iconst X90.here hx rfl (hb hby d2_167) ?_
     refine XS.bipush X90.here hx rfl (hb hby d2_168) ?_
     refine st93 _ ?_
     exact retOut X93 hx (t := (.array .char)) (i := .areturn) Bd.returns rfl (Or.inr (Or.inr (Or.inr (Or.inr ⟨rfl, rfl, rfl⟩)))) (hb hby d2_171) hr
    ·
     show Q2x Z p0 h0 n0 _ T93.heap _
     rw [e93]
     exact ⟨b79, rfl, N93, K93, sz79, E93_95⟩

def pk (p i c o : Int32) : Int32 := if p = i then c else o
theorem own_pkn {p i c o k : Int32} (h : p = k) (n : ¬ k = i) : (pk p i c o) = o := by rw [pk, if_neg (by rw [h]; exact n)]
def wd0 (p : Int32) : Int32 := if p = (0 : Int32) then (112 : Int32) else (if p = (1 : Int32) then (114 : Int32) else (if p = (2 : Int32) then (111 : Int32) else (if p = (3 : Int32) then (100 : Int32) else (if p = (4 : Int32) then (117 : Int32) else (if p = (5 : Int32) then (99 : Int32) else (if p = (6 : Int32) then (101 : Int32) else ((114 : Int32))))))))
def sm0 (p c : Int32) : Int32 := if wd0 p = c then (1 : Int32) else (0 : Int32)
def wd1 (p : Int32) : Int32 := if p = (0 : Int32) then (119 : Int32) else (if p = (1 : Int32) then (111 : Int32) else (if p = (2 : Int32) then (114 : Int32) else (if p = (3 : Int32) then (107 : Int32) else (if p = (4 : Int32) then (101 : Int32) else ((114 : Int32))))))
def sm1 (p c : Int32) : Int32 := if wd1 p = c then (1 : Int32) else (0 : Int32)
def wd2 (p : Int32) : Int32 := if p = (0 : Int32) then (111 : Int32) else (if p = (1 : Int32) then (112 : Int32) else (if p = (2 : Int32) then (101 : Int32) else (if p = (3 : Int32) then (114 : Int32) else (if p = (4 : Int32) then (97 : Int32) else (if p = (5 : Int32) then (116 : Int32) else (if p = (6 : Int32) then (111 : Int32) else ((114 : Int32))))))))
def sm2 (p c : Int32) : Int32 := if wd2 p = c then (1 : Int32) else (0 : Int32)
def wd3 (p : Int32) : Int32 := if p = (0 : Int32) then (97 : Int32) else (if p = (1 : Int32) then (100 : Int32) else (if p = (2 : Int32) then (109 : Int32) else (if p = (3 : Int32) then (105 : Int32) else ((110 : Int32)))))
def sm3 (p c : Int32) : Int32 := if wd3 p = c then (1 : Int32) else (0 : Int32)

theorem own_pn {p i c o : Int32} (h : 0 ≤ c.toInt ∧ c.toInt ≤ 255) (ho : 0 ≤ o.toInt ∧ o.toInt ≤ 255) : ¬ pk p i c o < (0 : Int32) := by
  have l0 : ((0 : Int32)).toInt = 0 := rfl
  rw [Int32.lt_iff_toInt_lt, l0]
  unfold pk
  split <;> omega
theorem own_ln (x : Int32) : ¬ nar .char ((x &&& (255 : Int32)).toUInt32.toUInt16.toUInt32.toInt32) < (0 : Int32) := by
  rw [own_nc, Int32.lt_iff_toInt_lt]
  have k : ((0 : Int32)).toInt = 0 := rfl
  have := c_and x (255 : Int32) (by decide)
  omega
theorem own_pk {p i c o : Int32} (h : 0 ≤ c.toInt ∧ c.toInt ≤ 255) (ho : 0 ≤ o.toInt ∧ o.toInt ≤ 255) : ¬ (255 : Int32) < pk p i c o := by
  unfold pk
  split
  · exact own_255 h
  · exact own_255 ho

theorem own_w0 {w_PRODUCER w_OPERATOR : Addr} {p c v0 v1 v2 v3 v4 v5 v6 v7 : Int32} (hp : p = (0 : Int32) ∨ p = (1 : Int32) ∨ p = (2 : Int32) ∨ p = (3 : Int32) ∨ p = (4 : Int32) ∨ p = (5 : Int32) ∨ p = (6 : Int32) ∨ p = (7 : Int32)) (hc : 0 ≤ c.toInt ∧ c.toInt ≤ 255) (h0 : v0 = ((pk p (0 : Int32) c (112 : Int32)).toInt8.toInt32)) (h1 : v1 = ((pk p (1 : Int32) c (114 : Int32)).toInt8.toInt32)) (h2 : v2 = ((pk p (2 : Int32) c (111 : Int32)).toInt8.toInt32)) (h3 : v3 = ((pk p (3 : Int32) c (100 : Int32)).toInt8.toInt32)) (h4 : v4 = ((pk p (4 : Int32) c (117 : Int32)).toInt8.toInt32)) (h5 : v5 = ((pk p (5 : Int32) c (99 : Int32)).toInt8.toInt32)) (h6 : v6 = ((pk p (6 : Int32) c (101 : Int32)).toInt8.toInt32)) (h7 : v7 = ((pk p (7 : Int32) c (114 : Int32)).toInt8.toInt32)) : (¬ sm0 p c = (0 : Int32) → f9_8 w_PRODUCER w_OPERATOR v0 v1 v2 v3 v4 v5 v6 v7 = .ref w_PRODUCER) ∧ (sm0 p c = (0 : Int32) → f9_8 w_PRODUCER w_OPERATOR v0 v1 v2 v3 v4 v5 v6 v7 = .null) := by
  have t99 : ((99 : Int32).toInt8.toInt32) = (99 : Int32) := by decide
  have t100 : ((100 : Int32).toInt8.toInt32) = (100 : Int32) := by decide
  have t101 : ((101 : Int32).toInt8.toInt32) = (101 : Int32) := by decide
  have t111 : ((111 : Int32).toInt8.toInt32) = (111 : Int32) := by decide
  have t112 : ((112 : Int32).toInt8.toInt32) = (112 : Int32) := by decide
  have t114 : ((114 : Int32).toInt8.toInt32) = (114 : Int32) := by decide
  have t117 : ((117 : Int32).toInt8.toInt32) = (117 : Int32) := by decide
  subst h0 h1 h2 h3 h4 h5 h6 h7
  rcases hp with rfl | rfl | rfl | rfl | rfl | rfl | rfl | rfl
  · by_cases q : (112 : Int32) = c
    · subst q; simp [sm0, wd0, pk, f9_8, f11_8_8, f12_8_8, t99, t100, t101, t111, t112, t114, t117]
    · have q2 := own_bz (N := (112 : Int32)) (by decide) hc q
      simp [sm0, wd0, pk, f9_8, f11_8_8, f12_8_8, t99, t100, t101, t111, t112, t114, t117, q, q2]
  · by_cases q : (114 : Int32) = c
    · subst q; simp [sm0, wd0, pk, f9_8, f11_8_8, f12_8_8, t99, t100, t101, t111, t112, t114, t117]
    · have q2 := own_bz (N := (114 : Int32)) (by decide) hc q
      simp [sm0, wd0, pk, f9_8, f11_8_8, f12_8_8, t99, t100, t101, t111, t112, t114, t117, q, q2]
  · by_cases q : (111 : Int32) = c
    · subst q; simp [sm0, wd0, pk, f9_8, f11_8_8, f12_8_8, t99, t100, t101, t111, t112, t114, t117]
    · have q2 := own_bz (N := (111 : Int32)) (by decide) hc q
      simp [sm0, wd0, pk, f9_8, f11_8_8, f12_8_8, t99, t100, t101, t111, t112, t114, t117, q, q2]
  · by_cases q : (100 : Int32) = c
    · subst q; simp [sm0, wd0, pk, f9_8, f11_8_8, f12_8_8, t99, t100, t101, t111, t112, t114, t117]
    · have q2 := own_bz (N := (100 : Int32)) (by decide) hc q
      simp [sm0, wd0, pk, f9_8, f11_8_8, f12_8_8, t99, t100, t101, t111, t112, t114, t117, q, q2]
  · by_cases q : (117 : Int32) = c
    · subst q; simp [sm0, wd0, pk, f9_8, f11_8_8, f12_8_8, t99, t100, t101, t111, t112, t114, t117]
    · have q2 := own_bz (N := (117 : Int32)) (by decide) hc q
      simp [sm0, wd0, pk, f9_8, f11_8_8, f12_8_8, t99, t100, t101, t111, t112, t114, t117, q, q2]
  · by_cases q : (99 : Int32) = c
    · subst q; simp [sm0, wd0, pk, f9_8, f11_8_8, f12_8_8, t99, t100, t101, t111, t112, t114, t117]
    · have q2 := own_bz (N := (99 : Int32)) (by decide) hc q
      simp [sm0, wd0, pk, f9_8, f11_8_8, f12_8_8, t99, t100, t101, t111, t112, t114, t117, q, q2]
  · by_cases q : (101 : Int32) = c
    · subst q; simp [sm0, wd0, pk, f9_8, f11_8_8, f12_8_8, t99, t100, t101, t111, t112, t114, t117]
    · have q2 := own_bz (N := (101 : Int32)) (by decide) hc q
      simp [sm0, wd0, pk, f9_8, f11_8_8, f12_8_8, t99, t100, t101, t111, t112, t114, t117, q, q2]
  · by_cases q : (114 : Int32) = c
    · subst q; simp [sm0, wd0, pk, f9_8, f11_8_8, f12_8_8, t99, t100, t101, t111, t112, t114, t117]
    · have q2 := own_bz (N := (114 : Int32)) (by decide) hc q
      simp [sm0, wd0, pk, f9_8, f11_8_8, f12_8_8, t99, t100, t101, t111, t112, t114, t117, q, q2]

theorem own_w1 {w_WORKER : Addr} {p c v0 v1 v2 v3 v4 v5 : Int32} (hp : p = (0 : Int32) ∨ p = (1 : Int32) ∨ p = (2 : Int32) ∨ p = (3 : Int32) ∨ p = (4 : Int32) ∨ p = (5 : Int32)) (hc : 0 ≤ c.toInt ∧ c.toInt ≤ 255) (h0 : v0 = ((pk p (0 : Int32) c (119 : Int32)).toInt8.toInt32)) (h1 : v1 = ((pk p (1 : Int32) c (111 : Int32)).toInt8.toInt32)) (h2 : v2 = ((pk p (2 : Int32) c (114 : Int32)).toInt8.toInt32)) (h3 : v3 = ((pk p (3 : Int32) c (107 : Int32)).toInt8.toInt32)) (h4 : v4 = ((pk p (4 : Int32) c (101 : Int32)).toInt8.toInt32)) (h5 : v5 = ((pk p (5 : Int32) c (114 : Int32)).toInt8.toInt32)) : (¬ sm1 p c = (0 : Int32) → f9_6 w_WORKER v0 v1 v2 v3 v4 v5 = .ref w_WORKER) ∧ (sm1 p c = (0 : Int32) → f9_6 w_WORKER v0 v1 v2 v3 v4 v5 = .null) := by
  have t101 : ((101 : Int32).toInt8.toInt32) = (101 : Int32) := by decide
  have t107 : ((107 : Int32).toInt8.toInt32) = (107 : Int32) := by decide
  have t111 : ((111 : Int32).toInt8.toInt32) = (111 : Int32) := by decide
  have t114 : ((114 : Int32).toInt8.toInt32) = (114 : Int32) := by decide
  have t119 : ((119 : Int32).toInt8.toInt32) = (119 : Int32) := by decide
  subst h0 h1 h2 h3 h4 h5
  rcases hp with rfl | rfl | rfl | rfl | rfl | rfl
  · by_cases q : (119 : Int32) = c
    · subst q; simp [sm1, wd1, pk, f9_6, f11_6_6, f12_6_6, t101, t107, t111, t114, t119]
    · have q2 := own_bz (N := (119 : Int32)) (by decide) hc q
      simp [sm1, wd1, pk, f9_6, f11_6_6, f12_6_6, t101, t107, t111, t114, t119, q, q2]
  · by_cases q : (111 : Int32) = c
    · subst q; simp [sm1, wd1, pk, f9_6, f11_6_6, f12_6_6, t101, t107, t111, t114, t119]
    · have q2 := own_bz (N := (111 : Int32)) (by decide) hc q
      simp [sm1, wd1, pk, f9_6, f11_6_6, f12_6_6, t101, t107, t111, t114, t119, q, q2]
  · by_cases q : (114 : Int32) = c
    · subst q; simp [sm1, wd1, pk, f9_6, f11_6_6, f12_6_6, t101, t107, t111, t114, t119]
    · have q2 := own_bz (N := (114 : Int32)) (by decide) hc q
      simp [sm1, wd1, pk, f9_6, f11_6_6, f12_6_6, t101, t107, t111, t114, t119, q, q2]
  · by_cases q : (107 : Int32) = c
    · subst q; simp [sm1, wd1, pk, f9_6, f11_6_6, f12_6_6, t101, t107, t111, t114, t119]
    · have q2 := own_bz (N := (107 : Int32)) (by decide) hc q
      simp [sm1, wd1, pk, f9_6, f11_6_6, f12_6_6, t101, t107, t111, t114, t119, q, q2]
  · by_cases q : (101 : Int32) = c
    · subst q; simp [sm1, wd1, pk, f9_6, f11_6_6, f12_6_6, t101, t107, t111, t114, t119]
    · have q2 := own_bz (N := (101 : Int32)) (by decide) hc q
      simp [sm1, wd1, pk, f9_6, f11_6_6, f12_6_6, t101, t107, t111, t114, t119, q, q2]
  · by_cases q : (114 : Int32) = c
    · subst q; simp [sm1, wd1, pk, f9_6, f11_6_6, f12_6_6, t101, t107, t111, t114, t119]
    · have q2 := own_bz (N := (114 : Int32)) (by decide) hc q
      simp [sm1, wd1, pk, f9_6, f11_6_6, f12_6_6, t101, t107, t111, t114, t119, q, q2]

theorem own_w2 {w_PRODUCER w_OPERATOR : Addr} {p c v0 v1 v2 v3 v4 v5 v6 v7 : Int32} (hp : p = (0 : Int32) ∨ p = (1 : Int32) ∨ p = (2 : Int32) ∨ p = (3 : Int32) ∨ p = (4 : Int32) ∨ p = (5 : Int32) ∨ p = (6 : Int32) ∨ p = (7 : Int32)) (hc : 0 ≤ c.toInt ∧ c.toInt ≤ 255) (h0 : v0 = ((pk p (0 : Int32) c (111 : Int32)).toInt8.toInt32)) (h1 : v1 = ((pk p (1 : Int32) c (112 : Int32)).toInt8.toInt32)) (h2 : v2 = ((pk p (2 : Int32) c (101 : Int32)).toInt8.toInt32)) (h3 : v3 = ((pk p (3 : Int32) c (114 : Int32)).toInt8.toInt32)) (h4 : v4 = ((pk p (4 : Int32) c (97 : Int32)).toInt8.toInt32)) (h5 : v5 = ((pk p (5 : Int32) c (116 : Int32)).toInt8.toInt32)) (h6 : v6 = ((pk p (6 : Int32) c (111 : Int32)).toInt8.toInt32)) (h7 : v7 = ((pk p (7 : Int32) c (114 : Int32)).toInt8.toInt32)) : (¬ sm2 p c = (0 : Int32) → f9_8 w_PRODUCER w_OPERATOR v0 v1 v2 v3 v4 v5 v6 v7 = .ref w_OPERATOR) ∧ (sm2 p c = (0 : Int32) → f9_8 w_PRODUCER w_OPERATOR v0 v1 v2 v3 v4 v5 v6 v7 = .null) := by
  have t97 : ((97 : Int32).toInt8.toInt32) = (97 : Int32) := by decide
  have t101 : ((101 : Int32).toInt8.toInt32) = (101 : Int32) := by decide
  have t111 : ((111 : Int32).toInt8.toInt32) = (111 : Int32) := by decide
  have t112 : ((112 : Int32).toInt8.toInt32) = (112 : Int32) := by decide
  have t114 : ((114 : Int32).toInt8.toInt32) = (114 : Int32) := by decide
  have t116 : ((116 : Int32).toInt8.toInt32) = (116 : Int32) := by decide
  subst h0 h1 h2 h3 h4 h5 h6 h7
  rcases hp with rfl | rfl | rfl | rfl | rfl | rfl | rfl | rfl
  · by_cases q : (111 : Int32) = c
    · subst q; simp [sm2, wd2, pk, f9_8, f11_8_8, f12_8_8, t97, t101, t111, t112, t114, t116]
    · have q2 := own_bz (N := (111 : Int32)) (by decide) hc q
      simp [sm2, wd2, pk, f9_8, f11_8_8, f12_8_8, t97, t101, t111, t112, t114, t116, q, q2]
  · by_cases q : (112 : Int32) = c
    · subst q; simp [sm2, wd2, pk, f9_8, f11_8_8, f12_8_8, t97, t101, t111, t112, t114, t116]
    · have q2 := own_bz (N := (112 : Int32)) (by decide) hc q
      simp [sm2, wd2, pk, f9_8, f11_8_8, f12_8_8, t97, t101, t111, t112, t114, t116, q, q2]
  · by_cases q : (101 : Int32) = c
    · subst q; simp [sm2, wd2, pk, f9_8, f11_8_8, f12_8_8, t97, t101, t111, t112, t114, t116]
    · have q2 := own_bz (N := (101 : Int32)) (by decide) hc q
      simp [sm2, wd2, pk, f9_8, f11_8_8, f12_8_8, t97, t101, t111, t112, t114, t116, q, q2]
  · by_cases q : (114 : Int32) = c
    · subst q; simp [sm2, wd2, pk, f9_8, f11_8_8, f12_8_8, t97, t101, t111, t112, t114, t116]
    · have q2 := own_bz (N := (114 : Int32)) (by decide) hc q
      simp [sm2, wd2, pk, f9_8, f11_8_8, f12_8_8, t97, t101, t111, t112, t114, t116, q, q2]
  · by_cases q : (97 : Int32) = c
    · subst q; simp [sm2, wd2, pk, f9_8, f11_8_8, f12_8_8, t97, t101, t111, t112, t114, t116]
    · have q2 := own_bz (N := (97 : Int32)) (by decide) hc q
      simp [sm2, wd2, pk, f9_8, f11_8_8, f12_8_8, t97, t101, t111, t112, t114, t116, q, q2]
  · by_cases q : (116 : Int32) = c
    · subst q; simp [sm2, wd2, pk, f9_8, f11_8_8, f12_8_8, t97, t101, t111, t112, t114, t116]
    · have q2 := own_bz (N := (116 : Int32)) (by decide) hc q
      simp [sm2, wd2, pk, f9_8, f11_8_8, f12_8_8, t97, t101, t111, t112, t114, t116, q, q2]
  · by_cases q : (111 : Int32) = c
    · subst q; simp [sm2, wd2, pk, f9_8, f11_8_8, f12_8_8, t97, t101, t111, t112, t114, t116]
    · have q2 := own_bz (N := (111 : Int32)) (by decide) hc q
      simp [sm2, wd2, pk, f9_8, f11_8_8, f12_8_8, t97, t101, t111, t112, t114, t116, q, q2]
  · by_cases q : (114 : Int32) = c
    · subst q; simp [sm2, wd2, pk, f9_8, f11_8_8, f12_8_8, t97, t101, t111, t112, t114, t116]
    · have q2 := own_bz (N := (114 : Int32)) (by decide) hc q
      simp [sm2, wd2, pk, f9_8, f11_8_8, f12_8_8, t97, t101, t111, t112, t114, t116, q, q2]

theorem own_w3 {w_ADMIN : Addr} {p c v0 v1 v2 v3 v4 : Int32} (hp : p = (0 : Int32) ∨ p = (1 : Int32) ∨ p = (2 : Int32) ∨ p = (3 : Int32) ∨ p = (4 : Int32)) (hc : 0 ≤ c.toInt ∧ c.toInt ≤ 255) (h0 : v0 = ((pk p (0 : Int32) c (97 : Int32)).toInt8.toInt32)) (h1 : v1 = ((pk p (1 : Int32) c (100 : Int32)).toInt8.toInt32)) (h2 : v2 = ((pk p (2 : Int32) c (109 : Int32)).toInt8.toInt32)) (h3 : v3 = ((pk p (3 : Int32) c (105 : Int32)).toInt8.toInt32)) (h4 : v4 = ((pk p (4 : Int32) c (110 : Int32)).toInt8.toInt32)) : (¬ sm3 p c = (0 : Int32) → f9_5 w_ADMIN v0 v1 v2 v3 v4 = .ref w_ADMIN) ∧ (sm3 p c = (0 : Int32) → f9_5 w_ADMIN v0 v1 v2 v3 v4 = .null) := by
  have t97 : ((97 : Int32).toInt8.toInt32) = (97 : Int32) := by decide
  have t100 : ((100 : Int32).toInt8.toInt32) = (100 : Int32) := by decide
  have t105 : ((105 : Int32).toInt8.toInt32) = (105 : Int32) := by decide
  have t109 : ((109 : Int32).toInt8.toInt32) = (109 : Int32) := by decide
  have t110 : ((110 : Int32).toInt8.toInt32) = (110 : Int32) := by decide
  subst h0 h1 h2 h3 h4
  rcases hp with rfl | rfl | rfl | rfl | rfl
  · by_cases q : (97 : Int32) = c
    · subst q; simp [sm3, wd3, pk, f9_5, f11_5_5, f12_5_5, t97, t100, t105, t109, t110]
    · have q2 := own_bz (N := (97 : Int32)) (by decide) hc q
      simp [sm3, wd3, pk, f9_5, f11_5_5, f12_5_5, t97, t100, t105, t109, t110, q, q2]
  · by_cases q : (100 : Int32) = c
    · subst q; simp [sm3, wd3, pk, f9_5, f11_5_5, f12_5_5, t97, t100, t105, t109, t110]
    · have q2 := own_bz (N := (100 : Int32)) (by decide) hc q
      simp [sm3, wd3, pk, f9_5, f11_5_5, f12_5_5, t97, t100, t105, t109, t110, q, q2]
  · by_cases q : (109 : Int32) = c
    · subst q; simp [sm3, wd3, pk, f9_5, f11_5_5, f12_5_5, t97, t100, t105, t109, t110]
    · have q2 := own_bz (N := (109 : Int32)) (by decide) hc q
      simp [sm3, wd3, pk, f9_5, f11_5_5, f12_5_5, t97, t100, t105, t109, t110, q, q2]
  · by_cases q : (105 : Int32) = c
    · subst q; simp [sm3, wd3, pk, f9_5, f11_5_5, f12_5_5, t97, t100, t105, t109, t110]
    · have q2 := own_bz (N := (105 : Int32)) (by decide) hc q
      simp [sm3, wd3, pk, f9_5, f11_5_5, f12_5_5, t97, t100, t105, t109, t110, q, q2]
  · by_cases q : (110 : Int32) = c
    · subst q; simp [sm3, wd3, pk, f9_5, f11_5_5, f12_5_5, t97, t100, t105, t109, t110]
    · have q2 := own_bz (N := (110 : Int32)) (by decide) hc q
      simp [sm3, wd3, pk, f9_5, f11_5_5, f12_5_5, t97, t100, t105, t109, t110, q, q2]

theorem own_lt5 {p : Int32} (h : p = (0 : Int32) ∨ p = (1 : Int32) ∨ p = (2 : Int32) ∨ p = (3 : Int32) ∨ p = (4 : Int32)) : ¬ p < 0 ∧ p < (5 : Int32) := by rcases h with rfl | rfl | rfl | rfl | rfl <;> decide

theorem own_lt6 {p : Int32} (h : p = (0 : Int32) ∨ p = (1 : Int32) ∨ p = (2 : Int32) ∨ p = (3 : Int32) ∨ p = (4 : Int32) ∨ p = (5 : Int32)) : ¬ p < 0 ∧ p < (6 : Int32) := by rcases h with rfl | rfl | rfl | rfl | rfl | rfl <;> decide

theorem own_lt8 {p : Int32} (h : p = (0 : Int32) ∨ p = (1 : Int32) ∨ p = (2 : Int32) ∨ p = (3 : Int32) ∨ p = (4 : Int32) ∨ p = (5 : Int32) ∨ p = (6 : Int32) ∨ p = (7 : Int32)) : ¬ p < 0 ∧ p < (8 : Int32) := by rcases h with rfl | rfl | rfl | rfl | rfl | rfl | rfl | rfl <;> decide

theorem own_g0 {p : Int32} (h : p = (0 : Int32) ∨ p = (1 : Int32) ∨ p = (2 : Int32) ∨ p = (3 : Int32) ∨ p = (4 : Int32) ∨ p = (5 : Int32) ∨ p = (6 : Int32) ∨ p = (7 : Int32)) : ([(.int (112 : Int32)), (.int (114 : Int32)), (.int (111 : Int32)), (.int (100 : Int32)), (.int (117 : Int32)), (.int (99 : Int32)), (.int (101 : Int32)), (.int (114 : Int32))] : List Value).getD p.toNatClampNeg (.int (0 : Int32)) = (.int (wd0 p)) := by rcases h with rfl | rfl | rfl | rfl | rfl | rfl | rfl | rfl <;> rfl

theorem own_k0 {p : Int32} (h : p = (0 : Int32) ∨ p = (1 : Int32) ∨ p = (2 : Int32) ∨ p = (3 : Int32) ∨ p = (4 : Int32) ∨ p = (5 : Int32) ∨ p = (6 : Int32) ∨ p = (7 : Int32)) : p.toNatClampNeg < ([(.int (112 : Int32)), (.int (114 : Int32)), (.int (111 : Int32)), (.int (100 : Int32)), (.int (117 : Int32)), (.int (99 : Int32)), (.int (101 : Int32)), (.int (114 : Int32))] : List Value).length := by rcases h with rfl | rfl | rfl | rfl | rfl | rfl | rfl | rfl <;> decide

theorem own_s0 {p c : Int32} (h : p = (0 : Int32) ∨ p = (1 : Int32) ∨ p = (2 : Int32) ∨ p = (3 : Int32) ∨ p = (4 : Int32) ∨ p = (5 : Int32) ∨ p = (6 : Int32) ∨ p = (7 : Int32)) (hc : 0 ≤ c.toInt ∧ c.toInt ≤ 255) : ([(.int (112 : Int32)), (.int (114 : Int32)), (.int (111 : Int32)), (.int (100 : Int32)), (.int (117 : Int32)), (.int (99 : Int32)), (.int (101 : Int32)), (.int (114 : Int32))] : List Value).set p.toNatClampNeg (.int (nar .char c)) = [(.int (pk p (0 : Int32) c (112 : Int32))), (.int (pk p (1 : Int32) c (114 : Int32))), (.int (pk p (2 : Int32) c (111 : Int32))), (.int (pk p (3 : Int32) c (100 : Int32))), (.int (pk p (4 : Int32) c (117 : Int32))), (.int (pk p (5 : Int32) c (99 : Int32))), (.int (pk p (6 : Int32) c (101 : Int32))), (.int (pk p (7 : Int32) c (114 : Int32)))] := by rw [own_nch hc]; rcases h with rfl | rfl | rfl | rfl | rfl | rfl | rfl | rfl <;> rfl

theorem own_g1 {p : Int32} (h : p = (0 : Int32) ∨ p = (1 : Int32) ∨ p = (2 : Int32) ∨ p = (3 : Int32) ∨ p = (4 : Int32) ∨ p = (5 : Int32)) : ([(.int (119 : Int32)), (.int (111 : Int32)), (.int (114 : Int32)), (.int (107 : Int32)), (.int (101 : Int32)), (.int (114 : Int32))] : List Value).getD p.toNatClampNeg (.int (0 : Int32)) = (.int (wd1 p)) := by rcases h with rfl | rfl | rfl | rfl | rfl | rfl <;> rfl

theorem own_k1 {p : Int32} (h : p = (0 : Int32) ∨ p = (1 : Int32) ∨ p = (2 : Int32) ∨ p = (3 : Int32) ∨ p = (4 : Int32) ∨ p = (5 : Int32)) : p.toNatClampNeg < ([(.int (119 : Int32)), (.int (111 : Int32)), (.int (114 : Int32)), (.int (107 : Int32)), (.int (101 : Int32)), (.int (114 : Int32))] : List Value).length := by rcases h with rfl | rfl | rfl | rfl | rfl | rfl <;> decide

theorem own_s1 {p c : Int32} (h : p = (0 : Int32) ∨ p = (1 : Int32) ∨ p = (2 : Int32) ∨ p = (3 : Int32) ∨ p = (4 : Int32) ∨ p = (5 : Int32)) (hc : 0 ≤ c.toInt ∧ c.toInt ≤ 255) : ([(.int (119 : Int32)), (.int (111 : Int32)), (.int (114 : Int32)), (.int (107 : Int32)), (.int (101 : Int32)), (.int (114 : Int32))] : List Value).set p.toNatClampNeg (.int (nar .char c)) = [(.int (pk p (0 : Int32) c (119 : Int32))), (.int (pk p (1 : Int32) c (111 : Int32))), (.int (pk p (2 : Int32) c (114 : Int32))), (.int (pk p (3 : Int32) c (107 : Int32))), (.int (pk p (4 : Int32) c (101 : Int32))), (.int (pk p (5 : Int32) c (114 : Int32)))] := by rw [own_nch hc]; rcases h with rfl | rfl | rfl | rfl | rfl | rfl <;> rfl

theorem own_g2 {p : Int32} (h : p = (0 : Int32) ∨ p = (1 : Int32) ∨ p = (2 : Int32) ∨ p = (3 : Int32) ∨ p = (4 : Int32) ∨ p = (5 : Int32) ∨ p = (6 : Int32) ∨ p = (7 : Int32)) : ([(.int (111 : Int32)), (.int (112 : Int32)), (.int (101 : Int32)), (.int (114 : Int32)), (.int (97 : Int32)), (.int (116 : Int32)), (.int (111 : Int32)), (.int (114 : Int32))] : List Value).getD p.toNatClampNeg (.int (0 : Int32)) = (.int (wd2 p)) := by rcases h with rfl | rfl | rfl | rfl | rfl | rfl | rfl | rfl <;> rfl

theorem own_k2 {p : Int32} (h : p = (0 : Int32) ∨ p = (1 : Int32) ∨ p = (2 : Int32) ∨ p = (3 : Int32) ∨ p = (4 : Int32) ∨ p = (5 : Int32) ∨ p = (6 : Int32) ∨ p = (7 : Int32)) : p.toNatClampNeg < ([(.int (111 : Int32)), (.int (112 : Int32)), (.int (101 : Int32)), (.int (114 : Int32)), (.int (97 : Int32)), (.int (116 : Int32)), (.int (111 : Int32)), (.int (114 : Int32))] : List Value).length := by rcases h with rfl | rfl | rfl | rfl | rfl | rfl | rfl | rfl <;> decide

theorem own_s2 {p c : Int32} (h : p = (0 : Int32) ∨ p = (1 : Int32) ∨ p = (2 : Int32) ∨ p = (3 : Int32) ∨ p = (4 : Int32) ∨ p = (5 : Int32) ∨ p = (6 : Int32) ∨ p = (7 : Int32)) (hc : 0 ≤ c.toInt ∧ c.toInt ≤ 255) : ([(.int (111 : Int32)), (.int (112 : Int32)), (.int (101 : Int32)), (.int (114 : Int32)), (.int (97 : Int32)), (.int (116 : Int32)), (.int (111 : Int32)), (.int (114 : Int32))] : List Value).set p.toNatClampNeg (.int (nar .char c)) = [(.int (pk p (0 : Int32) c (111 : Int32))), (.int (pk p (1 : Int32) c (112 : Int32))), (.int (pk p (2 : Int32) c (101 : Int32))), (.int (pk p (3 : Int32) c (114 : Int32))), (.int (pk p (4 : Int32) c (97 : Int32))), (.int (pk p (5 : Int32) c (116 : Int32))), (.int (pk p (6 : Int32) c (111 : Int32))), (.int (pk p (7 : Int32) c (114 : Int32)))] := by rw [own_nch hc]; rcases h with rfl | rfl | rfl | rfl | rfl | rfl | rfl | rfl <;> rfl

theorem own_g3 {p : Int32} (h : p = (0 : Int32) ∨ p = (1 : Int32) ∨ p = (2 : Int32) ∨ p = (3 : Int32) ∨ p = (4 : Int32)) : ([(.int (97 : Int32)), (.int (100 : Int32)), (.int (109 : Int32)), (.int (105 : Int32)), (.int (110 : Int32))] : List Value).getD p.toNatClampNeg (.int (0 : Int32)) = (.int (wd3 p)) := by rcases h with rfl | rfl | rfl | rfl | rfl <;> rfl

theorem own_k3 {p : Int32} (h : p = (0 : Int32) ∨ p = (1 : Int32) ∨ p = (2 : Int32) ∨ p = (3 : Int32) ∨ p = (4 : Int32)) : p.toNatClampNeg < ([(.int (97 : Int32)), (.int (100 : Int32)), (.int (109 : Int32)), (.int (105 : Int32)), (.int (110 : Int32))] : List Value).length := by rcases h with rfl | rfl | rfl | rfl | rfl <;> decide

theorem own_s3 {p c : Int32} (h : p = (0 : Int32) ∨ p = (1 : Int32) ∨ p = (2 : Int32) ∨ p = (3 : Int32) ∨ p = (4 : Int32)) (hc : 0 ≤ c.toInt ∧ c.toInt ≤ 255) : ([(.int (97 : Int32)), (.int (100 : Int32)), (.int (109 : Int32)), (.int (105 : Int32)), (.int (110 : Int32))] : List Value).set p.toNatClampNeg (.int (nar .char c)) = [(.int (pk p (0 : Int32) c (97 : Int32))), (.int (pk p (1 : Int32) c (100 : Int32))), (.int (pk p (2 : Int32) c (109 : Int32))), (.int (pk p (3 : Int32) c (105 : Int32))), (.int (pk p (4 : Int32) c (110 : Int32)))] := by rw [own_nch hc]; rcases h with rfl | rfl | rfl | rfl | rfl <;> rfl

theorem d4_0 : decode jdk_42_method_149_code 0 = .ok (.aload_n 0, 1) := by decide +kernel
theorem d4_1 : decode jdk_42_method_149_code 1 = .ok (.invokespecial 1, 3) := by decide +kernel
theorem d4_4 : decode jdk_42_method_149_code 4 = .ok (.iload_n 3, 1) := by decide +kernel
theorem d4_5 : decode jdk_42_method_149_code 5 = .ok (.ifCond .ne 22, 3) := by decide +kernel
theorem d4_8 : decode jdk_42_method_149_code 8 = .ok (.aload_n 0, 1) := by decide +kernel
theorem d4_9 : decode jdk_42_method_149_code 9 = .ok (.ldc 7, 2) := by decide +kernel
theorem d4_11 : decode jdk_42_method_149_code 11 = .ok (.getfield 9, 3) := by decide +kernel
theorem d4_14 : decode jdk_42_method_149_code 14 = .ok (.putfield 9, 3) := by decide +kernel
theorem d4_17 : decode jdk_42_method_149_code 17 = .ok (.aload_n 0, 1) := by decide +kernel
theorem d4_18 : decode jdk_42_method_149_code 18 = .ok (.ldc 7, 2) := by decide +kernel
theorem d4_20 : decode jdk_42_method_149_code 20 = .ok (.getfield 15, 3) := by decide +kernel
theorem d4_23 : decode jdk_42_method_149_code 23 = .ok (.putfield 15, 3) := by decide +kernel
theorem d4_26 : decode jdk_42_method_149_code 26 = .ok (.return_, 1) := by decide +kernel
theorem ef_4_0 (m : MethodId) (a0 : Addr) (a1 : Addr) : entryFrame m #[(.ref a0), (.ref a1), (.int (0 : Int32)), (.int (0 : Int32)), .null] 6 = mkF m 0 #[rv a0, rv a1, iv (0 : Int32), iv (0 : Int32), .val .null, un] [] := by first | (simp [entryFrame, mkF, argsToLocals, Value.category]; done) | rfl
def Q4_0 (Z : State) (a0 : Addr) (a1 : Addr) (h0 : Heap) (n0 : Nat) (v : Option Value) (h : Heap) (L : List Loc) : Prop := ∃ (b : Addr) (kb : ClassId), v = none ∧ Fr n0 L ∧ Keep h0 h [a0] ∧ Exa Z h a0 "java/lang/String" ∧ Fld Z h a0 "java/lang/String" "coder" "B" (.int (0 : Int32)) ∧ Fld Z h a0 "java/lang/String" "value" "[B" (.ref b) ∧ Arv Z h b kb .byte (0 : Int32) [] (.int (0 : Int32))
set_option maxRecDepth 65536 in
set_option maxHeartbeats 40000000 in
theorem rm4_0 (l : Launch) (Z : State) (ar : Array Value) (hw : ∀ d ∈ tables_1, d.before ar Z = true) (ws : List Jvm.Cond) (a0 : Addr) (a1 : Addr) (h0 : Heap) (n0 : Nat) (O0 : Old Z n0 h0) (hEL : EW Z ar EL0) (pf0 : Exa Z h0 a0 "java/lang/String") (pf1 : Fld Z h0 a0 "java/lang/String" "value" "[B" .null) (pf2 : Fld Z h0 a0 "java/lang/String" "coder" "B" (.int (0 : Int32))) (pf3 : n0 ≤ a0) :
    MetFree l y4 (head1 (Jvm.Cond.code y4 jdk_42_method_149_code 6 none :: ws) ({ frames := 1, cells := 4, slots := 8, locals := 12 } : Room)) (fun a U => a = #[(.ref a0), (.ref a1), (.int (0 : Int32)), (.int (0 : Int32)), .null] ∧ Z.Warmed39 U.vm ∧ U.heap = h0 ∧ CHv Z EL0 U.vm h0) (fun _ _ _ _ _ => True) (fun _ U o U' => ∃ v L, o = .returned v ∧ Q4_0 Z a0 a1 h0 n0 v U'.heap L ∧ CHr Z EL0 U.vm U.heap U'.vm U'.heap ∧ ReturnedEndW U o U' L ({ frames := 1, cells := 4, slots := 8, locals := 12 } : Room).cells ({ frames := 1, cells := 4, slots := 8, locals := 12 } : Room).slots) := by
 refine MetFree.of_bodySF (plainFor_of_name pn_2) hisR ?_
 intro p e s m args below meth c s₁ Bd hml0 hP hK
 obtain ⟨rfl, hZ, hh, hCH⟩ := hP
 have hx := Bd.exec
 have hby := Bd.bytes
 have hml : c.maxLocals = 6 := hml0
 have hown : s.vm.findClass "java/lang/String" = some m.cls := findClass_of_methodNamed Bd.named
 have hnm := (name_of_methodNamed Bd.named Bd.method).1
 have X0 : Stand p l e ({ frames := 1, cells := 4, slots := 8, locals := 12 } : Room) (s.setVm s.vm) m #[(.ref a0), (.ref a1), (.int (0 : Int32)), (.int (0 : Int32)), .null] below meth c s₁ [] 0 0 := Stand.of_body Bd
 have e0 : s₁.heap = h0 := by rw [← hh, Bd.state]; rfl
 have N0 := Fr.nil n0
 have Z0 : n0 ≤ h0.size := Nat.le_trans (Nat.le_of_eq O0.1.symm) O0.2.1
 obtain ⟨S0, hS0⟩ : ∃ z, z = s₁.setTop (entryFrame m #[(.ref a0), (.ref a1), (.int (0 : Int32)), (.int (0 : Int32)), .null] 6) := ⟨_, rfl⟩
 have pre0 : ∀ tg, AT p e below s₁ m 0 #[rv a0, rv a1, iv (0 : Int32), iv (0 : Int32), .val .null, un] [] tg → Steps p.tables e below S0 tg := fun tg kg => by rw [hS0]; exact castTop (ef_4_0 m a0 a1) kg
 have hS : s.Since s.vm 0 := (State.WarmedH.refl s).since 0
 have hk : 0 ≤ h0.size := Nat.zero_le _
 have CR0 : CHr Z EL0 s.vm h0 s.vm h0 := CHr.refl hCH
 obtain ⟨T1, X1, e1, st1⟩ := initO X0 hx hZ hown (ow hw 21 rfl) (ow hw 22 rfl) (ow hw 23 rfl) e0 (g := (mkF m 1 #[rv a0, rv a1, iv (0 : Int32), iv (0 : Int32), .val .null, un] [(.ref a0)])) rfl (by rw [hml]; rfl) rfl (hb hby d4_1) (by decide) (W := 0) (by show 2 * 0 + _ ≤ _; exact Nat.le_of_eq rfl) (by decide)
 have Sf0 : Safe Z EL0 s.vm h0 a0 := own_safeNull hZ.alike (ow hw 12 rfl) pf0 pf1
 obtain ⟨a2, T2, h2, q2, b2, kb2, X2, e2, E2, hS, hk, hZ, hown, A2, C2, F2, V2, -, -, CRq2, Li2, Sx2, st2⟩ := ldcCH X1 hx hZ hown (ow hw 77 rfl) (own_sa hw) e1 hS hk hEL (List.mem_of_getElem? (i := 0) rfl) CR0.1 (vs := []) (z := (0 : Int32)) ⟨by decide, by decide⟩ (by decide) rfl (g := (mkF m 9 #[rv a0, rv a1, iv (0 : Int32), iv (0 : Int32), .val .null, un] [(.ref a0)])) rfl (hb hby d4_9) (n := 0) (by decide) (by decide) (by decide) (by decide)
 have E2_3 := pf0.ext E2
 have F2_4 := pf1.ext E2
 have F2_5 := pf2.ext E2
 have Sf2_a0 := CRq2.safe (pf0).lt Sf0
 have K2 := (Keep.refl h0 [a0]).ext E2
 have O2 : Old Z n0 h2 := O0.ext E2
 have CR2 : CHr Z EL0 s.vm h0 T2.vm h2 := CR0.trans CRq2
 have sx2_a0 := Sx2 _ Sf2_a0
 obtain ⟨T6, X6, e6, st6⟩ := getF X2 hx hZ hown (host := "") (Or.inl (ow hw 38 rfl)) Via.refl e2 F2 (g := (mkF m 11 #[rv a0, rv a1, iv (0 : Int32), iv (0 : Int32), .val .null, un] [(.ref a2), (.ref a0)])) rfl rfl (hb hby d4_11)
 obtain ⟨T7, h7, X7, e7, W7, st7⟩ := putF X6 hx hZ hown (host := "") (Or.inl (ow hw 38 rfl)) Via.refl e6 F2_4 E2_3 (Or.inr ⟨(ow hw 39 rfl), rfl, hnm⟩) (ow hw 12 rfl) (ty := (.array .byte)) (by decide) rfl rfl (g := (mkF m 14 #[rv a0, rv a1, iv (0 : Int32), iv (0 : Int32), .val .null, un] [(.ref b2), (.ref a0)])) rfl rfl (hb hby d4_14)
 have E7_8 := E2_3.wr W7
 have F7_9 : Fld Z h7 a0 "java/lang/String" "value" "[B" (.ref b2) := F2_4.same W7
 have F7_10 := F2_5.other W7 (Or.inr (slot_ne (Or.inr (ow hw 37 rfl)) (Or.inr (ow hw 39 rfl)) (by decide) (t := .byte) (t' := (.array .byte)) (by decide) (by decide)))
 have E7_11 := A2.wr W7
 have F7_12 := C2.other W7 (Or.inl (Ne.symm sx2_a0.1))
 have F7_13 := F2.other W7 (Or.inl (Ne.symm sx2_a0.1))
 have V7_14 := V2.other W7 (Ne.symm sx2_a0.2)
 have K7 := K2.wr W7 (Or.inl (List.mem_of_getElem? (i := 0) rfl))
 have O7 := O2.wr W7 pf3
 have Sf7_a0 := Safe.wr W7 Sf2_a0 CR2.1 Sf2_a0
 have CR7 : CHr Z EL0 s.vm h0 T2.vm h7 := CR2.trans (CHr.wr W7 Sf2_a0 CR2.1)
 have hk := Nat.le_trans hk (Keep.of_wr W7).1
 have N7 := Fr.snoc X7 N0 pf3
 obtain ⟨a15, T15, h15, q15, b15, kb15, X15, e15, E15, hS, hk, hZ, hown, A15, C15, F15, V15, -, -, CRq15, Li15, Sx15, st15⟩ := ldcCH X7 hx hZ hown (ow hw 77 rfl) (own_sa hw) e7 hS hk hEL (List.mem_of_getElem? (i := 0) rfl) CR7.1 (vs := []) (z := (0 : Int32)) ⟨by decide, by decide⟩ (by decide) rfl (g := (mkF m 18 #[rv a0, rv a1, iv (0 : Int32), iv (0 : Int32), .val .null, un] [(.ref a0)])) rfl (hb hby d4_18) (n := 0) (by decide) (by decide) (by decide) (by decide)
 have E15_16 := E7_8.ext E15
 have F15_17 := F7_9.ext E15
 have F15_18 := F7_10.ext E15
 have Sf15_a0 := CRq15.safe (E7_8).lt Sf7_a0
 have E15_19 := E7_11.ext E15
 have F15_20 := F7_12.ext E15
 have F15_21 := F7_13.ext E15
 have V15_22 := V7_14.ext E15
 have K15 := K7.ext E15
 have O15 : Old Z n0 h15 := O7.ext E15
 have CR15 : CHr Z EL0 s.vm h0 T15.vm h15 := CR7.trans CRq15
 have sx15_a0 := Sx15 _ Sf15_a0
 obtain ⟨T23, X23, e23, st23⟩ := getF X15 hx hZ hown (host := "") (Or.inl (ow hw 36 rfl)) Via.refl e15 C15 (g := (mkF m 20 #[rv a0, rv a1, iv (0 : Int32), iv (0 : Int32), .val .null, un] [(.ref a15), (.ref a0)])) rfl rfl (hb hby d4_20)
 obtain ⟨T24, h24, X24, e24, W24, st24⟩ := putFN X23 hx hZ hown (ow hw 36 rfl) Via.refl e23 F15_18 E15_16 (Or.inr ⟨(ow hw 37 rfl), rfl, hnm⟩) (ow hw 12 rfl) (ty := .byte) (v' := (.int (0 : Int32))) (by decide) rfl rfl (g := (mkF m 23 #[rv a0, rv a1, iv (0 : Int32), iv (0 : Int32), .val .null, un] [(.int (0 : Int32)), (.ref a0)])) rfl rfl (hb hby d4_23)
 have E24_25 := E15_16.wr W24
 have F24_26 := F15_17.other W24 (Or.inr (slot_ne (Or.inr (ow hw 39 rfl)) (Or.inr (ow hw 37 rfl)) (by decide) (t := (.array .byte)) (t' := .byte) (by decide) (by decide)))
 have F24_27 : Fld Z h24 a0 "java/lang/String" "coder" "B" (.int (0 : Int32)) := F15_18.same W24
 have E24_28 := E15_19.wr W24
 have F24_29 := F15_20.other W24 (Or.inl (Ne.symm sx2_a0.1))
 have F24_30 := F15_21.other W24 (Or.inl (Ne.symm sx2_a0.1))
 have V24_31 := V15_22.other W24 (Ne.symm sx2_a0.2)
 have E24_32 := A15.wr W24
 have F24_33 := C15.other W24 (Or.inl (Ne.symm sx15_a0.1))
 have F24_34 := F15.other W24 (Or.inl (Ne.symm sx15_a0.1))
 have V24_35 := V15.other W24 (Ne.symm sx15_a0.2)
 have K24 := K15.wr W24 (Or.inl (List.mem_of_getElem? (i := 0) rfl))
 have O24 := O15.wr W24 pf3
 have Sf24_a0 := Safe.wr W24 Sf15_a0 CR15.1 Sf15_a0
 have CR24 : CHr Z EL0 s.vm h0 T15.vm h24 := CR15.trans (CHr.wr W24 Sf15_a0 CR15.1)
 have hk := Nat.le_trans hk (Keep.of_wr W24).1
 have N24 := Fr.snoc X24 N7 pf3
 obtain ⟨fs, hr, hrun, hended, hRE⟩ := X24.leaveW hS (by rw [e24]; exact hk) (v := none) (fun _ => rfl)
 have CRf : CHr Z EL0 s.vm s.heap (T24.setFrames fs).vm (T24.setFrames fs).heap := by
   show CHr Z EL0 s.vm s.heap T24.vm T24.heap
   rw [hh, e24]
   exact CR24.trans (CHv.at X24 hZ hEL CR24.1)
 subst hS0
 refine ⟨_, _, pre0 _ ?_, hrun, hended, _, _, rfl, ?_, CRf, hRE.1, hRE.2.1, hRE.2.2.1, hRE.2.2.2.mono (by decide) (by decide)⟩
 ·
  refine XS.aloadN X0.here hx rfl (hb hby d4_0) rfl rfl ?_
  refine st1 _ ?_
  refine XS.iloadN X1.here hx rfl (hb hby d4_4) rfl ?_
  show AT p e below T1 m 5 #[rv a0, rv a1, iv (0 : Int32), iv (0 : Int32), .val .null, un] [(.int (0 : Int32))] _
  refine XS.ifNo X1.here hx rfl (hb hby d4_5) rfl (XT.i0_ne_f ((by decide) : (0 : Int32) = (0 : Int32))) ?_
  refine XS.aloadN X1.here hx rfl (hb hby d4_8) rfl rfl ?_
  refine st2 _ ?_
  refine st6 _ ?_
  refine st7 _ ?_
  refine XS.aloadN X7.here hx rfl (hb hby d4_17) rfl rfl ?_
  refine st15 _ ?_
  refine st23 _ ?_
  refine st24 _ ?_
  exact X24.returnOut hx Bd.returns (hb hby d4_26) hr
 ·
  show Q4_0 Z a0 a1 h0 n0 _ T24.heap _
  rw [e24]
  exact ⟨b2, kb2, rfl, N24, K24, E24_25, F24_27, F24_26, V24_31⟩

theorem d3_0 : decode jdk_42_method_3_code 0 = .ok (.aload_n 0, 1) := by decide +kernel
theorem d3_1 : decode jdk_42_method_3_code 1 = .ok (.aload_n 1, 1) := by decide +kernel
theorem d3_2 : decode jdk_42_method_3_code 2 = .ok (.iconst 0, 1) := by decide +kernel
theorem d3_3 : decode jdk_42_method_3_code 3 = .ok (.aload_n 1, 1) := by decide +kernel
theorem d3_4 : decode jdk_42_method_3_code 4 = .ok (.arraylength, 1) := by decide +kernel
theorem d3_5 : decode jdk_42_method_3_code 5 = .ok (.aconst_null, 1) := by decide +kernel
theorem d3_6 : decode jdk_42_method_3_code 6 = .ok (.invokespecial 27, 3) := by decide +kernel
theorem d3_9 : decode jdk_42_method_3_code 9 = .ok (.return_, 1) := by decide +kernel
theorem ef_3_0 (m : MethodId) (a0 : Addr) (a1 : Addr) : entryFrame m #[(.ref a0), (.ref a1)] 2 = mkF m 0 #[rv a0, rv a1] [] := by first | (simp [entryFrame, mkF, argsToLocals, Value.category]; done) | rfl
def Q3_0 (Z : State) (a0 : Addr) (a1 : Addr) (ka : ClassId) (h0 : Heap) (n0 : Nat) (v : Option Value) (h : Heap) (L : List Loc) : Prop := ∃ (b : Addr) (kb : ClassId), v = none ∧ Fr n0 L ∧ Keep h0 h [a0] ∧ Exa Z h a0 "java/lang/String" ∧ Fld Z h a0 "java/lang/String" "coder" "B" (.int (0 : Int32)) ∧ Fld Z h a0 "java/lang/String" "value" "[B" (.ref b) ∧ Arv Z h b kb .byte (0 : Int32) [] (.int (0 : Int32))
set_option maxRecDepth 65536 in
set_option maxHeartbeats 40000000 in
theorem rm3_0 (l : Launch) (Z : State) (ar : Array Value) (hw : ∀ d ∈ tables_1, d.before ar Z = true) (ws : List Jvm.Cond) (a0 : Addr) (a1 : Addr) (ka : ClassId) (h0 : Heap) (n0 : Nat) (O0 : Old Z n0 h0) (hEL : EW Z ar EL0) (pf0 : Exa Z h0 a0 "java/lang/String") (pf1 : Fld Z h0 a0 "java/lang/String" "value" "[B" .null) (pf2 : Fld Z h0 a0 "java/lang/String" "coder" "B" (.int (0 : Int32))) (pf3 : n0 ≤ a0) (pf4 : Arv Z h0 a1 ka .char (0 : Int32) [] (.int (0 : Int32))) (pf5 : a0 ≠ a1) :
    MetFree l y3 (head1 (Jvm.Cond.code y3 jdk_42_method_3_code 2 none :: ws) ({ frames := 2, cells := 4, slots := 8, locals := 29 } : Room)) (fun a U => a = #[(.ref a0), (.ref a1)] ∧ Z.Warmed39 U.vm ∧ U.heap = h0 ∧ CHv Z EL0 U.vm h0) (fun _ _ _ _ _ => True) (fun _ U o U' => ∃ v L, o = .returned v ∧ Q3_0 Z a0 a1 ka h0 n0 v U'.heap L ∧ CHr Z EL0 U.vm U.heap U'.vm U'.heap ∧ ReturnedEndW U o U' L ({ frames := 2, cells := 4, slots := 8, locals := 29 } : Room).cells ({ frames := 2, cells := 4, slots := 8, locals := 29 } : Room).slots) := by
 refine MetFree.of_bodySF (plainFor_of_name pn_2) hisR ?_
 intro p e s m args below meth c s₁ Bd hml0 hP hK
 obtain ⟨rfl, hZ, hh, hCH⟩ := hP
 have hx := Bd.exec
 have hby := Bd.bytes
 have hml : c.maxLocals = 2 := hml0
 have hown : s.vm.findClass "java/lang/String" = some m.cls := findClass_of_methodNamed Bd.named
 have hnm := (name_of_methodNamed Bd.named Bd.method).1
 have X0 : Stand p l e ({ frames := 2, cells := 4, slots := 8, locals := 29 } : Room) (s.setVm s.vm) m #[(.ref a0), (.ref a1)] below meth c s₁ [] 0 0 := Stand.of_body Bd
 have e0 : s₁.heap = h0 := by rw [← hh, Bd.state]; rfl
 have N0 := Fr.nil n0
 have Z0 : n0 ≤ h0.size := Nat.le_trans (Nat.le_of_eq O0.1.symm) O0.2.1
 obtain ⟨S0, hS0⟩ : ∃ z, z = s₁.setTop (entryFrame m #[(.ref a0), (.ref a1)] 2) := ⟨_, rfl⟩
 have pre0 : ∀ tg, AT p e below s₁ m 0 #[rv a0, rv a1] [] tg → Steps p.tables e below S0 tg := fun tg kg => by rw [hS0]; exact castTop (ef_3_0 m a0 a1) kg
 have hS : s.Since s.vm 0 := (State.WarmedH.refl s).since 0
 have hk : 0 ≤ h0.size := Nat.zero_le _
 have CR0 : CHr Z EL0 s.vm h0 s.vm h0 := CHr.refl hCH
 obtain ⟨cl1, Ar1, q1, S1, N1, H1, G1⟩ := id pf4
 have pre2 : ∀ tg, AT p e below s₁ m 6 #[rv a0, rv a1] [.null, (.int (0 : Int32)), (.int (0 : Int32)), (.ref a1), (.ref a0)] tg → Steps p.tables e below S0 tg := fun tg kg => pre0 tg (by
  refine XS.aloadN X0.here hx rfl (hb hby d3_0) rfl rfl ?_
  refine XS.aloadN X0.here hx rfl (hb hby d3_1) rfl rfl ?_
  refine XS.iconst X0.here hx rfl (hb hby d3_2) ?_
  refine XS.aloadN X0.here hx rfl (hb hby d3_3) rfl rfl ?_
  refine X0.arraylength hx (by rw [e0]; exact Ar1.1) (State.isArrayOf_alike hZ.alike Ar1.2.1) (g := (mkF m 4 #[rv a0, rv a1] [(.ref a1), (.int (0 : Int32)), (.ref a1), (.ref a0)])) rfl rfl (hb hby d3_4) _ ?_
  rw [len_of S1 N1]
  refine XS.aconstNull X0.here hx rfl (hb hby d3_5) ?_
  exact kg)
 obtain ⟨_, _, ⟨T3, L3, k3, n3⟩, -, X3, hS3, hg3, ⟨Lc3, hQ3, l3, y3, z3, CRq3⟩, st3⟩ := X0.specialBackS hx (y := y4) rfl hown (mvT hZ (ow hw 17 rfl)) (mvT hZ (ow hw 18 rfl)) (mvT hZ (ow hw 20 rfl)) (by decide) (backOfSH (W := 0) (rm4_0 l Z ar hw [] a0 a1 h0 n0 O0 hEL pf0 pf1 pf2 pf3) hZ (ow hw 20 rfl) (ow hw 13 rfl) (by decide) (by decide) hEL CR0.1) (g := (mkF m 6 #[rv a0, rv a1] [.null, (.int (0 : Int32)), (.int (0 : Int32)), (.ref a1), (.ref a0)])) rfl (by rw [hml]; rfl) (Steps.refl _) (a := a0) (argsL := [(.ref a1), (.int (0 : Int32)), (.int (0 : Int32)), .null]) (rest := []) (lenOf pd_6 rfl) rfl (by show 2 * 0 + _ ≤ _; exact Nat.le_of_eq rfl) (hb hby d3_6) (fun _ _ => ⟨rfl, e0, (by decide : 0 + 4 ≤ _), (by decide : 0 + 8 ≤ _)⟩)
 dsimp only [Pt.U, Pt.locs, Pt.cells, Pt.slots] at X3 l3 y3 z3 st3 hQ3 hS3 hg3 CRq3
 subst l3 y3 z3
 obtain ⟨X3, hS, hZ, hown⟩ := rebS hS (by rw [e0]; exact hk) X3 hS3 hg3 hZ hown
 have CR3 : CHr Z EL0 s.vm h0 T3.vm T3.heap := CR0.trans CRq3
 obtain ⟨b_3, kb_3, rfl, N3q, Kq3, u3_0, u3_1, u3_2, u3_3⟩ := hQ3
 have N3 := Fr.app N0 N3q
 have E3_4 := pf0.keep Kq3
 have V3_5 := pf4.keep Kq3 (ninS (Ne.symm pf5) nin0)
 have K3 := (Keep.refl h0 [a0]).trans Kq3 (allS (Or.inl (List.mem_of_getElem? (i := 0) rfl)) all0)
 have O3 := O0.keep Kq3 (allS pf3 all0)
 have hk := Nat.le_trans hk Kq3.1
 have hk := Nat.le_refl (Array.size T3.heap)
 obtain ⟨fs, hr, hrun, hended, hRE⟩ := X3.leaveW hS hk (v := none) (fun _ => rfl)
 have CRf : CHr Z EL0 s.vm s.heap (T3.setFrames fs).vm (T3.setFrames fs).heap := by
   show CHr Z EL0 s.vm s.heap T3.vm T3.heap
   rw [hh]
   exact CR3.trans (CHv.at X3 hZ hEL CR3.1)
 subst hS0
 refine ⟨_, _, pre2 _ ?_, hrun, hended, _, _, rfl, ?_, CRf, hRE.1, hRE.2.1, hRE.2.2.1, hRE.2.2.2.mono (by decide) (by decide)⟩
 ·
  refine st3.trans ?_
  exact X3.returnOut hx Bd.returns (hb hby d3_9) hr
 ·
  show Q3_0 Z a0 a1 ka h0 n0 _ T3.heap _
  exact ⟨b_3, kb_3, rfl, N3, K3, E3_4, u3_1, u3_2, u3_3⟩

theorem ef_0 (m : MethodId) (p0 : Int32) (p1 : Int32) (p2 : Int32) (p3 : Int32) : entryFrame m #[(.int p0), (.int p1), (.int p2), (.int p3)] maxLocals = mkF m 0 #[iv p0, iv p1, iv p2, iv p3, un, un, un, un, un, un, un, un, un] [] := by first | (simp [entryFrame, mkF, argsToLocals, Value.category, maxLocals]; done) | rfl
def Q0 (Z : State) (p0 : Int32) (p1 : Int32) (p2 : Int32) (p3 : Int32) (w_CS0 : Int32) (w_SF1 : Value) (w_PRODUCER : Addr) (w__VALUES : Addr) (w_WORKER : Addr) (w_OPERATOR : Addr) (w_ADMIN : Addr) (w_PRODUCER_shown : Addr) (w_PRODUCER_shown_value : Addr) (w_WORKER_shown : Addr) (w_WORKER_shown_value : Addr) (w_OPERATOR_shown : Addr) (w_OPERATOR_shown_value : Addr) (w_ADMIN_shown : Addr) (w_ADMIN_shown_value : Addr) (k__VALUES : ClassId) (k_PRODUCER_shown_value : ClassId) (k_WORKER_shown_value : ClassId) (k_OPERATOR_shown_value : ClassId) (k_ADMIN_shown_value : ClassId) (h0 : Heap) (n0 : Nat) (v : Option Value) (h : Heap) (L : List Loc) : Prop := v = some (.int 1) ∧ Fr n0 L
set_option maxRecDepth 65536 in
set_option maxHeartbeats 40000000 in
theorem rm0 (l : Launch) (Z : State) (ar : Array Value) (hw : ∀ d ∈ tables_1, d.before ar Z = true) (ws : List Jvm.Cond) (p0 : Int32) (p1 : Int32) (p2 : Int32) (p3 : Int32) (w_CS0 : Int32) (w_SF1 : Value) (w_PRODUCER : Addr) (w__VALUES : Addr) (w_WORKER : Addr) (w_OPERATOR : Addr) (w_ADMIN : Addr) (w_PRODUCER_shown : Addr) (w_PRODUCER_shown_value : Addr) (w_WORKER_shown : Addr) (w_WORKER_shown_value : Addr) (w_OPERATOR_shown : Addr) (w_OPERATOR_shown_value : Addr) (w_ADMIN_shown : Addr) (w_ADMIN_shown_value : Addr) (k__VALUES : ClassId) (k_PRODUCER_shown_value : ClassId) (k_WORKER_shown_value : ClassId) (k_OPERATOR_shown_value : ClassId) (k_ADMIN_shown_value : ClassId) (h0 : Heap) (n0 : Nat) (O0 : Old Z n0 h0) (hEL : EW Z ar EL0) (HW : Wd Z w_CS0 w_SF1 w_PRODUCER w__VALUES w_WORKER w_OPERATOR w_ADMIN w_PRODUCER_shown w_PRODUCER_shown_value w_WORKER_shown w_WORKER_shown_value w_OPERATOR_shown w_OPERATOR_shown_value w_ADMIN_shown w_ADMIN_shown_value k__VALUES k_PRODUCER_shown_value k_WORKER_shown_value k_OPERATOR_shown_value k_ADMIN_shown_value) :
    MetFree l x (head1 (Jvm.Cond.code x code maxLocals ret :: ws) room_1) (fun a U => a = #[(.int p0), (.int p1), (.int p2), (.int p3)] ∧ Z.Warmed39 U.vm ∧ U.heap = h0 ∧ CHv Z EL0 U.vm h0) (fun _ _ _ _ _ => True) (fun _ U o U' => ∃ v L, o = .returned v ∧ Q0 Z p0 p1 p2 p3 w_CS0 w_SF1 w_PRODUCER w__VALUES w_WORKER w_OPERATOR w_ADMIN w_PRODUCER_shown w_PRODUCER_shown_value w_WORKER_shown w_WORKER_shown_value w_OPERATOR_shown w_OPERATOR_shown_value w_ADMIN_shown w_ADMIN_shown_value k__VALUES k_PRODUCER_shown_value k_WORKER_shown_value k_OPERATOR_shown_value k_ADMIN_shown_value h0 n0 v U'.heap L ∧ CHr Z EL0 U.vm U.heap U'.vm U'.heap ∧ ReturnedEndW U o U' L 24 1152) := by
 refine MetFree.of_bodySF (plainFor_of_name pn_0) hisR ?_
 intro p e s m args below meth c s₁ Bd hml0 hP hK
 obtain ⟨rfl, hZ, hh, hCH⟩ := hP
 have hx := Bd.exec
 have hby := Bd.bytes
 have hml : c.maxLocals = 13 := hml0
 have hown : s.vm.findClass "com/example/lease/lease/RoleNamedPinLaw" = some m.cls := findClass_of_methodNamed Bd.named
 have hnm := (name_of_methodNamed Bd.named Bd.method).1
 have X0 : Stand p l e room_1 (s.setVm s.vm) m #[(.int p0), (.int p1), (.int p2), (.int p3)] below meth c s₁ [] 0 0 := Stand.of_body Bd
 have e0 : s₁.heap = h0 := by rw [← hh, Bd.state]; rfl
 have N0 := Fr.nil n0
 have Z0 : n0 ≤ h0.size := Nat.le_trans (Nat.le_of_eq O0.1.symm) O0.2.1
 obtain ⟨S0, hS0⟩ : ∃ z, z = s₁.setTop (entryFrame m #[(.int p0), (.int p1), (.int p2), (.int p3)] maxLocals) := ⟨_, rfl⟩
 have pre0 : ∀ tg, AT p e below s₁ m 0 #[iv p0, iv p1, iv p2, iv p3, un, un, un, un, un, un, un, un, un] [] tg → Steps p.tables e below S0 tg := fun tg kg => by rw [hS0]; exact castTop (ef_0 m p0 p1 p2 p3) kg
 have hS : s.Since s.vm 0 := (State.WarmedH.refl s).since 0
 have hk : 0 ≤ h0.size := Nat.zero_le _
 have CR0 : CHr Z EL0 s.vm h0 s.vm h0 := CHr.refl hCH
 obtain ⟨S_COMPACT_STRINGS, hz_w_CS0, S_SIOOBE_FORMATTER, ir_w_SF1, S_PRODUCER, E_PRODUCER, S__VALUES, E__VALUES, S_WORKER, E_WORKER, S_OPERATOR, E_OPERATOR, S_ADMIN, E_ADMIN, F_shown_PRODUCER, E_PRODUCER_shown, F_coder_PRODUCER_shown, F_value_PRODUCER_shown, F_shown_WORKER, E_WORKER_shown, F_coder_WORKER_shown, F_value_WORKER_shown, F_shown_OPERATOR, E_OPERATOR_shown, F_coder_OPERATOR_shown, F_value_OPERATOR_shown, F_shown_ADMIN, E_ADMIN_shown, F_coder_ADMIN_shown, F_value_ADMIN_shown, V__VALUES, V_PRODUCER_shown_value, V_WORKER_shown_value, V_OPERATOR_shown_value, V_ADMIN_shown_value⟩ := id HW
 have pre1 : ∀ tg, AT p e below s₁ m 13 #[iv p0, iv p1, iv p2, iv p3, iv (p0 &&& (3 : Int32)), iv (((p0.toUInt32 >>> ((2 : Int32) &&& 31).toUInt32).toInt32) &&& (7 : Int32)), un, un, un, un, un, un, un] [] tg → Steps p.tables e below S0 tg := fun tg kg => pre0 tg (by
  refine XS.iloadN X0.here hx rfl (hb hby at_0) rfl ?_
  refine XS.iconst X0.here hx rfl (hb hby at_1) ?_
  refine XS.iand X0.here hx rfl (hb hby at_2) rfl ?_
  refine XS.istore X0.here hx rfl (hb hby at_3) rfl (l' := #[iv p0, iv p1, iv p2, iv p3, iv (p0 &&& (3 : Int32)), un, un, un, un, un, un, un, un]) rfl ?_
  refine XS.iloadN X0.here hx rfl (hb hby at_5) rfl ?_
  refine XS.iconst X0.here hx rfl (hb hby at_6) ?_
  refine XS.iushr X0.here hx rfl (hb hby at_7) rfl ?_
  refine XS.bipush X0.here hx rfl (hb hby at_8) ?_
  refine XS.iand X0.here hx rfl (hb hby at_10) rfl ?_
  refine XS.istore X0.here hx rfl (hb hby at_11) rfl (l' := #[iv p0, iv p1, iv p2, iv p3, iv (p0 &&& (3 : Int32)), iv (((p0.toUInt32 >>> ((2 : Int32) &&& 31).toUInt32).toInt32) &&& (7 : Int32)), un, un, un, un, un, un, un]) rfl ?_
  exact kg)
 obtain ⟨md, hmd⟩ : ∃ z, z = (((p0.toUInt32 >>> ((2 : Int32) &&& 31).toUInt32).toInt32) &&& (7 : Int32)) := ⟨_, rfl⟩
 have pre2 : ∀ tg, AT p e below s₁ m 13 #[iv p0, iv p1, iv p2, iv p3, iv (p0 &&& (3 : Int32)), iv md, un, un, un, un, un, un, un] [] tg → Steps p.tables e below S0 tg := by rw [hmd]; exact pre1
 rcases Decidable.em ((1 : Int32) < md) with hc3 | hc3
 ·
  rcases Decidable.em ((3 : Int32) < md) with hc4 | hc4
  ·
   rcases Decidable.em ((5 : Int32) < md) with hc5 | hc5
   ·
    have pre6 : ∀ tg, AT p e below s₁ m 15 #[iv p0, iv p1, iv p2, iv p3, iv (p0 &&& (3 : Int32)), iv md, un, un, un, un, un, un, un] [(.int (p0 &&& (3 : Int32)))] tg → Steps p.tables e below S0 tg := fun tg kg => pre2 tg (by
     refine XS.iload X0.here hx rfl (hb hby at_13) rfl ?_
     exact kg)
    obtain ⟨iz, hiz⟩ : ∃ z, z = (p0 &&& (3 : Int32)) := ⟨_, rfl⟩
    have pre7 : ∀ tg, AT p e below s₁ m 15 #[iv p0, iv p1, iv p2, iv p3, iv iz, iv md, un, un, un, un, un, un, un] [(.int iz)] tg → Steps p.tables e below S0 tg := by rw [hiz]; exact pre6
    obtain ⟨_, _, ⟨T8, L8, k8, n8⟩, -, X8, ⟨Lc8, hQ8, l8, y8, z8⟩, st8⟩ := Jvm.LawKit.callS X0 hx (y := y1) hown (mvT hZ (ow hw 0 rfl)) (mvT hZ (ow hw 1 rfl)) (mvT hZ (ow hw 2 rfl)) (mvT hZ (ow hw 3 rfl)) (by decide) (backOf (W := 0) (rm1 l Z ar hw [] iz w_CS0 w_SF1 w_PRODUCER w__VALUES w_WORKER w_OPERATOR w_ADMIN w_PRODUCER_shown w_PRODUCER_shown_value w_WORKER_shown w_WORKER_shown_value w_OPERATOR_shown w_OPERATOR_shown_value w_ADMIN_shown w_ADMIN_shown_value k__VALUES k_PRODUCER_shown_value k_WORKER_shown_value k_OPERATOR_shown_value k_ADMIN_shown_value h0 n0 O0 HW) hZ (ow hw 3 rfl) (ow hw 2 rfl) (by decide) (by decide)) (g := (mkF m 15 #[iv p0, iv p1, iv p2, iv p3, iv iz, iv md, un, un, un, un, un, un, un] [(.int iz)])) rfl (by rw [hml]; rfl) (argsL := [(.int iz)]) (rest := []) (lenOf pd_3 rfl) rfl (by show 2 * 0 + _ ≤ _; exact Nat.le_of_eq rfl) (hb hby at_15) (fun _ _ => ⟨rfl, e0, (by decide : 0 + 0 ≤ _), (by decide : 0 + 0 ≤ _)⟩)
    dsimp only [Pt.U, Pt.locs, Pt.cells, Pt.slots] at X8 l8 y8 z8 st8 hQ8
    subst l8 y8 z8
    obtain ⟨rfl, N8q, e8⟩ := hQ8
    have N8 := Fr.app N0 N8q
    obtain ⟨_, _, ⟨T9, L9, k9, n9⟩, -, X9, ⟨Lc9, hQ9, l9, y9, z9⟩, st9⟩ := Jvm.LawKit.callS X8 hx (y := y2) hown (mvT hZ (ow hw 7 rfl)) (mvT hZ (ow hw 8 rfl)) (mvT hZ (ow hw 2 rfl)) (mvT hZ (ow hw 9 rfl)) (by decide) (backOf (W := 0) (rm2x l Z ar hw [] iz h0 n0 O0) hZ (ow hw 9 rfl) (ow hw 2 rfl) (by decide) (by decide)) (g := (mkF m 22 #[iv p0, iv p1, iv p2, iv p3, iv iz, iv md, rv (f1 iz w_PRODUCER w_WORKER w_OPERATOR w_ADMIN), un, un, un, un, un, un] [(.int iz)])) rfl (by rw [hml]; rfl) (argsL := [(.int iz)]) (rest := []) (lenOf pd_4 rfl) rfl (by show 2 * 0 + _ ≤ _; exact Nat.le_of_eq rfl) (hb hby at_22) (fun _ _ => ⟨rfl, e8, (by decide : 0 + 1 ≤ _), (by decide : 0 + 8 ≤ _)⟩)
    dsimp only [Pt.U, Pt.locs, Pt.cells, Pt.slots] at X9 l9 y9 z9 st9 hQ9
    subst l9 y9 z9
    obtain ⟨b_9, rfl, N9q, Kq9, u9_0, u9_1⟩ := hQ9
    have N9 := Fr.app N8 N9q
    have K9 := (Keep.refl h0 []).trans Kq9 all0
    have O9 := O0.keep Kq9 all0
    have CR9 : CHr Z EL0 s.vm h0 s.vm T9.heap := CR0.trans (CHr.keep Kq9 all0 CR0.1)
    have hk := Nat.le_trans hk Kq9.1
    have sz10 : h0.size ≤ b_9 := Nat.le_trans (Keep.refl h0 []).1 u9_0
    have gn10 : n0 ≤ b_9 := Nat.le_trans (Nat.le_trans (Nat.le_of_eq O0.1.symm) O0.2.1) u9_0
    have Sn10 : Safe Z EL0 s.vm T9.heap b_9 := Safe.keep Kq9 all0 CR0.1 (Safe.new u9_0)
    obtain ⟨_, _, ⟨T11, L11, k11, n11⟩, -, X11, ⟨Lc11, hQ11, l11, y11, z11⟩, st11⟩ := Jvm.LawKit.callS X9 hx (y := y9) hown (mvT hZ (ow hw 40 rfl)) (mvT hZ (ow hw 41 rfl)) (mvT hZ (ow hw 5 rfl)) (mvT hZ (ow hw 42 rfl)) (by decide) (backOf (W := 0) (rm9n l Z ar hw [] w_CS0 w_SF1 w_PRODUCER w__VALUES w_WORKER w_OPERATOR w_ADMIN w_PRODUCER_shown w_PRODUCER_shown_value w_WORKER_shown w_WORKER_shown_value w_OPERATOR_shown w_OPERATOR_shown_value w_ADMIN_shown w_ADMIN_shown_value k__VALUES k_PRODUCER_shown_value k_WORKER_shown_value k_OPERATOR_shown_value k_ADMIN_shown_value T9.heap n0 O9 HW) hZ (ow hw 42 rfl) (ow hw 5 rfl) (by decide) (by decide)) (g := (mkF m 240 #[iv p0, iv p1, iv p2, iv p3, iv iz, iv md, rv (f1 iz w_PRODUCER w_WORKER w_OPERATOR w_ADMIN), rv b_9, .val .null, .val .null, un, un, un] [.null])) rfl (by rw [hml]; rfl) (argsL := [.null]) (rest := []) (lenOf pd_5 rfl) rfl (by show 2 * 0 + _ ≤ _; exact Nat.le_of_eq rfl) (hb hby at_240) (fun _ _ => ⟨rfl, rfl, (by decide : 1 + 1 ≤ _), (by decide : 8 + 4 ≤ _)⟩)
    dsimp only [Pt.U, Pt.locs, Pt.cells, Pt.slots] at X11 l11 y11 z11 st11 hQ11
    subst l11 y11 z11
    obtain ⟨rfl, N11q, Kq11⟩ := hQ11
    have N11 := Fr.app N9 N11q
    have E11_12 := u9_1.keep Kq11
    have K11 := K9.trans Kq11 all0
    have O11 := O9.keep Kq11 all0
    have Sf11_b_9 := Safe.keep Kq11 all0 CR9.1 Sn10
    have CR11 : CHr Z EL0 s.vm h0 s.vm T11.heap := CR9.trans (CHr.keep Kq11 all0 CR9.1)
    have hk := Nat.le_trans hk Kq11.1
    obtain ⟨fs, hr, hrun, hended, hRE⟩ := X11.leaveW hS hk (v := some (.int (1 : Int32))) (fun h => by rw [Bd.returns] at h; cases h)
    have CRf : CHr Z EL0 s.vm s.heap (T11.setFrames fs).vm (T11.setFrames fs).heap := by
      show CHr Z EL0 s.vm s.heap T11.vm T11.heap
      rw [hh]
      exact CR11.trans (CHv.at X11 hZ hEL CR11.1)
    subst hS0
    refine ⟨_, _, pre7 _ ?_, hrun, hended, _, _, rfl, ?_, CRf, hRE.1, hRE.2.1, hRE.2.2.1, hRE.2.2.2.mono (by decide) (by decide)⟩
    ·
     refine st8 _ ?_
     refine XS.astore X8.here hx rfl (hb hby at_18) rfl rfl (l' := #[iv p0, iv p1, iv p2, iv p3, iv iz, iv md, rv (f1 iz w_PRODUCER w_WORKER w_OPERATOR w_ADMIN), un, un, un, un, un, un]) rfl ?_
     refine XS.iload X8.here hx rfl (hb hby at_20) rfl ?_
     refine st9 _ ?_
     refine XS.astore X9.here hx rfl (hb hby at_25) rfl rfl (l' := #[iv p0, iv p1, iv p2, iv p3, iv iz, iv md, rv (f1 iz w_PRODUCER w_WORKER w_OPERATOR w_ADMIN), rv b_9, un, un, un, un, un]) rfl ?_
     refine XS.iload X9.here hx rfl (hb hby at_27) rfl ?_
     refine XS.iconst X9.here hx rfl (hb hby at_29) ?_
     show AT p e below T9 m 30 #[iv p0, iv p1, iv p2, iv p3, iv iz, iv md, rv (f1 iz w_PRODUCER w_WORKER w_OPERATOR w_ADMIN), rv b_9, un, un, un, un, un] [(.int (1 : Int32)), (.int md)] _
     refine XS.icmpYes X9.here hx rfl (pc0 := 30) (pc' := 51) rfl (hb hby at_30) rfl (XT.ii_gt_t (hc3 : (1 : Int32) < md)) (by decide) (by decide) ?_
     refine XS.iload X9.here hx rfl (hb hby at_51) rfl ?_
     refine XS.iconst X9.here hx rfl (hb hby at_53) ?_
     show AT p e below T9 m 54 #[iv p0, iv p1, iv p2, iv p3, iv iz, iv md, rv (f1 iz w_PRODUCER w_WORKER w_OPERATOR w_ADMIN), rv b_9, un, un, un, un, un] [(.int (3 : Int32)), (.int md)] _
     refine XS.icmpYes X9.here hx rfl (pc0 := 54) (pc' := 126) rfl (hb hby at_54) rfl (XT.ii_gt_t (hc4 : (3 : Int32) < md)) (by decide) (by decide) ?_
     refine XS.iload X9.here hx rfl (hb hby at_126) rfl ?_
     refine XS.iconst X9.here hx rfl (hb hby at_128) ?_
     show AT p e below T9 m 129 #[iv p0, iv p1, iv p2, iv p3, iv iz, iv md, rv (f1 iz w_PRODUCER w_WORKER w_OPERATOR w_ADMIN), rv b_9, un, un, un, un, un] [(.int (5 : Int32)), (.int md)] _
     refine XS.icmpYes X9.here hx rfl (pc0 := 129) (pc' := 232) rfl (hb hby at_129) rfl (XT.ii_gt_t (hc5 : (5 : Int32) < md)) (by decide) (by decide) ?_
     refine XS.aconstNull X9.here hx rfl (hb hby at_232) ?_
     refine XS.astore X9.here hx rfl (hb hby at_233) rfl rfl (l' := #[iv p0, iv p1, iv p2, iv p3, iv iz, iv md, rv (f1 iz w_PRODUCER w_WORKER w_OPERATOR w_ADMIN), rv b_9, .val .null, un, un, un, un]) rfl ?_
     refine XS.aconstNull X9.here hx rfl (hb hby at_235) ?_
     refine XS.astore X9.here hx rfl (hb hby at_236) rfl rfl (l' := #[iv p0, iv p1, iv p2, iv p3, iv iz, iv md, rv (f1 iz w_PRODUCER w_WORKER w_OPERATOR w_ADMIN), rv b_9, .val .null, .val .null, un, un, un]) rfl ?_
     refine XS.aload X9.here hx rfl (hb hby at_238) rfl rfl ?_
     show AT p e below T9 m 240 #[iv p0, iv p1, iv p2, iv p3, iv iz, iv md, rv (f1 iz w_PRODUCER w_WORKER w_OPERATOR w_ADMIN), rv b_9, .val .null, .val .null, un, un, un] [.null] _
     refine st11 _ ?_
     refine XS.aload X11.here hx rfl (hb hby at_243) rfl rfl ?_
     show AT p e below T11 m 245 #[iv p0, iv p1, iv p2, iv p3, iv iz, iv md, rv (f1 iz w_PRODUCER w_WORKER w_OPERATOR w_ADMIN), rv b_9, .val .null, .val .null, un, un, un] [.null, .null] _
     refine Jvm.RoadKit.acmp (g := (mkF m 245 #[iv p0, iv p1, iv p2, iv p3, iv iz, iv md, rv (f1 iz w_PRODUCER w_WORKER w_OPERATOR w_ADMIN), rv b_9, .val .null, .val .null, un, un, un] [.null, .null])) X11 hx rfl rfl rfl (pc0 := 245) (pc' := 248) (same := true) rfl (hb hby at_245) rfl (decide_eq_true rfl) (by decide) (by decide) ?_
     refine XS.iconst X11.here hx rfl (hb hby at_248) ?_
     refine XS.goto X11.here hx rfl (pc0 := 249) (pc' := 253) rfl (hb hby at_249) (by decide) (by decide) ?_
     exact retN X11 hx (t := .boolean) Bd.returns (by simp) (hb hby at_253) hr
    ·
     show Q0 Z p0 p1 p2 p3 w_CS0 w_SF1 w_PRODUCER w__VALUES w_WORKER w_OPERATOR w_ADMIN w_PRODUCER_shown w_PRODUCER_shown_value w_WORKER_shown w_WORKER_shown_value w_OPERATOR_shown w_OPERATOR_shown_value w_ADMIN_shown w_ADMIN_shown_value k__VALUES k_PRODUCER_shown_value k_WORKER_shown_value k_OPERATOR_shown_value k_ADMIN_shown_value h0 n0 _ T11.heap _
     exact ⟨rfl, N11⟩
   ·
    have pre13 : ∀ tg, AT p e below s₁ m 15 #[iv p0, iv p1, iv p2, iv p3, iv (p0 &&& (3 : Int32)), iv md, un, un, un, un, un, un, un] [(.int (p0 &&& (3 : Int32)))] tg → Steps p.tables e below S0 tg := fun tg kg => pre2 tg (by
     refine XS.iload X0.here hx rfl (hb hby at_13) rfl ?_
     exact kg)
    obtain ⟨iz, hiz⟩ : ∃ z, z = (p0 &&& (3 : Int32)) := ⟨_, rfl⟩
    have pre14 : ∀ tg, AT p e below s₁ m 15 #[iv p0, iv p1, iv p2, iv p3, iv iz, iv md, un, un, un, un, un, un, un] [(.int iz)] tg → Steps p.tables e below S0 tg := by rw [hiz]; exact pre13
    obtain ⟨_, _, ⟨T15, L15, k15, n15⟩, -, X15, ⟨Lc15, hQ15, l15, y15, z15⟩, st15⟩ := Jvm.LawKit.callS X0 hx (y := y1) hown (mvT hZ (ow hw 0 rfl)) (mvT hZ (ow hw 1 rfl)) (mvT hZ (ow hw 2 rfl)) (mvT hZ (ow hw 3 rfl)) (by decide) (backOf (W := 0) (rm1 l Z ar hw [] iz w_CS0 w_SF1 w_PRODUCER w__VALUES w_WORKER w_OPERATOR w_ADMIN w_PRODUCER_shown w_PRODUCER_shown_value w_WORKER_shown w_WORKER_shown_value w_OPERATOR_shown w_OPERATOR_shown_value w_ADMIN_shown w_ADMIN_shown_value k__VALUES k_PRODUCER_shown_value k_WORKER_shown_value k_OPERATOR_shown_value k_ADMIN_shown_value h0 n0 O0 HW) hZ (ow hw 3 rfl) (ow hw 2 rfl) (by decide) (by decide)) (g := (mkF m 15 #[iv p0, iv p1, iv p2, iv p3, iv iz, iv md, un, un, un, un, un, un, un] [(.int iz)])) rfl (by rw [hml]; rfl) (argsL := [(.int iz)]) (rest := []) (lenOf pd_3 rfl) rfl (by show 2 * 0 + _ ≤ _; exact Nat.le_of_eq rfl) (hb hby at_15) (fun _ _ => ⟨rfl, e0, (by decide : 0 + 0 ≤ _), (by decide : 0 + 0 ≤ _)⟩)
    dsimp only [Pt.U, Pt.locs, Pt.cells, Pt.slots] at X15 l15 y15 z15 st15 hQ15
    subst l15 y15 z15
    obtain ⟨rfl, N15q, e15⟩ := hQ15
    have N15 := Fr.app N0 N15q
    obtain ⟨_, _, ⟨T16, L16, k16, n16⟩, -, X16, ⟨Lc16, hQ16, l16, y16, z16⟩, st16⟩ := Jvm.LawKit.callS X15 hx (y := y2) hown (mvT hZ (ow hw 7 rfl)) (mvT hZ (ow hw 8 rfl)) (mvT hZ (ow hw 2 rfl)) (mvT hZ (ow hw 9 rfl)) (by decide) (backOf (W := 0) (rm2x l Z ar hw [] iz h0 n0 O0) hZ (ow hw 9 rfl) (ow hw 2 rfl) (by decide) (by decide)) (g := (mkF m 22 #[iv p0, iv p1, iv p2, iv p3, iv iz, iv md, rv (f1 iz w_PRODUCER w_WORKER w_OPERATOR w_ADMIN), un, un, un, un, un, un] [(.int iz)])) rfl (by rw [hml]; rfl) (argsL := [(.int iz)]) (rest := []) (lenOf pd_4 rfl) rfl (by show 2 * 0 + _ ≤ _; exact Nat.le_of_eq rfl) (hb hby at_22) (fun _ _ => ⟨rfl, e15, (by decide : 0 + 1 ≤ _), (by decide : 0 + 8 ≤ _)⟩)
    dsimp only [Pt.U, Pt.locs, Pt.cells, Pt.slots] at X16 l16 y16 z16 st16 hQ16
    subst l16 y16 z16
    obtain ⟨b_16, rfl, N16q, Kq16, u16_0, u16_1⟩ := hQ16
    have N16 := Fr.app N15 N16q
    have K16 := (Keep.refl h0 []).trans Kq16 all0
    have O16 := O0.keep Kq16 all0
    have CR16 : CHr Z EL0 s.vm h0 s.vm T16.heap := CR0.trans (CHr.keep Kq16 all0 CR0.1)
    have hk := Nat.le_trans hk Kq16.1
    have sz17 : h0.size ≤ b_16 := Nat.le_trans (Keep.refl h0 []).1 u16_0
    have gn17 : n0 ≤ b_16 := Nat.le_trans (Nat.le_trans (Nat.le_of_eq O0.1.symm) O0.2.1) u16_0
    have Sn17 : Safe Z EL0 s.vm T16.heap b_16 := Safe.keep Kq16 all0 CR0.1 (Safe.new u16_0)
    have pre18 : ∀ tg, AT p e below T16 m 140 #[iv p0, iv p1, iv p2, iv p3, iv iz, iv md, rv (f1 iz w_PRODUCER w_WORKER w_OPERATOR w_ADMIN), rv b_16, un, un, iv ((p1 &&& (2147483647 : Int32)) % (5 : Int32)), un, un] [] tg → Steps p.tables e below S0 tg := fun tg kg => pre14 tg (by
     refine st15 _ ?_
     refine XS.astore X15.here hx rfl (hb hby at_18) rfl rfl (l' := #[iv p0, iv p1, iv p2, iv p3, iv iz, iv md, rv (f1 iz w_PRODUCER w_WORKER w_OPERATOR w_ADMIN), un, un, un, un, un, un]) rfl ?_
     refine XS.iload X15.here hx rfl (hb hby at_20) rfl ?_
     refine st16 _ ?_
     refine XS.astore X16.here hx rfl (hb hby at_25) rfl rfl (l' := #[iv p0, iv p1, iv p2, iv p3, iv iz, iv md, rv (f1 iz w_PRODUCER w_WORKER w_OPERATOR w_ADMIN), rv b_16, un, un, un, un, un]) rfl ?_
     refine XS.iload X16.here hx rfl (hb hby at_27) rfl ?_
     refine XS.iconst X16.here hx rfl (hb hby at_29) ?_
     show AT p e below T16 m 30 #[iv p0, iv p1, iv p2, iv p3, iv iz, iv md, rv (f1 iz w_PRODUCER w_WORKER w_OPERATOR w_ADMIN), rv b_16, un, un, un, un, un] [(.int (1 : Int32)), (.int md)] _
     refine XS.icmpYes X16.here hx rfl (pc0 := 30) (pc' := 51) rfl (hb hby at_30) rfl (XT.ii_gt_t (hc3 : (1 : Int32) < md)) (by decide) (by decide) ?_
     refine XS.iload X16.here hx rfl (hb hby at_51) rfl ?_
     refine XS.iconst X16.here hx rfl (hb hby at_53) ?_
     show AT p e below T16 m 54 #[iv p0, iv p1, iv p2, iv p3, iv iz, iv md, rv (f1 iz w_PRODUCER w_WORKER w_OPERATOR w_ADMIN), rv b_16, un, un, un, un, un] [(.int (3 : Int32)), (.int md)] _
     refine XS.icmpYes X16.here hx rfl (pc0 := 54) (pc' := 126) rfl (hb hby at_54) rfl (XT.ii_gt_t (hc4 : (3 : Int32) < md)) (by decide) (by decide) ?_
     refine XS.iload X16.here hx rfl (hb hby at_126) rfl ?_
     refine XS.iconst X16.here hx rfl (hb hby at_128) ?_
     show AT p e below T16 m 129 #[iv p0, iv p1, iv p2, iv p3, iv iz, iv md, rv (f1 iz w_PRODUCER w_WORKER w_OPERATOR w_ADMIN), rv b_16, un, un, un, un, un] [(.int (5 : Int32)), (.int md)] _
     refine XS.icmpNo X16.here hx rfl (hb hby at_129) rfl (XT.ii_gt_f (hc5 : ¬ ((5 : Int32) < md))) ?_
     refine XS.iloadN X16.here hx rfl (hb hby at_132) rfl ?_
     refine X16.ldcInt hx hown (mvT hZ (ow hw 73 rfl)) (g := (mkF m 133 #[iv p0, iv p1, iv p2, iv p3, iv iz, iv md, rv (f1 iz w_PRODUCER w_WORKER w_OPERATOR w_ADMIN), rv b_16, un, un, un, un, un] [(.int p1)])) rfl (hb hby at_133) _ ?_
     refine XS.iand X16.here hx rfl (hb hby at_135) rfl ?_
     refine XS.iconst X16.here hx rfl (hb hby at_136) ?_
     refine iremM X16 hx rfl (hb hby at_137) rfl (by decide) ?_
     show AT p e below T16 m 138 #[iv p0, iv p1, iv p2, iv p3, iv iz, iv md, rv (f1 iz w_PRODUCER w_WORKER w_OPERATOR w_ADMIN), rv b_16, un, un, un, un, un] [(.int ((p1 &&& (2147483647 : Int32)) % (5 : Int32)))] _
     refine XS.istore X16.here hx rfl (hb hby at_138) rfl (l' := #[iv p0, iv p1, iv p2, iv p3, iv iz, iv md, rv (f1 iz w_PRODUCER w_WORKER w_OPERATOR w_ADMIN), rv b_16, un, un, iv ((p1 &&& (2147483647 : Int32)) % (5 : Int32)), un, un]) rfl ?_
     exact kg)
    obtain ⟨nz, hnz⟩ : ∃ z, z = ((p1 &&& (2147483647 : Int32)) % (5 : Int32)) := ⟨_, rfl⟩
    have pre19 : ∀ tg, AT p e below T16 m 140 #[iv p0, iv p1, iv p2, iv p3, iv iz, iv md, rv (f1 iz w_PRODUCER w_WORKER w_OPERATOR w_ADMIN), rv b_16, un, un, iv nz, un, un] [] tg → Steps p.tables e below S0 tg := by rw [hnz]; exact pre18
    have hsnz : nz = (0 : Int32) ∨ nz = (1 : Int32) ∨ nz = (2 : Int32) ∨ nz = (3 : Int32) ∨ nz = (4 : Int32) := by rw [hnz]; exact own_m5 p1
    rcases hsnz with rfl | rfl | rfl | rfl | rfl
    ·
     obtain ⟨T20, h20, k20, X20, e20, E20, A20, B20, st20⟩ := newPE X16 hx hZ (ow hw 10 rfl) rfl (g := (mkF m 142 #[iv p0, iv p1, iv p2, iv p3, iv iz, iv md, rv (f1 iz w_PRODUCER w_WORKER w_OPERATOR w_ADMIN), rv b_16, un, un, iv (0 : Int32), un, un] [(.int (0 : Int32))])) rfl (hb hby at_142) rfl (by decide) (cap := 0) (by decide) (by decide) (by decide) (by decide) (ad := "[C") (by decide)
     obtain ⟨b20, g20⟩ : ∃ z, z = T16.heap.size := ⟨_, rfl⟩
     rw [← g20] at A20 B20 st20
     have ne20_21 : b_16 ≠ b20 := Nat.ne_of_lt (Nat.lt_of_lt_of_le (u16_1).lt (Nat.le_of_eq g20.symm))
     have gn20 : n0 ≤ b20 := Nat.le_trans (Nat.le_trans (Nat.le_of_eq O16.1.symm) O16.2.1) (Nat.le_of_eq g20.symm)
     have sz20 : h0.size ≤ b20 := Nat.le_trans K16.1 (Nat.le_of_eq g20.symm)
     have Sn20 : Safe Z EL0 s.vm T16.heap b20 := Safe.new (Nat.le_of_eq g20.symm)
     have E20_22 := u16_1.ext E20
     have K20 := K16.ext E20
     have O20 := O16.ext E20
     have Sf20_b_16 := Safe.ext E20 CR16.1 Sn17
     have Sf20_b20 := Safe.ext E20 CR16.1 Sn20
     have CR20 : CHr Z EL0 s.vm h0 s.vm h20 := CR16.trans (CHr.ext E20 CR16.1)
     have hk := Nat.le_trans hk E20.1
     have V20_23 : Arv Z h20 b20 k20 .char (0 : Int32) [] (.int (0 : Int32)) := (Arv.new A20 (by decide))
     obtain ⟨T24, h24, X24, e24, E24, A24, D24, -, st24⟩ := newO X20 hx hZ hown (ow hw 11 rfl) (ow hw 12 rfl) (ow hw 13 rfl) e20 (g := (mkF m 215 #[iv p0, iv p1, iv p2, iv p3, iv iz, iv md, rv (f1 iz w_PRODUCER w_WORKER w_OPERATOR w_ADMIN), rv b_16, un, un, iv (0 : Int32), rv b20, un] [])) rfl (hb hby at_215) (by decide) (by decide)
     obtain ⟨b24, g24⟩ : ∃ z, z = h20.size := ⟨_, rfl⟩
     rw [← g24] at A24 D24 st24
     have ne24_25 : b_16 ≠ b24 := Nat.ne_of_lt (Nat.lt_of_lt_of_le (E20_22).lt (Nat.le_of_eq g24.symm))
     have ne24_26 : b20 ≠ b24 := Nat.ne_of_lt (Nat.lt_of_lt_of_le (V20_23).lt (Nat.le_of_eq g24.symm))
     have gn24 : n0 ≤ b24 := Nat.le_trans (Nat.le_trans (Nat.le_of_eq O20.1.symm) O20.2.1) (Nat.le_of_eq g24.symm)
     have sz24 : h0.size ≤ b24 := Nat.le_trans K20.1 (Nat.le_of_eq g24.symm)
     have Sn24 : Safe Z EL0 s.vm h20 b24 := Safe.new (Nat.le_of_eq g24.symm)
     have E24_27 := E20_22.ext E24
     have V24_28 := V20_23.ext E24
     have E24_29 := B20.ext E24
     have K24 := K20.ext E24
     have O24 := O20.ext E24
     have Sf24_b_16 := Safe.ext E24 CR20.1 Sf20_b_16
     have Sf24_b20 := Safe.ext E24 CR20.1 Sf20_b20
     have Sf24_b24 := Safe.ext E24 CR20.1 Sn24
     have CR24 : CHr Z EL0 s.vm h0 s.vm h24 := CR20.trans (CHr.ext E24 CR20.1)
     have hk := Nat.le_trans hk E24.1
     have F24_30 : Fld Z h24 b24 "java/lang/String" "coder" "B" (.int (0 : Int32)) := D24 (Or.inr (ow hw 37 rfl)) (ty := .byte) (by decide)
     have F24_31 : Fld Z h24 b24 "java/lang/String" "value" "[B" .null := D24 (Or.inr (ow hw 39 rfl)) (ty := (.array .byte)) (by decide)
     obtain ⟨_, _, ⟨T32, L32, k32, n32⟩, -, X32, hS32, hg32, ⟨Lc32, hQ32, l32, y32, z32, CRq32⟩, st32⟩ := X24.specialBackS hx (y := y3) rfl hown (mvT hZ (ow hw 14 rfl)) (mvT hZ (ow hw 15 rfl)) (mvT hZ (ow hw 16 rfl)) (by decide) (backOfSH (W := 1) (rm3_0 l Z ar hw [] b24 b20 k20 h24 n0 O24 hEL A24 F24_31 F24_30 gn24 V24_28 (Ne.symm ne24_26)) hZ (ow hw 16 rfl) (ow hw 13 rfl) (by decide) (by decide) hEL CR24.1) (g := (mkF m 221 #[iv p0, iv p1, iv p2, iv p3, iv iz, iv md, rv (f1 iz w_PRODUCER w_WORKER w_OPERATOR w_ADMIN), rv b_16, un, un, iv (0 : Int32), rv b20, un] [(.ref b20), (.ref b24), (.ref b24)])) rfl (by rw [hml]; rfl) (Steps.refl _) (a := b24) (argsL := [(.ref b20)]) (rest := [(.ref b24)]) (lenOf pd_7 rfl) rfl (by show 2 * 0 + _ ≤ _; exact Nat.le_of_eq rfl) (hb hby at_221) (fun _ _ => ⟨rfl, e24, (by decide : 3 + 4 ≤ _), (by decide : 12 + 8 ≤ _)⟩)
     dsimp only [Pt.U, Pt.locs, Pt.cells, Pt.slots] at X32 l32 y32 z32 st32 hQ32 hS32 hg32 CRq32
     subst l32 y32 z32
     obtain ⟨X32, hS, hZ, hown⟩ := rebS hS (by rw [e24]; exact hk) X32 hS32 hg32 hZ hown
     have CR32 : CHr Z EL0 s.vm h0 T32.vm T32.heap := CR24.trans CRq32
     obtain ⟨b_32, kb_32, rfl, N32q, Kq32, u32_0, u32_1, u32_2, u32_3⟩ := hQ32
     have N32 := Fr.app N16 N32q
     have E32_33 := E24_27.keep Kq32
     have V32_34 := V24_28.keep Kq32 (ninS ne24_26 nin0)
     have E32_35 := E24_29.keep Kq32
     have E32_36 := A24.keep Kq32
     have Sf32_b_16 := CRq32.safe (E24_27).lt Sf24_b_16
     have Sf32_b20 := CRq32.safe (V24_28).lt Sf24_b20
     have Sf32_b24 := CRq32.safe (A24).lt Sf24_b24
     have K32 := K24.trans Kq32 (allS (Or.inr sz24) all0)
     have O32 := O24.keep Kq32 (allS gn24 all0)
     have hk := Nat.le_trans hk Kq32.1
     have hk := Nat.le_refl (Array.size T32.heap)
     obtain ⟨_, _, ⟨T37, L37, k37, n37⟩, -, X37, ⟨Lc37, hQ37, l37, y37, z37⟩, st37⟩ := Jvm.LawKit.callS X32 hx (y := y9) hown (mvT hZ (ow hw 40 rfl)) (mvT hZ (ow hw 41 rfl)) (mvT hZ (ow hw 5 rfl)) (mvT hZ (ow hw 42 rfl)) (by decide) (backOf (W := 0) (rm9x l Z ar hw [] b24 w_CS0 w_SF1 w_PRODUCER w__VALUES w_WORKER w_OPERATOR w_ADMIN w_PRODUCER_shown w_PRODUCER_shown_value w_WORKER_shown w_WORKER_shown_value w_OPERATOR_shown w_OPERATOR_shown_value w_ADMIN_shown w_ADMIN_shown_value k__VALUES k_PRODUCER_shown_value k_WORKER_shown_value k_OPERATOR_shown_value k_ADMIN_shown_value b_32 kb_32 (0 : Int32) [] T32.heap n0 O32 HW E32_36 u32_1 u32_2 u32_3 gn24 (by decide) (by decide) (by decide)) hZ (ow hw 42 rfl) (ow hw 5 rfl) (by decide) (by decide)) (g := (mkF m 240 #[iv p0, iv p1, iv p2, iv p3, iv iz, iv md, rv (f1 iz w_PRODUCER w_WORKER w_OPERATOR w_ADMIN), rv b_16, rv b24, .val .null, iv (0 : Int32), rv b20, un] [(.ref b24)])) rfl (by rw [hml]; rfl) (argsL := [(.ref b24)]) (rest := []) (lenOf pd_5 rfl) rfl (by show 2 * 0 + _ ≤ _; exact Nat.le_of_eq rfl) (hb hby at_240) (fun _ _ => ⟨rfl, rfl, (by decide : 7 + 1 ≤ _), (by decide : 20 + 4 ≤ _)⟩)
     dsimp only [Pt.U, Pt.locs, Pt.cells, Pt.slots] at X37 l37 y37 z37 st37 hQ37
     subst l37 y37 z37
     obtain ⟨rfl, N37q, Kq37⟩ := hQ37
     have N37 := Fr.app N32 N37q
     have E37_38 := E32_33.keep Kq37
     have V37_39 := V32_34.keep Kq37 nin0
     have E37_40 := E32_35.keep Kq37
     have E37_41 := E32_36.keep Kq37
     have F37_42 := u32_1.keep Kq37 nin0
     have F37_43 := u32_2.keep Kq37 nin0
     have V37_44 := u32_3.keep Kq37 nin0
     have K37 := K32.trans Kq37 all0
     have O37 := O32.keep Kq37 all0
     have Sf37_b_16 := Safe.keep Kq37 all0 CR32.1 Sf32_b_16
     have Sf37_b20 := Safe.keep Kq37 all0 CR32.1 Sf32_b20
     have Sf37_b24 := Safe.keep Kq37 all0 CR32.1 Sf32_b24
     have CR37 : CHr Z EL0 s.vm h0 T32.vm T37.heap := CR32.trans (CHr.keep Kq37 all0 CR32.1)
     have hk := Nat.le_trans hk Kq37.1
     obtain ⟨fs, hr, hrun, hended, hRE⟩ := X37.leaveW hS hk (v := some (.int (1 : Int32))) (fun h => by rw [Bd.returns] at h; cases h)
     have CRf : CHr Z EL0 s.vm s.heap (T37.setFrames fs).vm (T37.setFrames fs).heap := by
       show CHr Z EL0 s.vm s.heap T37.vm T37.heap
       rw [hh]
       exact CR37.trans (CHv.at X37 hZ hEL CR37.1)
     subst hS0
     refine ⟨_, _, pre19 _ ?_, hrun, hended, _, _, rfl, ?_, CRf, hRE.1, hRE.2.1, hRE.2.2.1, hRE.2.2.2.mono (by decide) (by decide)⟩
     ·
      refine XS.iload X16.here hx rfl (hb hby at_140) rfl ?_
      refine st20 _ ?_
      refine XS.astore X20.here hx rfl (hb hby at_144) rfl rfl (l' := #[iv p0, iv p1, iv p2, iv p3, iv iz, iv md, rv (f1 iz w_PRODUCER w_WORKER w_OPERATOR w_ADMIN), rv b_16, un, un, iv (0 : Int32), rv b20, un]) rfl ?_
      refine XS.iload X20.here hx rfl (hb hby at_146) rfl ?_
      show AT p e below T20 m 148 #[iv p0, iv p1, iv p2, iv p3, iv iz, iv md, rv (f1 iz w_PRODUCER w_WORKER w_OPERATOR w_ADMIN), rv b_16, un, un, iv (0 : Int32), rv b20, un] [(.int (0 : Int32))] _
      refine XS.ifYes X20.here hx rfl (pc0 := 148) (pc' := 161) rfl (hb hby at_148) rfl (XT.i0_le_t ((by decide) : ¬ ((0 : Int32) < (0 : Int32)))) (by decide) (by decide) ?_
      refine XS.iload X20.here hx rfl (hb hby at_161) rfl ?_
      refine XS.iconst X20.here hx rfl (hb hby at_163) ?_
      show AT p e below T20 m 164 #[iv p0, iv p1, iv p2, iv p3, iv iz, iv md, rv (f1 iz w_PRODUCER w_WORKER w_OPERATOR w_ADMIN), rv b_16, un, un, iv (0 : Int32), rv b20, un] [(.int (1 : Int32)), (.int (0 : Int32))] _
      refine XS.icmpYes X20.here hx rfl (pc0 := 164) (pc' := 180) rfl (hb hby at_164) rfl (XT.ii_le_t ((by decide) : ¬ ((1 : Int32) < (0 : Int32)))) (by decide) (by decide) ?_
      refine XS.iload X20.here hx rfl (hb hby at_180) rfl ?_
      refine XS.iconst X20.here hx rfl (hb hby at_182) ?_
      show AT p e below T20 m 183 #[iv p0, iv p1, iv p2, iv p3, iv iz, iv md, rv (f1 iz w_PRODUCER w_WORKER w_OPERATOR w_ADMIN), rv b_16, un, un, iv (0 : Int32), rv b20, un] [(.int (2 : Int32)), (.int (0 : Int32))] _
      refine XS.icmpYes X20.here hx rfl (pc0 := 183) (pc' := 196) rfl (hb hby at_183) rfl (XT.ii_le_t ((by decide) : ¬ ((2 : Int32) < (0 : Int32)))) (by decide) (by decide) ?_
      refine XS.iload X20.here hx rfl (hb hby at_196) rfl ?_
      refine XS.iconst X20.here hx rfl (hb hby at_198) ?_
      show AT p e below T20 m 199 #[iv p0, iv p1, iv p2, iv p3, iv iz, iv md, rv (f1 iz w_PRODUCER w_WORKER w_OPERATOR w_ADMIN), rv b_16, un, un, iv (0 : Int32), rv b20, un] [(.int (3 : Int32)), (.int (0 : Int32))] _
      refine XS.icmpYes X20.here hx rfl (pc0 := 199) (pc' := 215) rfl (hb hby at_199) rfl (XT.ii_le_t ((by decide) : ¬ ((3 : Int32) < (0 : Int32)))) (by decide) (by decide) ?_
      refine st24 _ ?_
      refine XS.dup X24.here hx rfl (hb hby at_218) rfl rfl ?_
      refine XS.aload X24.here hx rfl (hb hby at_219) rfl rfl ?_
      refine st32.trans ?_
      refine XS.astore X32.here hx rfl (hb hby at_224) rfl rfl (l' := #[iv p0, iv p1, iv p2, iv p3, iv iz, iv md, rv (f1 iz w_PRODUCER w_WORKER w_OPERATOR w_ADMIN), rv b_16, rv b24, un, iv (0 : Int32), rv b20, un]) rfl ?_
      refine XS.aconstNull X32.here hx rfl (hb hby at_226) ?_
      show AT p e below T32 m 227 #[iv p0, iv p1, iv p2, iv p3, iv iz, iv md, rv (f1 iz w_PRODUCER w_WORKER w_OPERATOR w_ADMIN), rv b_16, rv b24, un, iv (0 : Int32), rv b20, un] [.null] _
      refine XS.astore X32.here hx rfl (hb hby at_227) rfl rfl (l' := #[iv p0, iv p1, iv p2, iv p3, iv iz, iv md, rv (f1 iz w_PRODUCER w_WORKER w_OPERATOR w_ADMIN), rv b_16, rv b24, .val .null, iv (0 : Int32), rv b20, un]) rfl ?_
      refine XS.goto X32.here hx rfl (pc0 := 229) (pc' := 238) rfl (hb hby at_229) (by decide) (by decide) ?_
      refine XS.aload X32.here hx rfl (hb hby at_238) rfl rfl ?_
      refine st37 _ ?_
      refine XS.aload X37.here hx rfl (hb hby at_243) rfl rfl ?_
      show AT p e below T37 m 245 #[iv p0, iv p1, iv p2, iv p3, iv iz, iv md, rv (f1 iz w_PRODUCER w_WORKER w_OPERATOR w_ADMIN), rv b_16, rv b24, .val .null, iv (0 : Int32), rv b20, un] [.null, .null] _
      refine Jvm.RoadKit.acmp (g := (mkF m 245 #[iv p0, iv p1, iv p2, iv p3, iv iz, iv md, rv (f1 iz w_PRODUCER w_WORKER w_OPERATOR w_ADMIN), rv b_16, rv b24, .val .null, iv (0 : Int32), rv b20, un] [.null, .null])) X37 hx rfl rfl rfl (pc0 := 245) (pc' := 248) (same := true) rfl (hb hby at_245) rfl (decide_eq_true rfl) (by decide) (by decide) ?_
      refine XS.iconst X37.here hx rfl (hb hby at_248) ?_
      refine XS.goto X37.here hx rfl (pc0 := 249) (pc' := 253) rfl (hb hby at_249) (by decide) (by decide) ?_
      exact retN X37 hx (t := .boolean) Bd.returns (by simp) (hb hby at_253) hr
     ·
      show Q0 Z p0 p1 p2 p3 w_CS0 w_SF1 w_PRODUCER w__VALUES w_WORKER w_OPERATOR w_ADMIN w_PRODUCER_shown w_PRODUCER_shown_value w_WORKER_shown w_WORKER_shown_value w_OPERATOR_shown w_OPERATOR_shown_value w_ADMIN_shown w_ADMIN_shown_value k__VALUES k_PRODUCER_shown_value k_WORKER_shown_value k_OPERATOR_shown_value k_ADMIN_shown_value h0 n0 _ T37.heap _
      exact ⟨rfl, N37⟩
    ·
     obtain ⟨T45, h45, k45, X45, e45, E45, A45, B45, st45⟩ := newPE X16 hx hZ (ow hw 10 rfl) rfl (g := (mkF m 142 #[iv p0, iv p1, iv p2, iv p3, iv iz, iv md, rv (f1 iz w_PRODUCER w_WORKER w_OPERATOR w_ADMIN), rv b_16, un, un, iv (1 : Int32), un, un] [(.int (1 : Int32))])) rfl (hb hby at_142) rfl (by decide) (cap := 1) (by decide) (by decide) (by decide) (by decide) (ad := "[C") (by decide)
     obtain ⟨b45, g45⟩ : ∃ z, z = T16.heap.size := ⟨_, rfl⟩
     rw [← g45] at A45 B45 st45
     have ne45_46 : b_16 ≠ b45 := Nat.ne_of_lt (Nat.lt_of_lt_of_le (u16_1).lt (Nat.le_of_eq g45.symm))
     have gn45 : n0 ≤ b45 := Nat.le_trans (Nat.le_trans (Nat.le_of_eq O16.1.symm) O16.2.1) (Nat.le_of_eq g45.symm)
     have sz45 : h0.size ≤ b45 := Nat.le_trans K16.1 (Nat.le_of_eq g45.symm)
     have Sn45 : Safe Z EL0 s.vm T16.heap b45 := Safe.new (Nat.le_of_eq g45.symm)
     have E45_47 := u16_1.ext E45
     have K45 := K16.ext E45
     have O45 := O16.ext E45
     have Sf45_b_16 := Safe.ext E45 CR16.1 Sn17
     have Sf45_b45 := Safe.ext E45 CR16.1 Sn45
     have CR45 : CHr Z EL0 s.vm h0 s.vm h45 := CR16.trans (CHr.ext E45 CR16.1)
     have hk := Nat.le_trans hk E45.1
     have V45_48 : Arv Z h45 b45 k45 .char (1 : Int32) [(.int (0 : Int32))] (.int (0 : Int32)) := (Arv.new A45 (by decide)).pad (pad_rep [] (.int (0 : Int32)) 1)
     obtain ⟨cl49, Ar49, q49, S49, M49, H49, G49⟩ := id V45_48
     have hin49 := own_in (0 : Int32) S49 ⟨by decide, by decide⟩
     obtain ⟨T49, h49, X49, e49, W49, st49⟩ := stC X45 hx hZ e45 Ar49 (j := (0 : Int32)) hin49 (g := (mkF m 160 #[iv p0, iv p1, iv p2, iv p3, iv iz, iv md, rv (f1 iz w_PRODUCER w_WORKER w_OPERATOR w_ADMIN), rv b_16, un, un, iv (1 : Int32), rv b45, un] [(.int ((p2 &&& (255 : Int32)).toUInt32.toUInt16.toUInt32.toInt32)), (.int (0 : Int32)), (.ref b45)])) rfl rfl (hb hby at_160)
     have V49_50 : Arv Z h49 b45 k45 .char (1 : Int32) [(.int (nar .char ((p2 &&& (255 : Int32)).toUInt32.toUInt16.toUInt32.toInt32)))] (.int (0 : Int32)) := Arv.set Ar49 q49 S49 M49 H49 G49 (fits_nar_char _) W49 0 rfl (Nat.le_of_ble_eq_true rfl)
     have E49_51 := E45_47.wr W49
     have E49_52 := B45.wr W49
     have K49 := K45.wr W49 (Or.inr sz45)
     have O49 := O45.wr W49 gn45
     have Sf49_b_16 := Safe.wr W49 Sf45_b45 CR45.1 Sf45_b_16
     have Sf49_b45 := Safe.wr W49 Sf45_b45 CR45.1 Sf45_b45
     have CR49 : CHr Z EL0 s.vm h0 s.vm h49 := CR45.trans (CHr.wr W49 Sf45_b45 CR45.1)
     have hk := Nat.le_trans hk (Keep.of_wr W49).1
     have N49 := Fr.snoc X49 N16 gn45
     obtain ⟨T53, h53, X53, e53, E53, A53, D53, -, st53⟩ := newO X49 hx hZ hown (ow hw 11 rfl) (ow hw 12 rfl) (ow hw 13 rfl) e49 (g := (mkF m 215 #[iv p0, iv p1, iv p2, iv p3, iv iz, iv md, rv (f1 iz w_PRODUCER w_WORKER w_OPERATOR w_ADMIN), rv b_16, un, un, iv (1 : Int32), rv b45, un] [])) rfl (hb hby at_215) (by decide) (by decide)
     obtain ⟨b53, g53⟩ : ∃ z, z = h49.size := ⟨_, rfl⟩
     rw [← g53] at A53 D53 st53
     have ne53_54 : b_16 ≠ b53 := Nat.ne_of_lt (Nat.lt_of_lt_of_le (E49_51).lt (Nat.le_of_eq g53.symm))
     have ne53_55 : b45 ≠ b53 := Nat.ne_of_lt (Nat.lt_of_lt_of_le (V49_50).lt (Nat.le_of_eq g53.symm))
     have gn53 : n0 ≤ b53 := Nat.le_trans (Nat.le_trans (Nat.le_of_eq O49.1.symm) O49.2.1) (Nat.le_of_eq g53.symm)
     have sz53 : h0.size ≤ b53 := Nat.le_trans K49.1 (Nat.le_of_eq g53.symm)
     have Sn53 : Safe Z EL0 s.vm h49 b53 := Safe.new (Nat.le_of_eq g53.symm)
     have E53_56 := E49_51.ext E53
     have V53_57 := V49_50.ext E53
     have E53_58 := E49_52.ext E53
     have K53 := K49.ext E53
     have O53 := O49.ext E53
     have Sf53_b_16 := Safe.ext E53 CR49.1 Sf49_b_16
     have Sf53_b45 := Safe.ext E53 CR49.1 Sf49_b45
     have Sf53_b53 := Safe.ext E53 CR49.1 Sn53
     have CR53 : CHr Z EL0 s.vm h0 s.vm h53 := CR49.trans (CHr.ext E53 CR49.1)
     have hk := Nat.le_trans hk E53.1
     have F53_59 : Fld Z h53 b53 "java/lang/String" "coder" "B" (.int (0 : Int32)) := D53 (Or.inr (ow hw 37 rfl)) (ty := .byte) (by decide)
     have F53_60 : Fld Z h53 b53 "java/lang/String" "value" "[B" .null := D53 (Or.inr (ow hw 39 rfl)) (ty := (.array .byte)) (by decide)
     obtain ⟨_, _, ⟨T61, L61, k61, n61⟩, -, X61, ⟨Lc61, hQ61, l61, y61, z61⟩, st61⟩ := X53.specialBack hx (y := y3) rfl hown (mvT hZ (ow hw 14 rfl)) (mvT hZ (ow hw 15 rfl)) (mvT hZ (ow hw 16 rfl)) (by decide) (StrChars.Road.backV (W := 1) hZ (own_ws hw) (ow hw 12 rfl) (cs := [(nar .char ((p2 &&& (255 : Int32)).toUInt32.toUInt16.toUInt32.toInt32))]) (bs := [((nar .char ((p2 &&& (255 : Int32)).toUInt32.toUInt16.toUInt32.toInt32)).toInt8.toInt32)]) (n := 1) gn53 (Nat.le_trans (Nat.le_of_eq O53.1.symm) O53.2.1) A53 F53_60 F53_59 V53_57 (S_COMPACT_STRINGS.ext O53.2) hz_w_CS0 rfl (by decide) (by decide) (by decide) (own_cc ⟨own_ln _, own_le _⟩ own_cn) rfl (by decide) (by decide)) (g := (mkF m 221 #[iv p0, iv p1, iv p2, iv p3, iv iz, iv md, rv (f1 iz w_PRODUCER w_WORKER w_OPERATOR w_ADMIN), rv b_16, un, un, iv (1 : Int32), rv b45, un] [(.ref b45), (.ref b53), (.ref b53)])) rfl (by rw [hml]; rfl) (Steps.refl _) (a := b53) (argsL := [(.ref b45)]) (rest := [(.ref b53)]) (lenOf pd_7 rfl) rfl (by show 2 * 0 + _ ≤ _; exact Nat.le_of_eq rfl) (hb hby at_221) (fun _ _ => ⟨rfl, e53, (by decide : 3 + 1 ≤ _), (by decide : 13 + 1 ≤ _)⟩)
     dsimp only [Pt.U, Pt.locs, Pt.cells, Pt.slots] at X61 l61 y61 z61 st61 hQ61
     subst l61 y61 z61
     obtain ⟨rfl, N61q, Kq61, uE61, uC61, t61, kt61, -, tg61, tn61, uF61, uV61⟩ := hQ61
     have N61 := Fr.app N49 N61q
     have ne62 : b_16 ≠ t61 := Nat.ne_of_lt (Nat.lt_of_lt_of_le (E53_56).lt tg61)
     have ne63 : b45 ≠ t61 := Nat.ne_of_lt (Nat.lt_of_lt_of_le (V53_57).lt tg61)
     have ne64 : b53 ≠ t61 := Nat.ne_of_lt (Nat.lt_of_lt_of_le (A53).lt tg61)
     have E61_65 := E53_56.keep Kq61
     have V61_66 := V53_57.keep Kq61 (ninS ne53_55 nin0)
     have E61_67 := E53_58.keep Kq61
     have E61_68 := A53.keep Kq61
     have K61 := K53.trans Kq61 (allS (Or.inr sz53) all0)
     have O61 := O53.keep Kq61 (allS gn53 all0)
     have Sf61_b_16 := Safe.keep Kq61 (allS Sf53_b53 all0) CR53.1 Sf53_b_16
     have Sf61_b45 := Safe.keep Kq61 (allS Sf53_b53 all0) CR53.1 Sf53_b45
     have Sf61_b53 := Safe.keep Kq61 (allS Sf53_b53 all0) CR53.1 Sf53_b53
     have CR61 : CHr Z EL0 s.vm h0 s.vm T61.heap := CR53.trans (CHr.keep Kq61 (allS Sf53_b53 all0) CR53.1)
     have hk := Nat.le_trans hk Kq61.1
     have sz61 : h0.size ≤ t61 := Nat.le_trans K53.1 tg61
     have gn61 : n0 ≤ t61 := Nat.le_trans (Nat.le_trans (Nat.le_of_eq O53.1.symm) O53.2.1) tg61
     have Sn61 : Safe Z EL0 s.vm T61.heap t61 := Safe.keep Kq61 (allS Sf53_b53 all0) CR53.1 (Safe.new tg61)
     have uC61' : Fld Z T61.heap b53 "java/lang/String" "coder" "B" (.int (0 : Int32)) := uC61
     have uF61' : Fld Z T61.heap b53 "java/lang/String" "value" "[B" (.ref t61) := uF61
     have uV61' : Arv Z T61.heap t61 kt61 .byte (1 : Int32) [(.int ((nar .char ((p2 &&& (255 : Int32)).toUInt32.toUInt16.toUInt32.toInt32)).toInt8.toInt32))] (.int (0 : Int32)) := uV61
     obtain ⟨_, _, ⟨T69, L69, k69, n69⟩, -, X69, ⟨Lc69, hQ69, l69, y69, z69⟩, st69⟩ := Jvm.LawKit.callS X61 hx (y := y9) hown (mvT hZ (ow hw 40 rfl)) (mvT hZ (ow hw 41 rfl)) (mvT hZ (ow hw 5 rfl)) (mvT hZ (ow hw 42 rfl)) (by decide) (backOf (W := 0) (rm9x l Z ar hw [] b53 w_CS0 w_SF1 w_PRODUCER w__VALUES w_WORKER w_OPERATOR w_ADMIN w_PRODUCER_shown w_PRODUCER_shown_value w_WORKER_shown w_WORKER_shown_value w_OPERATOR_shown w_OPERATOR_shown_value w_ADMIN_shown w_ADMIN_shown_value k__VALUES k_PRODUCER_shown_value k_WORKER_shown_value k_OPERATOR_shown_value k_ADMIN_shown_value t61 kt61 (1 : Int32) [(.int ((nar .char ((p2 &&& (255 : Int32)).toUInt32.toUInt16.toUInt32.toInt32)).toInt8.toInt32))] T61.heap n0 O61 HW E61_68 uC61' uF61' uV61' gn53 (by decide) (by decide) (by decide)) hZ (ow hw 42 rfl) (ow hw 5 rfl) (by decide) (by decide)) (g := (mkF m 240 #[iv p0, iv p1, iv p2, iv p3, iv iz, iv md, rv (f1 iz w_PRODUCER w_WORKER w_OPERATOR w_ADMIN), rv b_16, rv b53, .val .null, iv (1 : Int32), rv b45, un] [(.ref b53)])) rfl (by rw [hml]; rfl) (argsL := [(.ref b53)]) (rest := []) (lenOf pd_5 rfl) rfl (by show 2 * 0 + _ ≤ _; exact Nat.le_of_eq rfl) (hb hby at_240) (fun _ _ => ⟨rfl, rfl, (by decide : 4 + 1 ≤ _), (by decide : 14 + 4 ≤ _)⟩)
     dsimp only [Pt.U, Pt.locs, Pt.cells, Pt.slots] at X69 l69 y69 z69 st69 hQ69
     subst l69 y69 z69
     obtain ⟨rfl, N69q, Kq69⟩ := hQ69
     have N69 := Fr.app N61 N69q
     have E69_70 := E61_65.keep Kq69
     have V69_71 := V61_66.keep Kq69 nin0
     have E69_72 := E61_67.keep Kq69
     have E69_73 := E61_68.keep Kq69
     have F69_74 := uC61'.keep Kq69 nin0
     have F69_75 := uF61'.keep Kq69 nin0
     have V69_76 := uV61'.keep Kq69 nin0
     have K69 := K61.trans Kq69 all0
     have O69 := O61.keep Kq69 all0
     have Sf69_b_16 := Safe.keep Kq69 all0 CR61.1 Sf61_b_16
     have Sf69_b45 := Safe.keep Kq69 all0 CR61.1 Sf61_b45
     have Sf69_b53 := Safe.keep Kq69 all0 CR61.1 Sf61_b53
     have Sf69_t61 := Safe.keep Kq69 all0 CR61.1 Sn61
     have CR69 : CHr Z EL0 s.vm h0 s.vm T69.heap := CR61.trans (CHr.keep Kq69 all0 CR61.1)
     have hk := Nat.le_trans hk Kq69.1
     obtain ⟨fs, hr, hrun, hended, hRE⟩ := X69.leaveW hS hk (v := some (.int (1 : Int32))) (fun h => by rw [Bd.returns] at h; cases h)
     have CRf : CHr Z EL0 s.vm s.heap (T69.setFrames fs).vm (T69.setFrames fs).heap := by
       show CHr Z EL0 s.vm s.heap T69.vm T69.heap
       rw [hh]
       exact CR69.trans (CHv.at X69 hZ hEL CR69.1)
     subst hS0
     refine ⟨_, _, pre19 _ ?_, hrun, hended, _, _, rfl, ?_, CRf, hRE.1, hRE.2.1, hRE.2.2.1, hRE.2.2.2.mono (by decide) (by decide)⟩
     ·
      refine XS.iload X16.here hx rfl (hb hby at_140) rfl ?_
      refine st45 _ ?_
      refine XS.astore X45.here hx rfl (hb hby at_144) rfl rfl (l' := #[iv p0, iv p1, iv p2, iv p3, iv iz, iv md, rv (f1 iz w_PRODUCER w_WORKER w_OPERATOR w_ADMIN), rv b_16, un, un, iv (1 : Int32), rv b45, un]) rfl ?_
      refine XS.iload X45.here hx rfl (hb hby at_146) rfl ?_
      show AT p e below T45 m 148 #[iv p0, iv p1, iv p2, iv p3, iv iz, iv md, rv (f1 iz w_PRODUCER w_WORKER w_OPERATOR w_ADMIN), rv b_16, un, un, iv (1 : Int32), rv b45, un] [(.int (1 : Int32))] _
      refine XS.ifNo X45.here hx rfl (hb hby at_148) rfl (XT.i0_le_f ((by decide) : (0 : Int32) < (1 : Int32))) ?_
      refine XS.aload X45.here hx rfl (hb hby at_151) rfl rfl ?_
      refine XS.iconst X45.here hx rfl (hb hby at_153) ?_
      refine XS.iloadN X45.here hx rfl (hb hby at_154) rfl ?_
      refine XS.sipush X45.here hx rfl (hb hby at_155) ?_
      refine XS.iand X45.here hx rfl (hb hby at_158) rfl ?_
      refine XS.i2c X45.here hx rfl (hb hby at_159) rfl ?_
      refine st49 _ ?_
      refine XS.iload X49.here hx rfl (hb hby at_161) rfl ?_
      refine XS.iconst X49.here hx rfl (hb hby at_163) ?_
      show AT p e below T49 m 164 #[iv p0, iv p1, iv p2, iv p3, iv iz, iv md, rv (f1 iz w_PRODUCER w_WORKER w_OPERATOR w_ADMIN), rv b_16, un, un, iv (1 : Int32), rv b45, un] [(.int (1 : Int32)), (.int (1 : Int32))] _
      refine XS.icmpYes X49.here hx rfl (pc0 := 164) (pc' := 180) rfl (hb hby at_164) rfl (XT.ii_le_t ((by decide) : ¬ ((1 : Int32) < (1 : Int32)))) (by decide) (by decide) ?_
      refine XS.iload X49.here hx rfl (hb hby at_180) rfl ?_
      refine XS.iconst X49.here hx rfl (hb hby at_182) ?_
      show AT p e below T49 m 183 #[iv p0, iv p1, iv p2, iv p3, iv iz, iv md, rv (f1 iz w_PRODUCER w_WORKER w_OPERATOR w_ADMIN), rv b_16, un, un, iv (1 : Int32), rv b45, un] [(.int (2 : Int32)), (.int (1 : Int32))] _
      refine XS.icmpYes X49.here hx rfl (pc0 := 183) (pc' := 196) rfl (hb hby at_183) rfl (XT.ii_le_t ((by decide) : ¬ ((2 : Int32) < (1 : Int32)))) (by decide) (by decide) ?_
      refine XS.iload X49.here hx rfl (hb hby at_196) rfl ?_
      show AT p e below T49 m 198 #[iv p0, iv p1, iv p2, iv p3, iv iz, iv md, rv (f1 iz w_PRODUCER w_WORKER w_OPERATOR w_ADMIN), rv b_16, un, un, iv (1 : Int32), rv b45, un] [(.int (1 : Int32))] _
      refine XS.iconst X49.here hx rfl (hb hby at_198) ?_
      show AT p e below T49 m 199 #[iv p0, iv p1, iv p2, iv p3, iv iz, iv md, rv (f1 iz w_PRODUCER w_WORKER w_OPERATOR w_ADMIN), rv b_16, un, un, iv (1 : Int32), rv b45, un] [(.int (3 : Int32)), (.int (1 : Int32))] _
      refine XS.icmpYes X49.here hx rfl (pc0 := 199) (pc' := 215) rfl (hb hby at_199) rfl (XT.ii_le_t ((by decide) : ¬ ((3 : Int32) < (1 : Int32)))) (by decide) (by decide) ?_
      refine st53 _ ?_
      refine XS.dup X53.here hx rfl (hb hby at_218) rfl rfl ?_
      refine XS.aload X53.here hx rfl (hb hby at_219) rfl rfl ?_
      refine st61.trans ?_
      refine XS.astore X61.here hx rfl (hb hby at_224) rfl rfl (l' := #[iv p0, iv p1, iv p2, iv p3, iv iz, iv md, rv (f1 iz w_PRODUCER w_WORKER w_OPERATOR w_ADMIN), rv b_16, rv b53, un, iv (1 : Int32), rv b45, un]) rfl ?_
      refine XS.aconstNull X61.here hx rfl (hb hby at_226) ?_
      refine XS.astore X61.here hx rfl (hb hby at_227) rfl rfl (l' := #[iv p0, iv p1, iv p2, iv p3, iv iz, iv md, rv (f1 iz w_PRODUCER w_WORKER w_OPERATOR w_ADMIN), rv b_16, rv b53, .val .null, iv (1 : Int32), rv b45, un]) rfl ?_
      refine XS.goto X61.here hx rfl (pc0 := 229) (pc' := 238) rfl (hb hby at_229) (by decide) (by decide) ?_
      refine XS.aload X61.here hx rfl (hb hby at_238) rfl rfl ?_
      refine st69 _ ?_
      refine XS.aload X69.here hx rfl (hb hby at_243) rfl rfl ?_
      show AT p e below T69 m 245 #[iv p0, iv p1, iv p2, iv p3, iv iz, iv md, rv (f1 iz w_PRODUCER w_WORKER w_OPERATOR w_ADMIN), rv b_16, rv b53, .val .null, iv (1 : Int32), rv b45, un] [.null, .null] _
      refine Jvm.RoadKit.acmp (g := (mkF m 245 #[iv p0, iv p1, iv p2, iv p3, iv iz, iv md, rv (f1 iz w_PRODUCER w_WORKER w_OPERATOR w_ADMIN), rv b_16, rv b53, .val .null, iv (1 : Int32), rv b45, un] [.null, .null])) X69 hx rfl rfl rfl (pc0 := 245) (pc' := 248) (same := true) rfl (hb hby at_245) rfl (decide_eq_true rfl) (by decide) (by decide) ?_
      refine XS.iconst X69.here hx rfl (hb hby at_248) ?_
      refine XS.goto X69.here hx rfl (pc0 := 249) (pc' := 253) rfl (hb hby at_249) (by decide) (by decide) ?_
      exact retN X69 hx (t := .boolean) Bd.returns (by simp) (hb hby at_253) hr
     ·
      show Q0 Z p0 p1 p2 p3 w_CS0 w_SF1 w_PRODUCER w__VALUES w_WORKER w_OPERATOR w_ADMIN w_PRODUCER_shown w_PRODUCER_shown_value w_WORKER_shown w_WORKER_shown_value w_OPERATOR_shown w_OPERATOR_shown_value w_ADMIN_shown w_ADMIN_shown_value k__VALUES k_PRODUCER_shown_value k_WORKER_shown_value k_OPERATOR_shown_value k_ADMIN_shown_value h0 n0 _ T69.heap _
      exact ⟨rfl, N69⟩
    ·
     obtain ⟨T77, h77, k77, X77, e77, E77, A77, B77, st77⟩ := newPE X16 hx hZ (ow hw 10 rfl) rfl (g := (mkF m 142 #[iv p0, iv p1, iv p2, iv p3, iv iz, iv md, rv (f1 iz w_PRODUCER w_WORKER w_OPERATOR w_ADMIN), rv b_16, un, un, iv (2 : Int32), un, un] [(.int (2 : Int32))])) rfl (hb hby at_142) rfl (by decide) (cap := 2) (by decide) (by decide) (by decide) (by decide) (ad := "[C") (by decide)
     obtain ⟨b77, g77⟩ : ∃ z, z = T16.heap.size := ⟨_, rfl⟩
     rw [← g77] at A77 B77 st77
     have ne77_78 : b_16 ≠ b77 := Nat.ne_of_lt (Nat.lt_of_lt_of_le (u16_1).lt (Nat.le_of_eq g77.symm))
     have gn77 : n0 ≤ b77 := Nat.le_trans (Nat.le_trans (Nat.le_of_eq O16.1.symm) O16.2.1) (Nat.le_of_eq g77.symm)
     have sz77 : h0.size ≤ b77 := Nat.le_trans K16.1 (Nat.le_of_eq g77.symm)
     have Sn77 : Safe Z EL0 s.vm T16.heap b77 := Safe.new (Nat.le_of_eq g77.symm)
     have E77_79 := u16_1.ext E77
     have K77 := K16.ext E77
     have O77 := O16.ext E77
     have Sf77_b_16 := Safe.ext E77 CR16.1 Sn17
     have Sf77_b77 := Safe.ext E77 CR16.1 Sn77
     have CR77 : CHr Z EL0 s.vm h0 s.vm h77 := CR16.trans (CHr.ext E77 CR16.1)
     have hk := Nat.le_trans hk E77.1
     have V77_80 : Arv Z h77 b77 k77 .char (2 : Int32) [(.int (0 : Int32)), (.int (0 : Int32))] (.int (0 : Int32)) := (Arv.new A77 (by decide)).pad (pad_rep [] (.int (0 : Int32)) 2)
     obtain ⟨cl81, Ar81, q81, S81, M81, H81, G81⟩ := id V77_80
     have hin81 := own_in (0 : Int32) S81 ⟨by decide, by decide⟩
     obtain ⟨T81, h81, X81, e81, W81, st81⟩ := stC X77 hx hZ e77 Ar81 (j := (0 : Int32)) hin81 (g := (mkF m 160 #[iv p0, iv p1, iv p2, iv p3, iv iz, iv md, rv (f1 iz w_PRODUCER w_WORKER w_OPERATOR w_ADMIN), rv b_16, un, un, iv (2 : Int32), rv b77, un] [(.int ((p2 &&& (255 : Int32)).toUInt32.toUInt16.toUInt32.toInt32)), (.int (0 : Int32)), (.ref b77)])) rfl rfl (hb hby at_160)
     have V81_82 : Arv Z h81 b77 k77 .char (2 : Int32) [(.int (nar .char ((p2 &&& (255 : Int32)).toUInt32.toUInt16.toUInt32.toInt32))), (.int (0 : Int32))] (.int (0 : Int32)) := Arv.set Ar81 q81 S81 M81 H81 G81 (fits_nar_char _) W81 0 rfl (Nat.le_of_ble_eq_true rfl)
     have E81_83 := E77_79.wr W81
     have E81_84 := B77.wr W81
     have K81 := K77.wr W81 (Or.inr sz77)
     have O81 := O77.wr W81 gn77
     have Sf81_b_16 := Safe.wr W81 Sf77_b77 CR77.1 Sf77_b_16
     have Sf81_b77 := Safe.wr W81 Sf77_b77 CR77.1 Sf77_b77
     have CR81 : CHr Z EL0 s.vm h0 s.vm h81 := CR77.trans (CHr.wr W81 Sf77_b77 CR77.1)
     have hk := Nat.le_trans hk (Keep.of_wr W81).1
     have N81 := Fr.snoc X81 N16 gn77
     obtain ⟨cl85, Ar85, q85, S85, M85, H85, G85⟩ := id V81_82
     have hin85 := own_in (1 : Int32) S85 ⟨by decide, by decide⟩
     obtain ⟨T85, h85, X85, e85, W85, st85⟩ := stC X81 hx hZ e81 Ar85 (j := (1 : Int32)) hin85 (g := (mkF m 179 #[iv p0, iv p1, iv p2, iv p3, iv iz, iv md, rv (f1 iz w_PRODUCER w_WORKER w_OPERATOR w_ADMIN), rv b_16, un, un, iv (2 : Int32), rv b77, un] [(.int ((((p2.toUInt32 >>> ((8 : Int32) &&& 31).toUInt32).toInt32) &&& (255 : Int32)).toUInt32.toUInt16.toUInt32.toInt32)), (.int (1 : Int32)), (.ref b77)])) rfl rfl (hb hby at_179)
     have V85_86 : Arv Z h85 b77 k77 .char (2 : Int32) [(.int (nar .char ((p2 &&& (255 : Int32)).toUInt32.toUInt16.toUInt32.toInt32))), (.int (nar .char ((((p2.toUInt32 >>> ((8 : Int32) &&& 31).toUInt32).toInt32) &&& (255 : Int32)).toUInt32.toUInt16.toUInt32.toInt32)))] (.int (0 : Int32)) := Arv.set Ar85 q85 S85 M85 H85 G85 (fits_nar_char _) W85 1 rfl (Nat.le_of_ble_eq_true rfl)
     have E85_87 := E81_83.wr W85
     have E85_88 := E81_84.wr W85
     have K85 := K81.wr W85 (Or.inr sz77)
     have O85 := O81.wr W85 gn77
     have Sf85_b_16 := Safe.wr W85 Sf81_b77 CR81.1 Sf81_b_16
     have Sf85_b77 := Safe.wr W85 Sf81_b77 CR81.1 Sf81_b77
     have CR85 : CHr Z EL0 s.vm h0 s.vm h85 := CR81.trans (CHr.wr W85 Sf81_b77 CR81.1)
     have hk := Nat.le_trans hk (Keep.of_wr W85).1
     have N85 := Fr.snoc X85 N81 gn77
     obtain ⟨T89, h89, X89, e89, E89, A89, D89, -, st89⟩ := newO X85 hx hZ hown (ow hw 11 rfl) (ow hw 12 rfl) (ow hw 13 rfl) e85 (g := (mkF m 215 #[iv p0, iv p1, iv p2, iv p3, iv iz, iv md, rv (f1 iz w_PRODUCER w_WORKER w_OPERATOR w_ADMIN), rv b_16, un, un, iv (2 : Int32), rv b77, un] [])) rfl (hb hby at_215) (by decide) (by decide)
     obtain ⟨b89, g89⟩ : ∃ z, z = h85.size := ⟨_, rfl⟩
     rw [← g89] at A89 D89 st89
     have ne89_90 : b_16 ≠ b89 := Nat.ne_of_lt (Nat.lt_of_lt_of_le (E85_87).lt (Nat.le_of_eq g89.symm))
     have ne89_91 : b77 ≠ b89 := Nat.ne_of_lt (Nat.lt_of_lt_of_le (V85_86).lt (Nat.le_of_eq g89.symm))
     have gn89 : n0 ≤ b89 := Nat.le_trans (Nat.le_trans (Nat.le_of_eq O85.1.symm) O85.2.1) (Nat.le_of_eq g89.symm)
     have sz89 : h0.size ≤ b89 := Nat.le_trans K85.1 (Nat.le_of_eq g89.symm)
     have Sn89 : Safe Z EL0 s.vm h85 b89 := Safe.new (Nat.le_of_eq g89.symm)
     have E89_92 := E85_87.ext E89
     have V89_93 := V85_86.ext E89
     have E89_94 := E85_88.ext E89
     have K89 := K85.ext E89
     have O89 := O85.ext E89
     have Sf89_b_16 := Safe.ext E89 CR85.1 Sf85_b_16
     have Sf89_b77 := Safe.ext E89 CR85.1 Sf85_b77
     have Sf89_b89 := Safe.ext E89 CR85.1 Sn89
     have CR89 : CHr Z EL0 s.vm h0 s.vm h89 := CR85.trans (CHr.ext E89 CR85.1)
     have hk := Nat.le_trans hk E89.1
     have F89_95 : Fld Z h89 b89 "java/lang/String" "coder" "B" (.int (0 : Int32)) := D89 (Or.inr (ow hw 37 rfl)) (ty := .byte) (by decide)
     have F89_96 : Fld Z h89 b89 "java/lang/String" "value" "[B" .null := D89 (Or.inr (ow hw 39 rfl)) (ty := (.array .byte)) (by decide)
     obtain ⟨_, _, ⟨T97, L97, k97, n97⟩, -, X97, ⟨Lc97, hQ97, l97, y97, z97⟩, st97⟩ := X89.specialBack hx (y := y3) rfl hown (mvT hZ (ow hw 14 rfl)) (mvT hZ (ow hw 15 rfl)) (mvT hZ (ow hw 16 rfl)) (by decide) (StrChars.Road.backV (W := 1) hZ (own_ws hw) (ow hw 12 rfl) (cs := [(nar .char ((p2 &&& (255 : Int32)).toUInt32.toUInt16.toUInt32.toInt32)), (nar .char ((((p2.toUInt32 >>> ((8 : Int32) &&& 31).toUInt32).toInt32) &&& (255 : Int32)).toUInt32.toUInt16.toUInt32.toInt32))]) (bs := [((nar .char ((p2 &&& (255 : Int32)).toUInt32.toUInt16.toUInt32.toInt32)).toInt8.toInt32), ((nar .char ((((p2.toUInt32 >>> ((8 : Int32) &&& 31).toUInt32).toInt32) &&& (255 : Int32)).toUInt32.toUInt16.toUInt32.toInt32)).toInt8.toInt32)]) (n := 2) gn89 (Nat.le_trans (Nat.le_of_eq O89.1.symm) O89.2.1) A89 F89_96 F89_95 V89_93 (S_COMPACT_STRINGS.ext O89.2) hz_w_CS0 rfl (by decide) (by decide) (by decide) (own_cc ⟨own_ln _, own_le _⟩ (own_cc ⟨own_ln _, own_le _⟩ own_cn)) rfl (by decide) (by decide)) (g := (mkF m 221 #[iv p0, iv p1, iv p2, iv p3, iv iz, iv md, rv (f1 iz w_PRODUCER w_WORKER w_OPERATOR w_ADMIN), rv b_16, un, un, iv (2 : Int32), rv b77, un] [(.ref b77), (.ref b89), (.ref b89)])) rfl (by rw [hml]; rfl) (Steps.refl _) (a := b89) (argsL := [(.ref b77)]) (rest := [(.ref b89)]) (lenOf pd_7 rfl) rfl (by show 2 * 0 + _ ≤ _; exact Nat.le_of_eq rfl) (hb hby at_221) (fun _ _ => ⟨rfl, e89, (by decide : 3 + 1 ≤ _), (by decide : 14 + 2 ≤ _)⟩)
     dsimp only [Pt.U, Pt.locs, Pt.cells, Pt.slots] at X97 l97 y97 z97 st97 hQ97
     subst l97 y97 z97
     obtain ⟨rfl, N97q, Kq97, uE97, uC97, t97, kt97, -, tg97, tn97, uF97, uV97⟩ := hQ97
     have N97 := Fr.app N85 N97q
     have ne98 : b_16 ≠ t97 := Nat.ne_of_lt (Nat.lt_of_lt_of_le (E89_92).lt tg97)
     have ne99 : b77 ≠ t97 := Nat.ne_of_lt (Nat.lt_of_lt_of_le (V89_93).lt tg97)
     have ne100 : b89 ≠ t97 := Nat.ne_of_lt (Nat.lt_of_lt_of_le (A89).lt tg97)
     have E97_101 := E89_92.keep Kq97
     have V97_102 := V89_93.keep Kq97 (ninS ne89_91 nin0)
     have E97_103 := E89_94.keep Kq97
     have E97_104 := A89.keep Kq97
     have K97 := K89.trans Kq97 (allS (Or.inr sz89) all0)
     have O97 := O89.keep Kq97 (allS gn89 all0)
     have Sf97_b_16 := Safe.keep Kq97 (allS Sf89_b89 all0) CR89.1 Sf89_b_16
     have Sf97_b77 := Safe.keep Kq97 (allS Sf89_b89 all0) CR89.1 Sf89_b77
     have Sf97_b89 := Safe.keep Kq97 (allS Sf89_b89 all0) CR89.1 Sf89_b89
     have CR97 : CHr Z EL0 s.vm h0 s.vm T97.heap := CR89.trans (CHr.keep Kq97 (allS Sf89_b89 all0) CR89.1)
     have hk := Nat.le_trans hk Kq97.1
     have sz97 : h0.size ≤ t97 := Nat.le_trans K89.1 tg97
     have gn97 : n0 ≤ t97 := Nat.le_trans (Nat.le_trans (Nat.le_of_eq O89.1.symm) O89.2.1) tg97
     have Sn97 : Safe Z EL0 s.vm T97.heap t97 := Safe.keep Kq97 (allS Sf89_b89 all0) CR89.1 (Safe.new tg97)
     have uC97' : Fld Z T97.heap b89 "java/lang/String" "coder" "B" (.int (0 : Int32)) := uC97
     have uF97' : Fld Z T97.heap b89 "java/lang/String" "value" "[B" (.ref t97) := uF97
     have uV97' : Arv Z T97.heap t97 kt97 .byte (2 : Int32) [(.int ((nar .char ((p2 &&& (255 : Int32)).toUInt32.toUInt16.toUInt32.toInt32)).toInt8.toInt32)), (.int ((nar .char ((((p2.toUInt32 >>> ((8 : Int32) &&& 31).toUInt32).toInt32) &&& (255 : Int32)).toUInt32.toUInt16.toUInt32.toInt32)).toInt8.toInt32))] (.int (0 : Int32)) := uV97
     obtain ⟨_, _, ⟨T105, L105, k105, n105⟩, -, X105, ⟨Lc105, hQ105, l105, y105, z105⟩, st105⟩ := Jvm.LawKit.callS X97 hx (y := y9) hown (mvT hZ (ow hw 40 rfl)) (mvT hZ (ow hw 41 rfl)) (mvT hZ (ow hw 5 rfl)) (mvT hZ (ow hw 42 rfl)) (by decide) (backOf (W := 0) (rm9x l Z ar hw [] b89 w_CS0 w_SF1 w_PRODUCER w__VALUES w_WORKER w_OPERATOR w_ADMIN w_PRODUCER_shown w_PRODUCER_shown_value w_WORKER_shown w_WORKER_shown_value w_OPERATOR_shown w_OPERATOR_shown_value w_ADMIN_shown w_ADMIN_shown_value k__VALUES k_PRODUCER_shown_value k_WORKER_shown_value k_OPERATOR_shown_value k_ADMIN_shown_value t97 kt97 (2 : Int32) [(.int ((nar .char ((p2 &&& (255 : Int32)).toUInt32.toUInt16.toUInt32.toInt32)).toInt8.toInt32)), (.int ((nar .char ((((p2.toUInt32 >>> ((8 : Int32) &&& 31).toUInt32).toInt32) &&& (255 : Int32)).toUInt32.toUInt16.toUInt32.toInt32)).toInt8.toInt32))] T97.heap n0 O97 HW E97_104 uC97' uF97' uV97' gn89 (by decide) (by decide) (by decide)) hZ (ow hw 42 rfl) (ow hw 5 rfl) (by decide) (by decide)) (g := (mkF m 240 #[iv p0, iv p1, iv p2, iv p3, iv iz, iv md, rv (f1 iz w_PRODUCER w_WORKER w_OPERATOR w_ADMIN), rv b_16, rv b89, .val .null, iv (2 : Int32), rv b77, un] [(.ref b89)])) rfl (by rw [hml]; rfl) (argsL := [(.ref b89)]) (rest := []) (lenOf pd_5 rfl) rfl (by show 2 * 0 + _ ≤ _; exact Nat.le_of_eq rfl) (hb hby at_240) (fun _ _ => ⟨rfl, rfl, (by decide : 4 + 1 ≤ _), (by decide : 16 + 4 ≤ _)⟩)
     dsimp only [Pt.U, Pt.locs, Pt.cells, Pt.slots] at X105 l105 y105 z105 st105 hQ105
     subst l105 y105 z105
     obtain ⟨rfl, N105q, Kq105⟩ := hQ105
     have N105 := Fr.app N97 N105q
     have E105_106 := E97_101.keep Kq105
     have V105_107 := V97_102.keep Kq105 nin0
     have E105_108 := E97_103.keep Kq105
     have E105_109 := E97_104.keep Kq105
     have F105_110 := uC97'.keep Kq105 nin0
     have F105_111 := uF97'.keep Kq105 nin0
     have V105_112 := uV97'.keep Kq105 nin0
     have K105 := K97.trans Kq105 all0
     have O105 := O97.keep Kq105 all0
     have Sf105_b_16 := Safe.keep Kq105 all0 CR97.1 Sf97_b_16
     have Sf105_b77 := Safe.keep Kq105 all0 CR97.1 Sf97_b77
     have Sf105_b89 := Safe.keep Kq105 all0 CR97.1 Sf97_b89
     have Sf105_t97 := Safe.keep Kq105 all0 CR97.1 Sn97
     have CR105 : CHr Z EL0 s.vm h0 s.vm T105.heap := CR97.trans (CHr.keep Kq105 all0 CR97.1)
     have hk := Nat.le_trans hk Kq105.1
     obtain ⟨fs, hr, hrun, hended, hRE⟩ := X105.leaveW hS hk (v := some (.int (1 : Int32))) (fun h => by rw [Bd.returns] at h; cases h)
     have CRf : CHr Z EL0 s.vm s.heap (T105.setFrames fs).vm (T105.setFrames fs).heap := by
       show CHr Z EL0 s.vm s.heap T105.vm T105.heap
       rw [hh]
       exact CR105.trans (CHv.at X105 hZ hEL CR105.1)
     subst hS0
     refine ⟨_, _, pre19 _ ?_, hrun, hended, _, _, rfl, ?_, CRf, hRE.1, hRE.2.1, hRE.2.2.1, hRE.2.2.2.mono (by decide) (by decide)⟩
     ·
      refine XS.iload X16.here hx rfl (hb hby at_140) rfl ?_
      refine st77 _ ?_
      refine XS.astore X77.here hx rfl (hb hby at_144) rfl rfl (l' := #[iv p0, iv p1, iv p2, iv p3, iv iz, iv md, rv (f1 iz w_PRODUCER w_WORKER w_OPERATOR w_ADMIN), rv b_16, un, un, iv (2 : Int32), rv b77, un]) rfl ?_
      refine XS.iload X77.here hx rfl (hb hby at_146) rfl ?_
      show AT p e below T77 m 148 #[iv p0, iv p1, iv p2, iv p3, iv iz, iv md, rv (f1 iz w_PRODUCER w_WORKER w_OPERATOR w_ADMIN), rv b_16, un, un, iv (2 : Int32), rv b77, un] [(.int (2 : Int32))] _
      refine XS.ifNo X77.here hx rfl (hb hby at_148) rfl (XT.i0_le_f ((by decide) : (0 : Int32) < (2 : Int32))) ?_
      refine XS.aload X77.here hx rfl (hb hby at_151) rfl rfl ?_
      refine XS.iconst X77.here hx rfl (hb hby at_153) ?_
      refine XS.iloadN X77.here hx rfl (hb hby at_154) rfl ?_
      refine XS.sipush X77.here hx rfl (hb hby at_155) ?_
      refine XS.iand X77.here hx rfl (hb hby at_158) rfl ?_
      refine XS.i2c X77.here hx rfl (hb hby at_159) rfl ?_
      refine st81 _ ?_
      refine XS.iload X81.here hx rfl (hb hby at_161) rfl ?_
      refine XS.iconst X81.here hx rfl (hb hby at_163) ?_
      show AT p e below T81 m 164 #[iv p0, iv p1, iv p2, iv p3, iv iz, iv md, rv (f1 iz w_PRODUCER w_WORKER w_OPERATOR w_ADMIN), rv b_16, un, un, iv (2 : Int32), rv b77, un] [(.int (1 : Int32)), (.int (2 : Int32))] _
      refine XS.icmpNo X81.here hx rfl (hb hby at_164) rfl (XT.ii_le_f ((by decide) : (1 : Int32) < (2 : Int32))) ?_
      refine XS.aload X81.here hx rfl (hb hby at_167) rfl rfl ?_
      refine XS.iconst X81.here hx rfl (hb hby at_169) ?_
      refine XS.iloadN X81.here hx rfl (hb hby at_170) rfl ?_
      show AT p e below T81 m 171 #[iv p0, iv p1, iv p2, iv p3, iv iz, iv md, rv (f1 iz w_PRODUCER w_WORKER w_OPERATOR w_ADMIN), rv b_16, un, un, iv (2 : Int32), rv b77, un] [(.int p2), (.int (1 : Int32)), (.ref b77)] _
      refine XS.bipush X81.here hx rfl (hb hby at_171) ?_
      refine XS.iushr X81.here hx rfl (hb hby at_173) rfl ?_
      refine XS.sipush X81.here hx rfl (hb hby at_174) ?_
      refine XS.iand X81.here hx rfl (hb hby at_177) rfl ?_
      refine XS.i2c X81.here hx rfl (hb hby at_178) rfl ?_
      refine st85 _ ?_
      refine XS.iload X85.here hx rfl (hb hby at_180) rfl ?_
      refine XS.iconst X85.here hx rfl (hb hby at_182) ?_
      show AT p e below T85 m 183 #[iv p0, iv p1, iv p2, iv p3, iv iz, iv md, rv (f1 iz w_PRODUCER w_WORKER w_OPERATOR w_ADMIN), rv b_16, un, un, iv (2 : Int32), rv b77, un] [(.int (2 : Int32)), (.int (2 : Int32))] _
      refine XS.icmpYes X85.here hx rfl (pc0 := 183) (pc' := 196) rfl (hb hby at_183) rfl (XT.ii_le_t ((by decide) : ¬ ((2 : Int32) < (2 : Int32)))) (by decide) (by decide) ?_
      refine XS.iload X85.here hx rfl (hb hby at_196) rfl ?_
      refine XS.iconst X85.here hx rfl (hb hby at_198) ?_
      show AT p e below T85 m 199 #[iv p0, iv p1, iv p2, iv p3, iv iz, iv md, rv (f1 iz w_PRODUCER w_WORKER w_OPERATOR w_ADMIN), rv b_16, un, un, iv (2 : Int32), rv b77, un] [(.int (3 : Int32)), (.int (2 : Int32))] _
      refine XS.icmpYes X85.here hx rfl (pc0 := 199) (pc' := 215) rfl (hb hby at_199) rfl (XT.ii_le_t ((by decide) : ¬ ((3 : Int32) < (2 : Int32)))) (by decide) (by decide) ?_
      refine st89 _ ?_
      refine XS.dup X89.here hx rfl (hb hby at_218) rfl rfl ?_
      refine XS.aload X89.here hx rfl (hb hby at_219) rfl rfl ?_
      refine st97.trans ?_
      refine XS.astore X97.here hx rfl (hb hby at_224) rfl rfl (l' := #[iv p0, iv p1, iv p2, iv p3, iv iz, iv md, rv (f1 iz w_PRODUCER w_WORKER w_OPERATOR w_ADMIN), rv b_16, rv b89, un, iv (2 : Int32), rv b77, un]) rfl ?_
      refine XS.aconstNull X97.here hx rfl (hb hby at_226) ?_
      show AT p e below T97 m 227 #[iv p0, iv p1, iv p2, iv p3, iv iz, iv md, rv (f1 iz w_PRODUCER w_WORKER w_OPERATOR w_ADMIN), rv b_16, rv b89, un, iv (2 : Int32), rv b77, un] [.null] _
      refine XS.astore X97.here hx rfl (hb hby at_227) rfl rfl (l' := #[iv p0, iv p1, iv p2, iv p3, iv iz, iv md, rv (f1 iz w_PRODUCER w_WORKER w_OPERATOR w_ADMIN), rv b_16, rv b89, .val .null, iv (2 : Int32), rv b77, un]) rfl ?_
      refine XS.goto X97.here hx rfl (pc0 := 229) (pc' := 238) rfl (hb hby at_229) (by decide) (by decide) ?_
      refine XS.aload X97.here hx rfl (hb hby at_238) rfl rfl ?_
      refine st105 _ ?_
      refine XS.aload X105.here hx rfl (hb hby at_243) rfl rfl ?_
      show AT p e below T105 m 245 #[iv p0, iv p1, iv p2, iv p3, iv iz, iv md, rv (f1 iz w_PRODUCER w_WORKER w_OPERATOR w_ADMIN), rv b_16, rv b89, .val .null, iv (2 : Int32), rv b77, un] [.null, .null] _
      refine Jvm.RoadKit.acmp (g := (mkF m 245 #[iv p0, iv p1, iv p2, iv p3, iv iz, iv md, rv (f1 iz w_PRODUCER w_WORKER w_OPERATOR w_ADMIN), rv b_16, rv b89, .val .null, iv (2 : Int32), rv b77, un] [.null, .null])) X105 hx rfl rfl rfl (pc0 := 245) (pc' := 248) (same := true) rfl (hb hby at_245) rfl (decide_eq_true rfl) (by decide) (by decide) ?_
      refine XS.iconst X105.here hx rfl (hb hby at_248) ?_
      refine XS.goto X105.here hx rfl (pc0 := 249) (pc' := 253) rfl (hb hby at_249) (by decide) (by decide) ?_
      exact retN X105 hx (t := .boolean) Bd.returns (by simp) (hb hby at_253) hr
     ·
      show Q0 Z p0 p1 p2 p3 w_CS0 w_SF1 w_PRODUCER w__VALUES w_WORKER w_OPERATOR w_ADMIN w_PRODUCER_shown w_PRODUCER_shown_value w_WORKER_shown w_WORKER_shown_value w_OPERATOR_shown w_OPERATOR_shown_value w_ADMIN_shown w_ADMIN_shown_value k__VALUES k_PRODUCER_shown_value k_WORKER_shown_value k_OPERATOR_shown_value k_ADMIN_shown_value h0 n0 _ T105.heap _
      exact ⟨rfl, N105⟩
    ·
     obtain ⟨T113, h113, k113, X113, e113, E113, A113, B113, st113⟩ := newPE X16 hx hZ (ow hw 10 rfl) rfl (g := (mkF m 142 #[iv p0, iv p1, iv p2, iv p3, iv iz, iv md, rv (f1 iz w_PRODUCER w_WORKER w_OPERATOR w_ADMIN), rv b_16, un, un, iv (3 : Int32), un, un] [(.int (3 : Int32))])) rfl (hb hby at_142) rfl (by decide) (cap := 3) (by decide) (by decide) (by decide) (by decide) (ad := "[C") (by decide)
     obtain ⟨b113, g113⟩ : ∃ z, z = T16.heap.size := ⟨_, rfl⟩
     rw [← g113] at A113 B113 st113
     have ne113_114 : b_16 ≠ b113 := Nat.ne_of_lt (Nat.lt_of_lt_of_le (u16_1).lt (Nat.le_of_eq g113.symm))
     have gn113 : n0 ≤ b113 := Nat.le_trans (Nat.le_trans (Nat.le_of_eq O16.1.symm) O16.2.1) (Nat.le_of_eq g113.symm)
     have sz113 : h0.size ≤ b113 := Nat.le_trans K16.1 (Nat.le_of_eq g113.symm)
     have Sn113 : Safe Z EL0 s.vm T16.heap b113 := Safe.new (Nat.le_of_eq g113.symm)
     have E113_115 := u16_1.ext E113
     have K113 := K16.ext E113
     have O113 := O16.ext E113
     have Sf113_b_16 := Safe.ext E113 CR16.1 Sn17
     have Sf113_b113 := Safe.ext E113 CR16.1 Sn113
     have CR113 : CHr Z EL0 s.vm h0 s.vm h113 := CR16.trans (CHr.ext E113 CR16.1)
     have hk := Nat.le_trans hk E113.1
     have V113_116 : Arv Z h113 b113 k113 .char (3 : Int32) [(.int (0 : Int32)), (.int (0 : Int32)), (.int (0 : Int32))] (.int (0 : Int32)) := (Arv.new A113 (by decide)).pad (pad_rep [] (.int (0 : Int32)) 3)
     obtain ⟨cl117, Ar117, q117, S117, M117, H117, G117⟩ := id V113_116
     have hin117 := own_in (0 : Int32) S117 ⟨by decide, by decide⟩
     obtain ⟨T117, h117, X117, e117, W117, st117⟩ := stC X113 hx hZ e113 Ar117 (j := (0 : Int32)) hin117 (g := (mkF m 160 #[iv p0, iv p1, iv p2, iv p3, iv iz, iv md, rv (f1 iz w_PRODUCER w_WORKER w_OPERATOR w_ADMIN), rv b_16, un, un, iv (3 : Int32), rv b113, un] [(.int ((p2 &&& (255 : Int32)).toUInt32.toUInt16.toUInt32.toInt32)), (.int (0 : Int32)), (.ref b113)])) rfl rfl (hb hby at_160)
     have V117_118 : Arv Z h117 b113 k113 .char (3 : Int32) [(.int (nar .char ((p2 &&& (255 : Int32)).toUInt32.toUInt16.toUInt32.toInt32))), (.int (0 : Int32)), (.int (0 : Int32))] (.int (0 : Int32)) := Arv.set Ar117 q117 S117 M117 H117 G117 (fits_nar_char _) W117 0 rfl (Nat.le_of_ble_eq_true rfl)
     have E117_119 := E113_115.wr W117
     have E117_120 := B113.wr W117
     have K117 := K113.wr W117 (Or.inr sz113)
     have O117 := O113.wr W117 gn113
     have Sf117_b_16 := Safe.wr W117 Sf113_b113 CR113.1 Sf113_b_16
     have Sf117_b113 := Safe.wr W117 Sf113_b113 CR113.1 Sf113_b113
     have CR117 : CHr Z EL0 s.vm h0 s.vm h117 := CR113.trans (CHr.wr W117 Sf113_b113 CR113.1)
     have hk := Nat.le_trans hk (Keep.of_wr W117).1
     have N117 := Fr.snoc X117 N16 gn113
     obtain ⟨cl121, Ar121, q121, S121, M121, H121, G121⟩ := id V117_118
     have hin121 := own_in (1 : Int32) S121 ⟨by decide, by decide⟩
     obtain ⟨T121, h121, X121, e121, W121, st121⟩ := stC X117 hx hZ e117 Ar121 (j := (1 : Int32)) hin121 (g := (mkF m 179 #[iv p0, iv p1, iv p2, iv p3, iv iz, iv md, rv (f1 iz w_PRODUCER w_WORKER w_OPERATOR w_ADMIN), rv b_16, un, un, iv (3 : Int32), rv b113, un] [(.int ((((p2.toUInt32 >>> ((8 : Int32) &&& 31).toUInt32).toInt32) &&& (255 : Int32)).toUInt32.toUInt16.toUInt32.toInt32)), (.int (1 : Int32)), (.ref b113)])) rfl rfl (hb hby at_179)
     have V121_122 : Arv Z h121 b113 k113 .char (3 : Int32) [(.int (nar .char ((p2 &&& (255 : Int32)).toUInt32.toUInt16.toUInt32.toInt32))), (.int (nar .char ((((p2.toUInt32 >>> ((8 : Int32) &&& 31).toUInt32).toInt32) &&& (255 : Int32)).toUInt32.toUInt16.toUInt32.toInt32))), (.int (0 : Int32))] (.int (0 : Int32)) := Arv.set Ar121 q121 S121 M121 H121 G121 (fits_nar_char _) W121 1 rfl (Nat.le_of_ble_eq_true rfl)
     have E121_123 := E117_119.wr W121
     have E121_124 := E117_120.wr W121
     have K121 := K117.wr W121 (Or.inr sz113)
     have O121 := O117.wr W121 gn113
     have Sf121_b_16 := Safe.wr W121 Sf117_b113 CR117.1 Sf117_b_16
     have Sf121_b113 := Safe.wr W121 Sf117_b113 CR117.1 Sf117_b113
     have CR121 : CHr Z EL0 s.vm h0 s.vm h121 := CR117.trans (CHr.wr W121 Sf117_b113 CR117.1)
     have hk := Nat.le_trans hk (Keep.of_wr W121).1
     have N121 := Fr.snoc X121 N117 gn113
     obtain ⟨cl125, Ar125, q125, S125, M125, H125, G125⟩ := id V121_122
     have hin125 := own_in (2 : Int32) S125 ⟨by decide, by decide⟩
     obtain ⟨T125, h125, X125, e125, W125, st125⟩ := stC X121 hx hZ e121 Ar125 (j := (2 : Int32)) hin125 (g := (mkF m 195 #[iv p0, iv p1, iv p2, iv p3, iv iz, iv md, rv (f1 iz w_PRODUCER w_WORKER w_OPERATOR w_ADMIN), rv b_16, un, un, iv (3 : Int32), rv b113, un] [(.int ((p3 &&& (255 : Int32)).toUInt32.toUInt16.toUInt32.toInt32)), (.int (2 : Int32)), (.ref b113)])) rfl rfl (hb hby at_195)
     have V125_126 : Arv Z h125 b113 k113 .char (3 : Int32) [(.int (nar .char ((p2 &&& (255 : Int32)).toUInt32.toUInt16.toUInt32.toInt32))), (.int (nar .char ((((p2.toUInt32 >>> ((8 : Int32) &&& 31).toUInt32).toInt32) &&& (255 : Int32)).toUInt32.toUInt16.toUInt32.toInt32))), (.int (nar .char ((p3 &&& (255 : Int32)).toUInt32.toUInt16.toUInt32.toInt32)))] (.int (0 : Int32)) := Arv.set Ar125 q125 S125 M125 H125 G125 (fits_nar_char _) W125 2 rfl (Nat.le_of_ble_eq_true rfl)
     have E125_127 := E121_123.wr W125
     have E125_128 := E121_124.wr W125
     have K125 := K121.wr W125 (Or.inr sz113)
     have O125 := O121.wr W125 gn113
     have Sf125_b_16 := Safe.wr W125 Sf121_b113 CR121.1 Sf121_b_16
     have Sf125_b113 := Safe.wr W125 Sf121_b113 CR121.1 Sf121_b113
     have CR125 : CHr Z EL0 s.vm h0 s.vm h125 := CR121.trans (CHr.wr W125 Sf121_b113 CR121.1)
     have hk := Nat.le_trans hk (Keep.of_wr W125).1
     have N125 := Fr.snoc X125 N121 gn113
     obtain ⟨T129, h129, X129, e129, E129, A129, D129, -, st129⟩ := newO X125 hx hZ hown (ow hw 11 rfl) (ow hw 12 rfl) (ow hw 13 rfl) e125 (g := (mkF m 215 #[iv p0, iv p1, iv p2, iv p3, iv iz, iv md, rv (f1 iz w_PRODUCER w_WORKER w_OPERATOR w_ADMIN), rv b_16, un, un, iv (3 : Int32), rv b113, un] [])) rfl (hb hby at_215) (by decide) (by decide)
     obtain ⟨b129, g129⟩ : ∃ z, z = h125.size := ⟨_, rfl⟩
     rw [← g129] at A129 D129 st129
     have ne129_130 : b_16 ≠ b129 := Nat.ne_of_lt (Nat.lt_of_lt_of_le (E125_127).lt (Nat.le_of_eq g129.symm))
     have ne129_131 : b113 ≠ b129 := Nat.ne_of_lt (Nat.lt_of_lt_of_le (V125_126).lt (Nat.le_of_eq g129.symm))
     have gn129 : n0 ≤ b129 := Nat.le_trans (Nat.le_trans (Nat.le_of_eq O125.1.symm) O125.2.1) (Nat.le_of_eq g129.symm)
     have sz129 : h0.size ≤ b129 := Nat.le_trans K125.1 (Nat.le_of_eq g129.symm)
     have Sn129 : Safe Z EL0 s.vm h125 b129 := Safe.new (Nat.le_of_eq g129.symm)
     have E129_132 := E125_127.ext E129
     have V129_133 := V125_126.ext E129
     have E129_134 := E125_128.ext E129
     have K129 := K125.ext E129
     have O129 := O125.ext E129
     have Sf129_b_16 := Safe.ext E129 CR125.1 Sf125_b_16
     have Sf129_b113 := Safe.ext E129 CR125.1 Sf125_b113
     have Sf129_b129 := Safe.ext E129 CR125.1 Sn129
     have CR129 : CHr Z EL0 s.vm h0 s.vm h129 := CR125.trans (CHr.ext E129 CR125.1)
     have hk := Nat.le_trans hk E129.1
     have F129_135 : Fld Z h129 b129 "java/lang/String" "coder" "B" (.int (0 : Int32)) := D129 (Or.inr (ow hw 37 rfl)) (ty := .byte) (by decide)
     have F129_136 : Fld Z h129 b129 "java/lang/String" "value" "[B" .null := D129 (Or.inr (ow hw 39 rfl)) (ty := (.array .byte)) (by decide)
     obtain ⟨_, _, ⟨T137, L137, k137, n137⟩, -, X137, ⟨Lc137, hQ137, l137, y137, z137⟩, st137⟩ := X129.specialBack hx (y := y3) rfl hown (mvT hZ (ow hw 14 rfl)) (mvT hZ (ow hw 15 rfl)) (mvT hZ (ow hw 16 rfl)) (by decide) (StrChars.Road.backV (W := 1) hZ (own_ws hw) (ow hw 12 rfl) (cs := [(nar .char ((p2 &&& (255 : Int32)).toUInt32.toUInt16.toUInt32.toInt32)), (nar .char ((((p2.toUInt32 >>> ((8 : Int32) &&& 31).toUInt32).toInt32) &&& (255 : Int32)).toUInt32.toUInt16.toUInt32.toInt32)), (nar .char ((p3 &&& (255 : Int32)).toUInt32.toUInt16.toUInt32.toInt32))]) (bs := [((nar .char ((p2 &&& (255 : Int32)).toUInt32.toUInt16.toUInt32.toInt32)).toInt8.toInt32), ((nar .char ((((p2.toUInt32 >>> ((8 : Int32) &&& 31).toUInt32).toInt32) &&& (255 : Int32)).toUInt32.toUInt16.toUInt32.toInt32)).toInt8.toInt32), ((nar .char ((p3 &&& (255 : Int32)).toUInt32.toUInt16.toUInt32.toInt32)).toInt8.toInt32)]) (n := 3) gn129 (Nat.le_trans (Nat.le_of_eq O129.1.symm) O129.2.1) A129 F129_136 F129_135 V129_133 (S_COMPACT_STRINGS.ext O129.2) hz_w_CS0 rfl (by decide) (by decide) (by decide) (own_cc ⟨own_ln _, own_le _⟩ (own_cc ⟨own_ln _, own_le _⟩ (own_cc ⟨own_ln _, own_le _⟩ own_cn))) rfl (by decide) (by decide)) (g := (mkF m 221 #[iv p0, iv p1, iv p2, iv p3, iv iz, iv md, rv (f1 iz w_PRODUCER w_WORKER w_OPERATOR w_ADMIN), rv b_16, un, un, iv (3 : Int32), rv b113, un] [(.ref b113), (.ref b129), (.ref b129)])) rfl (by rw [hml]; rfl) (Steps.refl _) (a := b129) (argsL := [(.ref b113)]) (rest := [(.ref b129)]) (lenOf pd_7 rfl) rfl (by show 2 * 0 + _ ≤ _; exact Nat.le_of_eq rfl) (hb hby at_221) (fun _ _ => ⟨rfl, e129, (by decide : 3 + 1 ≤ _), (by decide : 15 + 3 ≤ _)⟩)
     dsimp only [Pt.U, Pt.locs, Pt.cells, Pt.slots] at X137 l137 y137 z137 st137 hQ137
     subst l137 y137 z137
     obtain ⟨rfl, N137q, Kq137, uE137, uC137, t137, kt137, -, tg137, tn137, uF137, uV137⟩ := hQ137
     have N137 := Fr.app N125 N137q
     have ne138 : b_16 ≠ t137 := Nat.ne_of_lt (Nat.lt_of_lt_of_le (E129_132).lt tg137)
     have ne139 : b113 ≠ t137 := Nat.ne_of_lt (Nat.lt_of_lt_of_le (V129_133).lt tg137)
     have ne140 : b129 ≠ t137 := Nat.ne_of_lt (Nat.lt_of_lt_of_le (A129).lt tg137)
     have E137_141 := E129_132.keep Kq137
     have V137_142 := V129_133.keep Kq137 (ninS ne129_131 nin0)
     have E137_143 := E129_134.keep Kq137
     have E137_144 := A129.keep Kq137
     have K137 := K129.trans Kq137 (allS (Or.inr sz129) all0)
     have O137 := O129.keep Kq137 (allS gn129 all0)
     have Sf137_b_16 := Safe.keep Kq137 (allS Sf129_b129 all0) CR129.1 Sf129_b_16
     have Sf137_b113 := Safe.keep Kq137 (allS Sf129_b129 all0) CR129.1 Sf129_b113
     have Sf137_b129 := Safe.keep Kq137 (allS Sf129_b129 all0) CR129.1 Sf129_b129
     have CR137 : CHr Z EL0 s.vm h0 s.vm T137.heap := CR129.trans (CHr.keep Kq137 (allS Sf129_b129 all0) CR129.1)
     have hk := Nat.le_trans hk Kq137.1
     have sz137 : h0.size ≤ t137 := Nat.le_trans K129.1 tg137
     have gn137 : n0 ≤ t137 := Nat.le_trans (Nat.le_trans (Nat.le_of_eq O129.1.symm) O129.2.1) tg137
     have Sn137 : Safe Z EL0 s.vm T137.heap t137 := Safe.keep Kq137 (allS Sf129_b129 all0) CR129.1 (Safe.new tg137)
     have uC137' : Fld Z T137.heap b129 "java/lang/String" "coder" "B" (.int (0 : Int32)) := uC137
     have uF137' : Fld Z T137.heap b129 "java/lang/String" "value" "[B" (.ref t137) := uF137
     have uV137' : Arv Z T137.heap t137 kt137 .byte (3 : Int32) [(.int ((nar .char ((p2 &&& (255 : Int32)).toUInt32.toUInt16.toUInt32.toInt32)).toInt8.toInt32)), (.int ((nar .char ((((p2.toUInt32 >>> ((8 : Int32) &&& 31).toUInt32).toInt32) &&& (255 : Int32)).toUInt32.toUInt16.toUInt32.toInt32)).toInt8.toInt32)), (.int ((nar .char ((p3 &&& (255 : Int32)).toUInt32.toUInt16.toUInt32.toInt32)).toInt8.toInt32))] (.int (0 : Int32)) := uV137
     obtain ⟨_, _, ⟨T145, L145, k145, n145⟩, -, X145, ⟨Lc145, hQ145, l145, y145, z145⟩, st145⟩ := Jvm.LawKit.callS X137 hx (y := y9) hown (mvT hZ (ow hw 40 rfl)) (mvT hZ (ow hw 41 rfl)) (mvT hZ (ow hw 5 rfl)) (mvT hZ (ow hw 42 rfl)) (by decide) (backOf (W := 0) (rm9x l Z ar hw [] b129 w_CS0 w_SF1 w_PRODUCER w__VALUES w_WORKER w_OPERATOR w_ADMIN w_PRODUCER_shown w_PRODUCER_shown_value w_WORKER_shown w_WORKER_shown_value w_OPERATOR_shown w_OPERATOR_shown_value w_ADMIN_shown w_ADMIN_shown_value k__VALUES k_PRODUCER_shown_value k_WORKER_shown_value k_OPERATOR_shown_value k_ADMIN_shown_value t137 kt137 (3 : Int32) [(.int ((nar .char ((p2 &&& (255 : Int32)).toUInt32.toUInt16.toUInt32.toInt32)).toInt8.toInt32)), (.int ((nar .char ((((p2.toUInt32 >>> ((8 : Int32) &&& 31).toUInt32).toInt32) &&& (255 : Int32)).toUInt32.toUInt16.toUInt32.toInt32)).toInt8.toInt32)), (.int ((nar .char ((p3 &&& (255 : Int32)).toUInt32.toUInt16.toUInt32.toInt32)).toInt8.toInt32))] T137.heap n0 O137 HW E137_144 uC137' uF137' uV137' gn129 (by decide) (by decide) (by decide)) hZ (ow hw 42 rfl) (ow hw 5 rfl) (by decide) (by decide)) (g := (mkF m 240 #[iv p0, iv p1, iv p2, iv p3, iv iz, iv md, rv (f1 iz w_PRODUCER w_WORKER w_OPERATOR w_ADMIN), rv b_16, rv b129, .val .null, iv (3 : Int32), rv b113, un] [(.ref b129)])) rfl (by rw [hml]; rfl) (argsL := [(.ref b129)]) (rest := []) (lenOf pd_5 rfl) rfl (by show 2 * 0 + _ ≤ _; exact Nat.le_of_eq rfl) (hb hby at_240) (fun _ _ => ⟨rfl, rfl, (by decide : 4 + 1 ≤ _), (by decide : 18 + 4 ≤ _)⟩)
     dsimp only [Pt.U, Pt.locs, Pt.cells, Pt.slots] at X145 l145 y145 z145 st145 hQ145
     subst l145 y145 z145
     obtain ⟨rfl, N145q, Kq145⟩ := hQ145
     have N145 := Fr.app N137 N145q
     have E145_146 := E137_141.keep Kq145
     have V145_147 := V137_142.keep Kq145 nin0
     have E145_148 := E137_143.keep Kq145
     have E145_149 := E137_144.keep Kq145
     have F145_150 := uC137'.keep Kq145 nin0
     have F145_151 := uF137'.keep Kq145 nin0
     have V145_152 := uV137'.keep Kq145 nin0
     have K145 := K137.trans Kq145 all0
     have O145 := O137.keep Kq145 all0
     have Sf145_b_16 := Safe.keep Kq145 all0 CR137.1 Sf137_b_16
     have Sf145_b113 := Safe.keep Kq145 all0 CR137.1 Sf137_b113
     have Sf145_b129 := Safe.keep Kq145 all0 CR137.1 Sf137_b129
     have Sf145_t137 := Safe.keep Kq145 all0 CR137.1 Sn137
     have CR145 : CHr Z EL0 s.vm h0 s.vm T145.heap := CR137.trans (CHr.keep Kq145 all0 CR137.1)
     have hk := Nat.le_trans hk Kq145.1
     obtain ⟨fs, hr, hrun, hended, hRE⟩ := X145.leaveW hS hk (v := some (.int (1 : Int32))) (fun h => by rw [Bd.returns] at h; cases h)
     have CRf : CHr Z EL0 s.vm s.heap (T145.setFrames fs).vm (T145.setFrames fs).heap := by
       show CHr Z EL0 s.vm s.heap T145.vm T145.heap
       rw [hh]
       exact CR145.trans (CHv.at X145 hZ hEL CR145.1)
     subst hS0
     refine ⟨_, _, pre19 _ ?_, hrun, hended, _, _, rfl, ?_, CRf, hRE.1, hRE.2.1, hRE.2.2.1, hRE.2.2.2.mono (by decide) (by decide)⟩
     ·
      refine XS.iload X16.here hx rfl (hb hby at_140) rfl ?_
      refine st113 _ ?_
      refine XS.astore X113.here hx rfl (hb hby at_144) rfl rfl (l' := #[iv p0, iv p1, iv p2, iv p3, iv iz, iv md, rv (f1 iz w_PRODUCER w_WORKER w_OPERATOR w_ADMIN), rv b_16, un, un, iv (3 : Int32), rv b113, un]) rfl ?_
      refine XS.iload X113.here hx rfl (hb hby at_146) rfl ?_
      show AT p e below T113 m 148 #[iv p0, iv p1, iv p2, iv p3, iv iz, iv md, rv (f1 iz w_PRODUCER w_WORKER w_OPERATOR w_ADMIN), rv b_16, un, un, iv (3 : Int32), rv b113, un] [(.int (3 : Int32))] _
      refine XS.ifNo X113.here hx rfl (hb hby at_148) rfl (XT.i0_le_f ((by decide) : (0 : Int32) < (3 : Int32))) ?_
      refine XS.aload X113.here hx rfl (hb hby at_151) rfl rfl ?_
      refine XS.iconst X113.here hx rfl (hb hby at_153) ?_
      refine XS.iloadN X113.here hx rfl (hb hby at_154) rfl ?_
      refine XS.sipush X113.here hx rfl (hb hby at_155) ?_
      refine XS.iand X113.here hx rfl (hb hby at_158) rfl ?_
      refine XS.i2c X113.here hx rfl (hb hby at_159) rfl ?_
      refine st117 _ ?_
      refine XS.iload X117.here hx rfl (hb hby at_161) rfl ?_
      refine XS.iconst X117.here hx rfl (hb hby at_163) ?_
      show AT p e below T117 m 164 #[iv p0, iv p1, iv p2, iv p3, iv iz, iv md, rv (f1 iz w_PRODUCER w_WORKER w_OPERATOR w_ADMIN), rv b_16, un, un, iv (3 : Int32), rv b113, un] [(.int (1 : Int32)), (.int (3 : Int32))] _
      refine XS.icmpNo X117.here hx rfl (hb hby at_164) rfl (XT.ii_le_f ((by decide) : (1 : Int32) < (3 : Int32))) ?_
      refine XS.aload X117.here hx rfl (hb hby at_167) rfl rfl ?_
      refine XS.iconst X117.here hx rfl (hb hby at_169) ?_
      refine XS.iloadN X117.here hx rfl (hb hby at_170) rfl ?_
      show AT p e below T117 m 171 #[iv p0, iv p1, iv p2, iv p3, iv iz, iv md, rv (f1 iz w_PRODUCER w_WORKER w_OPERATOR w_ADMIN), rv b_16, un, un, iv (3 : Int32), rv b113, un] [(.int p2), (.int (1 : Int32)), (.ref b113)] _
      refine XS.bipush X117.here hx rfl (hb hby at_171) ?_
      refine XS.iushr X117.here hx rfl (hb hby at_173) rfl ?_
      refine XS.sipush X117.here hx rfl (hb hby at_174) ?_
      refine XS.iand X117.here hx rfl (hb hby at_177) rfl ?_
      refine XS.i2c X117.here hx rfl (hb hby at_178) rfl ?_
      refine st121 _ ?_
      refine XS.iload X121.here hx rfl (hb hby at_180) rfl ?_
      refine XS.iconst X121.here hx rfl (hb hby at_182) ?_
      show AT p e below T121 m 183 #[iv p0, iv p1, iv p2, iv p3, iv iz, iv md, rv (f1 iz w_PRODUCER w_WORKER w_OPERATOR w_ADMIN), rv b_16, un, un, iv (3 : Int32), rv b113, un] [(.int (2 : Int32)), (.int (3 : Int32))] _
      refine XS.icmpNo X121.here hx rfl (hb hby at_183) rfl (XT.ii_le_f ((by decide) : (2 : Int32) < (3 : Int32))) ?_
      refine XS.aload X121.here hx rfl (hb hby at_186) rfl rfl ?_
      refine XS.iconst X121.here hx rfl (hb hby at_188) ?_
      refine XS.iloadN X121.here hx rfl (hb hby at_189) rfl ?_
      refine XS.sipush X121.here hx rfl (hb hby at_190) ?_
      refine XS.iand X121.here hx rfl (hb hby at_193) rfl ?_
      refine XS.i2c X121.here hx rfl (hb hby at_194) rfl ?_
      refine st125 _ ?_
      refine XS.iload X125.here hx rfl (hb hby at_196) rfl ?_
      show AT p e below T125 m 198 #[iv p0, iv p1, iv p2, iv p3, iv iz, iv md, rv (f1 iz w_PRODUCER w_WORKER w_OPERATOR w_ADMIN), rv b_16, un, un, iv (3 : Int32), rv b113, un] [(.int (3 : Int32))] _
      refine XS.iconst X125.here hx rfl (hb hby at_198) ?_
      show AT p e below T125 m 199 #[iv p0, iv p1, iv p2, iv p3, iv iz, iv md, rv (f1 iz w_PRODUCER w_WORKER w_OPERATOR w_ADMIN), rv b_16, un, un, iv (3 : Int32), rv b113, un] [(.int (3 : Int32)), (.int (3 : Int32))] _
      refine XS.icmpYes X125.here hx rfl (pc0 := 199) (pc' := 215) rfl (hb hby at_199) rfl (XT.ii_le_t ((by decide) : ¬ ((3 : Int32) < (3 : Int32)))) (by decide) (by decide) ?_
      refine st129 _ ?_
      refine XS.dup X129.here hx rfl (hb hby at_218) rfl rfl ?_
      refine XS.aload X129.here hx rfl (hb hby at_219) rfl rfl ?_
      refine st137.trans ?_
      refine XS.astore X137.here hx rfl (hb hby at_224) rfl rfl (l' := #[iv p0, iv p1, iv p2, iv p3, iv iz, iv md, rv (f1 iz w_PRODUCER w_WORKER w_OPERATOR w_ADMIN), rv b_16, rv b129, un, iv (3 : Int32), rv b113, un]) rfl ?_
      refine XS.aconstNull X137.here hx rfl (hb hby at_226) ?_
      refine XS.astore X137.here hx rfl (hb hby at_227) rfl rfl (l' := #[iv p0, iv p1, iv p2, iv p3, iv iz, iv md, rv (f1 iz w_PRODUCER w_WORKER w_OPERATOR w_ADMIN), rv b_16, rv b129, .val .null, iv (3 : Int32), rv b113, un]) rfl ?_
      refine XS.goto X137.here hx rfl (pc0 := 229) (pc' := 238) rfl (hb hby at_229) (by decide) (by decide) ?_
      refine XS.aload X137.here hx rfl (hb hby at_238) rfl rfl ?_
      refine st145 _ ?_
      refine XS.aload X145.here hx rfl (hb hby at_243) rfl rfl ?_
      show AT p e below T145 m 245 #[iv p0, iv p1, iv p2, iv p3, iv iz, iv md, rv (f1 iz w_PRODUCER w_WORKER w_OPERATOR w_ADMIN), rv b_16, rv b129, .val .null, iv (3 : Int32), rv b113, un] [.null, .null] _
      refine Jvm.RoadKit.acmp (g := (mkF m 245 #[iv p0, iv p1, iv p2, iv p3, iv iz, iv md, rv (f1 iz w_PRODUCER w_WORKER w_OPERATOR w_ADMIN), rv b_16, rv b129, .val .null, iv (3 : Int32), rv b113, un] [.null, .null])) X145 hx rfl rfl rfl (pc0 := 245) (pc' := 248) (same := true) rfl (hb hby at_245) rfl (decide_eq_true rfl) (by decide) (by decide) ?_
      refine XS.iconst X145.here hx rfl (hb hby at_248) ?_
      refine XS.goto X145.here hx rfl (pc0 := 249) (pc' := 253) rfl (hb hby at_249) (by decide) (by decide) ?_
      exact retN X145 hx (t := .boolean) Bd.returns (by simp) (hb hby at_253) hr
     ·
      show Q0 Z p0 p1 p2 p3 w_CS0 w_SF1 w_PRODUCER w__VALUES w_WORKER w_OPERATOR w_ADMIN w_PRODUCER_shown w_PRODUCER_shown_value w_WORKER_shown w_WORKER_shown_value w_OPERATOR_shown w_OPERATOR_shown_value w_ADMIN_shown w_ADMIN_shown_value k__VALUES k_PRODUCER_shown_value k_WORKER_shown_value k_OPERATOR_shown_value k_ADMIN_shown_value h0 n0 _ T145.heap _
      exact ⟨rfl, N145⟩
    ·
     obtain ⟨T153, h153, k153, X153, e153, E153, A153, B153, st153⟩ := newPE X16 hx hZ (ow hw 10 rfl) rfl (g := (mkF m 142 #[iv p0, iv p1, iv p2, iv p3, iv iz, iv md, rv (f1 iz w_PRODUCER w_WORKER w_OPERATOR w_ADMIN), rv b_16, un, un, iv (4 : Int32), un, un] [(.int (4 : Int32))])) rfl (hb hby at_142) rfl (by decide) (cap := 4) (by decide) (by decide) (by decide) (by decide) (ad := "[C") (by decide)
     obtain ⟨b153, g153⟩ : ∃ z, z = T16.heap.size := ⟨_, rfl⟩
     rw [← g153] at A153 B153 st153
     have ne153_154 : b_16 ≠ b153 := Nat.ne_of_lt (Nat.lt_of_lt_of_le (u16_1).lt (Nat.le_of_eq g153.symm))
     have gn153 : n0 ≤ b153 := Nat.le_trans (Nat.le_trans (Nat.le_of_eq O16.1.symm) O16.2.1) (Nat.le_of_eq g153.symm)
     have sz153 : h0.size ≤ b153 := Nat.le_trans K16.1 (Nat.le_of_eq g153.symm)
     have Sn153 : Safe Z EL0 s.vm T16.heap b153 := Safe.new (Nat.le_of_eq g153.symm)
     have E153_155 := u16_1.ext E153
     have K153 := K16.ext E153
     have O153 := O16.ext E153
     have Sf153_b_16 := Safe.ext E153 CR16.1 Sn17
     have Sf153_b153 := Safe.ext E153 CR16.1 Sn153
     have CR153 : CHr Z EL0 s.vm h0 s.vm h153 := CR16.trans (CHr.ext E153 CR16.1)
     have hk := Nat.le_trans hk E153.1
     have V153_156 : Arv Z h153 b153 k153 .char (4 : Int32) [(.int (0 : Int32)), (.int (0 : Int32)), (.int (0 : Int32)), (.int (0 : Int32))] (.int (0 : Int32)) := (Arv.new A153 (by decide)).pad (pad_rep [] (.int (0 : Int32)) 4)
     obtain ⟨cl157, Ar157, q157, S157, M157, H157, G157⟩ := id V153_156
     have hin157 := own_in (0 : Int32) S157 ⟨by decide, by decide⟩
     obtain ⟨T157, h157, X157, e157, W157, st157⟩ := stC X153 hx hZ e153 Ar157 (j := (0 : Int32)) hin157 (g := (mkF m 160 #[iv p0, iv p1, iv p2, iv p3, iv iz, iv md, rv (f1 iz w_PRODUCER w_WORKER w_OPERATOR w_ADMIN), rv b_16, un, un, iv (4 : Int32), rv b153, un] [(.int ((p2 &&& (255 : Int32)).toUInt32.toUInt16.toUInt32.toInt32)), (.int (0 : Int32)), (.ref b153)])) rfl rfl (hb hby at_160)
     have V157_158 : Arv Z h157 b153 k153 .char (4 : Int32) [(.int (nar .char ((p2 &&& (255 : Int32)).toUInt32.toUInt16.toUInt32.toInt32))), (.int (0 : Int32)), (.int (0 : Int32)), (.int (0 : Int32))] (.int (0 : Int32)) := Arv.set Ar157 q157 S157 M157 H157 G157 (fits_nar_char _) W157 0 rfl (Nat.le_of_ble_eq_true rfl)
     have E157_159 := E153_155.wr W157
     have E157_160 := B153.wr W157
     have K157 := K153.wr W157 (Or.inr sz153)
     have O157 := O153.wr W157 gn153
     have Sf157_b_16 := Safe.wr W157 Sf153_b153 CR153.1 Sf153_b_16
     have Sf157_b153 := Safe.wr W157 Sf153_b153 CR153.1 Sf153_b153
     have CR157 : CHr Z EL0 s.vm h0 s.vm h157 := CR153.trans (CHr.wr W157 Sf153_b153 CR153.1)
     have hk := Nat.le_trans hk (Keep.of_wr W157).1
     have N157 := Fr.snoc X157 N16 gn153
     obtain ⟨cl161, Ar161, q161, S161, M161, H161, G161⟩ := id V157_158
     have hin161 := own_in (1 : Int32) S161 ⟨by decide, by decide⟩
     obtain ⟨T161, h161, X161, e161, W161, st161⟩ := stC X157 hx hZ e157 Ar161 (j := (1 : Int32)) hin161 (g := (mkF m 179 #[iv p0, iv p1, iv p2, iv p3, iv iz, iv md, rv (f1 iz w_PRODUCER w_WORKER w_OPERATOR w_ADMIN), rv b_16, un, un, iv (4 : Int32), rv b153, un] [(.int ((((p2.toUInt32 >>> ((8 : Int32) &&& 31).toUInt32).toInt32) &&& (255 : Int32)).toUInt32.toUInt16.toUInt32.toInt32)), (.int (1 : Int32)), (.ref b153)])) rfl rfl (hb hby at_179)
     have V161_162 : Arv Z h161 b153 k153 .char (4 : Int32) [(.int (nar .char ((p2 &&& (255 : Int32)).toUInt32.toUInt16.toUInt32.toInt32))), (.int (nar .char ((((p2.toUInt32 >>> ((8 : Int32) &&& 31).toUInt32).toInt32) &&& (255 : Int32)).toUInt32.toUInt16.toUInt32.toInt32))), (.int (0 : Int32)), (.int (0 : Int32))] (.int (0 : Int32)) := Arv.set Ar161 q161 S161 M161 H161 G161 (fits_nar_char _) W161 1 rfl (Nat.le_of_ble_eq_true rfl)
     have E161_163 := E157_159.wr W161
     have E161_164 := E157_160.wr W161
     have K161 := K157.wr W161 (Or.inr sz153)
     have O161 := O157.wr W161 gn153
     have Sf161_b_16 := Safe.wr W161 Sf157_b153 CR157.1 Sf157_b_16
     have Sf161_b153 := Safe.wr W161 Sf157_b153 CR157.1 Sf157_b153
     have CR161 : CHr Z EL0 s.vm h0 s.vm h161 := CR157.trans (CHr.wr W161 Sf157_b153 CR157.1)
     have hk := Nat.le_trans hk (Keep.of_wr W161).1
     have N161 := Fr.snoc X161 N157 gn153
     obtain ⟨cl165, Ar165, q165, S165, M165, H165, G165⟩ := id V161_162
     have hin165 := own_in (2 : Int32) S165 ⟨by decide, by decide⟩
     obtain ⟨T165, h165, X165, e165, W165, st165⟩ := stC X161 hx hZ e161 Ar165 (j := (2 : Int32)) hin165 (g := (mkF m 195 #[iv p0, iv p1, iv p2, iv p3, iv iz, iv md, rv (f1 iz w_PRODUCER w_WORKER w_OPERATOR w_ADMIN), rv b_16, un, un, iv (4 : Int32), rv b153, un] [(.int ((p3 &&& (255 : Int32)).toUInt32.toUInt16.toUInt32.toInt32)), (.int (2 : Int32)), (.ref b153)])) rfl rfl (hb hby at_195)
     have V165_166 : Arv Z h165 b153 k153 .char (4 : Int32) [(.int (nar .char ((p2 &&& (255 : Int32)).toUInt32.toUInt16.toUInt32.toInt32))), (.int (nar .char ((((p2.toUInt32 >>> ((8 : Int32) &&& 31).toUInt32).toInt32) &&& (255 : Int32)).toUInt32.toUInt16.toUInt32.toInt32))), (.int (nar .char ((p3 &&& (255 : Int32)).toUInt32.toUInt16.toUInt32.toInt32))), (.int (0 : Int32))] (.int (0 : Int32)) := Arv.set Ar165 q165 S165 M165 H165 G165 (fits_nar_char _) W165 2 rfl (Nat.le_of_ble_eq_true rfl)
     have E165_167 := E161_163.wr W165
     have E165_168 := E161_164.wr W165
     have K165 := K161.wr W165 (Or.inr sz153)
     have O165 := O161.wr W165 gn153
     have Sf165_b_16 := Safe.wr W165 Sf161_b153 CR161.1 Sf161_b_16
     have Sf165_b153 := Safe.wr W165 Sf161_b153 CR161.1 Sf161_b153
     have CR165 : CHr Z EL0 s.vm h0 s.vm h165 := CR161.trans (CHr.wr W165 Sf161_b153 CR161.1)
     have hk := Nat.le_trans hk (Keep.of_wr W165).1
     have N165 := Fr.snoc X165 N161 gn153
     obtain ⟨cl169, Ar169, q169, S169, M169, H169, G169⟩ := id V165_166
     have hin169 := own_in (3 : Int32) S169 ⟨by decide, by decide⟩
     obtain ⟨T169, h169, X169, e169, W169, st169⟩ := stC X165 hx hZ e165 Ar169 (j := (3 : Int32)) hin169 (g := (mkF m 214 #[iv p0, iv p1, iv p2, iv p3, iv iz, iv md, rv (f1 iz w_PRODUCER w_WORKER w_OPERATOR w_ADMIN), rv b_16, un, un, iv (4 : Int32), rv b153, un] [(.int ((((p3.toUInt32 >>> ((8 : Int32) &&& 31).toUInt32).toInt32) &&& (255 : Int32)).toUInt32.toUInt16.toUInt32.toInt32)), (.int (3 : Int32)), (.ref b153)])) rfl rfl (hb hby at_214)
     have V169_170 : Arv Z h169 b153 k153 .char (4 : Int32) [(.int (nar .char ((p2 &&& (255 : Int32)).toUInt32.toUInt16.toUInt32.toInt32))), (.int (nar .char ((((p2.toUInt32 >>> ((8 : Int32) &&& 31).toUInt32).toInt32) &&& (255 : Int32)).toUInt32.toUInt16.toUInt32.toInt32))), (.int (nar .char ((p3 &&& (255 : Int32)).toUInt32.toUInt16.toUInt32.toInt32))), (.int (nar .char ((((p3.toUInt32 >>> ((8 : Int32) &&& 31).toUInt32).toInt32) &&& (255 : Int32)).toUInt32.toUInt16.toUInt32.toInt32)))] (.int (0 : Int32)) := Arv.set Ar169 q169 S169 M169 H169 G169 (fits_nar_char _) W169 3 rfl (Nat.le_of_ble_eq_true rfl)
     have E169_171 := E165_167.wr W169
     have E169_172 := E165_168.wr W169
     have K169 := K165.wr W169 (Or.inr sz153)
     have O169 := O165.wr W169 gn153
     have Sf169_b_16 := Safe.wr W169 Sf165_b153 CR165.1 Sf165_b_16
     have Sf169_b153 := Safe.wr W169 Sf165_b153 CR165.1 Sf165_b153
     have CR169 : CHr Z EL0 s.vm h0 s.vm h169 := CR165.trans (CHr.wr W169 Sf165_b153 CR165.1)
     have hk := Nat.le_trans hk (Keep.of_wr W169).1
     have N169 := Fr.snoc X169 N165 gn153
     obtain ⟨T173, h173, X173, e173, E173, A173, D173, -, st173⟩ := newO X169 hx hZ hown (ow hw 11 rfl) (ow hw 12 rfl) (ow hw 13 rfl) e169 (g := (mkF m 215 #[iv p0, iv p1, iv p2, iv p3, iv iz, iv md, rv (f1 iz w_PRODUCER w_WORKER w_OPERATOR w_ADMIN), rv b_16, un, un, iv (4 : Int32), rv b153, un] [])) rfl (hb hby at_215) (by decide) (by decide)
     obtain ⟨b173, g173⟩ : ∃ z, z = h169.size := ⟨_, rfl⟩
     rw [← g173] at A173 D173 st173
     have ne173_174 : b_16 ≠ b173 := Nat.ne_of_lt (Nat.lt_of_lt_of_le (E169_171).lt (Nat.le_of_eq g173.symm))
     have ne173_175 : b153 ≠ b173 := Nat.ne_of_lt (Nat.lt_of_lt_of_le (V169_170).lt (Nat.le_of_eq g173.symm))
     have gn173 : n0 ≤ b173 := Nat.le_trans (Nat.le_trans (Nat.le_of_eq O169.1.symm) O169.2.1) (Nat.le_of_eq g173.symm)
     have sz173 : h0.size ≤ b173 := Nat.le_trans K169.1 (Nat.le_of_eq g173.symm)
     have Sn173 : Safe Z EL0 s.vm h169 b173 := Safe.new (Nat.le_of_eq g173.symm)
     have E173_176 := E169_171.ext E173
     have V173_177 := V169_170.ext E173
     have E173_178 := E169_172.ext E173
     have K173 := K169.ext E173
     have O173 := O169.ext E173
     have Sf173_b_16 := Safe.ext E173 CR169.1 Sf169_b_16
     have Sf173_b153 := Safe.ext E173 CR169.1 Sf169_b153
     have Sf173_b173 := Safe.ext E173 CR169.1 Sn173
     have CR173 : CHr Z EL0 s.vm h0 s.vm h173 := CR169.trans (CHr.ext E173 CR169.1)
     have hk := Nat.le_trans hk E173.1
     have F173_179 : Fld Z h173 b173 "java/lang/String" "coder" "B" (.int (0 : Int32)) := D173 (Or.inr (ow hw 37 rfl)) (ty := .byte) (by decide)
     have F173_180 : Fld Z h173 b173 "java/lang/String" "value" "[B" .null := D173 (Or.inr (ow hw 39 rfl)) (ty := (.array .byte)) (by decide)
     obtain ⟨_, _, ⟨T181, L181, k181, n181⟩, -, X181, ⟨Lc181, hQ181, l181, y181, z181⟩, st181⟩ := X173.specialBack hx (y := y3) rfl hown (mvT hZ (ow hw 14 rfl)) (mvT hZ (ow hw 15 rfl)) (mvT hZ (ow hw 16 rfl)) (by decide) (StrChars.Road.backV (W := 1) hZ (own_ws hw) (ow hw 12 rfl) (cs := [(nar .char ((p2 &&& (255 : Int32)).toUInt32.toUInt16.toUInt32.toInt32)), (nar .char ((((p2.toUInt32 >>> ((8 : Int32) &&& 31).toUInt32).toInt32) &&& (255 : Int32)).toUInt32.toUInt16.toUInt32.toInt32)), (nar .char ((p3 &&& (255 : Int32)).toUInt32.toUInt16.toUInt32.toInt32)), (nar .char ((((p3.toUInt32 >>> ((8 : Int32) &&& 31).toUInt32).toInt32) &&& (255 : Int32)).toUInt32.toUInt16.toUInt32.toInt32))]) (bs := [((nar .char ((p2 &&& (255 : Int32)).toUInt32.toUInt16.toUInt32.toInt32)).toInt8.toInt32), ((nar .char ((((p2.toUInt32 >>> ((8 : Int32) &&& 31).toUInt32).toInt32) &&& (255 : Int32)).toUInt32.toUInt16.toUInt32.toInt32)).toInt8.toInt32), ((nar .char ((p3 &&& (255 : Int32)).toUInt32.toUInt16.toUInt32.toInt32)).toInt8.toInt32), ((nar .char ((((p3.toUInt32 >>> ((8 : Int32) &&& 31).toUInt32).toInt32) &&& (255 : Int32)).toUInt32.toUInt16.toUInt32.toInt32)).toInt8.toInt32)]) (n := 4) gn173 (Nat.le_trans (Nat.le_of_eq O173.1.symm) O173.2.1) A173 F173_180 F173_179 V173_177 (S_COMPACT_STRINGS.ext O173.2) hz_w_CS0 rfl (by decide) (by decide) (by decide) (own_cc ⟨own_ln _, own_le _⟩ (own_cc ⟨own_ln _, own_le _⟩ (own_cc ⟨own_ln _, own_le _⟩ (own_cc ⟨own_ln _, own_le _⟩ own_cn)))) rfl (by decide) (by decide)) (g := (mkF m 221 #[iv p0, iv p1, iv p2, iv p3, iv iz, iv md, rv (f1 iz w_PRODUCER w_WORKER w_OPERATOR w_ADMIN), rv b_16, un, un, iv (4 : Int32), rv b153, un] [(.ref b153), (.ref b173), (.ref b173)])) rfl (by rw [hml]; rfl) (Steps.refl _) (a := b173) (argsL := [(.ref b153)]) (rest := [(.ref b173)]) (lenOf pd_7 rfl) rfl (by show 2 * 0 + _ ≤ _; exact Nat.le_of_eq rfl) (hb hby at_221) (fun _ _ => ⟨rfl, e173, (by decide : 3 + 1 ≤ _), (by decide : 16 + 4 ≤ _)⟩)
     dsimp only [Pt.U, Pt.locs, Pt.cells, Pt.slots] at X181 l181 y181 z181 st181 hQ181
     subst l181 y181 z181
     obtain ⟨rfl, N181q, Kq181, uE181, uC181, t181, kt181, -, tg181, tn181, uF181, uV181⟩ := hQ181
     have N181 := Fr.app N169 N181q
     have ne182 : b_16 ≠ t181 := Nat.ne_of_lt (Nat.lt_of_lt_of_le (E173_176).lt tg181)
     have ne183 : b153 ≠ t181 := Nat.ne_of_lt (Nat.lt_of_lt_of_le (V173_177).lt tg181)
     have ne184 : b173 ≠ t181 := Nat.ne_of_lt (Nat.lt_of_lt_of_le (A173).lt tg181)
     have E181_185 := E173_176.keep Kq181
     have V181_186 := V173_177.keep Kq181 (ninS ne173_175 nin0)
     have E181_187 := E173_178.keep Kq181
     have E181_188 := A173.keep Kq181
     have K181 := K173.trans Kq181 (allS (Or.inr sz173) all0)
     have O181 := O173.keep Kq181 (allS gn173 all0)
     have Sf181_b_16 := Safe.keep Kq181 (allS Sf173_b173 all0) CR173.1 Sf173_b_16
     have Sf181_b153 := Safe.keep Kq181 (allS Sf173_b173 all0) CR173.1 Sf173_b153
     have Sf181_b173 := Safe.keep Kq181 (allS Sf173_b173 all0) CR173.1 Sf173_b173
     have CR181 : CHr Z EL0 s.vm h0 s.vm T181.heap := CR173.trans (CHr.keep Kq181 (allS Sf173_b173 all0) CR173.1)
     have hk := Nat.le_trans hk Kq181.1
     have sz181 : h0.size ≤ t181 := Nat.le_trans K173.1 tg181
     have gn181 : n0 ≤ t181 := Nat.le_trans (Nat.le_trans (Nat.le_of_eq O173.1.symm) O173.2.1) tg181
     have Sn181 : Safe Z EL0 s.vm T181.heap t181 := Safe.keep Kq181 (allS Sf173_b173 all0) CR173.1 (Safe.new tg181)
     have uC181' : Fld Z T181.heap b173 "java/lang/String" "coder" "B" (.int (0 : Int32)) := uC181
     have uF181' : Fld Z T181.heap b173 "java/lang/String" "value" "[B" (.ref t181) := uF181
     have uV181' : Arv Z T181.heap t181 kt181 .byte (4 : Int32) [(.int ((nar .char ((p2 &&& (255 : Int32)).toUInt32.toUInt16.toUInt32.toInt32)).toInt8.toInt32)), (.int ((nar .char ((((p2.toUInt32 >>> ((8 : Int32) &&& 31).toUInt32).toInt32) &&& (255 : Int32)).toUInt32.toUInt16.toUInt32.toInt32)).toInt8.toInt32)), (.int ((nar .char ((p3 &&& (255 : Int32)).toUInt32.toUInt16.toUInt32.toInt32)).toInt8.toInt32)), (.int ((nar .char ((((p3.toUInt32 >>> ((8 : Int32) &&& 31).toUInt32).toInt32) &&& (255 : Int32)).toUInt32.toUInt16.toUInt32.toInt32)).toInt8.toInt32))] (.int (0 : Int32)) := uV181
     obtain ⟨_, _, ⟨T189, L189, k189, n189⟩, -, X189, ⟨Lc189, hQ189, l189, y189, z189⟩, st189⟩ := Jvm.LawKit.callS X181 hx (y := y9) hown (mvT hZ (ow hw 40 rfl)) (mvT hZ (ow hw 41 rfl)) (mvT hZ (ow hw 5 rfl)) (mvT hZ (ow hw 42 rfl)) (by decide) (backOf (W := 0) (rm9x l Z ar hw [] b173 w_CS0 w_SF1 w_PRODUCER w__VALUES w_WORKER w_OPERATOR w_ADMIN w_PRODUCER_shown w_PRODUCER_shown_value w_WORKER_shown w_WORKER_shown_value w_OPERATOR_shown w_OPERATOR_shown_value w_ADMIN_shown w_ADMIN_shown_value k__VALUES k_PRODUCER_shown_value k_WORKER_shown_value k_OPERATOR_shown_value k_ADMIN_shown_value t181 kt181 (4 : Int32) [(.int ((nar .char ((p2 &&& (255 : Int32)).toUInt32.toUInt16.toUInt32.toInt32)).toInt8.toInt32)), (.int ((nar .char ((((p2.toUInt32 >>> ((8 : Int32) &&& 31).toUInt32).toInt32) &&& (255 : Int32)).toUInt32.toUInt16.toUInt32.toInt32)).toInt8.toInt32)), (.int ((nar .char ((p3 &&& (255 : Int32)).toUInt32.toUInt16.toUInt32.toInt32)).toInt8.toInt32)), (.int ((nar .char ((((p3.toUInt32 >>> ((8 : Int32) &&& 31).toUInt32).toInt32) &&& (255 : Int32)).toUInt32.toUInt16.toUInt32.toInt32)).toInt8.toInt32))] T181.heap n0 O181 HW E181_188 uC181' uF181' uV181' gn173 (by decide) (by decide) (by decide)) hZ (ow hw 42 rfl) (ow hw 5 rfl) (by decide) (by decide)) (g := (mkF m 240 #[iv p0, iv p1, iv p2, iv p3, iv iz, iv md, rv (f1 iz w_PRODUCER w_WORKER w_OPERATOR w_ADMIN), rv b_16, rv b173, .val .null, iv (4 : Int32), rv b153, un] [(.ref b173)])) rfl (by rw [hml]; rfl) (argsL := [(.ref b173)]) (rest := []) (lenOf pd_5 rfl) rfl (by show 2 * 0 + _ ≤ _; exact Nat.le_of_eq rfl) (hb hby at_240) (fun _ _ => ⟨rfl, rfl, (by decide : 4 + 1 ≤ _), (by decide : 20 + 4 ≤ _)⟩)
     dsimp only [Pt.U, Pt.locs, Pt.cells, Pt.slots] at X189 l189 y189 z189 st189 hQ189
     subst l189 y189 z189
     obtain ⟨rfl, N189q, Kq189⟩ := hQ189
     have N189 := Fr.app N181 N189q
     have E189_190 := E181_185.keep Kq189
     have V189_191 := V181_186.keep Kq189 nin0
     have E189_192 := E181_187.keep Kq189
     have E189_193 := E181_188.keep Kq189
     have F189_194 := uC181'.keep Kq189 nin0
     have F189_195 := uF181'.keep Kq189 nin0
     have V189_196 := uV181'.keep Kq189 nin0
     have K189 := K181.trans Kq189 all0
     have O189 := O181.keep Kq189 all0
     have Sf189_b_16 := Safe.keep Kq189 all0 CR181.1 Sf181_b_16
     have Sf189_b153 := Safe.keep Kq189 all0 CR181.1 Sf181_b153
     have Sf189_b173 := Safe.keep Kq189 all0 CR181.1 Sf181_b173
     have Sf189_t181 := Safe.keep Kq189 all0 CR181.1 Sn181
     have CR189 : CHr Z EL0 s.vm h0 s.vm T189.heap := CR181.trans (CHr.keep Kq189 all0 CR181.1)
     have hk := Nat.le_trans hk Kq189.1
     obtain ⟨fs, hr, hrun, hended, hRE⟩ := X189.leaveW hS hk (v := some (.int (1 : Int32))) (fun h => by rw [Bd.returns] at h; cases h)
     have CRf : CHr Z EL0 s.vm s.heap (T189.setFrames fs).vm (T189.setFrames fs).heap := by
       show CHr Z EL0 s.vm s.heap T189.vm T189.heap
       rw [hh]
       exact CR189.trans (CHv.at X189 hZ hEL CR189.1)
     subst hS0
     refine ⟨_, _, pre19 _ ?_, hrun, hended, _, _, rfl, ?_, CRf, hRE.1, hRE.2.1, hRE.2.2.1, hRE.2.2.2.mono (by decide) (by decide)⟩
     ·
      refine XS.iload X16.here hx rfl (hb hby at_140) rfl ?_
      refine st153 _ ?_
      refine XS.astore X153.here hx rfl (hb hby at_144) rfl rfl (l' := #[iv p0, iv p1, iv p2, iv p3, iv iz, iv md, rv (f1 iz w_PRODUCER w_WORKER w_OPERATOR w_ADMIN), rv b_16, un, un, iv (4 : Int32), rv b153, un]) rfl ?_
      refine XS.iload X153.here hx rfl (hb hby at_146) rfl ?_
      show AT p e below T153 m 148 #[iv p0, iv p1, iv p2, iv p3, iv iz, iv md, rv (f1 iz w_PRODUCER w_WORKER w_OPERATOR w_ADMIN), rv b_16, un, un, iv (4 : Int32), rv b153, un] [(.int (4 : Int32))] _
      refine XS.ifNo X153.here hx rfl (hb hby at_148) rfl (XT.i0_le_f ((by decide) : (0 : Int32) < (4 : Int32))) ?_
      refine XS.aload X153.here hx rfl (hb hby at_151) rfl rfl ?_
      refine XS.iconst X153.here hx rfl (hb hby at_153) ?_
      refine XS.iloadN X153.here hx rfl (hb hby at_154) rfl ?_
      refine XS.sipush X153.here hx rfl (hb hby at_155) ?_
      refine XS.iand X153.here hx rfl (hb hby at_158) rfl ?_
      refine XS.i2c X153.here hx rfl (hb hby at_159) rfl ?_
      refine st157 _ ?_
      refine XS.iload X157.here hx rfl (hb hby at_161) rfl ?_
      refine XS.iconst X157.here hx rfl (hb hby at_163) ?_
      show AT p e below T157 m 164 #[iv p0, iv p1, iv p2, iv p3, iv iz, iv md, rv (f1 iz w_PRODUCER w_WORKER w_OPERATOR w_ADMIN), rv b_16, un, un, iv (4 : Int32), rv b153, un] [(.int (1 : Int32)), (.int (4 : Int32))] _
      refine XS.icmpNo X157.here hx rfl (hb hby at_164) rfl (XT.ii_le_f ((by decide) : (1 : Int32) < (4 : Int32))) ?_
      refine XS.aload X157.here hx rfl (hb hby at_167) rfl rfl ?_
      refine XS.iconst X157.here hx rfl (hb hby at_169) ?_
      refine XS.iloadN X157.here hx rfl (hb hby at_170) rfl ?_
      show AT p e below T157 m 171 #[iv p0, iv p1, iv p2, iv p3, iv iz, iv md, rv (f1 iz w_PRODUCER w_WORKER w_OPERATOR w_ADMIN), rv b_16, un, un, iv (4 : Int32), rv b153, un] [(.int p2), (.int (1 : Int32)), (.ref b153)] _
      refine XS.bipush X157.here hx rfl (hb hby at_171) ?_
      refine XS.iushr X157.here hx rfl (hb hby at_173) rfl ?_
      refine XS.sipush X157.here hx rfl (hb hby at_174) ?_
      refine XS.iand X157.here hx rfl (hb hby at_177) rfl ?_
      refine XS.i2c X157.here hx rfl (hb hby at_178) rfl ?_
      refine st161 _ ?_
      refine XS.iload X161.here hx rfl (hb hby at_180) rfl ?_
      refine XS.iconst X161.here hx rfl (hb hby at_182) ?_
      show AT p e below T161 m 183 #[iv p0, iv p1, iv p2, iv p3, iv iz, iv md, rv (f1 iz w_PRODUCER w_WORKER w_OPERATOR w_ADMIN), rv b_16, un, un, iv (4 : Int32), rv b153, un] [(.int (2 : Int32)), (.int (4 : Int32))] _
      refine XS.icmpNo X161.here hx rfl (hb hby at_183) rfl (XT.ii_le_f ((by decide) : (2 : Int32) < (4 : Int32))) ?_
      refine XS.aload X161.here hx rfl (hb hby at_186) rfl rfl ?_
      refine XS.iconst X161.here hx rfl (hb hby at_188) ?_
      refine XS.iloadN X161.here hx rfl (hb hby at_189) rfl ?_
      refine XS.sipush X161.here hx rfl (hb hby at_190) ?_
      refine XS.iand X161.here hx rfl (hb hby at_193) rfl ?_
      refine XS.i2c X161.here hx rfl (hb hby at_194) rfl ?_
      refine st165 _ ?_
      refine XS.iload X165.here hx rfl (hb hby at_196) rfl ?_
      show AT p e below T165 m 198 #[iv p0, iv p1, iv p2, iv p3, iv iz, iv md, rv (f1 iz w_PRODUCER w_WORKER w_OPERATOR w_ADMIN), rv b_16, un, un, iv (4 : Int32), rv b153, un] [(.int (4 : Int32))] _
      refine XS.iconst X165.here hx rfl (hb hby at_198) ?_
      show AT p e below T165 m 199 #[iv p0, iv p1, iv p2, iv p3, iv iz, iv md, rv (f1 iz w_PRODUCER w_WORKER w_OPERATOR w_ADMIN), rv b_16, un, un, iv (4 : Int32), rv b153, un] [(.int (3 : Int32)), (.int (4 : Int32))] _
      refine XS.icmpNo X165.here hx rfl (hb hby at_199) rfl (XT.ii_le_f ((by decide) : (3 : Int32) < (4 : Int32))) ?_
      refine XS.aload X165.here hx rfl (hb hby at_202) rfl rfl ?_
      refine XS.iconst X165.here hx rfl (hb hby at_204) ?_
      refine XS.iloadN X165.here hx rfl (hb hby at_205) rfl ?_
      refine XS.bipush X165.here hx rfl (hb hby at_206) ?_
      refine XS.iushr X165.here hx rfl (hb hby at_208) rfl ?_
      refine XS.sipush X165.here hx rfl (hb hby at_209) ?_
      refine XS.iand X165.here hx rfl (hb hby at_212) rfl ?_
      refine XS.i2c X165.here hx rfl (hb hby at_213) rfl ?_
      refine st169 _ ?_
      refine st173 _ ?_
      refine XS.dup X173.here hx rfl (hb hby at_218) rfl rfl ?_
      refine XS.aload X173.here hx rfl (hb hby at_219) rfl rfl ?_
      refine st181.trans ?_
      refine XS.astore X181.here hx rfl (hb hby at_224) rfl rfl (l' := #[iv p0, iv p1, iv p2, iv p3, iv iz, iv md, rv (f1 iz w_PRODUCER w_WORKER w_OPERATOR w_ADMIN), rv b_16, rv b173, un, iv (4 : Int32), rv b153, un]) rfl ?_
      refine XS.aconstNull X181.here hx rfl (hb hby at_226) ?_
      show AT p e below T181 m 227 #[iv p0, iv p1, iv p2, iv p3, iv iz, iv md, rv (f1 iz w_PRODUCER w_WORKER w_OPERATOR w_ADMIN), rv b_16, rv b173, un, iv (4 : Int32), rv b153, un] [.null] _
      refine XS.astore X181.here hx rfl (hb hby at_227) rfl rfl (l' := #[iv p0, iv p1, iv p2, iv p3, iv iz, iv md, rv (f1 iz w_PRODUCER w_WORKER w_OPERATOR w_ADMIN), rv b_16, rv b173, .val .null, iv (4 : Int32), rv b153, un]) rfl ?_
      refine XS.goto X181.here hx rfl (pc0 := 229) (pc' := 238) rfl (hb hby at_229) (by decide) (by decide) ?_
      refine XS.aload X181.here hx rfl (hb hby at_238) rfl rfl ?_
      refine st189 _ ?_
      refine XS.aload X189.here hx rfl (hb hby at_243) rfl rfl ?_
      show AT p e below T189 m 245 #[iv p0, iv p1, iv p2, iv p3, iv iz, iv md, rv (f1 iz w_PRODUCER w_WORKER w_OPERATOR w_ADMIN), rv b_16, rv b173, .val .null, iv (4 : Int32), rv b153, un] [.null, .null] _
      refine Jvm.RoadKit.acmp (g := (mkF m 245 #[iv p0, iv p1, iv p2, iv p3, iv iz, iv md, rv (f1 iz w_PRODUCER w_WORKER w_OPERATOR w_ADMIN), rv b_16, rv b173, .val .null, iv (4 : Int32), rv b153, un] [.null, .null])) X189 hx rfl rfl rfl (pc0 := 245) (pc' := 248) (same := true) rfl (hb hby at_245) rfl (decide_eq_true rfl) (by decide) (by decide) ?_
      refine XS.iconst X189.here hx rfl (hb hby at_248) ?_
      refine XS.goto X189.here hx rfl (pc0 := 249) (pc' := 253) rfl (hb hby at_249) (by decide) (by decide) ?_
      exact retN X189 hx (t := .boolean) Bd.returns (by simp) (hb hby at_253) hr
     ·
      show Q0 Z p0 p1 p2 p3 w_CS0 w_SF1 w_PRODUCER w__VALUES w_WORKER w_OPERATOR w_ADMIN w_PRODUCER_shown w_PRODUCER_shown_value w_WORKER_shown w_WORKER_shown_value w_OPERATOR_shown w_OPERATOR_shown_value w_ADMIN_shown w_ADMIN_shown_value k__VALUES k_PRODUCER_shown_value k_WORKER_shown_value k_OPERATOR_shown_value k_ADMIN_shown_value h0 n0 _ T189.heap _
      exact ⟨rfl, N189⟩
  ·
   have pre197 : ∀ tg, AT p e below s₁ m 15 #[iv p0, iv p1, iv p2, iv p3, iv (p0 &&& (3 : Int32)), iv md, un, un, un, un, un, un, un] [(.int (p0 &&& (3 : Int32)))] tg → Steps p.tables e below S0 tg := fun tg kg => pre2 tg (by
    refine XS.iload X0.here hx rfl (hb hby at_13) rfl ?_
    exact kg)
   obtain ⟨iz, hiz⟩ : ∃ z, z = (p0 &&& (3 : Int32)) := ⟨_, rfl⟩
   have pre198 : ∀ tg, AT p e below s₁ m 15 #[iv p0, iv p1, iv p2, iv p3, iv iz, iv md, un, un, un, un, un, un, un] [(.int iz)] tg → Steps p.tables e below S0 tg := by rw [hiz]; exact pre197
   have hsiz : iz = (0 : Int32) ∨ iz = (1 : Int32) ∨ iz = (2 : Int32) ∨ iz = (3 : Int32) := by rw [hiz]; exact own_and3 p0
   rcases hsiz with rfl | rfl | rfl | rfl
   ·
    obtain ⟨_, _, ⟨T199, L199, k199, n199⟩, -, X199, ⟨Lc199, hQ199, l199, y199, z199⟩, st199⟩ := Jvm.LawKit.callS X0 hx (y := y1) hown (mvT hZ (ow hw 0 rfl)) (mvT hZ (ow hw 1 rfl)) (mvT hZ (ow hw 2 rfl)) (mvT hZ (ow hw 3 rfl)) (by decide) (backOf (W := 0) (rm1 l Z ar hw [] (0 : Int32) w_CS0 w_SF1 w_PRODUCER w__VALUES w_WORKER w_OPERATOR w_ADMIN w_PRODUCER_shown w_PRODUCER_shown_value w_WORKER_shown w_WORKER_shown_value w_OPERATOR_shown w_OPERATOR_shown_value w_ADMIN_shown w_ADMIN_shown_value k__VALUES k_PRODUCER_shown_value k_WORKER_shown_value k_OPERATOR_shown_value k_ADMIN_shown_value h0 n0 O0 HW) hZ (ow hw 3 rfl) (ow hw 2 rfl) (by decide) (by decide)) (g := (mkF m 15 #[iv p0, iv p1, iv p2, iv p3, iv (0 : Int32), iv md, un, un, un, un, un, un, un] [(.int (0 : Int32))])) rfl (by rw [hml]; rfl) (argsL := [(.int (0 : Int32))]) (rest := []) (lenOf pd_3 rfl) rfl (by show 2 * 0 + _ ≤ _; exact Nat.le_of_eq rfl) (hb hby at_15) (fun _ _ => ⟨rfl, e0, (by decide : 0 + 0 ≤ _), (by decide : 0 + 0 ≤ _)⟩)
    dsimp only [Pt.U, Pt.locs, Pt.cells, Pt.slots] at X199 l199 y199 z199 st199 hQ199
    subst l199 y199 z199
    obtain ⟨rfl, N199q, e199⟩ := hQ199
    have N199 := Fr.app N0 N199q
    have r199 : (f1 (0 : Int32) w_PRODUCER w_WORKER w_OPERATOR w_ADMIN) = w_PRODUCER := by rw [f1, if_pos ((by decide) : (0 : Int32) = (0 : Int32))] <;> decide
    rw [r199] at st199
    obtain ⟨_, _, ⟨T200, L200, k200, n200⟩, -, X200, ⟨Lc200, hQ200, l200, y200, z200⟩, st200⟩ := Jvm.LawKit.callS X199 hx (y := y2) hown (mvT hZ (ow hw 7 rfl)) (mvT hZ (ow hw 8 rfl)) (mvT hZ (ow hw 2 rfl)) (mvT hZ (ow hw 9 rfl)) (by decide) (backOf (W := 0) (rm2_0 l Z ar hw []  h0 n0 O0) hZ (ow hw 9 rfl) (ow hw 2 rfl) (by decide) (by decide)) (g := (mkF m 22 #[iv p0, iv p1, iv p2, iv p3, iv (0 : Int32), iv md, rv w_PRODUCER, un, un, un, un, un, un] [(.int (0 : Int32))])) rfl (by rw [hml]; rfl) (argsL := [(.int (0 : Int32))]) (rest := []) (lenOf pd_4 rfl) rfl (by show 2 * 0 + _ ≤ _; exact Nat.le_of_eq rfl) (hb hby at_22) (fun _ _ => ⟨rfl, e199, (by decide : 0 + 1 ≤ _), (by decide : 0 + 8 ≤ _)⟩)
    dsimp only [Pt.U, Pt.locs, Pt.cells, Pt.slots] at X200 l200 y200 z200 st200 hQ200
    subst l200 y200 z200
    obtain ⟨b_200, kb_200, rfl, N200q, Kq200, u200_0, u200_1, u200_2⟩ := hQ200
    have N200 := Fr.app N199 N200q
    have K200 := (Keep.refl h0 []).trans Kq200 all0
    have O200 := O0.keep Kq200 all0
    have CR200 : CHr Z EL0 s.vm h0 s.vm T200.heap := CR0.trans (CHr.keep Kq200 all0 CR0.1)
    have hk := Nat.le_trans hk Kq200.1
    have sz201 : h0.size ≤ b_200 := Nat.le_trans (Keep.refl h0 []).1 u200_1
    have gn201 : n0 ≤ b_200 := Nat.le_trans (Nat.le_trans (Nat.le_of_eq O0.1.symm) O0.2.1) u200_1
    have Sn201 : Safe Z EL0 s.vm T200.heap b_200 := Safe.keep Kq200 all0 CR0.1 (Safe.new u200_1)
    obtain ⟨cl202, Ar202, q202, S202, N202, H202, G202⟩ := id u200_0
    have pre203 : ∀ tg, AT p e below T200 m 67 #[iv p0, iv p1, iv p2, iv p3, iv (0 : Int32), iv md, rv w_PRODUCER, rv b_200, un, un, iv ((p1 &&& (2147483647 : Int32)) % (8 : Int32)), un, un] [] tg → Steps p.tables e below S0 tg := fun tg kg => pre198 tg (by
     refine st199 _ ?_
     refine XS.astore X199.here hx rfl (hb hby at_18) rfl rfl (l' := #[iv p0, iv p1, iv p2, iv p3, iv (0 : Int32), iv md, rv w_PRODUCER, un, un, un, un, un, un]) rfl ?_
     refine XS.iload X199.here hx rfl (hb hby at_20) rfl ?_
     refine st200 _ ?_
     refine XS.astore X200.here hx rfl (hb hby at_25) rfl rfl (l' := #[iv p0, iv p1, iv p2, iv p3, iv (0 : Int32), iv md, rv w_PRODUCER, rv b_200, un, un, un, un, un]) rfl ?_
     refine XS.iload X200.here hx rfl (hb hby at_27) rfl ?_
     refine XS.iconst X200.here hx rfl (hb hby at_29) ?_
     show AT p e below T200 m 30 #[iv p0, iv p1, iv p2, iv p3, iv (0 : Int32), iv md, rv w_PRODUCER, rv b_200, un, un, un, un, un] [(.int (1 : Int32)), (.int md)] _
     refine XS.icmpYes X200.here hx rfl (pc0 := 30) (pc' := 51) rfl (hb hby at_30) rfl (XT.ii_gt_t (hc3 : (1 : Int32) < md)) (by decide) (by decide) ?_
     refine XS.iload X200.here hx rfl (hb hby at_51) rfl ?_
     refine XS.iconst X200.here hx rfl (hb hby at_53) ?_
     show AT p e below T200 m 54 #[iv p0, iv p1, iv p2, iv p3, iv (0 : Int32), iv md, rv w_PRODUCER, rv b_200, un, un, un, un, un] [(.int (3 : Int32)), (.int md)] _
     refine XS.icmpNo X200.here hx rfl (hb hby at_54) rfl (XT.ii_gt_f (hc4 : ¬ ((3 : Int32) < md))) ?_
     refine XS.iloadN X200.here hx rfl (hb hby at_57) rfl ?_
     refine X200.ldcInt hx hown (mvT hZ (ow hw 73 rfl)) (g := (mkF m 58 #[iv p0, iv p1, iv p2, iv p3, iv (0 : Int32), iv md, rv w_PRODUCER, rv b_200, un, un, un, un, un] [(.int p1)])) rfl (hb hby at_58) _ ?_
     refine XS.iand X200.here hx rfl (hb hby at_60) rfl ?_
     refine XS.aload X200.here hx rfl (hb hby at_61) rfl rfl ?_
     refine X200.arraylength hx Ar202.1 (State.isArrayOf_alike hZ.alike Ar202.2.1) (g := (mkF m 63 #[iv p0, iv p1, iv p2, iv p3, iv (0 : Int32), iv md, rv w_PRODUCER, rv b_200, un, un, un, un, un] [(.ref b_200), (.int (p1 &&& (2147483647 : Int32)))])) rfl rfl (hb hby at_63) _ ?_
     rw [len_of S202 N202]
     refine iremM X200 hx rfl (hb hby at_64) rfl (by decide) ?_
     refine XS.istore X200.here hx rfl (hb hby at_65) rfl (l' := #[iv p0, iv p1, iv p2, iv p3, iv (0 : Int32), iv md, rv w_PRODUCER, rv b_200, un, un, iv ((p1 &&& (2147483647 : Int32)) % (8 : Int32)), un, un]) rfl ?_
     exact kg)
    obtain ⟨pz, hpz⟩ : ∃ z, z = ((p1 &&& (2147483647 : Int32)) % (8 : Int32)) := ⟨_, rfl⟩
    have pre204 : ∀ tg, AT p e below T200 m 67 #[iv p0, iv p1, iv p2, iv p3, iv (0 : Int32), iv md, rv w_PRODUCER, rv b_200, un, un, iv pz, un, un] [] tg → Steps p.tables e below S0 tg := by rw [hpz]; exact pre203
    have hsp : pz = (0 : Int32) ∨ pz = (1 : Int32) ∨ pz = (2 : Int32) ∨ pz = (3 : Int32) ∨ pz = (4 : Int32) ∨ pz = (5 : Int32) ∨ pz = (6 : Int32) ∨ pz = (7 : Int32) := by rw [hpz]; exact own_m8 p1
    have pre205 : ∀ tg, AT p e below T200 m 75 #[iv p0, iv p1, iv p2, iv p3, iv (0 : Int32), iv md, rv w_PRODUCER, rv b_200, un, un, iv pz, iv ((p2 &&& (255 : Int32)).toUInt32.toUInt16.toUInt32.toInt32), un] [] tg → Steps p.tables e below S0 tg := fun tg kg => pre204 tg (by
     refine XS.iloadN X200.here hx rfl (hb hby at_67) rfl ?_
     refine XS.sipush X200.here hx rfl (hb hby at_68) ?_
     refine XS.iand X200.here hx rfl (hb hby at_71) rfl ?_
     refine XS.i2c X200.here hx rfl (hb hby at_72) rfl ?_
     refine XS.istore X200.here hx rfl (hb hby at_73) rfl (l' := #[iv p0, iv p1, iv p2, iv p3, iv (0 : Int32), iv md, rv w_PRODUCER, rv b_200, un, un, iv pz, iv ((p2 &&& (255 : Int32)).toUInt32.toUInt16.toUInt32.toInt32), un]) rfl ?_
     exact kg)
    obtain ⟨cz, hcz⟩ : ∃ z, z = ((p2 &&& (255 : Int32)).toUInt32.toUInt16.toUInt32.toInt32) := ⟨_, rfl⟩
    have pre206 : ∀ tg, AT p e below T200 m 75 #[iv p0, iv p1, iv p2, iv p3, iv (0 : Int32), iv md, rv w_PRODUCER, rv b_200, un, un, iv pz, iv cz, un] [] tg → Steps p.tables e below S0 tg := by rw [hcz]; exact pre205
    have hcb : 0 ≤ cz.toInt ∧ cz.toInt ≤ 255 := by rw [hcz]; exact own_cz p2
    obtain ⟨cl207, Ar207, q207, S207, N207, H207, G207⟩ := id u200_0
    have hin207 := own_in pz S207 (own_lt8 hsp)
    have hat207 : cl207.slots[pz.toNatClampNeg]? = some (.int (wd0 pz)) := Has.at H207 hin207 (own_g0 hsp)
    have pre208 : ∀ tg, AT p e below T200 m 82 #[iv p0, iv p1, iv p2, iv p3, iv (0 : Int32), iv md, rv w_PRODUCER, rv b_200, un, un, iv pz, iv cz, un] [(.int cz), (.int (wd0 pz))] tg → Steps p.tables e below S0 tg := fun tg kg => pre206 tg (by
     refine XS.aload X200.here hx rfl (hb hby at_75) rfl rfl ?_
     refine XS.iload X200.here hx rfl (hb hby at_77) rfl ?_
     refine X200.caload hx (j := pz) (v := (.int (wd0 pz))) Ar207.1 (State.isArrayOf_alike hZ.alike Ar207.2.1) Ar207.2.2 hin207 hat207 (g := (mkF m 79 #[iv p0, iv p1, iv p2, iv p3, iv (0 : Int32), iv md, rv w_PRODUCER, rv b_200, un, un, iv pz, iv cz, un] [(.int pz), (.ref b_200)])) rfl rfl (hb hby at_79) _ ?_
     refine XS.iload X200.here hx rfl (hb hby at_80) rfl ?_
     exact kg)
    have pre209 : ∀ tg, AT p e below T200 m 90 #[iv p0, iv p1, iv p2, iv p3, iv (0 : Int32), iv md, rv w_PRODUCER, rv b_200, un, un, iv pz, iv cz, un] [(.int (if (wd0 pz) = cz then (1 : Int32) else (0 : Int32)))] tg → Steps p.tables e below S0 tg := by
     intro tg kg
     rcases Decidable.em ((wd0 pz) = cz) with hd | hd
     ·
      simp only [if_pos hd] at kg
      exact pre208 tg (by
       refine XS.icmpNo X200.here hx rfl (hb hby at_82) rfl (XT.ii_ne_f hd) ?_
       refine XS.iconst X200.here hx rfl (hb hby at_85) ?_
       refine XS.goto X200.here hx rfl (pc0 := 86) (pc' := 90) rfl (hb hby at_86) (by decide) (by decide) ?_
       exact kg)
     ·
      simp only [if_neg hd] at kg
      exact pre208 tg (by
       refine XS.icmpYes X200.here hx rfl (pc0 := 82) (pc' := 89) rfl (hb hby at_82) rfl (XT.ii_ne_t hd) (by decide) (by decide) ?_
       refine XS.iconst X200.here hx rfl (hb hby at_89) ?_
       exact kg)
    have pre210 : ∀ tg, AT p e below T200 m 92 #[iv p0, iv p1, iv p2, iv p3, iv (0 : Int32), iv md, rv w_PRODUCER, rv b_200, un, un, iv pz, iv cz, iv (if (wd0 pz) = cz then (1 : Int32) else (0 : Int32))] [] tg → Steps p.tables e below S0 tg := fun tg kg => pre209 tg (by
     refine XS.istore X200.here hx rfl (hb hby at_90) rfl (l' := #[iv p0, iv p1, iv p2, iv p3, iv (0 : Int32), iv md, rv w_PRODUCER, rv b_200, un, un, iv pz, iv cz, iv (if (wd0 pz) = cz then (1 : Int32) else (0 : Int32))]) rfl ?_
     exact kg)
    have hw211 : (if (wd0 pz) = cz then (1 : Int32) else (0 : Int32)) = (sm0 pz cz) := by rw [sm0]
    have pre211 : ∀ tg, AT p e below T200 m 92 #[iv p0, iv p1, iv p2, iv p3, iv (0 : Int32), iv md, rv w_PRODUCER, rv b_200, un, un, iv pz, iv cz, iv (sm0 pz cz)] [] tg → Steps p.tables e below S0 tg := by
      have q := pre210
      rw [hw211] at q
      exact q
    obtain ⟨cl212, Ar212, q212, S212, M212, H212, G212⟩ := id u200_0
    have hin212 := own_in pz S212 (own_lt8 hsp)
    obtain ⟨T212, h212, X212, e212, W212, st212⟩ := stC X200 hx hZ rfl Ar212 (j := pz) hin212 (g := (mkF m 98 #[iv p0, iv p1, iv p2, iv p3, iv (0 : Int32), iv md, rv w_PRODUCER, rv b_200, un, un, iv pz, iv cz, iv (sm0 pz cz)] [(.int cz), (.int pz), (.ref b_200)])) rfl rfl (hb hby at_98)
    have V212_213 : Arv Z h212 b_200 kb_200 .char (8 : Int32) [(.int (pk pz (0 : Int32) cz (112 : Int32))), (.int (pk pz (1 : Int32) cz (114 : Int32))), (.int (pk pz (2 : Int32) cz (111 : Int32))), (.int (pk pz (3 : Int32) cz (100 : Int32))), (.int (pk pz (4 : Int32) cz (117 : Int32))), (.int (pk pz (5 : Int32) cz (99 : Int32))), (.int (pk pz (6 : Int32) cz (101 : Int32))), (.int (pk pz (7 : Int32) cz (114 : Int32)))] (.int (0 : Int32)) := by have q := Arv.set Ar212 q212 S212 M212 H212 G212 (fits_nar_char _) W212 pz.toNatClampNeg rfl (own_k0 hsp); rw [own_s0 hsp hcb] at q; exact q
    have E212_214 := u200_2.wr W212
    have K212 := K200.wr W212 (Or.inr sz201)
    have O212 := O200.wr W212 gn201
    have Sf212_b_200 := Safe.wr W212 Sn201 CR200.1 Sn201
    have CR212 : CHr Z EL0 s.vm h0 s.vm h212 := CR200.trans (CHr.wr W212 Sn201 CR200.1)
    have hk := Nat.le_trans hk (Keep.of_wr W212).1
    have N212 := Fr.snoc X212 N200 gn201
    obtain ⟨T215, h215, X215, e215, E215, A215, D215, -, st215⟩ := newO X212 hx hZ hown (ow hw 11 rfl) (ow hw 12 rfl) (ow hw 13 rfl) e212 (g := (mkF m 99 #[iv p0, iv p1, iv p2, iv p3, iv (0 : Int32), iv md, rv w_PRODUCER, rv b_200, un, un, iv pz, iv cz, iv (sm0 pz cz)] [])) rfl (hb hby at_99) (by decide) (by decide)
    obtain ⟨b215, g215⟩ : ∃ z, z = h212.size := ⟨_, rfl⟩
    rw [← g215] at A215 D215 st215
    have ne215_216 : b_200 ≠ b215 := Nat.ne_of_lt (Nat.lt_of_lt_of_le (V212_213).lt (Nat.le_of_eq g215.symm))
    have gn215 : n0 ≤ b215 := Nat.le_trans (Nat.le_trans (Nat.le_of_eq O212.1.symm) O212.2.1) (Nat.le_of_eq g215.symm)
    have sz215 : h0.size ≤ b215 := Nat.le_trans K212.1 (Nat.le_of_eq g215.symm)
    have Sn215 : Safe Z EL0 s.vm h212 b215 := Safe.new (Nat.le_of_eq g215.symm)
    have V215_217 := V212_213.ext E215
    have E215_218 := E212_214.ext E215
    have K215 := K212.ext E215
    have O215 := O212.ext E215
    have Sf215_b_200 := Safe.ext E215 CR212.1 Sf212_b_200
    have Sf215_b215 := Safe.ext E215 CR212.1 Sn215
    have CR215 : CHr Z EL0 s.vm h0 s.vm h215 := CR212.trans (CHr.ext E215 CR212.1)
    have hk := Nat.le_trans hk E215.1
    have F215_219 : Fld Z h215 b215 "java/lang/String" "coder" "B" (.int (0 : Int32)) := D215 (Or.inr (ow hw 37 rfl)) (ty := .byte) (by decide)
    have F215_220 : Fld Z h215 b215 "java/lang/String" "value" "[B" .null := D215 (Or.inr (ow hw 39 rfl)) (ty := (.array .byte)) (by decide)
    obtain ⟨_, _, ⟨T221, L221, k221, n221⟩, -, X221, ⟨Lc221, hQ221, l221, y221, z221⟩, st221⟩ := X215.specialBack hx (y := y3) rfl hown (mvT hZ (ow hw 14 rfl)) (mvT hZ (ow hw 15 rfl)) (mvT hZ (ow hw 16 rfl)) (by decide) (StrChars.Road.backV (W := 1) hZ (own_ws hw) (ow hw 12 rfl) (cs := [(pk pz (0 : Int32) cz (112 : Int32)), (pk pz (1 : Int32) cz (114 : Int32)), (pk pz (2 : Int32) cz (111 : Int32)), (pk pz (3 : Int32) cz (100 : Int32)), (pk pz (4 : Int32) cz (117 : Int32)), (pk pz (5 : Int32) cz (99 : Int32)), (pk pz (6 : Int32) cz (101 : Int32)), (pk pz (7 : Int32) cz (114 : Int32))]) (bs := [((pk pz (0 : Int32) cz (112 : Int32)).toInt8.toInt32), ((pk pz (1 : Int32) cz (114 : Int32)).toInt8.toInt32), ((pk pz (2 : Int32) cz (111 : Int32)).toInt8.toInt32), ((pk pz (3 : Int32) cz (100 : Int32)).toInt8.toInt32), ((pk pz (4 : Int32) cz (117 : Int32)).toInt8.toInt32), ((pk pz (5 : Int32) cz (99 : Int32)).toInt8.toInt32), ((pk pz (6 : Int32) cz (101 : Int32)).toInt8.toInt32), ((pk pz (7 : Int32) cz (114 : Int32)).toInt8.toInt32)]) (n := 8) gn215 (Nat.le_trans (Nat.le_of_eq O215.1.symm) O215.2.1) A215 F215_220 F215_219 V215_217 (S_COMPACT_STRINGS.ext O215.2) hz_w_CS0 rfl (by decide) (by decide) (by decide) (own_cc ⟨own_pn hcb ⟨by decide, by decide⟩, own_pk hcb ⟨by decide, by decide⟩⟩ (own_cc ⟨own_pn hcb ⟨by decide, by decide⟩, own_pk hcb ⟨by decide, by decide⟩⟩ (own_cc ⟨own_pn hcb ⟨by decide, by decide⟩, own_pk hcb ⟨by decide, by decide⟩⟩ (own_cc ⟨own_pn hcb ⟨by decide, by decide⟩, own_pk hcb ⟨by decide, by decide⟩⟩ (own_cc ⟨own_pn hcb ⟨by decide, by decide⟩, own_pk hcb ⟨by decide, by decide⟩⟩ (own_cc ⟨own_pn hcb ⟨by decide, by decide⟩, own_pk hcb ⟨by decide, by decide⟩⟩ (own_cc ⟨own_pn hcb ⟨by decide, by decide⟩, own_pk hcb ⟨by decide, by decide⟩⟩ (own_cc ⟨own_pn hcb ⟨by decide, by decide⟩, own_pk hcb ⟨by decide, by decide⟩⟩ own_cn)))))))) rfl (by decide) (by decide)) (g := (mkF m 105 #[iv p0, iv p1, iv p2, iv p3, iv (0 : Int32), iv md, rv w_PRODUCER, rv b_200, un, un, iv pz, iv cz, iv (sm0 pz cz)] [(.ref b_200), (.ref b215), (.ref b215)])) rfl (by rw [hml]; rfl) (Steps.refl _) (a := b215) (argsL := [(.ref b_200)]) (rest := [(.ref b215)]) (lenOf pd_7 rfl) rfl (by show 2 * 0 + _ ≤ _; exact Nat.le_of_eq rfl) (hb hby at_105) (fun _ _ => ⟨rfl, e215, (by decide : 2 + 1 ≤ _), (by decide : 12 + 8 ≤ _)⟩)
    dsimp only [Pt.U, Pt.locs, Pt.cells, Pt.slots] at X221 l221 y221 z221 st221 hQ221
    subst l221 y221 z221
    obtain ⟨rfl, N221q, Kq221, uE221, uC221, t221, kt221, -, tg221, tn221, uF221, uV221⟩ := hQ221
    have N221 := Fr.app N212 N221q
    have ne222 : b_200 ≠ t221 := Nat.ne_of_lt (Nat.lt_of_lt_of_le (V215_217).lt tg221)
    have ne223 : b215 ≠ t221 := Nat.ne_of_lt (Nat.lt_of_lt_of_le (A215).lt tg221)
    have V221_224 := V215_217.keep Kq221 (ninS ne215_216 nin0)
    have E221_225 := E215_218.keep Kq221
    have E221_226 := A215.keep Kq221
    have K221 := K215.trans Kq221 (allS (Or.inr sz215) all0)
    have O221 := O215.keep Kq221 (allS gn215 all0)
    have Sf221_b_200 := Safe.keep Kq221 (allS Sf215_b215 all0) CR215.1 Sf215_b_200
    have Sf221_b215 := Safe.keep Kq221 (allS Sf215_b215 all0) CR215.1 Sf215_b215
    have CR221 : CHr Z EL0 s.vm h0 s.vm T221.heap := CR215.trans (CHr.keep Kq221 (allS Sf215_b215 all0) CR215.1)
    have hk := Nat.le_trans hk Kq221.1
    have sz221 : h0.size ≤ t221 := Nat.le_trans K215.1 tg221
    have gn221 : n0 ≤ t221 := Nat.le_trans (Nat.le_trans (Nat.le_of_eq O215.1.symm) O215.2.1) tg221
    have Sn221 : Safe Z EL0 s.vm T221.heap t221 := Safe.keep Kq221 (allS Sf215_b215 all0) CR215.1 (Safe.new tg221)
    have uC221' : Fld Z T221.heap b215 "java/lang/String" "coder" "B" (.int (0 : Int32)) := uC221
    have uF221' : Fld Z T221.heap b215 "java/lang/String" "value" "[B" (.ref t221) := uF221
    have uV221' : Arv Z T221.heap t221 kt221 .byte (8 : Int32) [(.int ((pk pz (0 : Int32) cz (112 : Int32)).toInt8.toInt32)), (.int ((pk pz (1 : Int32) cz (114 : Int32)).toInt8.toInt32)), (.int ((pk pz (2 : Int32) cz (111 : Int32)).toInt8.toInt32)), (.int ((pk pz (3 : Int32) cz (100 : Int32)).toInt8.toInt32)), (.int ((pk pz (4 : Int32) cz (117 : Int32)).toInt8.toInt32)), (.int ((pk pz (5 : Int32) cz (99 : Int32)).toInt8.toInt32)), (.int ((pk pz (6 : Int32) cz (101 : Int32)).toInt8.toInt32)), (.int ((pk pz (7 : Int32) cz (114 : Int32)).toInt8.toInt32))] (.int (0 : Int32)) := uV221
    obtain ⟨v0, hv0⟩ : ∃ z, z = ((pk pz (0 : Int32) cz (112 : Int32)).toInt8.toInt32) := ⟨_, rfl⟩
    obtain ⟨v1, hv1⟩ : ∃ z, z = ((pk pz (1 : Int32) cz (114 : Int32)).toInt8.toInt32) := ⟨_, rfl⟩
    obtain ⟨v2, hv2⟩ : ∃ z, z = ((pk pz (2 : Int32) cz (111 : Int32)).toInt8.toInt32) := ⟨_, rfl⟩
    obtain ⟨v3, hv3⟩ : ∃ z, z = ((pk pz (3 : Int32) cz (100 : Int32)).toInt8.toInt32) := ⟨_, rfl⟩
    obtain ⟨v4, hv4⟩ : ∃ z, z = ((pk pz (4 : Int32) cz (117 : Int32)).toInt8.toInt32) := ⟨_, rfl⟩
    obtain ⟨v5, hv5⟩ : ∃ z, z = ((pk pz (5 : Int32) cz (99 : Int32)).toInt8.toInt32) := ⟨_, rfl⟩
    obtain ⟨v6, hv6⟩ : ∃ z, z = ((pk pz (6 : Int32) cz (101 : Int32)).toInt8.toInt32) := ⟨_, rfl⟩
    obtain ⟨v7, hv7⟩ : ∃ z, z = ((pk pz (7 : Int32) cz (114 : Int32)).toInt8.toInt32) := ⟨_, rfl⟩
    have Vb227 : Arv Z T221.heap t221 kt221 .byte (8 : Int32) [(.int v0), (.int v1), (.int v2), (.int v3), (.int v4), (.int v5), (.int v6), (.int v7)] (.int (0 : Int32)) := by have q := uV221'; rw [← hv0, ← hv1, ← hv2, ← hv3, ← hv4, ← hv5, ← hv6, ← hv7] at q; exact q
    have pre228 : ∀ tg, AT p e below T221 m 112 #[iv p0, iv p1, iv p2, iv p3, iv (0 : Int32), iv md, rv w_PRODUCER, rv b_200, rv b215, un, iv pz, iv cz, iv (sm0 pz cz)] [(.int (sm0 pz cz))] tg → Steps p.tables e below S0 tg := fun tg kg => pre211 tg (by
     refine XS.aload X200.here hx rfl (hb hby at_92) rfl rfl ?_
     refine XS.iload X200.here hx rfl (hb hby at_94) rfl ?_
     refine XS.iload X200.here hx rfl (hb hby at_96) rfl ?_
     refine st212 _ ?_
     refine st215 _ ?_
     refine XS.dup X215.here hx rfl (hb hby at_102) rfl rfl ?_
     refine XS.aload X215.here hx rfl (hb hby at_103) rfl rfl ?_
     refine st221.trans ?_
     refine XS.astore X221.here hx rfl (hb hby at_108) rfl rfl (l' := #[iv p0, iv p1, iv p2, iv p3, iv (0 : Int32), iv md, rv w_PRODUCER, rv b_200, rv b215, un, iv pz, iv cz, iv (sm0 pz cz)]) rfl ?_
     refine XS.iload X221.here hx rfl (hb hby at_110) rfl ?_
     exact kg)
    rcases Decidable.em ((sm0 pz cz) = (0 : Int32)) with hc229 | hc229
    ·
     obtain ⟨_, _, ⟨T230, L230, k230, n230⟩, -, X230, ⟨Lc230, hQ230, l230, y230, z230⟩, st230⟩ := Jvm.LawKit.callS X221 hx (y := y9) hown (mvT hZ (ow hw 40 rfl)) (mvT hZ (ow hw 41 rfl)) (mvT hZ (ow hw 5 rfl)) (mvT hZ (ow hw 42 rfl)) (by decide) (backOf (W := 0) (rm9_8 l Z ar hw [] b215 w_CS0 w_SF1 w_PRODUCER w__VALUES w_WORKER w_OPERATOR w_ADMIN w_PRODUCER_shown w_PRODUCER_shown_value w_WORKER_shown w_WORKER_shown_value w_OPERATOR_shown w_OPERATOR_shown_value w_ADMIN_shown w_ADMIN_shown_value k__VALUES k_PRODUCER_shown_value k_WORKER_shown_value k_OPERATOR_shown_value k_ADMIN_shown_value t221 kt221 v0 v1 v2 v3 v4 v5 v6 v7 T221.heap n0 O221 HW E221_226 uC221' uF221' Vb227 gn215) hZ (ow hw 42 rfl) (ow hw 5 rfl) (by decide) (by decide)) (g := (mkF m 240 #[iv p0, iv p1, iv p2, iv p3, iv (0 : Int32), iv md, rv w_PRODUCER, rv b_200, rv b215, .val .null, iv pz, iv cz, iv (sm0 pz cz)] [(.ref b215)])) rfl (by rw [hml]; rfl) (argsL := [(.ref b215)]) (rest := []) (lenOf pd_5 rfl) rfl (by show 2 * 0 + _ ≤ _; exact Nat.le_of_eq rfl) (hb hby at_240) (fun _ _ => ⟨rfl, rfl, (by decide : 3 + 1 ≤ _), (by decide : 20 + 4 ≤ _)⟩)
     dsimp only [Pt.U, Pt.locs, Pt.cells, Pt.slots] at X230 l230 y230 z230 st230 hQ230
     subst l230 y230 z230
     obtain ⟨rfl, N230q, Kq230⟩ := hQ230
     have N230 := Fr.app N221 N230q
     have V230_231 := V221_224.keep Kq230 nin0
     have E230_232 := E221_225.keep Kq230
     have E230_233 := E221_226.keep Kq230
     have F230_234 := uC221'.keep Kq230 nin0
     have F230_235 := uF221'.keep Kq230 nin0
     have V230_236 := Vb227.keep Kq230 nin0
     have K230 := K221.trans Kq230 all0
     have O230 := O221.keep Kq230 all0
     have Sf230_b_200 := Safe.keep Kq230 all0 CR221.1 Sf221_b_200
     have Sf230_b215 := Safe.keep Kq230 all0 CR221.1 Sf221_b215
     have Sf230_t221 := Safe.keep Kq230 all0 CR221.1 Sn221
     have CR230 : CHr Z EL0 s.vm h0 s.vm T230.heap := CR221.trans (CHr.keep Kq230 all0 CR221.1)
     have hk := Nat.le_trans hk Kq230.1
     have ir230 : (f9_8 w_PRODUCER w_OPERATOR v0 v1 v2 v3 v4 v5 v6 v7).isRef = true := (by unfold f9_8; (repeat' split) <;> rfl)
     have hans : (f9_8 w_PRODUCER w_OPERATOR v0 v1 v2 v3 v4 v5 v6 v7) = .null := (own_w0 hsp hcb hv0 hv1 hv2 hv3 hv4 hv5 hv6 hv7).2 hc229
     obtain ⟨fs, hr, hrun, hended, hRE⟩ := X230.leaveW hS hk (v := some (.int (1 : Int32))) (fun h => by rw [Bd.returns] at h; cases h)
     have CRf : CHr Z EL0 s.vm s.heap (T230.setFrames fs).vm (T230.setFrames fs).heap := by
       show CHr Z EL0 s.vm s.heap T230.vm T230.heap
       rw [hh]
       exact CR230.trans (CHv.at X230 hZ hEL CR230.1)
     subst hS0
     refine ⟨_, _, pre228 _ ?_, hrun, hended, _, _, rfl, ?_, CRf, hRE.1, hRE.2.1, hRE.2.2.1, hRE.2.2.2.mono (by decide) (by decide)⟩
     ·
      refine XS.ifYes X221.here hx rfl (pc0 := 112) (pc' := 120) rfl (hb hby at_112) rfl (XT.i0_eq_t hc229) (by decide) (by decide) ?_
      refine XS.aconstNull X221.here hx rfl (hb hby at_120) ?_
      refine XS.astore X221.here hx rfl (hb hby at_121) rfl rfl (l' := #[iv p0, iv p1, iv p2, iv p3, iv (0 : Int32), iv md, rv w_PRODUCER, rv b_200, rv b215, .val .null, iv pz, iv cz, iv (sm0 pz cz)]) rfl ?_
      refine XS.goto X221.here hx rfl (pc0 := 123) (pc' := 238) rfl (hb hby at_123) (by decide) (by decide) ?_
      refine XS.aload X221.here hx rfl (hb hby at_238) rfl rfl ?_
      refine st230 _ ?_
      refine XS.aload X230.here hx rfl (hb hby at_243) rfl rfl ?_
      show AT p e below T230 m 245 #[iv p0, iv p1, iv p2, iv p3, iv (0 : Int32), iv md, rv w_PRODUCER, rv b_200, rv b215, .val .null, iv pz, iv cz, iv (sm0 pz cz)] [.null, (f9_8 w_PRODUCER w_OPERATOR v0 v1 v2 v3 v4 v5 v6 v7)] _
      refine Jvm.RoadKit.acmp (g := (mkF m 245 #[iv p0, iv p1, iv p2, iv p3, iv (0 : Int32), iv md, rv w_PRODUCER, rv b_200, rv b215, .val .null, iv pz, iv cz, iv (sm0 pz cz)] [.null, (f9_8 w_PRODUCER w_OPERATOR v0 v1 v2 v3 v4 v5 v6 v7)])) X230 hx rfl ir230 rfl (pc0 := 245) (pc' := 248) (same := true) rfl (hb hby at_245) rfl (decide_eq_true (hans : (f9_8 w_PRODUCER w_OPERATOR v0 v1 v2 v3 v4 v5 v6 v7) = .null)) (by decide) (by decide) ?_
      show AT p e below T230 m 248 #[iv p0, iv p1, iv p2, iv p3, iv (0 : Int32), iv md, rv w_PRODUCER, rv b_200, rv b215, .val .null, iv pz, iv cz, iv (sm0 pz cz)] [] _
      refine XS.iconst X230.here hx rfl (hb hby at_248) ?_
      refine XS.goto X230.here hx rfl (pc0 := 249) (pc' := 253) rfl (hb hby at_249) (by decide) (by decide) ?_
      exact retN X230 hx (t := .boolean) Bd.returns (by simp) (hb hby at_253) hr
     ·
      show Q0 Z p0 p1 p2 p3 w_CS0 w_SF1 w_PRODUCER w__VALUES w_WORKER w_OPERATOR w_ADMIN w_PRODUCER_shown w_PRODUCER_shown_value w_WORKER_shown w_WORKER_shown_value w_OPERATOR_shown w_OPERATOR_shown_value w_ADMIN_shown w_ADMIN_shown_value k__VALUES k_PRODUCER_shown_value k_WORKER_shown_value k_OPERATOR_shown_value k_ADMIN_shown_value h0 n0 _ T230.heap _
      exact ⟨rfl, N230⟩
    ·
     obtain ⟨_, _, ⟨T237, L237, k237, n237⟩, -, X237, ⟨Lc237, hQ237, l237, y237, z237⟩, st237⟩ := Jvm.LawKit.callS X221 hx (y := y9) hown (mvT hZ (ow hw 40 rfl)) (mvT hZ (ow hw 41 rfl)) (mvT hZ (ow hw 5 rfl)) (mvT hZ (ow hw 42 rfl)) (by decide) (backOf (W := 0) (rm9_8 l Z ar hw [] b215 w_CS0 w_SF1 w_PRODUCER w__VALUES w_WORKER w_OPERATOR w_ADMIN w_PRODUCER_shown w_PRODUCER_shown_value w_WORKER_shown w_WORKER_shown_value w_OPERATOR_shown w_OPERATOR_shown_value w_ADMIN_shown w_ADMIN_shown_value k__VALUES k_PRODUCER_shown_value k_WORKER_shown_value k_OPERATOR_shown_value k_ADMIN_shown_value t221 kt221 v0 v1 v2 v3 v4 v5 v6 v7 T221.heap n0 O221 HW E221_226 uC221' uF221' Vb227 gn215) hZ (ow hw 42 rfl) (ow hw 5 rfl) (by decide) (by decide)) (g := (mkF m 240 #[iv p0, iv p1, iv p2, iv p3, iv (0 : Int32), iv md, rv w_PRODUCER, rv b_200, rv b215, rv w_PRODUCER, iv pz, iv cz, iv (sm0 pz cz)] [(.ref b215)])) rfl (by rw [hml]; rfl) (argsL := [(.ref b215)]) (rest := []) (lenOf pd_5 rfl) rfl (by show 2 * 0 + _ ≤ _; exact Nat.le_of_eq rfl) (hb hby at_240) (fun _ _ => ⟨rfl, rfl, (by decide : 3 + 1 ≤ _), (by decide : 20 + 4 ≤ _)⟩)
     dsimp only [Pt.U, Pt.locs, Pt.cells, Pt.slots] at X237 l237 y237 z237 st237 hQ237
     subst l237 y237 z237
     obtain ⟨rfl, N237q, Kq237⟩ := hQ237
     have N237 := Fr.app N221 N237q
     have V237_238 := V221_224.keep Kq237 nin0
     have E237_239 := E221_225.keep Kq237
     have E237_240 := E221_226.keep Kq237
     have F237_241 := uC221'.keep Kq237 nin0
     have F237_242 := uF221'.keep Kq237 nin0
     have V237_243 := Vb227.keep Kq237 nin0
     have K237 := K221.trans Kq237 all0
     have O237 := O221.keep Kq237 all0
     have Sf237_b_200 := Safe.keep Kq237 all0 CR221.1 Sf221_b_200
     have Sf237_b215 := Safe.keep Kq237 all0 CR221.1 Sf221_b215
     have Sf237_t221 := Safe.keep Kq237 all0 CR221.1 Sn221
     have CR237 : CHr Z EL0 s.vm h0 s.vm T237.heap := CR221.trans (CHr.keep Kq237 all0 CR221.1)
     have hk := Nat.le_trans hk Kq237.1
     have ir237 : (f9_8 w_PRODUCER w_OPERATOR v0 v1 v2 v3 v4 v5 v6 v7).isRef = true := (by unfold f9_8; (repeat' split) <;> rfl)
     have hans : (f9_8 w_PRODUCER w_OPERATOR v0 v1 v2 v3 v4 v5 v6 v7) = (.ref w_PRODUCER) := (own_w0 hsp hcb hv0 hv1 hv2 hv3 hv4 hv5 hv6 hv7).1 hc229
     obtain ⟨fs, hr, hrun, hended, hRE⟩ := X237.leaveW hS hk (v := some (.int (1 : Int32))) (fun h => by rw [Bd.returns] at h; cases h)
     have CRf : CHr Z EL0 s.vm s.heap (T237.setFrames fs).vm (T237.setFrames fs).heap := by
       show CHr Z EL0 s.vm s.heap T237.vm T237.heap
       rw [hh]
       exact CR237.trans (CHv.at X237 hZ hEL CR237.1)
     subst hS0
     refine ⟨_, _, pre228 _ ?_, hrun, hended, _, _, rfl, ?_, CRf, hRE.1, hRE.2.1, hRE.2.2.1, hRE.2.2.2.mono (by decide) (by decide)⟩
     ·
      refine XS.ifNo X221.here hx rfl (hb hby at_112) rfl (XT.i0_eq_f hc229) ?_
      refine XS.aload X221.here hx rfl (hb hby at_115) rfl rfl ?_
      refine XS.goto X221.here hx rfl (pc0 := 117) (pc' := 121) rfl (hb hby at_117) (by decide) (by decide) ?_
      refine XS.astore X221.here hx rfl (hb hby at_121) rfl rfl (l' := #[iv p0, iv p1, iv p2, iv p3, iv (0 : Int32), iv md, rv w_PRODUCER, rv b_200, rv b215, rv w_PRODUCER, iv pz, iv cz, iv (sm0 pz cz)]) rfl ?_
      refine XS.goto X221.here hx rfl (pc0 := 123) (pc' := 238) rfl (hb hby at_123) (by decide) (by decide) ?_
      refine XS.aload X221.here hx rfl (hb hby at_238) rfl rfl ?_
      refine st237 _ ?_
      show AT p e below T237 m 243 #[iv p0, iv p1, iv p2, iv p3, iv (0 : Int32), iv md, rv w_PRODUCER, rv b_200, rv b215, rv w_PRODUCER, iv pz, iv cz, iv (sm0 pz cz)] [(f9_8 w_PRODUCER w_OPERATOR v0 v1 v2 v3 v4 v5 v6 v7)] _
      refine XS.aload X237.here hx rfl (hb hby at_243) rfl rfl ?_
      show AT p e below T237 m 245 #[iv p0, iv p1, iv p2, iv p3, iv (0 : Int32), iv md, rv w_PRODUCER, rv b_200, rv b215, rv w_PRODUCER, iv pz, iv cz, iv (sm0 pz cz)] [(.ref w_PRODUCER), (f9_8 w_PRODUCER w_OPERATOR v0 v1 v2 v3 v4 v5 v6 v7)] _
      refine Jvm.RoadKit.acmp (g := (mkF m 245 #[iv p0, iv p1, iv p2, iv p3, iv (0 : Int32), iv md, rv w_PRODUCER, rv b_200, rv b215, rv w_PRODUCER, iv pz, iv cz, iv (sm0 pz cz)] [(.ref w_PRODUCER), (f9_8 w_PRODUCER w_OPERATOR v0 v1 v2 v3 v4 v5 v6 v7)])) X237 hx rfl ir237 rfl (pc0 := 245) (pc' := 248) (same := true) rfl (hb hby at_245) rfl (decide_eq_true (hans : (f9_8 w_PRODUCER w_OPERATOR v0 v1 v2 v3 v4 v5 v6 v7) = (.ref w_PRODUCER))) (by decide) (by decide) ?_
      refine XS.iconst X237.here hx rfl (hb hby at_248) ?_
      refine XS.goto X237.here hx rfl (pc0 := 249) (pc' := 253) rfl (hb hby at_249) (by decide) (by decide) ?_
      exact retN X237 hx (t := .boolean) Bd.returns (by simp) (hb hby at_253) hr
     ·
      show Q0 Z p0 p1 p2 p3 w_CS0 w_SF1 w_PRODUCER w__VALUES w_WORKER w_OPERATOR w_ADMIN w_PRODUCER_shown w_PRODUCER_shown_value w_WORKER_shown w_WORKER_shown_value w_OPERATOR_shown w_OPERATOR_shown_value w_ADMIN_shown w_ADMIN_shown_value k__VALUES k_PRODUCER_shown_value k_WORKER_shown_value k_OPERATOR_shown_value k_ADMIN_shown_value h0 n0 _ T237.heap _
      exact ⟨rfl, N237⟩
   ·
    obtain ⟨_, _, ⟨T244, L244, k244, n244⟩, -, X244, ⟨Lc244, hQ244, l244, y244, z244⟩, st244⟩ := Jvm.LawKit.callS X0 hx (y := y1) hown (mvT hZ (ow hw 0 rfl)) (mvT hZ (ow hw 1 rfl)) (mvT hZ (ow hw 2 rfl)) (mvT hZ (ow hw 3 rfl)) (by decide) (backOf (W := 0) (rm1 l Z ar hw [] (1 : Int32) w_CS0 w_SF1 w_PRODUCER w__VALUES w_WORKER w_OPERATOR w_ADMIN w_PRODUCER_shown w_PRODUCER_shown_value w_WORKER_shown w_WORKER_shown_value w_OPERATOR_shown w_OPERATOR_shown_value w_ADMIN_shown w_ADMIN_shown_value k__VALUES k_PRODUCER_shown_value k_WORKER_shown_value k_OPERATOR_shown_value k_ADMIN_shown_value h0 n0 O0 HW) hZ (ow hw 3 rfl) (ow hw 2 rfl) (by decide) (by decide)) (g := (mkF m 15 #[iv p0, iv p1, iv p2, iv p3, iv (1 : Int32), iv md, un, un, un, un, un, un, un] [(.int (1 : Int32))])) rfl (by rw [hml]; rfl) (argsL := [(.int (1 : Int32))]) (rest := []) (lenOf pd_3 rfl) rfl (by show 2 * 0 + _ ≤ _; exact Nat.le_of_eq rfl) (hb hby at_15) (fun _ _ => ⟨rfl, e0, (by decide : 0 + 0 ≤ _), (by decide : 0 + 0 ≤ _)⟩)
    dsimp only [Pt.U, Pt.locs, Pt.cells, Pt.slots] at X244 l244 y244 z244 st244 hQ244
    subst l244 y244 z244
    obtain ⟨rfl, N244q, e244⟩ := hQ244
    have N244 := Fr.app N0 N244q
    have r244 : (f1 (1 : Int32) w_PRODUCER w_WORKER w_OPERATOR w_ADMIN) = w_WORKER := by rw [f1, if_neg ((by decide) : ¬ ((1 : Int32) = (0 : Int32))), if_pos ((by decide) : (1 : Int32) = (1 : Int32))] <;> decide
    rw [r244] at st244
    obtain ⟨_, _, ⟨T245, L245, k245, n245⟩, -, X245, ⟨Lc245, hQ245, l245, y245, z245⟩, st245⟩ := Jvm.LawKit.callS X244 hx (y := y2) hown (mvT hZ (ow hw 7 rfl)) (mvT hZ (ow hw 8 rfl)) (mvT hZ (ow hw 2 rfl)) (mvT hZ (ow hw 9 rfl)) (by decide) (backOf (W := 0) (rm2_1 l Z ar hw []  h0 n0 O0) hZ (ow hw 9 rfl) (ow hw 2 rfl) (by decide) (by decide)) (g := (mkF m 22 #[iv p0, iv p1, iv p2, iv p3, iv (1 : Int32), iv md, rv w_WORKER, un, un, un, un, un, un] [(.int (1 : Int32))])) rfl (by rw [hml]; rfl) (argsL := [(.int (1 : Int32))]) (rest := []) (lenOf pd_4 rfl) rfl (by show 2 * 0 + _ ≤ _; exact Nat.le_of_eq rfl) (hb hby at_22) (fun _ _ => ⟨rfl, e244, (by decide : 0 + 1 ≤ _), (by decide : 0 + 6 ≤ _)⟩)
    dsimp only [Pt.U, Pt.locs, Pt.cells, Pt.slots] at X245 l245 y245 z245 st245 hQ245
    subst l245 y245 z245
    obtain ⟨b_245, kb_245, rfl, N245q, Kq245, u245_0, u245_1, u245_2⟩ := hQ245
    have N245 := Fr.app N244 N245q
    have K245 := (Keep.refl h0 []).trans Kq245 all0
    have O245 := O0.keep Kq245 all0
    have CR245 : CHr Z EL0 s.vm h0 s.vm T245.heap := CR0.trans (CHr.keep Kq245 all0 CR0.1)
    have hk := Nat.le_trans hk Kq245.1
    have sz246 : h0.size ≤ b_245 := Nat.le_trans (Keep.refl h0 []).1 u245_1
    have gn246 : n0 ≤ b_245 := Nat.le_trans (Nat.le_trans (Nat.le_of_eq O0.1.symm) O0.2.1) u245_1
    have Sn246 : Safe Z EL0 s.vm T245.heap b_245 := Safe.keep Kq245 all0 CR0.1 (Safe.new u245_1)
    obtain ⟨cl247, Ar247, q247, S247, N247, H247, G247⟩ := id u245_0
    have pre248 : ∀ tg, AT p e below T245 m 67 #[iv p0, iv p1, iv p2, iv p3, iv (1 : Int32), iv md, rv w_WORKER, rv b_245, un, un, iv ((p1 &&& (2147483647 : Int32)) % (6 : Int32)), un, un] [] tg → Steps p.tables e below S0 tg := fun tg kg => pre198 tg (by
     refine st244 _ ?_
     refine XS.astore X244.here hx rfl (hb hby at_18) rfl rfl (l' := #[iv p0, iv p1, iv p2, iv p3, iv (1 : Int32), iv md, rv w_WORKER, un, un, un, un, un, un]) rfl ?_
     refine XS.iload X244.here hx rfl (hb hby at_20) rfl ?_
     refine st245 _ ?_
     refine XS.astore X245.here hx rfl (hb hby at_25) rfl rfl (l' := #[iv p0, iv p1, iv p2, iv p3, iv (1 : Int32), iv md, rv w_WORKER, rv b_245, un, un, un, un, un]) rfl ?_
     refine XS.iload X245.here hx rfl (hb hby at_27) rfl ?_
     refine XS.iconst X245.here hx rfl (hb hby at_29) ?_
     show AT p e below T245 m 30 #[iv p0, iv p1, iv p2, iv p3, iv (1 : Int32), iv md, rv w_WORKER, rv b_245, un, un, un, un, un] [(.int (1 : Int32)), (.int md)] _
     refine XS.icmpYes X245.here hx rfl (pc0 := 30) (pc' := 51) rfl (hb hby at_30) rfl (XT.ii_gt_t (hc3 : (1 : Int32) < md)) (by decide) (by decide) ?_
     refine XS.iload X245.here hx rfl (hb hby at_51) rfl ?_
     refine XS.iconst X245.here hx rfl (hb hby at_53) ?_
     show AT p e below T245 m 54 #[iv p0, iv p1, iv p2, iv p3, iv (1 : Int32), iv md, rv w_WORKER, rv b_245, un, un, un, un, un] [(.int (3 : Int32)), (.int md)] _
     refine XS.icmpNo X245.here hx rfl (hb hby at_54) rfl (XT.ii_gt_f (hc4 : ¬ ((3 : Int32) < md))) ?_
     refine XS.iloadN X245.here hx rfl (hb hby at_57) rfl ?_
     refine X245.ldcInt hx hown (mvT hZ (ow hw 73 rfl)) (g := (mkF m 58 #[iv p0, iv p1, iv p2, iv p3, iv (1 : Int32), iv md, rv w_WORKER, rv b_245, un, un, un, un, un] [(.int p1)])) rfl (hb hby at_58) _ ?_
     refine XS.iand X245.here hx rfl (hb hby at_60) rfl ?_
     refine XS.aload X245.here hx rfl (hb hby at_61) rfl rfl ?_
     refine X245.arraylength hx Ar247.1 (State.isArrayOf_alike hZ.alike Ar247.2.1) (g := (mkF m 63 #[iv p0, iv p1, iv p2, iv p3, iv (1 : Int32), iv md, rv w_WORKER, rv b_245, un, un, un, un, un] [(.ref b_245), (.int (p1 &&& (2147483647 : Int32)))])) rfl rfl (hb hby at_63) _ ?_
     rw [len_of S247 N247]
     refine iremM X245 hx rfl (hb hby at_64) rfl (by decide) ?_
     refine XS.istore X245.here hx rfl (hb hby at_65) rfl (l' := #[iv p0, iv p1, iv p2, iv p3, iv (1 : Int32), iv md, rv w_WORKER, rv b_245, un, un, iv ((p1 &&& (2147483647 : Int32)) % (6 : Int32)), un, un]) rfl ?_
     exact kg)
    obtain ⟨pz, hpz⟩ : ∃ z, z = ((p1 &&& (2147483647 : Int32)) % (6 : Int32)) := ⟨_, rfl⟩
    have pre249 : ∀ tg, AT p e below T245 m 67 #[iv p0, iv p1, iv p2, iv p3, iv (1 : Int32), iv md, rv w_WORKER, rv b_245, un, un, iv pz, un, un] [] tg → Steps p.tables e below S0 tg := by rw [hpz]; exact pre248
    have hsp : pz = (0 : Int32) ∨ pz = (1 : Int32) ∨ pz = (2 : Int32) ∨ pz = (3 : Int32) ∨ pz = (4 : Int32) ∨ pz = (5 : Int32) := by rw [hpz]; exact own_m6 p1
    have pre250 : ∀ tg, AT p e below T245 m 75 #[iv p0, iv p1, iv p2, iv p3, iv (1 : Int32), iv md, rv w_WORKER, rv b_245, un, un, iv pz, iv ((p2 &&& (255 : Int32)).toUInt32.toUInt16.toUInt32.toInt32), un] [] tg → Steps p.tables e below S0 tg := fun tg kg => pre249 tg (by
     refine XS.iloadN X245.here hx rfl (hb hby at_67) rfl ?_
     refine XS.sipush X245.here hx rfl (hb hby at_68) ?_
     refine XS.iand X245.here hx rfl (hb hby at_71) rfl ?_
     refine XS.i2c X245.here hx rfl (hb hby at_72) rfl ?_
     refine XS.istore X245.here hx rfl (hb hby at_73) rfl (l' := #[iv p0, iv p1, iv p2, iv p3, iv (1 : Int32), iv md, rv w_WORKER, rv b_245, un, un, iv pz, iv ((p2 &&& (255 : Int32)).toUInt32.toUInt16.toUInt32.toInt32), un]) rfl ?_
     exact kg)
    obtain ⟨cz, hcz⟩ : ∃ z, z = ((p2 &&& (255 : Int32)).toUInt32.toUInt16.toUInt32.toInt32) := ⟨_, rfl⟩
    have pre251 : ∀ tg, AT p e below T245 m 75 #[iv p0, iv p1, iv p2, iv p3, iv (1 : Int32), iv md, rv w_WORKER, rv b_245, un, un, iv pz, iv cz, un] [] tg → Steps p.tables e below S0 tg := by rw [hcz]; exact pre250
    have hcb : 0 ≤ cz.toInt ∧ cz.toInt ≤ 255 := by rw [hcz]; exact own_cz p2
    obtain ⟨cl252, Ar252, q252, S252, N252, H252, G252⟩ := id u245_0
    have hin252 := own_in pz S252 (own_lt6 hsp)
    have hat252 : cl252.slots[pz.toNatClampNeg]? = some (.int (wd1 pz)) := Has.at H252 hin252 (own_g1 hsp)
    have pre253 : ∀ tg, AT p e below T245 m 82 #[iv p0, iv p1, iv p2, iv p3, iv (1 : Int32), iv md, rv w_WORKER, rv b_245, un, un, iv pz, iv cz, un] [(.int cz), (.int (wd1 pz))] tg → Steps p.tables e below S0 tg := fun tg kg => pre251 tg (by
     refine XS.aload X245.here hx rfl (hb hby at_75) rfl rfl ?_
     refine XS.iload X245.here hx rfl (hb hby at_77) rfl ?_
     refine X245.caload hx (j := pz) (v := (.int (wd1 pz))) Ar252.1 (State.isArrayOf_alike hZ.alike Ar252.2.1) Ar252.2.2 hin252 hat252 (g := (mkF m 79 #[iv p0, iv p1, iv p2, iv p3, iv (1 : Int32), iv md, rv w_WORKER, rv b_245, un, un, iv pz, iv cz, un] [(.int pz), (.ref b_245)])) rfl rfl (hb hby at_79) _ ?_
     refine XS.iload X245.here hx rfl (hb hby at_80) rfl ?_
     exact kg)
    have pre254 : ∀ tg, AT p e below T245 m 90 #[iv p0, iv p1, iv p2, iv p3, iv (1 : Int32), iv md, rv w_WORKER, rv b_245, un, un, iv pz, iv cz, un] [(.int (if (wd1 pz) = cz then (1 : Int32) else (0 : Int32)))] tg → Steps p.tables e below S0 tg := by
     intro tg kg
     rcases Decidable.em ((wd1 pz) = cz) with hd | hd
     ·
      simp only [if_pos hd] at kg
      exact pre253 tg (by
       refine XS.icmpNo X245.here hx rfl (hb hby at_82) rfl (XT.ii_ne_f hd) ?_
       refine XS.iconst X245.here hx rfl (hb hby at_85) ?_
       refine XS.goto X245.here hx rfl (pc0 := 86) (pc' := 90) rfl (hb hby at_86) (by decide) (by decide) ?_
       exact kg)
     ·
      simp only [if_neg hd] at kg
      exact pre253 tg (by
       refine XS.icmpYes X245.here hx rfl (pc0 := 82) (pc' := 89) rfl (hb hby at_82) rfl (XT.ii_ne_t hd) (by decide) (by decide) ?_
       refine XS.iconst X245.here hx rfl (hb hby at_89) ?_
       exact kg)
    have pre255 : ∀ tg, AT p e below T245 m 92 #[iv p0, iv p1, iv p2, iv p3, iv (1 : Int32), iv md, rv w_WORKER, rv b_245, un, un, iv pz, iv cz, iv (if (wd1 pz) = cz then (1 : Int32) else (0 : Int32))] [] tg → Steps p.tables e below S0 tg := fun tg kg => pre254 tg (by
     refine XS.istore X245.here hx rfl (hb hby at_90) rfl (l' := #[iv p0, iv p1, iv p2, iv p3, iv (1 : Int32), iv md, rv w_WORKER, rv b_245, un, un, iv pz, iv cz, iv (if (wd1 pz) = cz then (1 : Int32) else (0 : Int32))]) rfl ?_
     exact kg)
    have hw256 : (if (wd1 pz) = cz then (1 : Int32) else (0 : Int32)) = (sm1 pz cz) := by rw [sm1]
    have pre256 : ∀ tg, AT p e below T245 m 92 #[iv p0, iv p1, iv p2, iv p3, iv (1 : Int32), iv md, rv w_WORKER, rv b_245, un, un, iv pz, iv cz, iv (sm1 pz cz)] [] tg → Steps p.tables e below S0 tg := by
      have q := pre255
      rw [hw256] at q
      exact q
    obtain ⟨cl257, Ar257, q257, S257, M257, H257, G257⟩ := id u245_0
    have hin257 := own_in pz S257 (own_lt6 hsp)
    obtain ⟨T257, h257, X257, e257, W257, st257⟩ := stC X245 hx hZ rfl Ar257 (j := pz) hin257 (g := (mkF m 98 #[iv p0, iv p1, iv p2, iv p3, iv (1 : Int32), iv md, rv w_WORKER, rv b_245, un, un, iv pz, iv cz, iv (sm1 pz cz)] [(.int cz), (.int pz), (.ref b_245)])) rfl rfl (hb hby at_98)
    have V257_258 : Arv Z h257 b_245 kb_245 .char (6 : Int32) [(.int (pk pz (0 : Int32) cz (119 : Int32))), (.int (pk pz (1 : Int32) cz (111 : Int32))), (.int (pk pz (2 : Int32) cz (114 : Int32))), (.int (pk pz (3 : Int32) cz (107 : Int32))), (.int (pk pz (4 : Int32) cz (101 : Int32))), (.int (pk pz (5 : Int32) cz (114 : Int32)))] (.int (0 : Int32)) := by have q := Arv.set Ar257 q257 S257 M257 H257 G257 (fits_nar_char _) W257 pz.toNatClampNeg rfl (own_k1 hsp); rw [own_s1 hsp hcb] at q; exact q
    have E257_259 := u245_2.wr W257
    have K257 := K245.wr W257 (Or.inr sz246)
    have O257 := O245.wr W257 gn246
    have Sf257_b_245 := Safe.wr W257 Sn246 CR245.1 Sn246
    have CR257 : CHr Z EL0 s.vm h0 s.vm h257 := CR245.trans (CHr.wr W257 Sn246 CR245.1)
    have hk := Nat.le_trans hk (Keep.of_wr W257).1
    have N257 := Fr.snoc X257 N245 gn246
    obtain ⟨T260, h260, X260, e260, E260, A260, D260, -, st260⟩ := newO X257 hx hZ hown (ow hw 11 rfl) (ow hw 12 rfl) (ow hw 13 rfl) e257 (g := (mkF m 99 #[iv p0, iv p1, iv p2, iv p3, iv (1 : Int32), iv md, rv w_WORKER, rv b_245, un, un, iv pz, iv cz, iv (sm1 pz cz)] [])) rfl (hb hby at_99) (by decide) (by decide)
    obtain ⟨b260, g260⟩ : ∃ z, z = h257.size := ⟨_, rfl⟩
    rw [← g260] at A260 D260 st260
    have ne260_261 : b_245 ≠ b260 := Nat.ne_of_lt (Nat.lt_of_lt_of_le (V257_258).lt (Nat.le_of_eq g260.symm))
    have gn260 : n0 ≤ b260 := Nat.le_trans (Nat.le_trans (Nat.le_of_eq O257.1.symm) O257.2.1) (Nat.le_of_eq g260.symm)
    have sz260 : h0.size ≤ b260 := Nat.le_trans K257.1 (Nat.le_of_eq g260.symm)
    have Sn260 : Safe Z EL0 s.vm h257 b260 := Safe.new (Nat.le_of_eq g260.symm)
    have V260_262 := V257_258.ext E260
    have E260_263 := E257_259.ext E260
    have K260 := K257.ext E260
    have O260 := O257.ext E260
    have Sf260_b_245 := Safe.ext E260 CR257.1 Sf257_b_245
    have Sf260_b260 := Safe.ext E260 CR257.1 Sn260
    have CR260 : CHr Z EL0 s.vm h0 s.vm h260 := CR257.trans (CHr.ext E260 CR257.1)
    have hk := Nat.le_trans hk E260.1
    have F260_264 : Fld Z h260 b260 "java/lang/String" "coder" "B" (.int (0 : Int32)) := D260 (Or.inr (ow hw 37 rfl)) (ty := .byte) (by decide)
    have F260_265 : Fld Z h260 b260 "java/lang/String" "value" "[B" .null := D260 (Or.inr (ow hw 39 rfl)) (ty := (.array .byte)) (by decide)
    obtain ⟨_, _, ⟨T266, L266, k266, n266⟩, -, X266, ⟨Lc266, hQ266, l266, y266, z266⟩, st266⟩ := X260.specialBack hx (y := y3) rfl hown (mvT hZ (ow hw 14 rfl)) (mvT hZ (ow hw 15 rfl)) (mvT hZ (ow hw 16 rfl)) (by decide) (StrChars.Road.backV (W := 1) hZ (own_ws hw) (ow hw 12 rfl) (cs := [(pk pz (0 : Int32) cz (119 : Int32)), (pk pz (1 : Int32) cz (111 : Int32)), (pk pz (2 : Int32) cz (114 : Int32)), (pk pz (3 : Int32) cz (107 : Int32)), (pk pz (4 : Int32) cz (101 : Int32)), (pk pz (5 : Int32) cz (114 : Int32))]) (bs := [((pk pz (0 : Int32) cz (119 : Int32)).toInt8.toInt32), ((pk pz (1 : Int32) cz (111 : Int32)).toInt8.toInt32), ((pk pz (2 : Int32) cz (114 : Int32)).toInt8.toInt32), ((pk pz (3 : Int32) cz (107 : Int32)).toInt8.toInt32), ((pk pz (4 : Int32) cz (101 : Int32)).toInt8.toInt32), ((pk pz (5 : Int32) cz (114 : Int32)).toInt8.toInt32)]) (n := 6) gn260 (Nat.le_trans (Nat.le_of_eq O260.1.symm) O260.2.1) A260 F260_265 F260_264 V260_262 (S_COMPACT_STRINGS.ext O260.2) hz_w_CS0 rfl (by decide) (by decide) (by decide) (own_cc ⟨own_pn hcb ⟨by decide, by decide⟩, own_pk hcb ⟨by decide, by decide⟩⟩ (own_cc ⟨own_pn hcb ⟨by decide, by decide⟩, own_pk hcb ⟨by decide, by decide⟩⟩ (own_cc ⟨own_pn hcb ⟨by decide, by decide⟩, own_pk hcb ⟨by decide, by decide⟩⟩ (own_cc ⟨own_pn hcb ⟨by decide, by decide⟩, own_pk hcb ⟨by decide, by decide⟩⟩ (own_cc ⟨own_pn hcb ⟨by decide, by decide⟩, own_pk hcb ⟨by decide, by decide⟩⟩ (own_cc ⟨own_pn hcb ⟨by decide, by decide⟩, own_pk hcb ⟨by decide, by decide⟩⟩ own_cn)))))) rfl (by decide) (by decide)) (g := (mkF m 105 #[iv p0, iv p1, iv p2, iv p3, iv (1 : Int32), iv md, rv w_WORKER, rv b_245, un, un, iv pz, iv cz, iv (sm1 pz cz)] [(.ref b_245), (.ref b260), (.ref b260)])) rfl (by rw [hml]; rfl) (Steps.refl _) (a := b260) (argsL := [(.ref b_245)]) (rest := [(.ref b260)]) (lenOf pd_7 rfl) rfl (by show 2 * 0 + _ ≤ _; exact Nat.le_of_eq rfl) (hb hby at_105) (fun _ _ => ⟨rfl, e260, (by decide : 2 + 1 ≤ _), (by decide : 10 + 6 ≤ _)⟩)
    dsimp only [Pt.U, Pt.locs, Pt.cells, Pt.slots] at X266 l266 y266 z266 st266 hQ266
    subst l266 y266 z266
    obtain ⟨rfl, N266q, Kq266, uE266, uC266, t266, kt266, -, tg266, tn266, uF266, uV266⟩ := hQ266
    have N266 := Fr.app N257 N266q
    have ne267 : b_245 ≠ t266 := Nat.ne_of_lt (Nat.lt_of_lt_of_le (V260_262).lt tg266)
    have ne268 : b260 ≠ t266 := Nat.ne_of_lt (Nat.lt_of_lt_of_le (A260).lt tg266)
    have V266_269 := V260_262.keep Kq266 (ninS ne260_261 nin0)
    have E266_270 := E260_263.keep Kq266
    have E266_271 := A260.keep Kq266
    have K266 := K260.trans Kq266 (allS (Or.inr sz260) all0)
    have O266 := O260.keep Kq266 (allS gn260 all0)
    have Sf266_b_245 := Safe.keep Kq266 (allS Sf260_b260 all0) CR260.1 Sf260_b_245
    have Sf266_b260 := Safe.keep Kq266 (allS Sf260_b260 all0) CR260.1 Sf260_b260
    have CR266 : CHr Z EL0 s.vm h0 s.vm T266.heap := CR260.trans (CHr.keep Kq266 (allS Sf260_b260 all0) CR260.1)
    have hk := Nat.le_trans hk Kq266.1
    have sz266 : h0.size ≤ t266 := Nat.le_trans K260.1 tg266
    have gn266 : n0 ≤ t266 := Nat.le_trans (Nat.le_trans (Nat.le_of_eq O260.1.symm) O260.2.1) tg266
    have Sn266 : Safe Z EL0 s.vm T266.heap t266 := Safe.keep Kq266 (allS Sf260_b260 all0) CR260.1 (Safe.new tg266)
    have uC266' : Fld Z T266.heap b260 "java/lang/String" "coder" "B" (.int (0 : Int32)) := uC266
    have uF266' : Fld Z T266.heap b260 "java/lang/String" "value" "[B" (.ref t266) := uF266
    have uV266' : Arv Z T266.heap t266 kt266 .byte (6 : Int32) [(.int ((pk pz (0 : Int32) cz (119 : Int32)).toInt8.toInt32)), (.int ((pk pz (1 : Int32) cz (111 : Int32)).toInt8.toInt32)), (.int ((pk pz (2 : Int32) cz (114 : Int32)).toInt8.toInt32)), (.int ((pk pz (3 : Int32) cz (107 : Int32)).toInt8.toInt32)), (.int ((pk pz (4 : Int32) cz (101 : Int32)).toInt8.toInt32)), (.int ((pk pz (5 : Int32) cz (114 : Int32)).toInt8.toInt32))] (.int (0 : Int32)) := uV266
    obtain ⟨v0, hv0⟩ : ∃ z, z = ((pk pz (0 : Int32) cz (119 : Int32)).toInt8.toInt32) := ⟨_, rfl⟩
    obtain ⟨v1, hv1⟩ : ∃ z, z = ((pk pz (1 : Int32) cz (111 : Int32)).toInt8.toInt32) := ⟨_, rfl⟩
    obtain ⟨v2, hv2⟩ : ∃ z, z = ((pk pz (2 : Int32) cz (114 : Int32)).toInt8.toInt32) := ⟨_, rfl⟩
    obtain ⟨v3, hv3⟩ : ∃ z, z = ((pk pz (3 : Int32) cz (107 : Int32)).toInt8.toInt32) := ⟨_, rfl⟩
    obtain ⟨v4, hv4⟩ : ∃ z, z = ((pk pz (4 : Int32) cz (101 : Int32)).toInt8.toInt32) := ⟨_, rfl⟩
    obtain ⟨v5, hv5⟩ : ∃ z, z = ((pk pz (5 : Int32) cz (114 : Int32)).toInt8.toInt32) := ⟨_, rfl⟩
    have Vb272 : Arv Z T266.heap t266 kt266 .byte (6 : Int32) [(.int v0), (.int v1), (.int v2), (.int v3), (.int v4), (.int v5)] (.int (0 : Int32)) := by have q := uV266'; rw [← hv0, ← hv1, ← hv2, ← hv3, ← hv4, ← hv5] at q; exact q
    have pre273 : ∀ tg, AT p e below T266 m 112 #[iv p0, iv p1, iv p2, iv p3, iv (1 : Int32), iv md, rv w_WORKER, rv b_245, rv b260, un, iv pz, iv cz, iv (sm1 pz cz)] [(.int (sm1 pz cz))] tg → Steps p.tables e below S0 tg := fun tg kg => pre256 tg (by
     refine XS.aload X245.here hx rfl (hb hby at_92) rfl rfl ?_
     refine XS.iload X245.here hx rfl (hb hby at_94) rfl ?_
     refine XS.iload X245.here hx rfl (hb hby at_96) rfl ?_
     refine st257 _ ?_
     refine st260 _ ?_
     refine XS.dup X260.here hx rfl (hb hby at_102) rfl rfl ?_
     refine XS.aload X260.here hx rfl (hb hby at_103) rfl rfl ?_
     refine st266.trans ?_
     refine XS.astore X266.here hx rfl (hb hby at_108) rfl rfl (l' := #[iv p0, iv p1, iv p2, iv p3, iv (1 : Int32), iv md, rv w_WORKER, rv b_245, rv b260, un, iv pz, iv cz, iv (sm1 pz cz)]) rfl ?_
     refine XS.iload X266.here hx rfl (hb hby at_110) rfl ?_
     exact kg)
    rcases Decidable.em ((sm1 pz cz) = (0 : Int32)) with hc274 | hc274
    ·
     obtain ⟨_, _, ⟨T275, L275, k275, n275⟩, -, X275, ⟨Lc275, hQ275, l275, y275, z275⟩, st275⟩ := Jvm.LawKit.callS X266 hx (y := y9) hown (mvT hZ (ow hw 40 rfl)) (mvT hZ (ow hw 41 rfl)) (mvT hZ (ow hw 5 rfl)) (mvT hZ (ow hw 42 rfl)) (by decide) (backOf (W := 0) (rm9_6 l Z ar hw [] b260 w_CS0 w_SF1 w_PRODUCER w__VALUES w_WORKER w_OPERATOR w_ADMIN w_PRODUCER_shown w_PRODUCER_shown_value w_WORKER_shown w_WORKER_shown_value w_OPERATOR_shown w_OPERATOR_shown_value w_ADMIN_shown w_ADMIN_shown_value k__VALUES k_PRODUCER_shown_value k_WORKER_shown_value k_OPERATOR_shown_value k_ADMIN_shown_value t266 kt266 v0 v1 v2 v3 v4 v5 T266.heap n0 O266 HW E266_271 uC266' uF266' Vb272 gn260) hZ (ow hw 42 rfl) (ow hw 5 rfl) (by decide) (by decide)) (g := (mkF m 240 #[iv p0, iv p1, iv p2, iv p3, iv (1 : Int32), iv md, rv w_WORKER, rv b_245, rv b260, .val .null, iv pz, iv cz, iv (sm1 pz cz)] [(.ref b260)])) rfl (by rw [hml]; rfl) (argsL := [(.ref b260)]) (rest := []) (lenOf pd_5 rfl) rfl (by show 2 * 0 + _ ≤ _; exact Nat.le_of_eq rfl) (hb hby at_240) (fun _ _ => ⟨rfl, rfl, (by decide : 3 + 1 ≤ _), (by decide : 16 + 4 ≤ _)⟩)
     dsimp only [Pt.U, Pt.locs, Pt.cells, Pt.slots] at X275 l275 y275 z275 st275 hQ275
     subst l275 y275 z275
     obtain ⟨rfl, N275q, Kq275⟩ := hQ275
     have N275 := Fr.app N266 N275q
     have V275_276 := V266_269.keep Kq275 nin0
     have E275_277 := E266_270.keep Kq275
     have E275_278 := E266_271.keep Kq275
     have F275_279 := uC266'.keep Kq275 nin0
     have F275_280 := uF266'.keep Kq275 nin0
     have V275_281 := Vb272.keep Kq275 nin0
     have K275 := K266.trans Kq275 all0
     have O275 := O266.keep Kq275 all0
     have Sf275_b_245 := Safe.keep Kq275 all0 CR266.1 Sf266_b_245
     have Sf275_b260 := Safe.keep Kq275 all0 CR266.1 Sf266_b260
     have Sf275_t266 := Safe.keep Kq275 all0 CR266.1 Sn266
     have CR275 : CHr Z EL0 s.vm h0 s.vm T275.heap := CR266.trans (CHr.keep Kq275 all0 CR266.1)
     have hk := Nat.le_trans hk Kq275.1
     have ir275 : (f9_6 w_WORKER v0 v1 v2 v3 v4 v5).isRef = true := (by unfold f9_6; (repeat' split) <;> rfl)
     have hans : (f9_6 w_WORKER v0 v1 v2 v3 v4 v5) = .null := (own_w1 hsp hcb hv0 hv1 hv2 hv3 hv4 hv5).2 hc274
     obtain ⟨fs, hr, hrun, hended, hRE⟩ := X275.leaveW hS hk (v := some (.int (1 : Int32))) (fun h => by rw [Bd.returns] at h; cases h)
     have CRf : CHr Z EL0 s.vm s.heap (T275.setFrames fs).vm (T275.setFrames fs).heap := by
       show CHr Z EL0 s.vm s.heap T275.vm T275.heap
       rw [hh]
       exact CR275.trans (CHv.at X275 hZ hEL CR275.1)
     subst hS0
     refine ⟨_, _, pre273 _ ?_, hrun, hended, _, _, rfl, ?_, CRf, hRE.1, hRE.2.1, hRE.2.2.1, hRE.2.2.2.mono (by decide) (by decide)⟩
     ·
      refine XS.ifYes X266.here hx rfl (pc0 := 112) (pc' := 120) rfl (hb hby at_112) rfl (XT.i0_eq_t hc274) (by decide) (by decide) ?_
      refine XS.aconstNull X266.here hx rfl (hb hby at_120) ?_
      refine XS.astore X266.here hx rfl (hb hby at_121) rfl rfl (l' := #[iv p0, iv p1, iv p2, iv p3, iv (1 : Int32), iv md, rv w_WORKER, rv b_245, rv b260, .val .null, iv pz, iv cz, iv (sm1 pz cz)]) rfl ?_
      refine XS.goto X266.here hx rfl (pc0 := 123) (pc' := 238) rfl (hb hby at_123) (by decide) (by decide) ?_
      refine XS.aload X266.here hx rfl (hb hby at_238) rfl rfl ?_
      refine st275 _ ?_
      refine XS.aload X275.here hx rfl (hb hby at_243) rfl rfl ?_
      show AT p e below T275 m 245 #[iv p0, iv p1, iv p2, iv p3, iv (1 : Int32), iv md, rv w_WORKER, rv b_245, rv b260, .val .null, iv pz, iv cz, iv (sm1 pz cz)] [.null, (f9_6 w_WORKER v0 v1 v2 v3 v4 v5)] _
      refine Jvm.RoadKit.acmp (g := (mkF m 245 #[iv p0, iv p1, iv p2, iv p3, iv (1 : Int32), iv md, rv w_WORKER, rv b_245, rv b260, .val .null, iv pz, iv cz, iv (sm1 pz cz)] [.null, (f9_6 w_WORKER v0 v1 v2 v3 v4 v5)])) X275 hx rfl ir275 rfl (pc0 := 245) (pc' := 248) (same := true) rfl (hb hby at_245) rfl (decide_eq_true (hans : (f9_6 w_WORKER v0 v1 v2 v3 v4 v5) = .null)) (by decide) (by decide) ?_
      show AT p e below T275 m 248 #[iv p0, iv p1, iv p2, iv p3, iv (1 : Int32), iv md, rv w_WORKER, rv b_245, rv b260, .val .null, iv pz, iv cz, iv (sm1 pz cz)] [] _
      refine XS.iconst X275.here hx rfl (hb hby at_248) ?_
      refine XS.goto X275.here hx rfl (pc0 := 249) (pc' := 253) rfl (hb hby at_249) (by decide) (by decide) ?_
      exact retN X275 hx (t := .boolean) Bd.returns (by simp) (hb hby at_253) hr
     ·
      show Q0 Z p0 p1 p2 p3 w_CS0 w_SF1 w_PRODUCER w__VALUES w_WORKER w_OPERATOR w_ADMIN w_PRODUCER_shown w_PRODUCER_shown_value w_WORKER_shown w_WORKER_shown_value w_OPERATOR_shown w_OPERATOR_shown_value w_ADMIN_shown w_ADMIN_shown_value k__VALUES k_PRODUCER_shown_value k_WORKER_shown_value k_OPERATOR_shown_value k_ADMIN_shown_value h0 n0 _ T275.heap _
      exact ⟨rfl, N275⟩
    ·
     obtain ⟨_, _, ⟨T282, L282, k282, n282⟩, -, X282, ⟨Lc282, hQ282, l282, y282, z282⟩, st282⟩ := Jvm.LawKit.callS X266 hx (y := y9) hown (mvT hZ (ow hw 40 rfl)) (mvT hZ (ow hw 41 rfl)) (mvT hZ (ow hw 5 rfl)) (mvT hZ (ow hw 42 rfl)) (by decide) (backOf (W := 0) (rm9_6 l Z ar hw [] b260 w_CS0 w_SF1 w_PRODUCER w__VALUES w_WORKER w_OPERATOR w_ADMIN w_PRODUCER_shown w_PRODUCER_shown_value w_WORKER_shown w_WORKER_shown_value w_OPERATOR_shown w_OPERATOR_shown_value w_ADMIN_shown w_ADMIN_shown_value k__VALUES k_PRODUCER_shown_value k_WORKER_shown_value k_OPERATOR_shown_value k_ADMIN_shown_value t266 kt266 v0 v1 v2 v3 v4 v5 T266.heap n0 O266 HW E266_271 uC266' uF266' Vb272 gn260) hZ (ow hw 42 rfl) (ow hw 5 rfl) (by decide) (by decide)) (g := (mkF m 240 #[iv p0, iv p1, iv p2, iv p3, iv (1 : Int32), iv md, rv w_WORKER, rv b_245, rv b260, rv w_WORKER, iv pz, iv cz, iv (sm1 pz cz)] [(.ref b260)])) rfl (by rw [hml]; rfl) (argsL := [(.ref b260)]) (rest := []) (lenOf pd_5 rfl) rfl (by show 2 * 0 + _ ≤ _; exact Nat.le_of_eq rfl) (hb hby at_240) (fun _ _ => ⟨rfl, rfl, (by decide : 3 + 1 ≤ _), (by decide : 16 + 4 ≤ _)⟩)
     dsimp only [Pt.U, Pt.locs, Pt.cells, Pt.slots] at X282 l282 y282 z282 st282 hQ282
     subst l282 y282 z282
     obtain ⟨rfl, N282q, Kq282⟩ := hQ282
     have N282 := Fr.app N266 N282q
     have V282_283 := V266_269.keep Kq282 nin0
     have E282_284 := E266_270.keep Kq282
     have E282_285 := E266_271.keep Kq282
     have F282_286 := uC266'.keep Kq282 nin0
     have F282_287 := uF266'.keep Kq282 nin0
     have V282_288 := Vb272.keep Kq282 nin0
     have K282 := K266.trans Kq282 all0
     have O282 := O266.keep Kq282 all0
     have Sf282_b_245 := Safe.keep Kq282 all0 CR266.1 Sf266_b_245
     have Sf282_b260 := Safe.keep Kq282 all0 CR266.1 Sf266_b260
     have Sf282_t266 := Safe.keep Kq282 all0 CR266.1 Sn266
     have CR282 : CHr Z EL0 s.vm h0 s.vm T282.heap := CR266.trans (CHr.keep Kq282 all0 CR266.1)
     have hk := Nat.le_trans hk Kq282.1
     have ir282 : (f9_6 w_WORKER v0 v1 v2 v3 v4 v5).isRef = true := (by unfold f9_6; (repeat' split) <;> rfl)
     have hans : (f9_6 w_WORKER v0 v1 v2 v3 v4 v5) = (.ref w_WORKER) := (own_w1 hsp hcb hv0 hv1 hv2 hv3 hv4 hv5).1 hc274
     obtain ⟨fs, hr, hrun, hended, hRE⟩ := X282.leaveW hS hk (v := some (.int (1 : Int32))) (fun h => by rw [Bd.returns] at h; cases h)
     have CRf : CHr Z EL0 s.vm s.heap (T282.setFrames fs).vm (T282.setFrames fs).heap := by
       show CHr Z EL0 s.vm s.heap T282.vm T282.heap
       rw [hh]
       exact CR282.trans (CHv.at X282 hZ hEL CR282.1)
     subst hS0
     refine ⟨_, _, pre273 _ ?_, hrun, hended, _, _, rfl, ?_, CRf, hRE.1, hRE.2.1, hRE.2.2.1, hRE.2.2.2.mono (by decide) (by decide)⟩
     ·
      refine XS.ifNo X266.here hx rfl (hb hby at_112) rfl (XT.i0_eq_f hc274) ?_
      refine XS.aload X266.here hx rfl (hb hby at_115) rfl rfl ?_
      refine XS.goto X266.here hx rfl (pc0 := 117) (pc' := 121) rfl (hb hby at_117) (by decide) (by decide) ?_
      refine XS.astore X266.here hx rfl (hb hby at_121) rfl rfl (l' := #[iv p0, iv p1, iv p2, iv p3, iv (1 : Int32), iv md, rv w_WORKER, rv b_245, rv b260, rv w_WORKER, iv pz, iv cz, iv (sm1 pz cz)]) rfl ?_
      refine XS.goto X266.here hx rfl (pc0 := 123) (pc' := 238) rfl (hb hby at_123) (by decide) (by decide) ?_
      refine XS.aload X266.here hx rfl (hb hby at_238) rfl rfl ?_
      refine st282 _ ?_
      show AT p e below T282 m 243 #[iv p0, iv p1, iv p2, iv p3, iv (1 : Int32), iv md, rv w_WORKER, rv b_245, rv b260, rv w_WORKER, iv pz, iv cz, iv (sm1 pz cz)] [(f9_6 w_WORKER v0 v1 v2 v3 v4 v5)] _
      refine XS.aload X282.here hx rfl (hb hby at_243) rfl rfl ?_
      show AT p e below T282 m 245 #[iv p0, iv p1, iv p2, iv p3, iv (1 : Int32), iv md, rv w_WORKER, rv b_245, rv b260, rv w_WORKER, iv pz, iv cz, iv (sm1 pz cz)] [(.ref w_WORKER), (f9_6 w_WORKER v0 v1 v2 v3 v4 v5)] _
      refine Jvm.RoadKit.acmp (g := (mkF m 245 #[iv p0, iv p1, iv p2, iv p3, iv (1 : Int32), iv md, rv w_WORKER, rv b_245, rv b260, rv w_WORKER, iv pz, iv cz, iv (sm1 pz cz)] [(.ref w_WORKER), (f9_6 w_WORKER v0 v1 v2 v3 v4 v5)])) X282 hx rfl ir282 rfl (pc0 := 245) (pc' := 248) (same := true) rfl (hb hby at_245) rfl (decide_eq_true (hans : (f9_6 w_WORKER v0 v1 v2 v3 v4 v5) = (.ref w_WORKER))) (by decide) (by decide) ?_
      refine XS.iconst X282.here hx rfl (hb hby at_248) ?_
      refine XS.goto X282.here hx rfl (pc0 := 249) (pc' := 253) rfl (hb hby at_249) (by decide) (by decide) ?_
      exact retN X282 hx (t := .boolean) Bd.returns (by simp) (hb hby at_253) hr
     ·
      show Q0 Z p0 p1 p2 p3 w_CS0 w_SF1 w_PRODUCER w__VALUES w_WORKER w_OPERATOR w_ADMIN w_PRODUCER_shown w_PRODUCER_shown_value w_WORKER_shown w_WORKER_shown_value w_OPERATOR_shown w_OPERATOR_shown_value w_ADMIN_shown w_ADMIN_shown_value k__VALUES k_PRODUCER_shown_value k_WORKER_shown_value k_OPERATOR_shown_value k_ADMIN_shown_value h0 n0 _ T282.heap _
      exact ⟨rfl, N282⟩
   ·
    obtain ⟨_, _, ⟨T289, L289, k289, n289⟩, -, X289, ⟨Lc289, hQ289, l289, y289, z289⟩, st289⟩ := Jvm.LawKit.callS X0 hx (y := y1) hown (mvT hZ (ow hw 0 rfl)) (mvT hZ (ow hw 1 rfl)) (mvT hZ (ow hw 2 rfl)) (mvT hZ (ow hw 3 rfl)) (by decide) (backOf (W := 0) (rm1 l Z ar hw [] (2 : Int32) w_CS0 w_SF1 w_PRODUCER w__VALUES w_WORKER w_OPERATOR w_ADMIN w_PRODUCER_shown w_PRODUCER_shown_value w_WORKER_shown w_WORKER_shown_value w_OPERATOR_shown w_OPERATOR_shown_value w_ADMIN_shown w_ADMIN_shown_value k__VALUES k_PRODUCER_shown_value k_WORKER_shown_value k_OPERATOR_shown_value k_ADMIN_shown_value h0 n0 O0 HW) hZ (ow hw 3 rfl) (ow hw 2 rfl) (by decide) (by decide)) (g := (mkF m 15 #[iv p0, iv p1, iv p2, iv p3, iv (2 : Int32), iv md, un, un, un, un, un, un, un] [(.int (2 : Int32))])) rfl (by rw [hml]; rfl) (argsL := [(.int (2 : Int32))]) (rest := []) (lenOf pd_3 rfl) rfl (by show 2 * 0 + _ ≤ _; exact Nat.le_of_eq rfl) (hb hby at_15) (fun _ _ => ⟨rfl, e0, (by decide : 0 + 0 ≤ _), (by decide : 0 + 0 ≤ _)⟩)
    dsimp only [Pt.U, Pt.locs, Pt.cells, Pt.slots] at X289 l289 y289 z289 st289 hQ289
    subst l289 y289 z289
    obtain ⟨rfl, N289q, e289⟩ := hQ289
    have N289 := Fr.app N0 N289q
    have r289 : (f1 (2 : Int32) w_PRODUCER w_WORKER w_OPERATOR w_ADMIN) = w_OPERATOR := by rw [f1, if_neg ((by decide) : ¬ ((2 : Int32) = (0 : Int32))), if_neg ((by decide) : ¬ ((2 : Int32) = (1 : Int32))), if_pos ((by decide) : (2 : Int32) = (2 : Int32))] <;> decide
    rw [r289] at st289
    obtain ⟨_, _, ⟨T290, L290, k290, n290⟩, -, X290, ⟨Lc290, hQ290, l290, y290, z290⟩, st290⟩ := Jvm.LawKit.callS X289 hx (y := y2) hown (mvT hZ (ow hw 7 rfl)) (mvT hZ (ow hw 8 rfl)) (mvT hZ (ow hw 2 rfl)) (mvT hZ (ow hw 9 rfl)) (by decide) (backOf (W := 0) (rm2_2 l Z ar hw []  h0 n0 O0) hZ (ow hw 9 rfl) (ow hw 2 rfl) (by decide) (by decide)) (g := (mkF m 22 #[iv p0, iv p1, iv p2, iv p3, iv (2 : Int32), iv md, rv w_OPERATOR, un, un, un, un, un, un] [(.int (2 : Int32))])) rfl (by rw [hml]; rfl) (argsL := [(.int (2 : Int32))]) (rest := []) (lenOf pd_4 rfl) rfl (by show 2 * 0 + _ ≤ _; exact Nat.le_of_eq rfl) (hb hby at_22) (fun _ _ => ⟨rfl, e289, (by decide : 0 + 1 ≤ _), (by decide : 0 + 8 ≤ _)⟩)
    dsimp only [Pt.U, Pt.locs, Pt.cells, Pt.slots] at X290 l290 y290 z290 st290 hQ290
    subst l290 y290 z290
    obtain ⟨b_290, kb_290, rfl, N290q, Kq290, u290_0, u290_1, u290_2⟩ := hQ290
    have N290 := Fr.app N289 N290q
    have K290 := (Keep.refl h0 []).trans Kq290 all0
    have O290 := O0.keep Kq290 all0
    have CR290 : CHr Z EL0 s.vm h0 s.vm T290.heap := CR0.trans (CHr.keep Kq290 all0 CR0.1)
    have hk := Nat.le_trans hk Kq290.1
    have sz291 : h0.size ≤ b_290 := Nat.le_trans (Keep.refl h0 []).1 u290_1
    have gn291 : n0 ≤ b_290 := Nat.le_trans (Nat.le_trans (Nat.le_of_eq O0.1.symm) O0.2.1) u290_1
    have Sn291 : Safe Z EL0 s.vm T290.heap b_290 := Safe.keep Kq290 all0 CR0.1 (Safe.new u290_1)
    obtain ⟨cl292, Ar292, q292, S292, N292, H292, G292⟩ := id u290_0
    have pre293 : ∀ tg, AT p e below T290 m 67 #[iv p0, iv p1, iv p2, iv p3, iv (2 : Int32), iv md, rv w_OPERATOR, rv b_290, un, un, iv ((p1 &&& (2147483647 : Int32)) % (8 : Int32)), un, un] [] tg → Steps p.tables e below S0 tg := fun tg kg => pre198 tg (by
     refine st289 _ ?_
     refine XS.astore X289.here hx rfl (hb hby at_18) rfl rfl (l' := #[iv p0, iv p1, iv p2, iv p3, iv (2 : Int32), iv md, rv w_OPERATOR, un, un, un, un, un, un]) rfl ?_
     refine XS.iload X289.here hx rfl (hb hby at_20) rfl ?_
     refine st290 _ ?_
     refine XS.astore X290.here hx rfl (hb hby at_25) rfl rfl (l' := #[iv p0, iv p1, iv p2, iv p3, iv (2 : Int32), iv md, rv w_OPERATOR, rv b_290, un, un, un, un, un]) rfl ?_
     refine XS.iload X290.here hx rfl (hb hby at_27) rfl ?_
     refine XS.iconst X290.here hx rfl (hb hby at_29) ?_
     show AT p e below T290 m 30 #[iv p0, iv p1, iv p2, iv p3, iv (2 : Int32), iv md, rv w_OPERATOR, rv b_290, un, un, un, un, un] [(.int (1 : Int32)), (.int md)] _
     refine XS.icmpYes X290.here hx rfl (pc0 := 30) (pc' := 51) rfl (hb hby at_30) rfl (XT.ii_gt_t (hc3 : (1 : Int32) < md)) (by decide) (by decide) ?_
     refine XS.iload X290.here hx rfl (hb hby at_51) rfl ?_
     refine XS.iconst X290.here hx rfl (hb hby at_53) ?_
     show AT p e below T290 m 54 #[iv p0, iv p1, iv p2, iv p3, iv (2 : Int32), iv md, rv w_OPERATOR, rv b_290, un, un, un, un, un] [(.int (3 : Int32)), (.int md)] _
     refine XS.icmpNo X290.here hx rfl (hb hby at_54) rfl (XT.ii_gt_f (hc4 : ¬ ((3 : Int32) < md))) ?_
     refine XS.iloadN X290.here hx rfl (hb hby at_57) rfl ?_
     refine X290.ldcInt hx hown (mvT hZ (ow hw 73 rfl)) (g := (mkF m 58 #[iv p0, iv p1, iv p2, iv p3, iv (2 : Int32), iv md, rv w_OPERATOR, rv b_290, un, un, un, un, un] [(.int p1)])) rfl (hb hby at_58) _ ?_
     refine XS.iand X290.here hx rfl (hb hby at_60) rfl ?_
     refine XS.aload X290.here hx rfl (hb hby at_61) rfl rfl ?_
     refine X290.arraylength hx Ar292.1 (State.isArrayOf_alike hZ.alike Ar292.2.1) (g := (mkF m 63 #[iv p0, iv p1, iv p2, iv p3, iv (2 : Int32), iv md, rv w_OPERATOR, rv b_290, un, un, un, un, un] [(.ref b_290), (.int (p1 &&& (2147483647 : Int32)))])) rfl rfl (hb hby at_63) _ ?_
     rw [len_of S292 N292]
     refine iremM X290 hx rfl (hb hby at_64) rfl (by decide) ?_
     refine XS.istore X290.here hx rfl (hb hby at_65) rfl (l' := #[iv p0, iv p1, iv p2, iv p3, iv (2 : Int32), iv md, rv w_OPERATOR, rv b_290, un, un, iv ((p1 &&& (2147483647 : Int32)) % (8 : Int32)), un, un]) rfl ?_
     exact kg)
    obtain ⟨pz, hpz⟩ : ∃ z, z = ((p1 &&& (2147483647 : Int32)) % (8 : Int32)) := ⟨_, rfl⟩
    have pre294 : ∀ tg, AT p e below T290 m 67 #[iv p0, iv p1, iv p2, iv p3, iv (2 : Int32), iv md, rv w_OPERATOR, rv b_290, un, un, iv pz, un, un] [] tg → Steps p.tables e below S0 tg := by rw [hpz]; exact pre293
    have hsp : pz = (0 : Int32) ∨ pz = (1 : Int32) ∨ pz = (2 : Int32) ∨ pz = (3 : Int32) ∨ pz = (4 : Int32) ∨ pz = (5 : Int32) ∨ pz = (6 : Int32) ∨ pz = (7 : Int32) := by rw [hpz]; exact own_m8 p1
    have pre295 : ∀ tg, AT p e below T290 m 75 #[iv p0, iv p1, iv p2, iv p3, iv (2 : Int32), iv md, rv w_OPERATOR, rv b_290, un, un, iv pz, iv ((p2 &&& (255 : Int32)).toUInt32.toUInt16.toUInt32.toInt32), un] [] tg → Steps p.tables e below S0 tg := fun tg kg => pre294 tg (by
     refine XS.iloadN X290.here hx rfl (hb hby at_67) rfl ?_
     refine XS.sipush X290.here hx rfl (hb hby at_68) ?_
     refine XS.iand X290.here hx rfl (hb hby at_71) rfl ?_
     refine XS.i2c X290.here hx rfl (hb hby at_72) rfl ?_
     refine XS.istore X290.here hx rfl (hb hby at_73) rfl (l' := #[iv p0, iv p1, iv p2, iv p3, iv (2 : Int32), iv md, rv w_OPERATOR, rv b_290, un, un, iv pz, iv ((p2 &&& (255 : Int32)).toUInt32.toUInt16.toUInt32.toInt32), un]) rfl ?_
     exact kg)
    obtain ⟨cz, hcz⟩ : ∃ z, z = ((p2 &&& (255 : Int32)).toUInt32.toUInt16.toUInt32.toInt32) := ⟨_, rfl⟩
    have pre296 : ∀ tg, AT p e below T290 m 75 #[iv p0, iv p1, iv p2, iv p3, iv (2 : Int32), iv md, rv w_OPERATOR, rv b_290, un, un, iv pz, iv cz, un] [] tg → Steps p.tables e below S0 tg := by rw [hcz]; exact pre295
    have hcb : 0 ≤ cz.toInt ∧ cz.toInt ≤ 255 := by rw [hcz]; exact own_cz p2
    obtain ⟨cl297, Ar297, q297, S297, N297, H297, G297⟩ := id u290_0
    have hin297 := own_in pz S297 (own_lt8 hsp)
    have hat297 : cl297.slots[pz.toNatClampNeg]? = some (.int (wd2 pz)) := Has.at H297 hin297 (own_g2 hsp)
    have pre298 : ∀ tg, AT p e below T290 m 82 #[iv p0, iv p1, iv p2, iv p3, iv (2 : Int32), iv md, rv w_OPERATOR, rv b_290, un, un, iv pz, iv cz, un] [(.int cz), (.int (wd2 pz))] tg → Steps p.tables e below S0 tg := fun tg kg => pre296 tg (by
     refine XS.aload X290.here hx rfl (hb hby at_75) rfl rfl ?_
     refine XS.iload X290.here hx rfl (hb hby at_77) rfl ?_
     refine X290.caload hx (j := pz) (v := (.int (wd2 pz))) Ar297.1 (State.isArrayOf_alike hZ.alike Ar297.2.1) Ar297.2.2 hin297 hat297 (g := (mkF m 79 #[iv p0, iv p1, iv p2, iv p3, iv (2 : Int32), iv md, rv w_OPERATOR, rv b_290, un, un, iv pz, iv cz, un] [(.int pz), (.ref b_290)])) rfl rfl (hb hby at_79) _ ?_
     refine XS.iload X290.here hx rfl (hb hby at_80) rfl ?_
     exact kg)
    have pre299 : ∀ tg, AT p e below T290 m 90 #[iv p0, iv p1, iv p2, iv p3, iv (2 : Int32), iv md, rv w_OPERATOR, rv b_290, un, un, iv pz, iv cz, un] [(.int (if (wd2 pz) = cz then (1 : Int32) else (0 : Int32)))] tg → Steps p.tables e below S0 tg := by
     intro tg kg
     rcases Decidable.em ((wd2 pz) = cz) with hd | hd
     ·
      simp only [if_pos hd] at kg
      exact pre298 tg (by
       refine XS.icmpNo X290.here hx rfl (hb hby at_82) rfl (XT.ii_ne_f hd) ?_
       refine XS.iconst X290.here hx rfl (hb hby at_85) ?_
       refine XS.goto X290.here hx rfl (pc0 := 86) (pc' := 90) rfl (hb hby at_86) (by decide) (by decide) ?_
       exact kg)
     ·
      simp only [if_neg hd] at kg
      exact pre298 tg (by
       refine XS.icmpYes X290.here hx rfl (pc0 := 82) (pc' := 89) rfl (hb hby at_82) rfl (XT.ii_ne_t hd) (by decide) (by decide) ?_
       refine XS.iconst X290.here hx rfl (hb hby at_89) ?_
       exact kg)
    have pre300 : ∀ tg, AT p e below T290 m 92 #[iv p0, iv p1, iv p2, iv p3, iv (2 : Int32), iv md, rv w_OPERATOR, rv b_290, un, un, iv pz, iv cz, iv (if (wd2 pz) = cz then (1 : Int32) else (0 : Int32))] [] tg → Steps p.tables e below S0 tg := fun tg kg => pre299 tg (by
     refine XS.istore X290.here hx rfl (hb hby at_90) rfl (l' := #[iv p0, iv p1, iv p2, iv p3, iv (2 : Int32), iv md, rv w_OPERATOR, rv b_290, un, un, iv pz, iv cz, iv (if (wd2 pz) = cz then (1 : Int32) else (0 : Int32))]) rfl ?_
     exact kg)
    have hw301 : (if (wd2 pz) = cz then (1 : Int32) else (0 : Int32)) = (sm2 pz cz) := by rw [sm2]
    have pre301 : ∀ tg, AT p e below T290 m 92 #[iv p0, iv p1, iv p2, iv p3, iv (2 : Int32), iv md, rv w_OPERATOR, rv b_290, un, un, iv pz, iv cz, iv (sm2 pz cz)] [] tg → Steps p.tables e below S0 tg := by
      have q := pre300
      rw [hw301] at q
      exact q
    obtain ⟨cl302, Ar302, q302, S302, M302, H302, G302⟩ := id u290_0
    have hin302 := own_in pz S302 (own_lt8 hsp)
    obtain ⟨T302, h302, X302, e302, W302, st302⟩ := stC X290 hx hZ rfl Ar302 (j := pz) hin302 (g := (mkF m 98 #[iv p0, iv p1, iv p2, iv p3, iv (2 : Int32), iv md, rv w_OPERATOR, rv b_290, un, un, iv pz, iv cz, iv (sm2 pz cz)] [(.int cz), (.int pz), (.ref b_290)])) rfl rfl (hb hby at_98)
    have V302_303 : Arv Z h302 b_290 kb_290 .char (8 : Int32) [(.int (pk pz (0 : Int32) cz (111 : Int32))), (.int (pk pz (1 : Int32) cz (112 : Int32))), (.int (pk pz (2 : Int32) cz (101 : Int32))), (.int (pk pz (3 : Int32) cz (114 : Int32))), (.int (pk pz (4 : Int32) cz (97 : Int32))), (.int (pk pz (5 : Int32) cz (116 : Int32))), (.int (pk pz (6 : Int32) cz (111 : Int32))), (.int (pk pz (7 : Int32) cz (114 : Int32)))] (.int (0 : Int32)) := by have q := Arv.set Ar302 q302 S302 M302 H302 G302 (fits_nar_char _) W302 pz.toNatClampNeg rfl (own_k2 hsp); rw [own_s2 hsp hcb] at q; exact q
    have E302_304 := u290_2.wr W302
    have K302 := K290.wr W302 (Or.inr sz291)
    have O302 := O290.wr W302 gn291
    have Sf302_b_290 := Safe.wr W302 Sn291 CR290.1 Sn291
    have CR302 : CHr Z EL0 s.vm h0 s.vm h302 := CR290.trans (CHr.wr W302 Sn291 CR290.1)
    have hk := Nat.le_trans hk (Keep.of_wr W302).1
    have N302 := Fr.snoc X302 N290 gn291
    obtain ⟨T305, h305, X305, e305, E305, A305, D305, -, st305⟩ := newO X302 hx hZ hown (ow hw 11 rfl) (ow hw 12 rfl) (ow hw 13 rfl) e302 (g := (mkF m 99 #[iv p0, iv p1, iv p2, iv p3, iv (2 : Int32), iv md, rv w_OPERATOR, rv b_290, un, un, iv pz, iv cz, iv (sm2 pz cz)] [])) rfl (hb hby at_99) (by decide) (by decide)
    obtain ⟨b305, g305⟩ : ∃ z, z = h302.size := ⟨_, rfl⟩
    rw [← g305] at A305 D305 st305
    have ne305_306 : b_290 ≠ b305 := Nat.ne_of_lt (Nat.lt_of_lt_of_le (V302_303).lt (Nat.le_of_eq g305.symm))
    have gn305 : n0 ≤ b305 := Nat.le_trans (Nat.le_trans (Nat.le_of_eq O302.1.symm) O302.2.1) (Nat.le_of_eq g305.symm)
    have sz305 : h0.size ≤ b305 := Nat.le_trans K302.1 (Nat.le_of_eq g305.symm)
    have Sn305 : Safe Z EL0 s.vm h302 b305 := Safe.new (Nat.le_of_eq g305.symm)
    have V305_307 := V302_303.ext E305
    have E305_308 := E302_304.ext E305
    have K305 := K302.ext E305
    have O305 := O302.ext E305
    have Sf305_b_290 := Safe.ext E305 CR302.1 Sf302_b_290
    have Sf305_b305 := Safe.ext E305 CR302.1 Sn305
    have CR305 : CHr Z EL0 s.vm h0 s.vm h305 := CR302.trans (CHr.ext E305 CR302.1)
    have hk := Nat.le_trans hk E305.1
    have F305_309 : Fld Z h305 b305 "java/lang/String" "coder" "B" (.int (0 : Int32)) := D305 (Or.inr (ow hw 37 rfl)) (ty := .byte) (by decide)
    have F305_310 : Fld Z h305 b305 "java/lang/String" "value" "[B" .null := D305 (Or.inr (ow hw 39 rfl)) (ty := (.array .byte)) (by decide)
    obtain ⟨_, _, ⟨T311, L311, k311, n311⟩, -, X311, ⟨Lc311, hQ311, l311, y311, z311⟩, st311⟩ := X305.specialBack hx (y := y3) rfl hown (mvT hZ (ow hw 14 rfl)) (mvT hZ (ow hw 15 rfl)) (mvT hZ (ow hw 16 rfl)) (by decide) (StrChars.Road.backV (W := 1) hZ (own_ws hw) (ow hw 12 rfl) (cs := [(pk pz (0 : Int32) cz (111 : Int32)), (pk pz (1 : Int32) cz (112 : Int32)), (pk pz (2 : Int32) cz (101 : Int32)), (pk pz (3 : Int32) cz (114 : Int32)), (pk pz (4 : Int32) cz (97 : Int32)), (pk pz (5 : Int32) cz (116 : Int32)), (pk pz (6 : Int32) cz (111 : Int32)), (pk pz (7 : Int32) cz (114 : Int32))]) (bs := [((pk pz (0 : Int32) cz (111 : Int32)).toInt8.toInt32), ((pk pz (1 : Int32) cz (112 : Int32)).toInt8.toInt32), ((pk pz (2 : Int32) cz (101 : Int32)).toInt8.toInt32), ((pk pz (3 : Int32) cz (114 : Int32)).toInt8.toInt32), ((pk pz (4 : Int32) cz (97 : Int32)).toInt8.toInt32), ((pk pz (5 : Int32) cz (116 : Int32)).toInt8.toInt32), ((pk pz (6 : Int32) cz (111 : Int32)).toInt8.toInt32), ((pk pz (7 : Int32) cz (114 : Int32)).toInt8.toInt32)]) (n := 8) gn305 (Nat.le_trans (Nat.le_of_eq O305.1.symm) O305.2.1) A305 F305_310 F305_309 V305_307 (S_COMPACT_STRINGS.ext O305.2) hz_w_CS0 rfl (by decide) (by decide) (by decide) (own_cc ⟨own_pn hcb ⟨by decide, by decide⟩, own_pk hcb ⟨by decide, by decide⟩⟩ (own_cc ⟨own_pn hcb ⟨by decide, by decide⟩, own_pk hcb ⟨by decide, by decide⟩⟩ (own_cc ⟨own_pn hcb ⟨by decide, by decide⟩, own_pk hcb ⟨by decide, by decide⟩⟩ (own_cc ⟨own_pn hcb ⟨by decide, by decide⟩, own_pk hcb ⟨by decide, by decide⟩⟩ (own_cc ⟨own_pn hcb ⟨by decide, by decide⟩, own_pk hcb ⟨by decide, by decide⟩⟩ (own_cc ⟨own_pn hcb ⟨by decide, by decide⟩, own_pk hcb ⟨by decide, by decide⟩⟩ (own_cc ⟨own_pn hcb ⟨by decide, by decide⟩, own_pk hcb ⟨by decide, by decide⟩⟩ (own_cc ⟨own_pn hcb ⟨by decide, by decide⟩, own_pk hcb ⟨by decide, by decide⟩⟩ own_cn)))))))) rfl (by decide) (by decide)) (g := (mkF m 105 #[iv p0, iv p1, iv p2, iv p3, iv (2 : Int32), iv md, rv w_OPERATOR, rv b_290, un, un, iv pz, iv cz, iv (sm2 pz cz)] [(.ref b_290), (.ref b305), (.ref b305)])) rfl (by rw [hml]; rfl) (Steps.refl _) (a := b305) (argsL := [(.ref b_290)]) (rest := [(.ref b305)]) (lenOf pd_7 rfl) rfl (by show 2 * 0 + _ ≤ _; exact Nat.le_of_eq rfl) (hb hby at_105) (fun _ _ => ⟨rfl, e305, (by decide : 2 + 1 ≤ _), (by decide : 12 + 8 ≤ _)⟩)
    dsimp only [Pt.U, Pt.locs, Pt.cells, Pt.slots] at X311 l311 y311 z311 st311 hQ311
    subst l311 y311 z311
    obtain ⟨rfl, N311q, Kq311, uE311, uC311, t311, kt311, -, tg311, tn311, uF311, uV311⟩ := hQ311
    have N311 := Fr.app N302 N311q
    have ne312 : b_290 ≠ t311 := Nat.ne_of_lt (Nat.lt_of_lt_of_le (V305_307).lt tg311)
    have ne313 : b305 ≠ t311 := Nat.ne_of_lt (Nat.lt_of_lt_of_le (A305).lt tg311)
    have V311_314 := V305_307.keep Kq311 (ninS ne305_306 nin0)
    have E311_315 := E305_308.keep Kq311
    have E311_316 := A305.keep Kq311
    have K311 := K305.trans Kq311 (allS (Or.inr sz305) all0)
    have O311 := O305.keep Kq311 (allS gn305 all0)
    have Sf311_b_290 := Safe.keep Kq311 (allS Sf305_b305 all0) CR305.1 Sf305_b_290
    have Sf311_b305 := Safe.keep Kq311 (allS Sf305_b305 all0) CR305.1 Sf305_b305
    have CR311 : CHr Z EL0 s.vm h0 s.vm T311.heap := CR305.trans (CHr.keep Kq311 (allS Sf305_b305 all0) CR305.1)
    have hk := Nat.le_trans hk Kq311.1
    have sz311 : h0.size ≤ t311 := Nat.le_trans K305.1 tg311
    have gn311 : n0 ≤ t311 := Nat.le_trans (Nat.le_trans (Nat.le_of_eq O305.1.symm) O305.2.1) tg311
    have Sn311 : Safe Z EL0 s.vm T311.heap t311 := Safe.keep Kq311 (allS Sf305_b305 all0) CR305.1 (Safe.new tg311)
    have uC311' : Fld Z T311.heap b305 "java/lang/String" "coder" "B" (.int (0 : Int32)) := uC311
    have uF311' : Fld Z T311.heap b305 "java/lang/String" "value" "[B" (.ref t311) := uF311
    have uV311' : Arv Z T311.heap t311 kt311 .byte (8 : Int32) [(.int ((pk pz (0 : Int32) cz (111 : Int32)).toInt8.toInt32)), (.int ((pk pz (1 : Int32) cz (112 : Int32)).toInt8.toInt32)), (.int ((pk pz (2 : Int32) cz (101 : Int32)).toInt8.toInt32)), (.int ((pk pz (3 : Int32) cz (114 : Int32)).toInt8.toInt32)), (.int ((pk pz (4 : Int32) cz (97 : Int32)).toInt8.toInt32)), (.int ((pk pz (5 : Int32) cz (116 : Int32)).toInt8.toInt32)), (.int ((pk pz (6 : Int32) cz (111 : Int32)).toInt8.toInt32)), (.int ((pk pz (7 : Int32) cz (114 : Int32)).toInt8.toInt32))] (.int (0 : Int32)) := uV311
    obtain ⟨v0, hv0⟩ : ∃ z, z = ((pk pz (0 : Int32) cz (111 : Int32)).toInt8.toInt32) := ⟨_, rfl⟩
    obtain ⟨v1, hv1⟩ : ∃ z, z = ((pk pz (1 : Int32) cz (112 : Int32)).toInt8.toInt32) := ⟨_, rfl⟩
    obtain ⟨v2, hv2⟩ : ∃ z, z = ((pk pz (2 : Int32) cz (101 : Int32)).toInt8.toInt32) := ⟨_, rfl⟩
    obtain ⟨v3, hv3⟩ : ∃ z, z = ((pk pz (3 : Int32) cz (114 : Int32)).toInt8.toInt32) := ⟨_, rfl⟩
    obtain ⟨v4, hv4⟩ : ∃ z, z = ((pk pz (4 : Int32) cz (97 : Int32)).toInt8.toInt32) := ⟨_, rfl⟩
    obtain ⟨v5, hv5⟩ : ∃ z, z = ((pk pz (5 : Int32) cz (116 : Int32)).toInt8.toInt32) := ⟨_, rfl⟩
    obtain ⟨v6, hv6⟩ : ∃ z, z = ((pk pz (6 : Int32) cz (111 : Int32)).toInt8.toInt32) := ⟨_, rfl⟩
    obtain ⟨v7, hv7⟩ : ∃ z, z = ((pk pz (7 : Int32) cz (114 : Int32)).toInt8.toInt32) := ⟨_, rfl⟩
    have Vb317 : Arv Z T311.heap t311 kt311 .byte (8 : Int32) [(.int v0), (.int v1), (.int v2), (.int v3), (.int v4), (.int v5), (.int v6), (.int v7)] (.int (0 : Int32)) := by have q := uV311'; rw [← hv0, ← hv1, ← hv2, ← hv3, ← hv4, ← hv5, ← hv6, ← hv7] at q; exact q
    have pre318 : ∀ tg, AT p e below T311 m 112 #[iv p0, iv p1, iv p2, iv p3, iv (2 : Int32), iv md, rv w_OPERATOR, rv b_290, rv b305, un, iv pz, iv cz, iv (sm2 pz cz)] [(.int (sm2 pz cz))] tg → Steps p.tables e below S0 tg := fun tg kg => pre301 tg (by
     refine XS.aload X290.here hx rfl (hb hby at_92) rfl rfl ?_
     refine XS.iload X290.here hx rfl (hb hby at_94) rfl ?_
     refine XS.iload X290.here hx rfl (hb hby at_96) rfl ?_
     refine st302 _ ?_
     refine st305 _ ?_
     refine XS.dup X305.here hx rfl (hb hby at_102) rfl rfl ?_
     refine XS.aload X305.here hx rfl (hb hby at_103) rfl rfl ?_
     refine st311.trans ?_
     refine XS.astore X311.here hx rfl (hb hby at_108) rfl rfl (l' := #[iv p0, iv p1, iv p2, iv p3, iv (2 : Int32), iv md, rv w_OPERATOR, rv b_290, rv b305, un, iv pz, iv cz, iv (sm2 pz cz)]) rfl ?_
     refine XS.iload X311.here hx rfl (hb hby at_110) rfl ?_
     exact kg)
    rcases Decidable.em ((sm2 pz cz) = (0 : Int32)) with hc319 | hc319
    ·
     obtain ⟨_, _, ⟨T320, L320, k320, n320⟩, -, X320, ⟨Lc320, hQ320, l320, y320, z320⟩, st320⟩ := Jvm.LawKit.callS X311 hx (y := y9) hown (mvT hZ (ow hw 40 rfl)) (mvT hZ (ow hw 41 rfl)) (mvT hZ (ow hw 5 rfl)) (mvT hZ (ow hw 42 rfl)) (by decide) (backOf (W := 0) (rm9_8 l Z ar hw [] b305 w_CS0 w_SF1 w_PRODUCER w__VALUES w_WORKER w_OPERATOR w_ADMIN w_PRODUCER_shown w_PRODUCER_shown_value w_WORKER_shown w_WORKER_shown_value w_OPERATOR_shown w_OPERATOR_shown_value w_ADMIN_shown w_ADMIN_shown_value k__VALUES k_PRODUCER_shown_value k_WORKER_shown_value k_OPERATOR_shown_value k_ADMIN_shown_value t311 kt311 v0 v1 v2 v3 v4 v5 v6 v7 T311.heap n0 O311 HW E311_316 uC311' uF311' Vb317 gn305) hZ (ow hw 42 rfl) (ow hw 5 rfl) (by decide) (by decide)) (g := (mkF m 240 #[iv p0, iv p1, iv p2, iv p3, iv (2 : Int32), iv md, rv w_OPERATOR, rv b_290, rv b305, .val .null, iv pz, iv cz, iv (sm2 pz cz)] [(.ref b305)])) rfl (by rw [hml]; rfl) (argsL := [(.ref b305)]) (rest := []) (lenOf pd_5 rfl) rfl (by show 2 * 0 + _ ≤ _; exact Nat.le_of_eq rfl) (hb hby at_240) (fun _ _ => ⟨rfl, rfl, (by decide : 3 + 1 ≤ _), (by decide : 20 + 4 ≤ _)⟩)
     dsimp only [Pt.U, Pt.locs, Pt.cells, Pt.slots] at X320 l320 y320 z320 st320 hQ320
     subst l320 y320 z320
     obtain ⟨rfl, N320q, Kq320⟩ := hQ320
     have N320 := Fr.app N311 N320q
     have V320_321 := V311_314.keep Kq320 nin0
     have E320_322 := E311_315.keep Kq320
     have E320_323 := E311_316.keep Kq320
     have F320_324 := uC311'.keep Kq320 nin0
     have F320_325 := uF311'.keep Kq320 nin0
     have V320_326 := Vb317.keep Kq320 nin0
     have K320 := K311.trans Kq320 all0
     have O320 := O311.keep Kq320 all0
     have Sf320_b_290 := Safe.keep Kq320 all0 CR311.1 Sf311_b_290
     have Sf320_b305 := Safe.keep Kq320 all0 CR311.1 Sf311_b305
     have Sf320_t311 := Safe.keep Kq320 all0 CR311.1 Sn311
     have CR320 : CHr Z EL0 s.vm h0 s.vm T320.heap := CR311.trans (CHr.keep Kq320 all0 CR311.1)
     have hk := Nat.le_trans hk Kq320.1
     have ir320 : (f9_8 w_PRODUCER w_OPERATOR v0 v1 v2 v3 v4 v5 v6 v7).isRef = true := (by unfold f9_8; (repeat' split) <;> rfl)
     have hans : (f9_8 w_PRODUCER w_OPERATOR v0 v1 v2 v3 v4 v5 v6 v7) = .null := (own_w2 hsp hcb hv0 hv1 hv2 hv3 hv4 hv5 hv6 hv7).2 hc319
     obtain ⟨fs, hr, hrun, hended, hRE⟩ := X320.leaveW hS hk (v := some (.int (1 : Int32))) (fun h => by rw [Bd.returns] at h; cases h)
     have CRf : CHr Z EL0 s.vm s.heap (T320.setFrames fs).vm (T320.setFrames fs).heap := by
       show CHr Z EL0 s.vm s.heap T320.vm T320.heap
       rw [hh]
       exact CR320.trans (CHv.at X320 hZ hEL CR320.1)
     subst hS0
     refine ⟨_, _, pre318 _ ?_, hrun, hended, _, _, rfl, ?_, CRf, hRE.1, hRE.2.1, hRE.2.2.1, hRE.2.2.2.mono (by decide) (by decide)⟩
     ·
      refine XS.ifYes X311.here hx rfl (pc0 := 112) (pc' := 120) rfl (hb hby at_112) rfl (XT.i0_eq_t hc319) (by decide) (by decide) ?_
      refine XS.aconstNull X311.here hx rfl (hb hby at_120) ?_
      refine XS.astore X311.here hx rfl (hb hby at_121) rfl rfl (l' := #[iv p0, iv p1, iv p2, iv p3, iv (2 : Int32), iv md, rv w_OPERATOR, rv b_290, rv b305, .val .null, iv pz, iv cz, iv (sm2 pz cz)]) rfl ?_
      refine XS.goto X311.here hx rfl (pc0 := 123) (pc' := 238) rfl (hb hby at_123) (by decide) (by decide) ?_
      refine XS.aload X311.here hx rfl (hb hby at_238) rfl rfl ?_
      refine st320 _ ?_
      refine XS.aload X320.here hx rfl (hb hby at_243) rfl rfl ?_
      show AT p e below T320 m 245 #[iv p0, iv p1, iv p2, iv p3, iv (2 : Int32), iv md, rv w_OPERATOR, rv b_290, rv b305, .val .null, iv pz, iv cz, iv (sm2 pz cz)] [.null, (f9_8 w_PRODUCER w_OPERATOR v0 v1 v2 v3 v4 v5 v6 v7)] _
      refine Jvm.RoadKit.acmp (g := (mkF m 245 #[iv p0, iv p1, iv p2, iv p3, iv (2 : Int32), iv md, rv w_OPERATOR, rv b_290, rv b305, .val .null, iv pz, iv cz, iv (sm2 pz cz)] [.null, (f9_8 w_PRODUCER w_OPERATOR v0 v1 v2 v3 v4 v5 v6 v7)])) X320 hx rfl ir320 rfl (pc0 := 245) (pc' := 248) (same := true) rfl (hb hby at_245) rfl (decide_eq_true (hans : (f9_8 w_PRODUCER w_OPERATOR v0 v1 v2 v3 v4 v5 v6 v7) = .null)) (by decide) (by decide) ?_
      show AT p e below T320 m 248 #[iv p0, iv p1, iv p2, iv p3, iv (2 : Int32), iv md, rv w_OPERATOR, rv b_290, rv b305, .val .null, iv pz, iv cz, iv (sm2 pz cz)] [] _
      refine XS.iconst X320.here hx rfl (hb hby at_248) ?_
      refine XS.goto X320.here hx rfl (pc0 := 249) (pc' := 253) rfl (hb hby at_249) (by decide) (by decide) ?_
      exact retN X320 hx (t := .boolean) Bd.returns (by simp) (hb hby at_253) hr
     ·
      show Q0 Z p0 p1 p2 p3 w_CS0 w_SF1 w_PRODUCER w__VALUES w_WORKER w_OPERATOR w_ADMIN w_PRODUCER_shown w_PRODUCER_shown_value w_WORKER_shown w_WORKER_shown_value w_OPERATOR_shown w_OPERATOR_shown_value w_ADMIN_shown w_ADMIN_shown_value k__VALUES k_PRODUCER_shown_value k_WORKER_shown_value k_OPERATOR_shown_value k_ADMIN_shown_value h0 n0 _ T320.heap _
      exact ⟨rfl, N320⟩
    ·
     obtain ⟨_, _, ⟨T327, L327, k327, n327⟩, -, X327, ⟨Lc327, hQ327, l327, y327, z327⟩, st327⟩ := Jvm.LawKit.callS X311 hx (y := y9) hown (mvT hZ (ow hw 40 rfl)) (mvT hZ (ow hw 41 rfl)) (mvT hZ (ow hw 5 rfl)) (mvT hZ (ow hw 42 rfl)) (by decide) (backOf (W := 0) (rm9_8 l Z ar hw [] b305 w_CS0 w_SF1 w_PRODUCER w__VALUES w_WORKER w_OPERATOR w_ADMIN w_PRODUCER_shown w_PRODUCER_shown_value w_WORKER_shown w_WORKER_shown_value w_OPERATOR_shown w_OPERATOR_shown_value w_ADMIN_shown w_ADMIN_shown_value k__VALUES k_PRODUCER_shown_value k_WORKER_shown_value k_OPERATOR_shown_value k_ADMIN_shown_value t311 kt311 v0 v1 v2 v3 v4 v5 v6 v7 T311.heap n0 O311 HW E311_316 uC311' uF311' Vb317 gn305) hZ (ow hw 42 rfl) (ow hw 5 rfl) (by decide) (by decide)) (g := (mkF m 240 #[iv p0, iv p1, iv p2, iv p3, iv (2 : Int32), iv md, rv w_OPERATOR, rv b_290, rv b305, rv w_OPERATOR, iv pz, iv cz, iv (sm2 pz cz)] [(.ref b305)])) rfl (by rw [hml]; rfl) (argsL := [(.ref b305)]) (rest := []) (lenOf pd_5 rfl) rfl (by show 2 * 0 + _ ≤ _; exact Nat.le_of_eq rfl) (hb hby at_240) (fun _ _ => ⟨rfl, rfl, (by decide : 3 + 1 ≤ _), (by decide : 20 + 4 ≤ _)⟩)
     dsimp only [Pt.U, Pt.locs, Pt.cells, Pt.slots] at X327 l327 y327 z327 st327 hQ327
     subst l327 y327 z327
     obtain ⟨rfl, N327q, Kq327⟩ := hQ327
     have N327 := Fr.app N311 N327q
     have V327_328 := V311_314.keep Kq327 nin0
     have E327_329 := E311_315.keep Kq327
     have E327_330 := E311_316.keep Kq327
     have F327_331 := uC311'.keep Kq327 nin0
     have F327_332 := uF311'.keep Kq327 nin0
     have V327_333 := Vb317.keep Kq327 nin0
     have K327 := K311.trans Kq327 all0
     have O327 := O311.keep Kq327 all0
     have Sf327_b_290 := Safe.keep Kq327 all0 CR311.1 Sf311_b_290
     have Sf327_b305 := Safe.keep Kq327 all0 CR311.1 Sf311_b305
     have Sf327_t311 := Safe.keep Kq327 all0 CR311.1 Sn311
     have CR327 : CHr Z EL0 s.vm h0 s.vm T327.heap := CR311.trans (CHr.keep Kq327 all0 CR311.1)
     have hk := Nat.le_trans hk Kq327.1
     have ir327 : (f9_8 w_PRODUCER w_OPERATOR v0 v1 v2 v3 v4 v5 v6 v7).isRef = true := (by unfold f9_8; (repeat' split) <;> rfl)
     have hans : (f9_8 w_PRODUCER w_OPERATOR v0 v1 v2 v3 v4 v5 v6 v7) = (.ref w_OPERATOR) := (own_w2 hsp hcb hv0 hv1 hv2 hv3 hv4 hv5 hv6 hv7).1 hc319
     obtain ⟨fs, hr, hrun, hended, hRE⟩ := X327.leaveW hS hk (v := some (.int (1 : Int32))) (fun h => by rw [Bd.returns] at h; cases h)
     have CRf : CHr Z EL0 s.vm s.heap (T327.setFrames fs).vm (T327.setFrames fs).heap := by
       show CHr Z EL0 s.vm s.heap T327.vm T327.heap
       rw [hh]
       exact CR327.trans (CHv.at X327 hZ hEL CR327.1)
     subst hS0
     refine ⟨_, _, pre318 _ ?_, hrun, hended, _, _, rfl, ?_, CRf, hRE.1, hRE.2.1, hRE.2.2.1, hRE.2.2.2.mono (by decide) (by decide)⟩
     ·
      refine XS.ifNo X311.here hx rfl (hb hby at_112) rfl (XT.i0_eq_f hc319) ?_
      refine XS.aload X311.here hx rfl (hb hby at_115) rfl rfl ?_
      refine XS.goto X311.here hx rfl (pc0 := 117) (pc' := 121) rfl (hb hby at_117) (by decide) (by decide) ?_
      refine XS.astore X311.here hx rfl (hb hby at_121) rfl rfl (l' := #[iv p0, iv p1, iv p2, iv p3, iv (2 : Int32), iv md, rv w_OPERATOR, rv b_290, rv b305, rv w_OPERATOR, iv pz, iv cz, iv (sm2 pz cz)]) rfl ?_
      refine XS.goto X311.here hx rfl (pc0 := 123) (pc' := 238) rfl (hb hby at_123) (by decide) (by decide) ?_
      refine XS.aload X311.here hx rfl (hb hby at_238) rfl rfl ?_
      refine st327 _ ?_
      show AT p e below T327 m 243 #[iv p0, iv p1, iv p2, iv p3, iv (2 : Int32), iv md, rv w_OPERATOR, rv b_290, rv b305, rv w_OPERATOR, iv pz, iv cz, iv (sm2 pz cz)] [(f9_8 w_PRODUCER w_OPERATOR v0 v1 v2 v3 v4 v5 v6 v7)] _
      refine XS.aload X327.here hx rfl (hb hby at_243) rfl rfl ?_
      show AT p e below T327 m 245 #[iv p0, iv p1, iv p2, iv p3, iv (2 : Int32), iv md, rv w_OPERATOR, rv b_290, rv b305, rv w_OPERATOR, iv pz, iv cz, iv (sm2 pz cz)] [(.ref w_OPERATOR), (f9_8 w_PRODUCER w_OPERATOR v0 v1 v2 v3 v4 v5 v6 v7)] _
      refine Jvm.RoadKit.acmp (g := (mkF m 245 #[iv p0, iv p1, iv p2, iv p3, iv (2 : Int32), iv md, rv w_OPERATOR, rv b_290, rv b305, rv w_OPERATOR, iv pz, iv cz, iv (sm2 pz cz)] [(.ref w_OPERATOR), (f9_8 w_PRODUCER w_OPERATOR v0 v1 v2 v3 v4 v5 v6 v7)])) X327 hx rfl ir327 rfl (pc0 := 245) (pc' := 248) (same := true) rfl (hb hby at_245) rfl (decide_eq_true (hans : (f9_8 w_PRODUCER w_OPERATOR v0 v1 v2 v3 v4 v5 v6 v7) = (.ref w_OPERATOR))) (by decide) (by decide) ?_
      refine XS.iconst X327.here hx rfl (hb hby at_248) ?_
      refine XS.goto X327.here hx rfl (pc0 := 249) (pc' := 253) rfl (hb hby at_249) (by decide) (by decide) ?_
      exact retN X327 hx (t := .boolean) Bd.returns (by simp) (hb hby at_253) hr
     ·
      show Q0 Z p0 p1 p2 p3 w_CS0 w_SF1 w_PRODUCER w__VALUES w_WORKER w_OPERATOR w_ADMIN w_PRODUCER_shown w_PRODUCER_shown_value w_WORKER_shown w_WORKER_shown_value w_OPERATOR_shown w_OPERATOR_shown_value w_ADMIN_shown w_ADMIN_shown_value k__VALUES k_PRODUCER_shown_value k_WORKER_shown_value k_OPERATOR_shown_value k_ADMIN_shown_value h0 n0 _ T327.heap _
      exact ⟨rfl, N327⟩
   ·
    obtain ⟨_, _, ⟨T334, L334, k334, n334⟩, -, X334, ⟨Lc334, hQ334, l334, y334, z334⟩, st334⟩ := Jvm.LawKit.callS X0 hx (y := y1) hown (mvT hZ (ow hw 0 rfl)) (mvT hZ (ow hw 1 rfl)) (mvT hZ (ow hw 2 rfl)) (mvT hZ (ow hw 3 rfl)) (by decide) (backOf (W := 0) (rm1 l Z ar hw [] (3 : Int32) w_CS0 w_SF1 w_PRODUCER w__VALUES w_WORKER w_OPERATOR w_ADMIN w_PRODUCER_shown w_PRODUCER_shown_value w_WORKER_shown w_WORKER_shown_value w_OPERATOR_shown w_OPERATOR_shown_value w_ADMIN_shown w_ADMIN_shown_value k__VALUES k_PRODUCER_shown_value k_WORKER_shown_value k_OPERATOR_shown_value k_ADMIN_shown_value h0 n0 O0 HW) hZ (ow hw 3 rfl) (ow hw 2 rfl) (by decide) (by decide)) (g := (mkF m 15 #[iv p0, iv p1, iv p2, iv p3, iv (3 : Int32), iv md, un, un, un, un, un, un, un] [(.int (3 : Int32))])) rfl (by rw [hml]; rfl) (argsL := [(.int (3 : Int32))]) (rest := []) (lenOf pd_3 rfl) rfl (by show 2 * 0 + _ ≤ _; exact Nat.le_of_eq rfl) (hb hby at_15) (fun _ _ => ⟨rfl, e0, (by decide : 0 + 0 ≤ _), (by decide : 0 + 0 ≤ _)⟩)
    dsimp only [Pt.U, Pt.locs, Pt.cells, Pt.slots] at X334 l334 y334 z334 st334 hQ334
    subst l334 y334 z334
    obtain ⟨rfl, N334q, e334⟩ := hQ334
    have N334 := Fr.app N0 N334q
    have r334 : (f1 (3 : Int32) w_PRODUCER w_WORKER w_OPERATOR w_ADMIN) = w_ADMIN := by rw [f1, if_neg ((by decide) : ¬ ((3 : Int32) = (0 : Int32))), if_neg ((by decide) : ¬ ((3 : Int32) = (1 : Int32))), if_neg ((by decide) : ¬ ((3 : Int32) = (2 : Int32)))] <;> decide
    rw [r334] at st334
    obtain ⟨_, _, ⟨T335, L335, k335, n335⟩, -, X335, ⟨Lc335, hQ335, l335, y335, z335⟩, st335⟩ := Jvm.LawKit.callS X334 hx (y := y2) hown (mvT hZ (ow hw 7 rfl)) (mvT hZ (ow hw 8 rfl)) (mvT hZ (ow hw 2 rfl)) (mvT hZ (ow hw 9 rfl)) (by decide) (backOf (W := 0) (rm2_3 l Z ar hw []  h0 n0 O0) hZ (ow hw 9 rfl) (ow hw 2 rfl) (by decide) (by decide)) (g := (mkF m 22 #[iv p0, iv p1, iv p2, iv p3, iv (3 : Int32), iv md, rv w_ADMIN, un, un, un, un, un, un] [(.int (3 : Int32))])) rfl (by rw [hml]; rfl) (argsL := [(.int (3 : Int32))]) (rest := []) (lenOf pd_4 rfl) rfl (by show 2 * 0 + _ ≤ _; exact Nat.le_of_eq rfl) (hb hby at_22) (fun _ _ => ⟨rfl, e334, (by decide : 0 + 1 ≤ _), (by decide : 0 + 5 ≤ _)⟩)
    dsimp only [Pt.U, Pt.locs, Pt.cells, Pt.slots] at X335 l335 y335 z335 st335 hQ335
    subst l335 y335 z335
    obtain ⟨b_335, kb_335, rfl, N335q, Kq335, u335_0, u335_1, u335_2⟩ := hQ335
    have N335 := Fr.app N334 N335q
    have K335 := (Keep.refl h0 []).trans Kq335 all0
    have O335 := O0.keep Kq335 all0
    have CR335 : CHr Z EL0 s.vm h0 s.vm T335.heap := CR0.trans (CHr.keep Kq335 all0 CR0.1)
    have hk := Nat.le_trans hk Kq335.1
    have sz336 : h0.size ≤ b_335 := Nat.le_trans (Keep.refl h0 []).1 u335_1
    have gn336 : n0 ≤ b_335 := Nat.le_trans (Nat.le_trans (Nat.le_of_eq O0.1.symm) O0.2.1) u335_1
    have Sn336 : Safe Z EL0 s.vm T335.heap b_335 := Safe.keep Kq335 all0 CR0.1 (Safe.new u335_1)
    obtain ⟨cl337, Ar337, q337, S337, N337, H337, G337⟩ := id u335_0
    have pre338 : ∀ tg, AT p e below T335 m 67 #[iv p0, iv p1, iv p2, iv p3, iv (3 : Int32), iv md, rv w_ADMIN, rv b_335, un, un, iv ((p1 &&& (2147483647 : Int32)) % (5 : Int32)), un, un] [] tg → Steps p.tables e below S0 tg := fun tg kg => pre198 tg (by
     refine st334 _ ?_
     refine XS.astore X334.here hx rfl (hb hby at_18) rfl rfl (l' := #[iv p0, iv p1, iv p2, iv p3, iv (3 : Int32), iv md, rv w_ADMIN, un, un, un, un, un, un]) rfl ?_
     refine XS.iload X334.here hx rfl (hb hby at_20) rfl ?_
     refine st335 _ ?_
     refine XS.astore X335.here hx rfl (hb hby at_25) rfl rfl (l' := #[iv p0, iv p1, iv p2, iv p3, iv (3 : Int32), iv md, rv w_ADMIN, rv b_335, un, un, un, un, un]) rfl ?_
     refine XS.iload X335.here hx rfl (hb hby at_27) rfl ?_
     refine XS.iconst X335.here hx rfl (hb hby at_29) ?_
     show AT p e below T335 m 30 #[iv p0, iv p1, iv p2, iv p3, iv (3 : Int32), iv md, rv w_ADMIN, rv b_335, un, un, un, un, un] [(.int (1 : Int32)), (.int md)] _
     refine XS.icmpYes X335.here hx rfl (pc0 := 30) (pc' := 51) rfl (hb hby at_30) rfl (XT.ii_gt_t (hc3 : (1 : Int32) < md)) (by decide) (by decide) ?_
     refine XS.iload X335.here hx rfl (hb hby at_51) rfl ?_
     refine XS.iconst X335.here hx rfl (hb hby at_53) ?_
     show AT p e below T335 m 54 #[iv p0, iv p1, iv p2, iv p3, iv (3 : Int32), iv md, rv w_ADMIN, rv b_335, un, un, un, un, un] [(.int (3 : Int32)), (.int md)] _
     refine XS.icmpNo X335.here hx rfl (hb hby at_54) rfl (XT.ii_gt_f (hc4 : ¬ ((3 : Int32) < md))) ?_
     refine XS.iloadN X335.here hx rfl (hb hby at_57) rfl ?_
     refine X335.ldcInt hx hown (mvT hZ (ow hw 73 rfl)) (g := (mkF m 58 #[iv p0, iv p1, iv p2, iv p3, iv (3 : Int32), iv md, rv w_ADMIN, rv b_335, un, un, un, un, un] [(.int p1)])) rfl (hb hby at_58) _ ?_
     refine XS.iand X335.here hx rfl (hb hby at_60) rfl ?_
     refine XS.aload X335.here hx rfl (hb hby at_61) rfl rfl ?_
     refine X335.arraylength hx Ar337.1 (State.isArrayOf_alike hZ.alike Ar337.2.1) (g := (mkF m 63 #[iv p0, iv p1, iv p2, iv p3, iv (3 : Int32), iv md, rv w_ADMIN, rv b_335, un, un, un, un, un] [(.ref b_335), (.int (p1 &&& (2147483647 : Int32)))])) rfl rfl (hb hby at_63) _ ?_
     rw [len_of S337 N337]
     refine iremM X335 hx rfl (hb hby at_64) rfl (by decide) ?_
     refine XS.istore X335.here hx rfl (hb hby at_65) rfl (l' := #[iv p0, iv p1, iv p2, iv p3, iv (3 : Int32), iv md, rv w_ADMIN, rv b_335, un, un, iv ((p1 &&& (2147483647 : Int32)) % (5 : Int32)), un, un]) rfl ?_
     exact kg)
    obtain ⟨pz, hpz⟩ : ∃ z, z = ((p1 &&& (2147483647 : Int32)) % (5 : Int32)) := ⟨_, rfl⟩
    have pre339 : ∀ tg, AT p e below T335 m 67 #[iv p0, iv p1, iv p2, iv p3, iv (3 : Int32), iv md, rv w_ADMIN, rv b_335, un, un, iv pz, un, un] [] tg → Steps p.tables e below S0 tg := by rw [hpz]; exact pre338
    have hsp : pz = (0 : Int32) ∨ pz = (1 : Int32) ∨ pz = (2 : Int32) ∨ pz = (3 : Int32) ∨ pz = (4 : Int32) := by rw [hpz]; exact own_m5 p1
    have pre340 : ∀ tg, AT p e below T335 m 75 #[iv p0, iv p1, iv p2, iv p3, iv (3 : Int32), iv md, rv w_ADMIN, rv b_335, un, un, iv pz, iv ((p2 &&& (255 : Int32)).toUInt32.toUInt16.toUInt32.toInt32), un] [] tg → Steps p.tables e below S0 tg := fun tg kg => pre339 tg (by
     refine XS.iloadN X335.here hx rfl (hb hby at_67) rfl ?_
     refine XS.sipush X335.here hx rfl (hb hby at_68) ?_
     refine XS.iand X335.here hx rfl (hb hby at_71) rfl ?_
     refine XS.i2c X335.here hx rfl (hb hby at_72) rfl ?_
     refine XS.istore X335.here hx rfl (hb hby at_73) rfl (l' := #[iv p0, iv p1, iv p2, iv p3, iv (3 : Int32), iv md, rv w_ADMIN, rv b_335, un, un, iv pz, iv ((p2 &&& (255 : Int32)).toUInt32.toUInt16.toUInt32.toInt32), un]) rfl ?_
     exact kg)
    obtain ⟨cz, hcz⟩ : ∃ z, z = ((p2 &&& (255 : Int32)).toUInt32.toUInt16.toUInt32.toInt32) := ⟨_, rfl⟩
    have pre341 : ∀ tg, AT p e below T335 m 75 #[iv p0, iv p1, iv p2, iv p3, iv (3 : Int32), iv md, rv w_ADMIN, rv b_335, un, un, iv pz, iv cz, un] [] tg → Steps p.tables e below S0 tg := by rw [hcz]; exact pre340
    have hcb : 0 ≤ cz.toInt ∧ cz.toInt ≤ 255 := by rw [hcz]; exact own_cz p2
    obtain ⟨cl342, Ar342, q342, S342, N342, H342, G342⟩ := id u335_0
    have hin342 := own_in pz S342 (own_lt5 hsp)
    have hat342 : cl342.slots[pz.toNatClampNeg]? = some (.int (wd3 pz)) := Has.at H342 hin342 (own_g3 hsp)
    have pre343 : ∀ tg, AT p e below T335 m 82 #[iv p0, iv p1, iv p2, iv p3, iv (3 : Int32), iv md, rv w_ADMIN, rv b_335, un, un, iv pz, iv cz, un] [(.int cz), (.int (wd3 pz))] tg → Steps p.tables e below S0 tg := fun tg kg => pre341 tg (by
     refine XS.aload X335.here hx rfl (hb hby at_75) rfl rfl ?_
     refine XS.iload X335.here hx rfl (hb hby at_77) rfl ?_
     refine X335.caload hx (j := pz) (v := (.int (wd3 pz))) Ar342.1 (State.isArrayOf_alike hZ.alike Ar342.2.1) Ar342.2.2 hin342 hat342 (g := (mkF m 79 #[iv p0, iv p1, iv p2, iv p3, iv (3 : Int32), iv md, rv w_ADMIN, rv b_335, un, un, iv pz, iv cz, un] [(.int pz), (.ref b_335)])) rfl rfl (hb hby at_79) _ ?_
     refine XS.iload X335.here hx rfl (hb hby at_80) rfl ?_
     exact kg)
    have pre344 : ∀ tg, AT p e below T335 m 90 #[iv p0, iv p1, iv p2, iv p3, iv (3 : Int32), iv md, rv w_ADMIN, rv b_335, un, un, iv pz, iv cz, un] [(.int (if (wd3 pz) = cz then (1 : Int32) else (0 : Int32)))] tg → Steps p.tables e below S0 tg := by
     intro tg kg
     rcases Decidable.em ((wd3 pz) = cz) with hd | hd
     ·
      simp only [if_pos hd] at kg
      exact pre343 tg (by
       refine XS.icmpNo X335.here hx rfl (hb hby at_82) rfl (XT.ii_ne_f hd) ?_
       refine XS.iconst X335.here hx rfl (hb hby at_85) ?_
       refine XS.goto X335.here hx rfl (pc0 := 86) (pc' := 90) rfl (hb hby at_86) (by decide) (by decide) ?_
       exact kg)
     ·
      simp only [if_neg hd] at kg
      exact pre343 tg (by
       refine XS.icmpYes X335.here hx rfl (pc0 := 82) (pc' := 89) rfl (hb hby at_82) rfl (XT.ii_ne_t hd) (by decide) (by decide) ?_
       refine XS.iconst X335.here hx rfl (hb hby at_89) ?_
       exact kg)
    have pre345 : ∀ tg, AT p e below T335 m 92 #[iv p0, iv p1, iv p2, iv p3, iv (3 : Int32), iv md, rv w_ADMIN, rv b_335, un, un, iv pz, iv cz, iv (if (wd3 pz) = cz then (1 : Int32) else (0 : Int32))] [] tg → Steps p.tables e below S0 tg := fun tg kg => pre344 tg (by
     refine XS.istore X335.here hx rfl (hb hby at_90) rfl (l' := #[iv p0, iv p1, iv p2, iv p3, iv (3 : Int32), iv md, rv w_ADMIN, rv b_335, un, un, iv pz, iv cz, iv (if (wd3 pz) = cz then (1 : Int32) else (0 : Int32))]) rfl ?_
     exact kg)
    have hw346 : (if (wd3 pz) = cz then (1 : Int32) else (0 : Int32)) = (sm3 pz cz) := by rw [sm3]
    have pre346 : ∀ tg, AT p e below T335 m 92 #[iv p0, iv p1, iv p2, iv p3, iv (3 : Int32), iv md, rv w_ADMIN, rv b_335, un, un, iv pz, iv cz, iv (sm3 pz cz)] [] tg → Steps p.tables e below S0 tg := by
      have q := pre345
      rw [hw346] at q
      exact q
    obtain ⟨cl347, Ar347, q347, S347, M347, H347, G347⟩ := id u335_0
    have hin347 := own_in pz S347 (own_lt5 hsp)
    obtain ⟨T347, h347, X347, e347, W347, st347⟩ := stC X335 hx hZ rfl Ar347 (j := pz) hin347 (g := (mkF m 98 #[iv p0, iv p1, iv p2, iv p3, iv (3 : Int32), iv md, rv w_ADMIN, rv b_335, un, un, iv pz, iv cz, iv (sm3 pz cz)] [(.int cz), (.int pz), (.ref b_335)])) rfl rfl (hb hby at_98)
    have V347_348 : Arv Z h347 b_335 kb_335 .char (5 : Int32) [(.int (pk pz (0 : Int32) cz (97 : Int32))), (.int (pk pz (1 : Int32) cz (100 : Int32))), (.int (pk pz (2 : Int32) cz (109 : Int32))), (.int (pk pz (3 : Int32) cz (105 : Int32))), (.int (pk pz (4 : Int32) cz (110 : Int32)))] (.int (0 : Int32)) := by have q := Arv.set Ar347 q347 S347 M347 H347 G347 (fits_nar_char _) W347 pz.toNatClampNeg rfl (own_k3 hsp); rw [own_s3 hsp hcb] at q; exact q
    have E347_349 := u335_2.wr W347
    have K347 := K335.wr W347 (Or.inr sz336)
    have O347 := O335.wr W347 gn336
    have Sf347_b_335 := Safe.wr W347 Sn336 CR335.1 Sn336
    have CR347 : CHr Z EL0 s.vm h0 s.vm h347 := CR335.trans (CHr.wr W347 Sn336 CR335.1)
    have hk := Nat.le_trans hk (Keep.of_wr W347).1
    have N347 := Fr.snoc X347 N335 gn336
    obtain ⟨T350, h350, X350, e350, E350, A350, D350, -, st350⟩ := newO X347 hx hZ hown (ow hw 11 rfl) (ow hw 12 rfl) (ow hw 13 rfl) e347 (g := (mkF m 99 #[iv p0, iv p1, iv p2, iv p3, iv (3 : Int32), iv md, rv w_ADMIN, rv b_335, un, un, iv pz, iv cz, iv (sm3 pz cz)] [])) rfl (hb hby at_99) (by decide) (by decide)
    obtain ⟨b350, g350⟩ : ∃ z, z = h347.size := ⟨_, rfl⟩
    rw [← g350] at A350 D350 st350
    have ne350_351 : b_335 ≠ b350 := Nat.ne_of_lt (Nat.lt_of_lt_of_le (V347_348).lt (Nat.le_of_eq g350.symm))
    have gn350 : n0 ≤ b350 := Nat.le_trans (Nat.le_trans (Nat.le_of_eq O347.1.symm) O347.2.1) (Nat.le_of_eq g350.symm)
    have sz350 : h0.size ≤ b350 := Nat.le_trans K347.1 (Nat.le_of_eq g350.symm)
    have Sn350 : Safe Z EL0 s.vm h347 b350 := Safe.new (Nat.le_of_eq g350.symm)
    have V350_352 := V347_348.ext E350
    have E350_353 := E347_349.ext E350
    have K350 := K347.ext E350
    have O350 := O347.ext E350
    have Sf350_b_335 := Safe.ext E350 CR347.1 Sf347_b_335
    have Sf350_b350 := Safe.ext E350 CR347.1 Sn350
    have CR350 : CHr Z EL0 s.vm h0 s.vm h350 := CR347.trans (CHr.ext E350 CR347.1)
    have hk := Nat.le_trans hk E350.1
    have F350_354 : Fld Z h350 b350 "java/lang/String" "coder" "B" (.int (0 : Int32)) := D350 (Or.inr (ow hw 37 rfl)) (ty := .byte) (by decide)
    have F350_355 : Fld Z h350 b350 "java/lang/String" "value" "[B" .null := D350 (Or.inr (ow hw 39 rfl)) (ty := (.array .byte)) (by decide)
    obtain ⟨_, _, ⟨T356, L356, k356, n356⟩, -, X356, ⟨Lc356, hQ356, l356, y356, z356⟩, st356⟩ := X350.specialBack hx (y := y3) rfl hown (mvT hZ (ow hw 14 rfl)) (mvT hZ (ow hw 15 rfl)) (mvT hZ (ow hw 16 rfl)) (by decide) (StrChars.Road.backV (W := 1) hZ (own_ws hw) (ow hw 12 rfl) (cs := [(pk pz (0 : Int32) cz (97 : Int32)), (pk pz (1 : Int32) cz (100 : Int32)), (pk pz (2 : Int32) cz (109 : Int32)), (pk pz (3 : Int32) cz (105 : Int32)), (pk pz (4 : Int32) cz (110 : Int32))]) (bs := [((pk pz (0 : Int32) cz (97 : Int32)).toInt8.toInt32), ((pk pz (1 : Int32) cz (100 : Int32)).toInt8.toInt32), ((pk pz (2 : Int32) cz (109 : Int32)).toInt8.toInt32), ((pk pz (3 : Int32) cz (105 : Int32)).toInt8.toInt32), ((pk pz (4 : Int32) cz (110 : Int32)).toInt8.toInt32)]) (n := 5) gn350 (Nat.le_trans (Nat.le_of_eq O350.1.symm) O350.2.1) A350 F350_355 F350_354 V350_352 (S_COMPACT_STRINGS.ext O350.2) hz_w_CS0 rfl (by decide) (by decide) (by decide) (own_cc ⟨own_pn hcb ⟨by decide, by decide⟩, own_pk hcb ⟨by decide, by decide⟩⟩ (own_cc ⟨own_pn hcb ⟨by decide, by decide⟩, own_pk hcb ⟨by decide, by decide⟩⟩ (own_cc ⟨own_pn hcb ⟨by decide, by decide⟩, own_pk hcb ⟨by decide, by decide⟩⟩ (own_cc ⟨own_pn hcb ⟨by decide, by decide⟩, own_pk hcb ⟨by decide, by decide⟩⟩ (own_cc ⟨own_pn hcb ⟨by decide, by decide⟩, own_pk hcb ⟨by decide, by decide⟩⟩ own_cn))))) rfl (by decide) (by decide)) (g := (mkF m 105 #[iv p0, iv p1, iv p2, iv p3, iv (3 : Int32), iv md, rv w_ADMIN, rv b_335, un, un, iv pz, iv cz, iv (sm3 pz cz)] [(.ref b_335), (.ref b350), (.ref b350)])) rfl (by rw [hml]; rfl) (Steps.refl _) (a := b350) (argsL := [(.ref b_335)]) (rest := [(.ref b350)]) (lenOf pd_7 rfl) rfl (by show 2 * 0 + _ ≤ _; exact Nat.le_of_eq rfl) (hb hby at_105) (fun _ _ => ⟨rfl, e350, (by decide : 2 + 1 ≤ _), (by decide : 9 + 5 ≤ _)⟩)
    dsimp only [Pt.U, Pt.locs, Pt.cells, Pt.slots] at X356 l356 y356 z356 st356 hQ356
    subst l356 y356 z356
    obtain ⟨rfl, N356q, Kq356, uE356, uC356, t356, kt356, -, tg356, tn356, uF356, uV356⟩ := hQ356
    have N356 := Fr.app N347 N356q
    have ne357 : b_335 ≠ t356 := Nat.ne_of_lt (Nat.lt_of_lt_of_le (V350_352).lt tg356)
    have ne358 : b350 ≠ t356 := Nat.ne_of_lt (Nat.lt_of_lt_of_le (A350).lt tg356)
    have V356_359 := V350_352.keep Kq356 (ninS ne350_351 nin0)
    have E356_360 := E350_353.keep Kq356
    have E356_361 := A350.keep Kq356
    have K356 := K350.trans Kq356 (allS (Or.inr sz350) all0)
    have O356 := O350.keep Kq356 (allS gn350 all0)
    have Sf356_b_335 := Safe.keep Kq356 (allS Sf350_b350 all0) CR350.1 Sf350_b_335
    have Sf356_b350 := Safe.keep Kq356 (allS Sf350_b350 all0) CR350.1 Sf350_b350
    have CR356 : CHr Z EL0 s.vm h0 s.vm T356.heap := CR350.trans (CHr.keep Kq356 (allS Sf350_b350 all0) CR350.1)
    have hk := Nat.le_trans hk Kq356.1
    have sz356 : h0.size ≤ t356 := Nat.le_trans K350.1 tg356
    have gn356 : n0 ≤ t356 := Nat.le_trans (Nat.le_trans (Nat.le_of_eq O350.1.symm) O350.2.1) tg356
    have Sn356 : Safe Z EL0 s.vm T356.heap t356 := Safe.keep Kq356 (allS Sf350_b350 all0) CR350.1 (Safe.new tg356)
    have uC356' : Fld Z T356.heap b350 "java/lang/String" "coder" "B" (.int (0 : Int32)) := uC356
    have uF356' : Fld Z T356.heap b350 "java/lang/String" "value" "[B" (.ref t356) := uF356
    have uV356' : Arv Z T356.heap t356 kt356 .byte (5 : Int32) [(.int ((pk pz (0 : Int32) cz (97 : Int32)).toInt8.toInt32)), (.int ((pk pz (1 : Int32) cz (100 : Int32)).toInt8.toInt32)), (.int ((pk pz (2 : Int32) cz (109 : Int32)).toInt8.toInt32)), (.int ((pk pz (3 : Int32) cz (105 : Int32)).toInt8.toInt32)), (.int ((pk pz (4 : Int32) cz (110 : Int32)).toInt8.toInt32))] (.int (0 : Int32)) := uV356
    obtain ⟨v0, hv0⟩ : ∃ z, z = ((pk pz (0 : Int32) cz (97 : Int32)).toInt8.toInt32) := ⟨_, rfl⟩
    obtain ⟨v1, hv1⟩ : ∃ z, z = ((pk pz (1 : Int32) cz (100 : Int32)).toInt8.toInt32) := ⟨_, rfl⟩
    obtain ⟨v2, hv2⟩ : ∃ z, z = ((pk pz (2 : Int32) cz (109 : Int32)).toInt8.toInt32) := ⟨_, rfl⟩
    obtain ⟨v3, hv3⟩ : ∃ z, z = ((pk pz (3 : Int32) cz (105 : Int32)).toInt8.toInt32) := ⟨_, rfl⟩
    obtain ⟨v4, hv4⟩ : ∃ z, z = ((pk pz (4 : Int32) cz (110 : Int32)).toInt8.toInt32) := ⟨_, rfl⟩
    have Vb362 : Arv Z T356.heap t356 kt356 .byte (5 : Int32) [(.int v0), (.int v1), (.int v2), (.int v3), (.int v4)] (.int (0 : Int32)) := by have q := uV356'; rw [← hv0, ← hv1, ← hv2, ← hv3, ← hv4] at q; exact q
    have pre363 : ∀ tg, AT p e below T356 m 112 #[iv p0, iv p1, iv p2, iv p3, iv (3 : Int32), iv md, rv w_ADMIN, rv b_335, rv b350, un, iv pz, iv cz, iv (sm3 pz cz)] [(.int (sm3 pz cz))] tg → Steps p.tables e below S0 tg := fun tg kg => pre346 tg (by
     refine XS.aload X335.here hx rfl (hb hby at_92) rfl rfl ?_
     refine XS.iload X335.here hx rfl (hb hby at_94) rfl ?_
     refine XS.iload X335.here hx rfl (hb hby at_96) rfl ?_
     refine st347 _ ?_
     refine st350 _ ?_
     refine XS.dup X350.here hx rfl (hb hby at_102) rfl rfl ?_
     refine XS.aload X350.here hx rfl (hb hby at_103) rfl rfl ?_
     refine st356.trans ?_
     refine XS.astore X356.here hx rfl (hb hby at_108) rfl rfl (l' := #[iv p0, iv p1, iv p2, iv p3, iv (3 : Int32), iv md, rv w_ADMIN, rv b_335, rv b350, un, iv pz, iv cz, iv (sm3 pz cz)]) rfl ?_
     refine XS.iload X356.here hx rfl (hb hby at_110) rfl ?_
     exact kg)
    rcases Decidable.em ((sm3 pz cz) = (0 : Int32)) with hc364 | hc364
    ·
     obtain ⟨_, _, ⟨T365, L365, k365, n365⟩, -, X365, ⟨Lc365, hQ365, l365, y365, z365⟩, st365⟩ := Jvm.LawKit.callS X356 hx (y := y9) hown (mvT hZ (ow hw 40 rfl)) (mvT hZ (ow hw 41 rfl)) (mvT hZ (ow hw 5 rfl)) (mvT hZ (ow hw 42 rfl)) (by decide) (backOf (W := 0) (rm9_5 l Z ar hw [] b350 w_CS0 w_SF1 w_PRODUCER w__VALUES w_WORKER w_OPERATOR w_ADMIN w_PRODUCER_shown w_PRODUCER_shown_value w_WORKER_shown w_WORKER_shown_value w_OPERATOR_shown w_OPERATOR_shown_value w_ADMIN_shown w_ADMIN_shown_value k__VALUES k_PRODUCER_shown_value k_WORKER_shown_value k_OPERATOR_shown_value k_ADMIN_shown_value t356 kt356 v0 v1 v2 v3 v4 T356.heap n0 O356 HW E356_361 uC356' uF356' Vb362 gn350) hZ (ow hw 42 rfl) (ow hw 5 rfl) (by decide) (by decide)) (g := (mkF m 240 #[iv p0, iv p1, iv p2, iv p3, iv (3 : Int32), iv md, rv w_ADMIN, rv b_335, rv b350, .val .null, iv pz, iv cz, iv (sm3 pz cz)] [(.ref b350)])) rfl (by rw [hml]; rfl) (argsL := [(.ref b350)]) (rest := []) (lenOf pd_5 rfl) rfl (by show 2 * 0 + _ ≤ _; exact Nat.le_of_eq rfl) (hb hby at_240) (fun _ _ => ⟨rfl, rfl, (by decide : 3 + 1 ≤ _), (by decide : 14 + 4 ≤ _)⟩)
     dsimp only [Pt.U, Pt.locs, Pt.cells, Pt.slots] at X365 l365 y365 z365 st365 hQ365
     subst l365 y365 z365
     obtain ⟨rfl, N365q, Kq365⟩ := hQ365
     have N365 := Fr.app N356 N365q
     have V365_366 := V356_359.keep Kq365 nin0
     have E365_367 := E356_360.keep Kq365
     have E365_368 := E356_361.keep Kq365
     have F365_369 := uC356'.keep Kq365 nin0
     have F365_370 := uF356'.keep Kq365 nin0
     have V365_371 := Vb362.keep Kq365 nin0
     have K365 := K356.trans Kq365 all0
     have O365 := O356.keep Kq365 all0
     have Sf365_b_335 := Safe.keep Kq365 all0 CR356.1 Sf356_b_335
     have Sf365_b350 := Safe.keep Kq365 all0 CR356.1 Sf356_b350
     have Sf365_t356 := Safe.keep Kq365 all0 CR356.1 Sn356
     have CR365 : CHr Z EL0 s.vm h0 s.vm T365.heap := CR356.trans (CHr.keep Kq365 all0 CR356.1)
     have hk := Nat.le_trans hk Kq365.1
     have ir365 : (f9_5 w_ADMIN v0 v1 v2 v3 v4).isRef = true := (by unfold f9_5; (repeat' split) <;> rfl)
     have hans : (f9_5 w_ADMIN v0 v1 v2 v3 v4) = .null := (own_w3 hsp hcb hv0 hv1 hv2 hv3 hv4).2 hc364
     obtain ⟨fs, hr, hrun, hended, hRE⟩ := X365.leaveW hS hk (v := some (.int (1 : Int32))) (fun h => by rw [Bd.returns] at h; cases h)
     have CRf : CHr Z EL0 s.vm s.heap (T365.setFrames fs).vm (T365.setFrames fs).heap := by
       show CHr Z EL0 s.vm s.heap T365.vm T365.heap
       rw [hh]
       exact CR365.trans (CHv.at X365 hZ hEL CR365.1)
     subst hS0
     refine ⟨_, _, pre363 _ ?_, hrun, hended, _, _, rfl, ?_, CRf, hRE.1, hRE.2.1, hRE.2.2.1, hRE.2.2.2.mono (by decide) (by decide)⟩
     ·
      refine XS.ifYes X356.here hx rfl (pc0 := 112) (pc' := 120) rfl (hb hby at_112) rfl (XT.i0_eq_t hc364) (by decide) (by decide) ?_
      refine XS.aconstNull X356.here hx rfl (hb hby at_120) ?_
      refine XS.astore X356.here hx rfl (hb hby at_121) rfl rfl (l' := #[iv p0, iv p1, iv p2, iv p3, iv (3 : Int32), iv md, rv w_ADMIN, rv b_335, rv b350, .val .null, iv pz, iv cz, iv (sm3 pz cz)]) rfl ?_
      refine XS.goto X356.here hx rfl (pc0 := 123) (pc' := 238) rfl (hb hby at_123) (by decide) (by decide) ?_
      refine XS.aload X356.here hx rfl (hb hby at_238) rfl rfl ?_
      refine st365 _ ?_
      refine XS.aload X365.here hx rfl (hb hby at_243) rfl rfl ?_
      show AT p e below T365 m 245 #[iv p0, iv p1, iv p2, iv p3, iv (3 : Int32), iv md, rv w_ADMIN, rv b_335, rv b350, .val .null, iv pz, iv cz, iv (sm3 pz cz)] [.null, (f9_5 w_ADMIN v0 v1 v2 v3 v4)] _
      refine Jvm.RoadKit.acmp (g := (mkF m 245 #[iv p0, iv p1, iv p2, iv p3, iv (3 : Int32), iv md, rv w_ADMIN, rv b_335, rv b350, .val .null, iv pz, iv cz, iv (sm3 pz cz)] [.null, (f9_5 w_ADMIN v0 v1 v2 v3 v4)])) X365 hx rfl ir365 rfl (pc0 := 245) (pc' := 248) (same := true) rfl (hb hby at_245) rfl (decide_eq_true (hans : (f9_5 w_ADMIN v0 v1 v2 v3 v4) = .null)) (by decide) (by decide) ?_
      show AT p e below T365 m 248 #[iv p0, iv p1, iv p2, iv p3, iv (3 : Int32), iv md, rv w_ADMIN, rv b_335, rv b350, .val .null, iv pz, iv cz, iv (sm3 pz cz)] [] _
      refine XS.iconst X365.here hx rfl (hb hby at_248) ?_
      refine XS.goto X365.here hx rfl (pc0 := 249) (pc' := 253) rfl (hb hby at_249) (by decide) (by decide) ?_
      exact retN X365 hx (t := .boolean) Bd.returns (by simp) (hb hby at_253) hr
     ·
      show Q0 Z p0 p1 p2 p3 w_CS0 w_SF1 w_PRODUCER w__VALUES w_WORKER w_OPERATOR w_ADMIN w_PRODUCER_shown w_PRODUCER_shown_value w_WORKER_shown w_WORKER_shown_value w_OPERATOR_shown w_OPERATOR_shown_value w_ADMIN_shown w_ADMIN_shown_value k__VALUES k_PRODUCER_shown_value k_WORKER_shown_value k_OPERATOR_shown_value k_ADMIN_shown_value h0 n0 _ T365.heap _
      exact ⟨rfl, N365⟩
    ·
     obtain ⟨_, _, ⟨T372, L372, k372, n372⟩, -, X372, ⟨Lc372, hQ372, l372, y372, z372⟩, st372⟩ := Jvm.LawKit.callS X356 hx (y := y9) hown (mvT hZ (ow hw 40 rfl)) (mvT hZ (ow hw 41 rfl)) (mvT hZ (ow hw 5 rfl)) (mvT hZ (ow hw 42 rfl)) (by decide) (backOf (W := 0) (rm9_5 l Z ar hw [] b350 w_CS0 w_SF1 w_PRODUCER w__VALUES w_WORKER w_OPERATOR w_ADMIN w_PRODUCER_shown w_PRODUCER_shown_value w_WORKER_shown w_WORKER_shown_value w_OPERATOR_shown w_OPERATOR_shown_value w_ADMIN_shown w_ADMIN_shown_value k__VALUES k_PRODUCER_shown_value k_WORKER_shown_value k_OPERATOR_shown_value k_ADMIN_shown_value t356 kt356 v0 v1 v2 v3 v4 T356.heap n0 O356 HW E356_361 uC356' uF356' Vb362 gn350) hZ (ow hw 42 rfl) (ow hw 5 rfl) (by decide) (by decide)) (g := (mkF m 240 #[iv p0, iv p1, iv p2, iv p3, iv (3 : Int32), iv md, rv w_ADMIN, rv b_335, rv b350, rv w_ADMIN, iv pz, iv cz, iv (sm3 pz cz)] [(.ref b350)])) rfl (by rw [hml]; rfl) (argsL := [(.ref b350)]) (rest := []) (lenOf pd_5 rfl) rfl (by show 2 * 0 + _ ≤ _; exact Nat.le_of_eq rfl) (hb hby at_240) (fun _ _ => ⟨rfl, rfl, (by decide : 3 + 1 ≤ _), (by decide : 14 + 4 ≤ _)⟩)
     dsimp only [Pt.U, Pt.locs, Pt.cells, Pt.slots] at X372 l372 y372 z372 st372 hQ372
     subst l372 y372 z372
     obtain ⟨rfl, N372q, Kq372⟩ := hQ372
     have N372 := Fr.app N356 N372q
     have V372_373 := V356_359.keep Kq372 nin0
     have E372_374 := E356_360.keep Kq372
     have E372_375 := E356_361.keep Kq372
     have F372_376 := uC356'.keep Kq372 nin0
     have F372_377 := uF356'.keep Kq372 nin0
     have V372_378 := Vb362.keep Kq372 nin0
     have K372 := K356.trans Kq372 all0
     have O372 := O356.keep Kq372 all0
     have Sf372_b_335 := Safe.keep Kq372 all0 CR356.1 Sf356_b_335
     have Sf372_b350 := Safe.keep Kq372 all0 CR356.1 Sf356_b350
     have Sf372_t356 := Safe.keep Kq372 all0 CR356.1 Sn356
     have CR372 : CHr Z EL0 s.vm h0 s.vm T372.heap := CR356.trans (CHr.keep Kq372 all0 CR356.1)
     have hk := Nat.le_trans hk Kq372.1
     have ir372 : (f9_5 w_ADMIN v0 v1 v2 v3 v4).isRef = true := (by unfold f9_5; (repeat' split) <;> rfl)
     have hans : (f9_5 w_ADMIN v0 v1 v2 v3 v4) = (.ref w_ADMIN) := (own_w3 hsp hcb hv0 hv1 hv2 hv3 hv4).1 hc364
     obtain ⟨fs, hr, hrun, hended, hRE⟩ := X372.leaveW hS hk (v := some (.int (1 : Int32))) (fun h => by rw [Bd.returns] at h; cases h)
     have CRf : CHr Z EL0 s.vm s.heap (T372.setFrames fs).vm (T372.setFrames fs).heap := by
       show CHr Z EL0 s.vm s.heap T372.vm T372.heap
       rw [hh]
       exact CR372.trans (CHv.at X372 hZ hEL CR372.1)
     subst hS0
     refine ⟨_, _, pre363 _ ?_, hrun, hended, _, _, rfl, ?_, CRf, hRE.1, hRE.2.1, hRE.2.2.1, hRE.2.2.2.mono (by decide) (by decide)⟩
     ·
      refine XS.ifNo X356.here hx rfl (hb hby at_112) rfl (XT.i0_eq_f hc364) ?_
      refine XS.aload X356.here hx rfl (hb hby at_115) rfl rfl ?_
      refine XS.goto X356.here hx rfl (pc0 := 117) (pc' := 121) rfl (hb hby at_117) (by decide) (by decide) ?_
      refine XS.astore X356.here hx rfl (hb hby at_121) rfl rfl (l' := #[iv p0, iv p1, iv p2, iv p3, iv (3 : Int32), iv md, rv w_ADMIN, rv b_335, rv b350, rv w_ADMIN, iv pz, iv cz, iv (sm3 pz cz)]) rfl ?_
      refine XS.goto X356.here hx rfl (pc0 := 123) (pc' := 238) rfl (hb hby at_123) (by decide) (by decide) ?_
      refine XS.aload X356.here hx rfl (hb hby at_238) rfl rfl ?_
      refine st372 _ ?_
      show AT p e below T372 m 243 #[iv p0, iv p1, iv p2, iv p3, iv (3 : Int32), iv md, rv w_ADMIN, rv b_335, rv b350, rv w_ADMIN, iv pz, iv cz, iv (sm3 pz cz)] [(f9_5 w_ADMIN v0 v1 v2 v3 v4)] _
      refine XS.aload X372.here hx rfl (hb hby at_243) rfl rfl ?_
      show AT p e below T372 m 245 #[iv p0, iv p1, iv p2, iv p3, iv (3 : Int32), iv md, rv w_ADMIN, rv b_335, rv b350, rv w_ADMIN, iv pz, iv cz, iv (sm3 pz cz)] [(.ref w_ADMIN), (f9_5 w_ADMIN v0 v1 v2 v3 v4)] _
      refine Jvm.RoadKit.acmp (g := (mkF m 245 #[iv p0, iv p1, iv p2, iv p3, iv (3 : Int32), iv md, rv w_ADMIN, rv b_335, rv b350, rv w_ADMIN, iv pz, iv cz, iv (sm3 pz cz)] [(.ref w_ADMIN), (f9_5 w_ADMIN v0 v1 v2 v3 v4)])) X372 hx rfl ir372 rfl (pc0 := 245) (pc' := 248) (same := true) rfl (hb hby at_245) rfl (decide_eq_true (hans : (f9_5 w_ADMIN v0 v1 v2 v3 v4) = (.ref w_ADMIN))) (by decide) (by decide) ?_
      refine XS.iconst X372.here hx rfl (hb hby at_248) ?_
      refine XS.goto X372.here hx rfl (pc0 := 249) (pc' := 253) rfl (hb hby at_249) (by decide) (by decide) ?_
      exact retN X372 hx (t := .boolean) Bd.returns (by simp) (hb hby at_253) hr
     ·
      show Q0 Z p0 p1 p2 p3 w_CS0 w_SF1 w_PRODUCER w__VALUES w_WORKER w_OPERATOR w_ADMIN w_PRODUCER_shown w_PRODUCER_shown_value w_WORKER_shown w_WORKER_shown_value w_OPERATOR_shown w_OPERATOR_shown_value w_ADMIN_shown w_ADMIN_shown_value k__VALUES k_PRODUCER_shown_value k_WORKER_shown_value k_OPERATOR_shown_value k_ADMIN_shown_value h0 n0 _ T372.heap _
      exact ⟨rfl, N372⟩
 ·
  have pre379 : ∀ tg, AT p e below s₁ m 15 #[iv p0, iv p1, iv p2, iv p3, iv (p0 &&& (3 : Int32)), iv md, un, un, un, un, un, un, un] [(.int (p0 &&& (3 : Int32)))] tg → Steps p.tables e below S0 tg := fun tg kg => pre2 tg (by
   refine XS.iload X0.here hx rfl (hb hby at_13) rfl ?_
   exact kg)
  obtain ⟨iz, hiz⟩ : ∃ z, z = (p0 &&& (3 : Int32)) := ⟨_, rfl⟩
  have pre380 : ∀ tg, AT p e below s₁ m 15 #[iv p0, iv p1, iv p2, iv p3, iv iz, iv md, un, un, un, un, un, un, un] [(.int iz)] tg → Steps p.tables e below S0 tg := by rw [hiz]; exact pre379
  have hsiz : iz = (0 : Int32) ∨ iz = (1 : Int32) ∨ iz = (2 : Int32) ∨ iz = (3 : Int32) := by rw [hiz]; exact own_and3 p0
  rcases hsiz with rfl | rfl | rfl | rfl
  ·
   obtain ⟨_, _, ⟨T381, L381, k381, n381⟩, -, X381, ⟨Lc381, hQ381, l381, y381, z381⟩, st381⟩ := Jvm.LawKit.callS X0 hx (y := y1) hown (mvT hZ (ow hw 0 rfl)) (mvT hZ (ow hw 1 rfl)) (mvT hZ (ow hw 2 rfl)) (mvT hZ (ow hw 3 rfl)) (by decide) (backOf (W := 0) (rm1 l Z ar hw [] (0 : Int32) w_CS0 w_SF1 w_PRODUCER w__VALUES w_WORKER w_OPERATOR w_ADMIN w_PRODUCER_shown w_PRODUCER_shown_value w_WORKER_shown w_WORKER_shown_value w_OPERATOR_shown w_OPERATOR_shown_value w_ADMIN_shown w_ADMIN_shown_value k__VALUES k_PRODUCER_shown_value k_WORKER_shown_value k_OPERATOR_shown_value k_ADMIN_shown_value h0 n0 O0 HW) hZ (ow hw 3 rfl) (ow hw 2 rfl) (by decide) (by decide)) (g := (mkF m 15 #[iv p0, iv p1, iv p2, iv p3, iv (0 : Int32), iv md, un, un, un, un, un, un, un] [(.int (0 : Int32))])) rfl (by rw [hml]; rfl) (argsL := [(.int (0 : Int32))]) (rest := []) (lenOf pd_3 rfl) rfl (by show 2 * 0 + _ ≤ _; exact Nat.le_of_eq rfl) (hb hby at_15) (fun _ _ => ⟨rfl, e0, (by decide : 0 + 0 ≤ _), (by decide : 0 + 0 ≤ _)⟩)
   dsimp only [Pt.U, Pt.locs, Pt.cells, Pt.slots] at X381 l381 y381 z381 st381 hQ381
   subst l381 y381 z381
   obtain ⟨rfl, N381q, e381⟩ := hQ381
   have N381 := Fr.app N0 N381q
   have r381 : (f1 (0 : Int32) w_PRODUCER w_WORKER w_OPERATOR w_ADMIN) = w_PRODUCER := by rw [f1, if_pos ((by decide) : (0 : Int32) = (0 : Int32))] <;> decide
   rw [r381] at st381
   obtain ⟨_, _, ⟨T382, L382, k382, n382⟩, -, X382, ⟨Lc382, hQ382, l382, y382, z382⟩, st382⟩ := Jvm.LawKit.callS X381 hx (y := y2) hown (mvT hZ (ow hw 7 rfl)) (mvT hZ (ow hw 8 rfl)) (mvT hZ (ow hw 2 rfl)) (mvT hZ (ow hw 9 rfl)) (by decide) (backOf (W := 0) (rm2_0 l Z ar hw []  h0 n0 O0) hZ (ow hw 9 rfl) (ow hw 2 rfl) (by decide) (by decide)) (g := (mkF m 22 #[iv p0, iv p1, iv p2, iv p3, iv (0 : Int32), iv md, rv w_PRODUCER, un, un, un, un, un, un] [(.int (0 : Int32))])) rfl (by rw [hml]; rfl) (argsL := [(.int (0 : Int32))]) (rest := []) (lenOf pd_4 rfl) rfl (by show 2 * 0 + _ ≤ _; exact Nat.le_of_eq rfl) (hb hby at_22) (fun _ _ => ⟨rfl, e381, (by decide : 0 + 1 ≤ _), (by decide : 0 + 8 ≤ _)⟩)
   dsimp only [Pt.U, Pt.locs, Pt.cells, Pt.slots] at X382 l382 y382 z382 st382 hQ382
   subst l382 y382 z382
   obtain ⟨b_382, kb_382, rfl, N382q, Kq382, u382_0, u382_1, u382_2⟩ := hQ382
   have N382 := Fr.app N381 N382q
   have K382 := (Keep.refl h0 []).trans Kq382 all0
   have O382 := O0.keep Kq382 all0
   have CR382 : CHr Z EL0 s.vm h0 s.vm T382.heap := CR0.trans (CHr.keep Kq382 all0 CR0.1)
   have hk := Nat.le_trans hk Kq382.1
   have sz383 : h0.size ≤ b_382 := Nat.le_trans (Keep.refl h0 []).1 u382_1
   have gn383 : n0 ≤ b_382 := Nat.le_trans (Nat.le_trans (Nat.le_of_eq O0.1.symm) O0.2.1) u382_1
   have Sn383 : Safe Z EL0 s.vm T382.heap b_382 := Safe.keep Kq382 all0 CR0.1 (Safe.new u382_1)
   obtain ⟨T384, h384, X384, e384, E384, A384, D384, -, st384⟩ := newO X382 hx hZ hown (ow hw 11 rfl) (ow hw 12 rfl) (ow hw 13 rfl) rfl (g := (mkF m 33 #[iv p0, iv p1, iv p2, iv p3, iv (0 : Int32), iv md, rv w_PRODUCER, rv b_382, un, un, un, un, un] [])) rfl (hb hby at_33) (by decide) (by decide)
   obtain ⟨b384, g384⟩ : ∃ z, z = T382.heap.size := ⟨_, rfl⟩
   rw [← g384] at A384 D384 st384
   have ne384_385 : b_382 ≠ b384 := Nat.ne_of_lt (Nat.lt_of_lt_of_le (u382_0).lt (Nat.le_of_eq g384.symm))
   have gn384 : n0 ≤ b384 := Nat.le_trans (Nat.le_trans (Nat.le_of_eq O382.1.symm) O382.2.1) (Nat.le_of_eq g384.symm)
   have sz384 : h0.size ≤ b384 := Nat.le_trans K382.1 (Nat.le_of_eq g384.symm)
   have Sn384 : Safe Z EL0 s.vm T382.heap b384 := Safe.new (Nat.le_of_eq g384.symm)
   have V384_386 := u382_0.ext E384
   have E384_387 := u382_2.ext E384
   have K384 := K382.ext E384
   have O384 := O382.ext E384
   have Sf384_b_382 := Safe.ext E384 CR382.1 Sn383
   have Sf384_b384 := Safe.ext E384 CR382.1 Sn384
   have CR384 : CHr Z EL0 s.vm h0 s.vm h384 := CR382.trans (CHr.ext E384 CR382.1)
   have hk := Nat.le_trans hk E384.1
   have F384_388 : Fld Z h384 b384 "java/lang/String" "coder" "B" (.int (0 : Int32)) := D384 (Or.inr (ow hw 37 rfl)) (ty := .byte) (by decide)
   have F384_389 : Fld Z h384 b384 "java/lang/String" "value" "[B" .null := D384 (Or.inr (ow hw 39 rfl)) (ty := (.array .byte)) (by decide)
   obtain ⟨_, _, ⟨T390, L390, k390, n390⟩, -, X390, ⟨Lc390, hQ390, l390, y390, z390⟩, st390⟩ := X384.specialBack hx (y := y3) rfl hown (mvT hZ (ow hw 14 rfl)) (mvT hZ (ow hw 15 rfl)) (mvT hZ (ow hw 16 rfl)) (by decide) (StrChars.Road.backV (W := 1) hZ (own_ws hw) (ow hw 12 rfl) (cs := [(112 : Int32), (114 : Int32), (111 : Int32), (100 : Int32), (117 : Int32), (99 : Int32), (101 : Int32), (114 : Int32)]) (bs := [((112 : Int32).toInt8.toInt32), ((114 : Int32).toInt8.toInt32), ((111 : Int32).toInt8.toInt32), ((100 : Int32).toInt8.toInt32), ((117 : Int32).toInt8.toInt32), ((99 : Int32).toInt8.toInt32), ((101 : Int32).toInt8.toInt32), ((114 : Int32).toInt8.toInt32)]) (n := 8) gn384 (Nat.le_trans (Nat.le_of_eq O384.1.symm) O384.2.1) A384 F384_389 F384_388 V384_386 (S_COMPACT_STRINGS.ext O384.2) hz_w_CS0 rfl (by decide) (by decide) (by decide) (own_cc ⟨by decide, by decide⟩ (own_cc ⟨by decide, by decide⟩ (own_cc ⟨by decide, by decide⟩ (own_cc ⟨by decide, by decide⟩ (own_cc ⟨by decide, by decide⟩ (own_cc ⟨by decide, by decide⟩ (own_cc ⟨by decide, by decide⟩ (own_cc ⟨by decide, by decide⟩ own_cn)))))))) rfl (by decide) (by decide)) (g := (mkF m 39 #[iv p0, iv p1, iv p2, iv p3, iv (0 : Int32), iv md, rv w_PRODUCER, rv b_382, un, un, un, un, un] [(.ref b_382), (.ref b384), (.ref b384)])) rfl (by rw [hml]; rfl) (Steps.refl _) (a := b384) (argsL := [(.ref b_382)]) (rest := [(.ref b384)]) (lenOf pd_7 rfl) rfl (by show 2 * 0 + _ ≤ _; exact Nat.le_of_eq rfl) (hb hby at_39) (fun _ _ => ⟨rfl, e384, (by decide : 2 + 1 ≤ _), (by decide : 12 + 8 ≤ _)⟩)
   dsimp only [Pt.U, Pt.locs, Pt.cells, Pt.slots] at X390 l390 y390 z390 st390 hQ390
   subst l390 y390 z390
   obtain ⟨rfl, N390q, Kq390, uE390, uC390, t390, kt390, -, tg390, tn390, uF390, uV390⟩ := hQ390
   have N390 := Fr.app N382 N390q
   have ne391 : b_382 ≠ t390 := Nat.ne_of_lt (Nat.lt_of_lt_of_le (V384_386).lt tg390)
   have ne392 : b384 ≠ t390 := Nat.ne_of_lt (Nat.lt_of_lt_of_le (A384).lt tg390)
   have V390_393 := V384_386.keep Kq390 (ninS ne384_385 nin0)
   have E390_394 := E384_387.keep Kq390
   have E390_395 := A384.keep Kq390
   have K390 := K384.trans Kq390 (allS (Or.inr sz384) all0)
   have O390 := O384.keep Kq390 (allS gn384 all0)
   have Sf390_b_382 := Safe.keep Kq390 (allS Sf384_b384 all0) CR384.1 Sf384_b_382
   have Sf390_b384 := Safe.keep Kq390 (allS Sf384_b384 all0) CR384.1 Sf384_b384
   have CR390 : CHr Z EL0 s.vm h0 s.vm T390.heap := CR384.trans (CHr.keep Kq390 (allS Sf384_b384 all0) CR384.1)
   have hk := Nat.le_trans hk Kq390.1
   have sz390 : h0.size ≤ t390 := Nat.le_trans K384.1 tg390
   have gn390 : n0 ≤ t390 := Nat.le_trans (Nat.le_trans (Nat.le_of_eq O384.1.symm) O384.2.1) tg390
   have Sn390 : Safe Z EL0 s.vm T390.heap t390 := Safe.keep Kq390 (allS Sf384_b384 all0) CR384.1 (Safe.new tg390)
   have uC390' : Fld Z T390.heap b384 "java/lang/String" "coder" "B" (.int (0 : Int32)) := uC390
   have uF390' : Fld Z T390.heap b384 "java/lang/String" "value" "[B" (.ref t390) := uF390
   have uV390' : Arv Z T390.heap t390 kt390 .byte (8 : Int32) [(.int ((112 : Int32).toInt8.toInt32)), (.int ((114 : Int32).toInt8.toInt32)), (.int ((111 : Int32).toInt8.toInt32)), (.int ((100 : Int32).toInt8.toInt32)), (.int ((117 : Int32).toInt8.toInt32)), (.int ((99 : Int32).toInt8.toInt32)), (.int ((101 : Int32).toInt8.toInt32)), (.int ((114 : Int32).toInt8.toInt32))] (.int (0 : Int32)) := uV390
   have Vb396 : Arv Z T390.heap t390 kt390 .byte (8 : Int32) [(.int (112 : Int32)), (.int (114 : Int32)), (.int (111 : Int32)), (.int (100 : Int32)), (.int (117 : Int32)), (.int (99 : Int32)), (.int (101 : Int32)), (.int (114 : Int32))] (.int (0 : Int32)) := by have q := uV390'; rw [show ((112 : Int32).toInt8.toInt32) = (112 : Int32) from by decide, show ((114 : Int32).toInt8.toInt32) = (114 : Int32) from by decide, show ((111 : Int32).toInt8.toInt32) = (111 : Int32) from by decide, show ((100 : Int32).toInt8.toInt32) = (100 : Int32) from by decide, show ((117 : Int32).toInt8.toInt32) = (117 : Int32) from by decide, show ((99 : Int32).toInt8.toInt32) = (99 : Int32) from by decide, show ((101 : Int32).toInt8.toInt32) = (101 : Int32) from by decide] at q; exact q
   obtain ⟨_, _, ⟨T397, L397, k397, n397⟩, -, X397, ⟨Lc397, hQ397, l397, y397, z397⟩, st397⟩ := Jvm.LawKit.callS X390 hx (y := y9) hown (mvT hZ (ow hw 40 rfl)) (mvT hZ (ow hw 41 rfl)) (mvT hZ (ow hw 5 rfl)) (mvT hZ (ow hw 42 rfl)) (by decide) (backOf (W := 0) (rm9_8 l Z ar hw [] b384 w_CS0 w_SF1 w_PRODUCER w__VALUES w_WORKER w_OPERATOR w_ADMIN w_PRODUCER_shown w_PRODUCER_shown_value w_WORKER_shown w_WORKER_shown_value w_OPERATOR_shown w_OPERATOR_shown_value w_ADMIN_shown w_ADMIN_shown_value k__VALUES k_PRODUCER_shown_value k_WORKER_shown_value k_OPERATOR_shown_value k_ADMIN_shown_value t390 kt390 (112 : Int32) (114 : Int32) (111 : Int32) (100 : Int32) (117 : Int32) (99 : Int32) (101 : Int32) (114 : Int32) T390.heap n0 O390 HW E390_395 uC390' uF390' Vb396 gn384) hZ (ow hw 42 rfl) (ow hw 5 rfl) (by decide) (by decide)) (g := (mkF m 240 #[iv p0, iv p1, iv p2, iv p3, iv (0 : Int32), iv md, rv w_PRODUCER, rv b_382, rv b384, rv w_PRODUCER, un, un, un] [(.ref b384)])) rfl (by rw [hml]; rfl) (argsL := [(.ref b384)]) (rest := []) (lenOf pd_5 rfl) rfl (by show 2 * 0 + _ ≤ _; exact Nat.le_of_eq rfl) (hb hby at_240) (fun _ _ => ⟨rfl, rfl, (by decide : 3 + 1 ≤ _), (by decide : 20 + 4 ≤ _)⟩)
   dsimp only [Pt.U, Pt.locs, Pt.cells, Pt.slots] at X397 l397 y397 z397 st397 hQ397
   subst l397 y397 z397
   obtain ⟨rfl, N397q, Kq397⟩ := hQ397
   have N397 := Fr.app N390 N397q
   have V397_398 := V390_393.keep Kq397 nin0
   have E397_399 := E390_394.keep Kq397
   have E397_400 := E390_395.keep Kq397
   have F397_401 := uC390'.keep Kq397 nin0
   have F397_402 := uF390'.keep Kq397 nin0
   have V397_403 := Vb396.keep Kq397 nin0
   have K397 := K390.trans Kq397 all0
   have O397 := O390.keep Kq397 all0
   have Sf397_b_382 := Safe.keep Kq397 all0 CR390.1 Sf390_b_382
   have Sf397_b384 := Safe.keep Kq397 all0 CR390.1 Sf390_b384
   have Sf397_t390 := Safe.keep Kq397 all0 CR390.1 Sn390
   have CR397 : CHr Z EL0 s.vm h0 s.vm T397.heap := CR390.trans (CHr.keep Kq397 all0 CR390.1)
   have hk := Nat.le_trans hk Kq397.1
   have r397 : (f9_8 w_PRODUCER w_OPERATOR (112 : Int32) (114 : Int32) (111 : Int32) (100 : Int32) (117 : Int32) (99 : Int32) (101 : Int32) (114 : Int32)) = (.ref w_PRODUCER) := by rw [f9_8, if_neg ((by rw [f11_8_8]; rw [if_neg ((by rw [f12_8_8]; rw [if_pos ((by decide) : (112 : Int32) = (112 : Int32))]; rw [if_pos ((by decide) : (114 : Int32) = (114 : Int32))]; rw [if_pos ((by decide) : (111 : Int32) = (111 : Int32))]; rw [if_pos ((by decide) : (100 : Int32) = (100 : Int32))]; rw [if_pos ((by decide) : (117 : Int32) = (117 : Int32))]; rw [if_pos ((by decide) : (99 : Int32) = (99 : Int32))]; rw [if_pos ((by decide) : (101 : Int32) = (101 : Int32))]; rw [if_pos ((by decide) : (114 : Int32) = (114 : Int32))]; (try decide)) : ¬ ((f12_8_8 (112 : Int32) (114 : Int32) (111 : Int32) (100 : Int32) (117 : Int32) (99 : Int32) (101 : Int32) (114 : Int32) (112 : Int32) (114 : Int32) (111 : Int32) (100 : Int32) (117 : Int32) (99 : Int32) (101 : Int32) (114 : Int32)) = (0 : Int32)))]; (try decide)) : ¬ ((f11_8_8 (112 : Int32) (114 : Int32) (111 : Int32) (100 : Int32) (117 : Int32) (99 : Int32) (101 : Int32) (114 : Int32) (112 : Int32) (114 : Int32) (111 : Int32) (100 : Int32) (117 : Int32) (99 : Int32) (101 : Int32) (114 : Int32)) = (0 : Int32))), if_pos ((by rw [f11_8_8]; rw [if_pos ((by rw [f12_8_8]; rw [if_neg ((by decide) : ¬ ((111 : Int32) = (112 : Int32)))]; (try decide)) : (f12_8_8 (111 : Int32) (112 : Int32) (101 : Int32) (114 : Int32) (97 : Int32) (116 : Int32) (111 : Int32) (114 : Int32) (112 : Int32) (114 : Int32) (111 : Int32) (100 : Int32) (117 : Int32) (99 : Int32) (101 : Int32) (114 : Int32)) = (0 : Int32))]; (try decide)) : (f11_8_8 (111 : Int32) (112 : Int32) (101 : Int32) (114 : Int32) (97 : Int32) (116 : Int32) (111 : Int32) (114 : Int32) (112 : Int32) (114 : Int32) (111 : Int32) (100 : Int32) (117 : Int32) (99 : Int32) (101 : Int32) (114 : Int32)) = (0 : Int32))] <;> decide
   rw [r397] at st397
   obtain ⟨fs, hr, hrun, hended, hRE⟩ := X397.leaveW hS hk (v := some (.int (1 : Int32))) (fun h => by rw [Bd.returns] at h; cases h)
   have CRf : CHr Z EL0 s.vm s.heap (T397.setFrames fs).vm (T397.setFrames fs).heap := by
     show CHr Z EL0 s.vm s.heap T397.vm T397.heap
     rw [hh]
     exact CR397.trans (CHv.at X397 hZ hEL CR397.1)
   subst hS0
   refine ⟨_, _, pre380 _ ?_, hrun, hended, _, _, rfl, ?_, CRf, hRE.1, hRE.2.1, hRE.2.2.1, hRE.2.2.2.mono (by decide) (by decide)⟩
   ·
    refine st381 _ ?_
    refine XS.astore X381.here hx rfl (hb hby at_18) rfl rfl (l' := #[iv p0, iv p1, iv p2, iv p3, iv (0 : Int32), iv md, rv w_PRODUCER, un, un, un, un, un, un]) rfl ?_
    refine XS.iload X381.here hx rfl (hb hby at_20) rfl ?_
    refine st382 _ ?_
    refine XS.astore X382.here hx rfl (hb hby at_25) rfl rfl (l' := #[iv p0, iv p1, iv p2, iv p3, iv (0 : Int32), iv md, rv w_PRODUCER, rv b_382, un, un, un, un, un]) rfl ?_
    refine XS.iload X382.here hx rfl (hb hby at_27) rfl ?_
    refine XS.iconst X382.here hx rfl (hb hby at_29) ?_
    show AT p e below T382 m 30 #[iv p0, iv p1, iv p2, iv p3, iv (0 : Int32), iv md, rv w_PRODUCER, rv b_382, un, un, un, un, un] [(.int (1 : Int32)), (.int md)] _
    refine XS.icmpNo X382.here hx rfl (hb hby at_30) rfl (XT.ii_gt_f (hc3 : ¬ ((1 : Int32) < md))) ?_
    refine st384 _ ?_
    refine XS.dup X384.here hx rfl (hb hby at_36) rfl rfl ?_
    refine XS.aload X384.here hx rfl (hb hby at_37) rfl rfl ?_
    refine st390.trans ?_
    refine XS.astore X390.here hx rfl (hb hby at_42) rfl rfl (l' := #[iv p0, iv p1, iv p2, iv p3, iv (0 : Int32), iv md, rv w_PRODUCER, rv b_382, rv b384, un, un, un, un]) rfl ?_
    refine XS.aload X390.here hx rfl (hb hby at_44) rfl rfl ?_
    refine XS.astore X390.here hx rfl (hb hby at_46) rfl rfl (l' := #[iv p0, iv p1, iv p2, iv p3, iv (0 : Int32), iv md, rv w_PRODUCER, rv b_382, rv b384, rv w_PRODUCER, un, un, un]) rfl ?_
    refine XS.goto X390.here hx rfl (pc0 := 48) (pc' := 238) rfl (hb hby at_48) (by decide) (by decide) ?_
    refine XS.aload X390.here hx rfl (hb hby at_238) rfl rfl ?_
    show AT p e below T390 m 240 #[iv p0, iv p1, iv p2, iv p3, iv (0 : Int32), iv md, rv w_PRODUCER, rv b_382, rv b384, rv w_PRODUCER, un, un, un] [(.ref b384)] _
    refine st397 _ ?_
    refine XS.aload X397.here hx rfl (hb hby at_243) rfl rfl ?_
    show AT p e below T397 m 245 #[iv p0, iv p1, iv p2, iv p3, iv (0 : Int32), iv md, rv w_PRODUCER, rv b_382, rv b384, rv w_PRODUCER, un, un, un] [(.ref w_PRODUCER), (.ref w_PRODUCER)] _
    refine Jvm.RoadKit.acmp (g := (mkF m 245 #[iv p0, iv p1, iv p2, iv p3, iv (0 : Int32), iv md, rv w_PRODUCER, rv b_382, rv b384, rv w_PRODUCER, un, un, un] [(.ref w_PRODUCER), (.ref w_PRODUCER)])) X397 hx rfl rfl rfl (pc0 := 245) (pc' := 248) (same := true) rfl (hb hby at_245) rfl (decide_eq_true rfl) (by decide) (by decide) ?_
    refine XS.iconst X397.here hx rfl (hb hby at_248) ?_
    refine XS.goto X397.here hx rfl (pc0 := 249) (pc' := 253) rfl (hb hby at_249) (by decide) (by decide) ?_
    exact retN X397 hx (t := .boolean) Bd.returns (by simp) (hb hby at_253) hr
   ·
    show Q0 Z p0 p1 p2 p3 w_CS0 w_SF1 w_PRODUCER w__VALUES w_WORKER w_OPERATOR w_ADMIN w_PRODUCER_shown w_PRODUCER_shown_value w_WORKER_shown w_WORKER_shown_value w_OPERATOR_shown w_OPERATOR_shown_value w_ADMIN_shown w_ADMIN_shown_value k__VALUES k_PRODUCER_shown_value k_WORKER_shown_value k_OPERATOR_shown_value k_ADMIN_shown_value h0 n0 _ T397.heap _
    exact ⟨rfl, N397⟩
  ·
   obtain ⟨_, _, ⟨T404, L404, k404, n404⟩, -, X404, ⟨Lc404, hQ404, l404, y404, z404⟩, st404⟩ := Jvm.LawKit.callS X0 hx (y := y1) hown (mvT hZ (ow hw 0 rfl)) (mvT hZ (ow hw 1 rfl)) (mvT hZ (ow hw 2 rfl)) (mvT hZ (ow hw 3 rfl)) (by decide) (backOf (W := 0) (rm1 l Z ar hw [] (1 : Int32) w_CS0 w_SF1 w_PRODUCER w__VALUES w_WORKER w_OPERATOR w_ADMIN w_PRODUCER_shown w_PRODUCER_shown_value w_WORKER_shown w_WORKER_shown_value w_OPERATOR_shown w_OPERATOR_shown_value w_ADMIN_shown w_ADMIN_shown_value k__VALUES k_PRODUCER_shown_value k_WORKER_shown_value k_OPERATOR_shown_value k_ADMIN_shown_value h0 n0 O0 HW) hZ (ow hw 3 rfl) (ow hw 2 rfl) (by decide) (by decide)) (g := (mkF m 15 #[iv p0, iv p1, iv p2, iv p3, iv (1 : Int32), iv md, un, un, un, un, un, un, un] [(.int (1 : Int32))])) rfl (by rw [hml]; rfl) (argsL := [(.int (1 : Int32))]) (rest := []) (lenOf pd_3 rfl) rfl (by show 2 * 0 + _ ≤ _; exact Nat.le_of_eq rfl) (hb hby at_15) (fun _ _ => ⟨rfl, e0, (by decide : 0 + 0 ≤ _), (by decide : 0 + 0 ≤ _)⟩)
   dsimp only [Pt.U, Pt.locs, Pt.cells, Pt.slots] at X404 l404 y404 z404 st404 hQ404
   subst l404 y404 z404
   obtain ⟨rfl, N404q, e404⟩ := hQ404
   have N404 := Fr.app N0 N404q
   have r404 : (f1 (1 : Int32) w_PRODUCER w_WORKER w_OPERATOR w_ADMIN) = w_WORKER := by rw [f1, if_neg ((by decide) : ¬ ((1 : Int32) = (0 : Int32))), if_pos ((by decide) : (1 : Int32) = (1 : Int32))] <;> decide
   rw [r404] at st404
   obtain ⟨_, _, ⟨T405, L405, k405, n405⟩, -, X405, ⟨Lc405, hQ405, l405, y405, z405⟩, st405⟩ := Jvm.LawKit.callS X404 hx (y := y2) hown (mvT hZ (ow hw 7 rfl)) (mvT hZ (ow hw 8 rfl)) (mvT hZ (ow hw 2 rfl)) (mvT hZ (ow hw 9 rfl)) (by decide) (backOf (W := 0) (rm2_1 l Z ar hw []  h0 n0 O0) hZ (ow hw 9 rfl) (ow hw 2 rfl) (by decide) (by decide)) (g := (mkF m 22 #[iv p0, iv p1, iv p2, iv p3, iv (1 : Int32), iv md, rv w_WORKER, un, un, un, un, un, un] [(.int (1 : Int32))])) rfl (by rw [hml]; rfl) (argsL := [(.int (1 : Int32))]) (rest := []) (lenOf pd_4 rfl) rfl (by show 2 * 0 + _ ≤ _; exact Nat.le_of_eq rfl) (hb hby at_22) (fun _ _ => ⟨rfl, e404, (by decide : 0 + 1 ≤ _), (by decide : 0 + 6 ≤ _)⟩)
   dsimp only [Pt.U, Pt.locs, Pt.cells, Pt.slots] at X405 l405 y405 z405 st405 hQ405
   subst l405 y405 z405
   obtain ⟨b_405, kb_405, rfl, N405q, Kq405, u405_0, u405_1, u405_2⟩ := hQ405
   have N405 := Fr.app N404 N405q
   have K405 := (Keep.refl h0 []).trans Kq405 all0
   have O405 := O0.keep Kq405 all0
   have CR405 : CHr Z EL0 s.vm h0 s.vm T405.heap := CR0.trans (CHr.keep Kq405 all0 CR0.1)
   have hk := Nat.le_trans hk Kq405.1
   have sz406 : h0.size ≤ b_405 := Nat.le_trans (Keep.refl h0 []).1 u405_1
   have gn406 : n0 ≤ b_405 := Nat.le_trans (Nat.le_trans (Nat.le_of_eq O0.1.symm) O0.2.1) u405_1
   have Sn406 : Safe Z EL0 s.vm T405.heap b_405 := Safe.keep Kq405 all0 CR0.1 (Safe.new u405_1)
   obtain ⟨T407, h407, X407, e407, E407, A407, D407, -, st407⟩ := newO X405 hx hZ hown (ow hw 11 rfl) (ow hw 12 rfl) (ow hw 13 rfl) rfl (g := (mkF m 33 #[iv p0, iv p1, iv p2, iv p3, iv (1 : Int32), iv md, rv w_WORKER, rv b_405, un, un, un, un, un] [])) rfl (hb hby at_33) (by decide) (by decide)
   obtain ⟨b407, g407⟩ : ∃ z, z = T405.heap.size := ⟨_, rfl⟩
   rw [← g407] at A407 D407 st407
   have ne407_408 : b_405 ≠ b407 := Nat.ne_of_lt (Nat.lt_of_lt_of_le (u405_0).lt (Nat.le_of_eq g407.symm))
   have gn407 : n0 ≤ b407 := Nat.le_trans (Nat.le_trans (Nat.le_of_eq O405.1.symm) O405.2.1) (Nat.le_of_eq g407.symm)
   have sz407 : h0.size ≤ b407 := Nat.le_trans K405.1 (Nat.le_of_eq g407.symm)
   have Sn407 : Safe Z EL0 s.vm T405.heap b407 := Safe.new (Nat.le_of_eq g407.symm)
   have V407_409 := u405_0.ext E407
   have E407_410 := u405_2.ext E407
   have K407 := K405.ext E407
   have O407 := O405.ext E407
   have Sf407_b_405 := Safe.ext E407 CR405.1 Sn406
   have Sf407_b407 := Safe.ext E407 CR405.1 Sn407
   have CR407 : CHr Z EL0 s.vm h0 s.vm h407 := CR405.trans (CHr.ext E407 CR405.1)
   have hk := Nat.le_trans hk E407.1
   have F407_411 : Fld Z h407 b407 "java/lang/String" "coder" "B" (.int (0 : Int32)) := D407 (Or.inr (ow hw 37 rfl)) (ty := .byte) (by decide)
   have F407_412 : Fld Z h407 b407 "java/lang/String" "value" "[B" .null := D407 (Or.inr (ow hw 39 rfl)) (ty := (.array .byte)) (by decide)
   obtain ⟨_, _, ⟨T413, L413, k413, n413⟩, -, X413, ⟨Lc413, hQ413, l413, y413, z413⟩, st413⟩ := X407.specialBack hx (y := y3) rfl hown (mvT hZ (ow hw 14 rfl)) (mvT hZ (ow hw 15 rfl)) (mvT hZ (ow hw 16 rfl)) (by decide) (StrChars.Road.backV (W := 1) hZ (own_ws hw) (ow hw 12 rfl) (cs := [(119 : Int32), (111 : Int32), (114 : Int32), (107 : Int32), (101 : Int32), (114 : Int32)]) (bs := [((119 : Int32).toInt8.toInt32), ((111 : Int32).toInt8.toInt32), ((114 : Int32).toInt8.toInt32), ((107 : Int32).toInt8.toInt32), ((101 : Int32).toInt8.toInt32), ((114 : Int32).toInt8.toInt32)]) (n := 6) gn407 (Nat.le_trans (Nat.le_of_eq O407.1.symm) O407.2.1) A407 F407_412 F407_411 V407_409 (S_COMPACT_STRINGS.ext O407.2) hz_w_CS0 rfl (by decide) (by decide) (by decide) (own_cc ⟨by decide, by decide⟩ (own_cc ⟨by decide, by decide⟩ (own_cc ⟨by decide, by decide⟩ (own_cc ⟨by decide, by decide⟩ (own_cc ⟨by decide, by decide⟩ (own_cc ⟨by decide, by decide⟩ own_cn)))))) rfl (by decide) (by decide)) (g := (mkF m 39 #[iv p0, iv p1, iv p2, iv p3, iv (1 : Int32), iv md, rv w_WORKER, rv b_405, un, un, un, un, un] [(.ref b_405), (.ref b407), (.ref b407)])) rfl (by rw [hml]; rfl) (Steps.refl _) (a := b407) (argsL := [(.ref b_405)]) (rest := [(.ref b407)]) (lenOf pd_7 rfl) rfl (by show 2 * 0 + _ ≤ _; exact Nat.le_of_eq rfl) (hb hby at_39) (fun _ _ => ⟨rfl, e407, (by decide : 2 + 1 ≤ _), (by decide : 10 + 6 ≤ _)⟩)
   dsimp only [Pt.U, Pt.locs, Pt.cells, Pt.slots] at X413 l413 y413 z413 st413 hQ413
   subst l413 y413 z413
   obtain ⟨rfl, N413q, Kq413, uE413, uC413, t413, kt413, -, tg413, tn413, uF413, uV413⟩ := hQ413
   have N413 := Fr.app N405 N413q
   have ne414 : b_405 ≠ t413 := Nat.ne_of_lt (Nat.lt_of_lt_of_le (V407_409).lt tg413)
   have ne415 : b407 ≠ t413 := Nat.ne_of_lt (Nat.lt_of_lt_of_le (A407).lt tg413)
   have V413_416 := V407_409.keep Kq413 (ninS ne407_408 nin0)
   have E413_417 := E407_410.keep Kq413
   have E413_418 := A407.keep Kq413
   have K413 := K407.trans Kq413 (allS (Or.inr sz407) all0)
   have O413 := O407.keep Kq413 (allS gn407 all0)
   have Sf413_b_405 := Safe.keep Kq413 (allS Sf407_b407 all0) CR407.1 Sf407_b_405
   have Sf413_b407 := Safe.keep Kq413 (allS Sf407_b407 all0) CR407.1 Sf407_b407
   have CR413 : CHr Z EL0 s.vm h0 s.vm T413.heap := CR407.trans (CHr.keep Kq413 (allS Sf407_b407 all0) CR407.1)
   have hk := Nat.le_trans hk Kq413.1
   have sz413 : h0.size ≤ t413 := Nat.le_trans K407.1 tg413
   have gn413 : n0 ≤ t413 := Nat.le_trans (Nat.le_trans (Nat.le_of_eq O407.1.symm) O407.2.1) tg413
   have Sn413 : Safe Z EL0 s.vm T413.heap t413 := Safe.keep Kq413 (allS Sf407_b407 all0) CR407.1 (Safe.new tg413)
   have uC413' : Fld Z T413.heap b407 "java/lang/String" "coder" "B" (.int (0 : Int32)) := uC413
   have uF413' : Fld Z T413.heap b407 "java/lang/String" "value" "[B" (.ref t413) := uF413
   have uV413' : Arv Z T413.heap t413 kt413 .byte (6 : Int32) [(.int ((119 : Int32).toInt8.toInt32)), (.int ((111 : Int32).toInt8.toInt32)), (.int ((114 : Int32).toInt8.toInt32)), (.int ((107 : Int32).toInt8.toInt32)), (.int ((101 : Int32).toInt8.toInt32)), (.int ((114 : Int32).toInt8.toInt32))] (.int (0 : Int32)) := uV413
   have Vb419 : Arv Z T413.heap t413 kt413 .byte (6 : Int32) [(.int (119 : Int32)), (.int (111 : Int32)), (.int (114 : Int32)), (.int (107 : Int32)), (.int (101 : Int32)), (.int (114 : Int32))] (.int (0 : Int32)) := by have q := uV413'; rw [show ((119 : Int32).toInt8.toInt32) = (119 : Int32) from by decide, show ((111 : Int32).toInt8.toInt32) = (111 : Int32) from by decide, show ((114 : Int32).toInt8.toInt32) = (114 : Int32) from by decide, show ((107 : Int32).toInt8.toInt32) = (107 : Int32) from by decide, show ((101 : Int32).toInt8.toInt32) = (101 : Int32) from by decide] at q; exact q
   obtain ⟨_, _, ⟨T420, L420, k420, n420⟩, -, X420, ⟨Lc420, hQ420, l420, y420, z420⟩, st420⟩ := Jvm.LawKit.callS X413 hx (y := y9) hown (mvT hZ (ow hw 40 rfl)) (mvT hZ (ow hw 41 rfl)) (mvT hZ (ow hw 5 rfl)) (mvT hZ (ow hw 42 rfl)) (by decide) (backOf (W := 0) (rm9_6 l Z ar hw [] b407 w_CS0 w_SF1 w_PRODUCER w__VALUES w_WORKER w_OPERATOR w_ADMIN w_PRODUCER_shown w_PRODUCER_shown_value w_WORKER_shown w_WORKER_shown_value w_OPERATOR_shown w_OPERATOR_shown_value w_ADMIN_shown w_ADMIN_shown_value k__VALUES k_PRODUCER_shown_value k_WORKER_shown_value k_OPERATOR_shown_value k_ADMIN_shown_value t413 kt413 (119 : Int32) (111 : Int32) (114 : Int32) (107 : Int32) (101 : Int32) (114 : Int32) T413.heap n0 O413 HW E413_418 uC413' uF413' Vb419 gn407) hZ (ow hw 42 rfl) (ow hw 5 rfl) (by decide) (by decide)) (g := (mkF m 240 #[iv p0, iv p1, iv p2, iv p3, iv (1 : Int32), iv md, rv w_WORKER, rv b_405, rv b407, rv w_WORKER, un, un, un] [(.ref b407)])) rfl (by rw [hml]; rfl) (argsL := [(.ref b407)]) (rest := []) (lenOf pd_5 rfl) rfl (by show 2 * 0 + _ ≤ _; exact Nat.le_of_eq rfl) (hb hby at_240) (fun _ _ => ⟨rfl, rfl, (by decide : 3 + 1 ≤ _), (by decide : 16 + 4 ≤ _)⟩)
   dsimp only [Pt.U, Pt.locs, Pt.cells, Pt.slots] at X420 l420 y420 z420 st420 hQ420
   subst l420 y420 z420
   obtain ⟨rfl, N420q, Kq420⟩ := hQ420
   have N420 := Fr.app N413 N420q
   have V420_421 := V413_416.keep Kq420 nin0
   have E420_422 := E413_417.keep Kq420
   have E420_423 := E413_418.keep Kq420
   have F420_424 := uC413'.keep Kq420 nin0
   have F420_425 := uF413'.keep Kq420 nin0
   have V420_426 := Vb419.keep Kq420 nin0
   have K420 := K413.trans Kq420 all0
   have O420 := O413.keep Kq420 all0
   have Sf420_b_405 := Safe.keep Kq420 all0 CR413.1 Sf413_b_405
   have Sf420_b407 := Safe.keep Kq420 all0 CR413.1 Sf413_b407
   have Sf420_t413 := Safe.keep Kq420 all0 CR413.1 Sn413
   have CR420 : CHr Z EL0 s.vm h0 s.vm T420.heap := CR413.trans (CHr.keep Kq420 all0 CR413.1)
   have hk := Nat.le_trans hk Kq420.1
   have r420 : (f9_6 w_WORKER (119 : Int32) (111 : Int32) (114 : Int32) (107 : Int32) (101 : Int32) (114 : Int32)) = (.ref w_WORKER) := by rw [f9_6, if_neg ((by rw [f11_6_6]; rw [if_neg ((by rw [f12_6_6]; rw [if_pos ((by decide) : (119 : Int32) = (119 : Int32))]; rw [if_pos ((by decide) : (111 : Int32) = (111 : Int32))]; rw [if_pos ((by decide) : (114 : Int32) = (114 : Int32))]; rw [if_pos ((by decide) : (107 : Int32) = (107 : Int32))]; rw [if_pos ((by decide) : (101 : Int32) = (101 : Int32))]; rw [if_pos ((by decide) : (114 : Int32) = (114 : Int32))]; (try decide)) : ¬ ((f12_6_6 (119 : Int32) (111 : Int32) (114 : Int32) (107 : Int32) (101 : Int32) (114 : Int32) (119 : Int32) (111 : Int32) (114 : Int32) (107 : Int32) (101 : Int32) (114 : Int32)) = (0 : Int32)))]; (try decide)) : ¬ ((f11_6_6 (119 : Int32) (111 : Int32) (114 : Int32) (107 : Int32) (101 : Int32) (114 : Int32) (119 : Int32) (111 : Int32) (114 : Int32) (107 : Int32) (101 : Int32) (114 : Int32)) = (0 : Int32)))] <;> decide
   rw [r420] at st420
   obtain ⟨fs, hr, hrun, hended, hRE⟩ := X420.leaveW hS hk (v := some (.int (1 : Int32))) (fun h => by rw [Bd.returns] at h; cases h)
   have CRf : CHr Z EL0 s.vm s.heap (T420.setFrames fs).vm (T420.setFrames fs).heap := by
     show CHr Z EL0 s.vm s.heap T420.vm T420.heap
     rw [hh]
     exact CR420.trans (CHv.at X420 hZ hEL CR420.1)
   subst hS0
   refine ⟨_, _, pre380 _ ?_, hrun, hended, _, _, rfl, ?_, CRf, hRE.1, hRE.2.1, hRE.2.2.1, hRE.2.2.2.mono (by decide) (by decide)⟩
   ·
    refine st404 _ ?_
    refine XS.astore X404.here hx rfl (hb hby at_18) rfl rfl (l' := #[iv p0, iv p1, iv p2, iv p3, iv (1 : Int32), iv md, rv w_WORKER, un, un, un, un, un, un]) rfl ?_
    refine XS.iload X404.here hx rfl (hb hby at_20) rfl ?_
    refine st405 _ ?_
    refine XS.astore X405.here hx rfl (hb hby at_25) rfl rfl (l' := #[iv p0, iv p1, iv p2, iv p3, iv (1 : Int32), iv md, rv w_WORKER, rv b_405, un, un, un, un, un]) rfl ?_
    refine XS.iload X405.here hx rfl (hb hby at_27) rfl ?_
    refine XS.iconst X405.here hx rfl (hb hby at_29) ?_
    show AT p e below T405 m 30 #[iv p0, iv p1, iv p2, iv p3, iv (1 : Int32), iv md, rv w_WORKER, rv b_405, un, un, un, un, un] [(.int (1 : Int32)), (.int md)] _
    refine XS.icmpNo X405.here hx rfl (hb hby at_30) rfl (XT.ii_gt_f (hc3 : ¬ ((1 : Int32) < md))) ?_
    refine st407 _ ?_
    refine XS.dup X407.here hx rfl (hb hby at_36) rfl rfl ?_
    refine XS.aload X407.here hx rfl (hb hby at_37) rfl rfl ?_
    refine st413.trans ?_
    refine XS.astore X413.here hx rfl (hb hby at_42) rfl rfl (l' := #[iv p0, iv p1, iv p2, iv p3, iv (1 : Int32), iv md, rv w_WORKER, rv b_405, rv b407, un, un, un, un]) rfl ?_
    refine XS.aload X413.here hx rfl (hb hby at_44) rfl rfl ?_
    refine XS.astore X413.here hx rfl (hb hby at_46) rfl rfl (l' := #[iv p0, iv p1, iv p2, iv p3, iv (1 : Int32), iv md, rv w_WORKER, rv b_405, rv b407, rv w_WORKER, un, un, un]) rfl ?_
    refine XS.goto X413.here hx rfl (pc0 := 48) (pc' := 238) rfl (hb hby at_48) (by decide) (by decide) ?_
    refine XS.aload X413.here hx rfl (hb hby at_238) rfl rfl ?_
    show AT p e below T413 m 240 #[iv p0, iv p1, iv p2, iv p3, iv (1 : Int32), iv md, rv w_WORKER, rv b_405, rv b407, rv w_WORKER, un, un, un] [(.ref b407)] _
    refine st420 _ ?_
    refine XS.aload X420.here hx rfl (hb hby at_243) rfl rfl ?_
    show AT p e below T420 m 245 #[iv p0, iv p1, iv p2, iv p3, iv (1 : Int32), iv md, rv w_WORKER, rv b_405, rv b407, rv w_WORKER, un, un, un] [(.ref w_WORKER), (.ref w_WORKER)] _
    refine Jvm.RoadKit.acmp (g := (mkF m 245 #[iv p0, iv p1, iv p2, iv p3, iv (1 : Int32), iv md, rv w_WORKER, rv b_405, rv b407, rv w_WORKER, un, un, un] [(.ref w_WORKER), (.ref w_WORKER)])) X420 hx rfl rfl rfl (pc0 := 245) (pc' := 248) (same := true) rfl (hb hby at_245) rfl (decide_eq_true rfl) (by decide) (by decide) ?_
    refine XS.iconst X420.here hx rfl (hb hby at_248) ?_
    refine XS.goto X420.here hx rfl (pc0 := 249) (pc' := 253) rfl (hb hby at_249) (by decide) (by decide) ?_
    exact retN X420 hx (t := .boolean) Bd.returns (by simp) (hb hby at_253) hr
   ·
    show Q0 Z p0 p1 p2 p3 w_CS0 w_SF1 w_PRODUCER w__VALUES w_WORKER w_OPERATOR w_ADMIN w_PRODUCER_shown w_PRODUCER_shown_value w_WORKER_shown w_WORKER_shown_value w_OPERATOR_shown w_OPERATOR_shown_value w_ADMIN_shown w_ADMIN_shown_value k__VALUES k_PRODUCER_shown_value k_WORKER_shown_value k_OPERATOR_shown_value k_ADMIN_shown_value h0 n0 _ T420.heap _
    exact ⟨rfl, N420⟩
  ·
   obtain ⟨_, _, ⟨T427, L427, k427, n427⟩, -, X427, ⟨Lc427, hQ427, l427, y427, z427⟩, st427⟩ := Jvm.LawKit.callS X0 hx (y := y1) hown (mvT hZ (ow hw 0 rfl)) (mvT hZ (ow hw 1 rfl)) (mvT hZ (ow hw 2 rfl)) (mvT hZ (ow hw 3 rfl)) (by decide) (backOf (W := 0) (rm1 l Z ar hw [] (2 : Int32) w_CS0 w_SF1 w_PRODUCER w__VALUES w_WORKER w_OPERATOR w_ADMIN w_PRODUCER_shown w_PRODUCER_shown_value w_WORKER_shown w_WORKER_shown_value w_OPERATOR_shown w_OPERATOR_shown_value w_ADMIN_shown w_ADMIN_shown_value k__VALUES k_PRODUCER_shown_value k_WORKER_shown_value k_OPERATOR_shown_value k_ADMIN_shown_value h0 n0 O0 HW) hZ (ow hw 3 rfl) (ow hw 2 rfl) (by decide) (by decide)) (g := (mkF m 15 #[iv p0, iv p1, iv p2, iv p3, iv (2 : Int32), iv md, un, un, un, un, un, un, un] [(.int (2 : Int32))])) rfl (by rw [hml]; rfl) (argsL := [(.int (2 : Int32))]) (rest := []) (lenOf pd_3 rfl) rfl (by show 2 * 0 + _ ≤ _; exact Nat.le_of_eq rfl) (hb hby at_15) (fun _ _ => ⟨rfl, e0, (by decide : 0 + 0 ≤ _), (by decide : 0 + 0 ≤ _)⟩)
   dsimp only [Pt.U, Pt.locs, Pt.cells, Pt.slots] at X427 l427 y427 z427 st427 hQ427
   subst l427 y427 z427
   obtain ⟨rfl, N427q, e427⟩ := hQ427
   have N427 := Fr.app N0 N427q
   have r427 : (f1 (2 : Int32) w_PRODUCER w_WORKER w_OPERATOR w_ADMIN) = w_OPERATOR := by rw [f1, if_neg ((by decide) : ¬ ((2 : Int32) = (0 : Int32))), if_neg ((by decide) : ¬ ((2 : Int32) = (1 : Int32))), if_pos ((by decide) : (2 : Int32) = (2 : Int32))] <;> decide
   rw [r427] at st427
   obtain ⟨_, _, ⟨T428, L428, k428, n428⟩, -, X428, ⟨Lc428, hQ428, l428, y428, z428⟩, st428⟩ := Jvm.LawKit.callS X427 hx (y := y2) hown (mvT hZ (ow hw 7 rfl)) (mvT hZ (ow hw 8 rfl)) (mvT hZ (ow hw 2 rfl)) (mvT hZ (ow hw 9 rfl)) (by decide) (backOf (W := 0) (rm2_2 l Z ar hw []  h0 n0 O0) hZ (ow hw 9 rfl) (ow hw 2 rfl) (by decide) (by decide)) (g := (mkF m 22 #[iv p0, iv p1, iv p2, iv p3, iv (2 : Int32), iv md, rv w_OPERATOR, un, un, un, un, un, un] [(.int (2 : Int32))])) rfl (by rw [hml]; rfl) (argsL := [(.int (2 : Int32))]) (rest := []) (lenOf pd_4 rfl) rfl (by show 2 * 0 + _ ≤ _; exact Nat.le_of_eq rfl) (hb hby at_22) (fun _ _ => ⟨rfl, e427, (by decide : 0 + 1 ≤ _), (by decide : 0 + 8 ≤ _)⟩)
   dsimp only [Pt.U, Pt.locs, Pt.cells, Pt.slots] at X428 l428 y428 z428 st428 hQ428
   subst l428 y428 z428
   obtain ⟨b_428, kb_428, rfl, N428q, Kq428, u428_0, u428_1, u428_2⟩ := hQ428
   have N428 := Fr.app N427 N428q
   have K428 := (Keep.refl h0 []).trans Kq428 all0
   have O428 := O0.keep Kq428 all0
   have CR428 : CHr Z EL0 s.vm h0 s.vm T428.heap := CR0.trans (CHr.keep Kq428 all0 CR0.1)
   have hk := Nat.le_trans hk Kq428.1
   have sz429 : h0.size ≤ b_428 := Nat.le_trans (Keep.refl h0 []).1 u428_1
   have gn429 : n0 ≤ b_428 := Nat.le_trans (Nat.le_trans (Nat.le_of_eq O0.1.symm) O0.2.1) u428_1
   have Sn429 : Safe Z EL0 s.vm T428.heap b_428 := Safe.keep Kq428 all0 CR0.1 (Safe.new u428_1)
   obtain ⟨T430, h430, X430, e430, E430, A430, D430, -, st430⟩ := newO X428 hx hZ hown (ow hw 11 rfl) (ow hw 12 rfl) (ow hw 13 rfl) rfl (g := (mkF m 33 #[iv p0, iv p1, iv p2, iv p3, iv (2 : Int32), iv md, rv w_OPERATOR, rv b_428, un, un, un, un, un] [])) rfl (hb hby at_33) (by decide) (by decide)
   obtain ⟨b430, g430⟩ : ∃ z, z = T428.heap.size := ⟨_, rfl⟩
   rw [← g430] at A430 D430 st430
   have ne430_431 : b_428 ≠ b430 := Nat.ne_of_lt (Nat.lt_of_lt_of_le (u428_0).lt (Nat.le_of_eq g430.symm))
   have gn430 : n0 ≤ b430 := Nat.le_trans (Nat.le_trans (Nat.le_of_eq O428.1.symm) O428.2.1) (Nat.le_of_eq g430.symm)
   have sz430 : h0.size ≤ b430 := Nat.le_trans K428.1 (Nat.le_of_eq g430.symm)
   have Sn430 : Safe Z EL0 s.vm T428.heap b430 := Safe.new (Nat.le_of_eq g430.symm)
   have V430_432 := u428_0.ext E430
   have E430_433 := u428_2.ext E430
   have K430 := K428.ext E430
   have O430 := O428.ext E430
   have Sf430_b_428 := Safe.ext E430 CR428.1 Sn429
   have Sf430_b430 := Safe.ext E430 CR428.1 Sn430
   have CR430 : CHr Z EL0 s.vm h0 s.vm h430 := CR428.trans (CHr.ext E430 CR428.1)
   have hk := Nat.le_trans hk E430.1
   have F430_434 : Fld Z h430 b430 "java/lang/String" "coder" "B" (.int (0 : Int32)) := D430 (Or.inr (ow hw 37 rfl)) (ty := .byte) (by decide)
   have F430_435 : Fld Z h430 b430 "java/lang/String" "value" "[B" .null := D430 (Or.inr (ow hw 39 rfl)) (ty := (.array .byte)) (by decide)
   obtain ⟨_, _, ⟨T436, L436, k436, n436⟩, -, X436, ⟨Lc436, hQ436, l436, y436, z436⟩, st436⟩ := X430.specialBack hx (y := y3) rfl hown (mvT hZ (ow hw 14 rfl)) (mvT hZ (ow hw 15 rfl)) (mvT hZ (ow hw 16 rfl)) (by decide) (StrChars.Road.backV (W := 1) hZ (own_ws hw) (ow hw 12 rfl) (cs := [(111 : Int32), (112 : Int32), (101 : Int32), (114 : Int32), (97 : Int32), (116 : Int32), (111 : Int32), (114 : Int32)]) (bs := [((111 : Int32).toInt8.toInt32), ((112 : Int32).toInt8.toInt32), ((101 : Int32).toInt8.toInt32), ((114 : Int32).toInt8.toInt32), ((97 : Int32).toInt8.toInt32), ((116 : Int32).toInt8.toInt32), ((111 : Int32).toInt8.toInt32), ((114 : Int32).toInt8.toInt32)]) (n := 8) gn430 (Nat.le_trans (Nat.le_of_eq O430.1.symm) O430.2.1) A430 F430_435 F430_434 V430_432 (S_COMPACT_STRINGS.ext O430.2) hz_w_CS0 rfl (by decide) (by decide) (by decide) (own_cc ⟨by decide, by decide⟩ (own_cc ⟨by decide, by decide⟩ (own_cc ⟨by decide, by decide⟩ (own_cc ⟨by decide, by decide⟩ (own_cc ⟨by decide, by decide⟩ (own_cc ⟨by decide, by decide⟩ (own_cc ⟨by decide, by decide⟩ (own_cc ⟨by decide, by decide⟩ own_cn)))))))) rfl (by decide) (by decide)) (g := (mkF m 39 #[iv p0, iv p1, iv p2, iv p3, iv (2 : Int32), iv md, rv w_OPERATOR, rv b_428, un, un, un, un, un] [(.ref b_428), (.ref b430), (.ref b430)])) rfl (by rw [hml]; rfl) (Steps.refl _) (a := b430) (argsL := [(.ref b_428)]) (rest := [(.ref b430)]) (lenOf pd_7 rfl) rfl (by show 2 * 0 + _ ≤ _; exact Nat.le_of_eq rfl) (hb hby at_39) (fun _ _ => ⟨rfl, e430, (by decide : 2 + 1 ≤ _), (by decide : 12 + 8 ≤ _)⟩)
   dsimp only [Pt.U, Pt.locs, Pt.cells, Pt.slots] at X436 l436 y436 z436 st436 hQ436
   subst l436 y436 z436
   obtain ⟨rfl, N436q, Kq436, uE436, uC436, t436, kt436, -, tg436, tn436, uF436, uV436⟩ := hQ436
   have N436 := Fr.app N428 N436q
   have ne437 : b_428 ≠ t436 := Nat.ne_of_lt (Nat.lt_of_lt_of_le (V430_432).lt tg436)
   have ne438 : b430 ≠ t436 := Nat.ne_of_lt (Nat.lt_of_lt_of_le (A430).lt tg436)
   have V436_439 := V430_432.keep Kq436 (ninS ne430_431 nin0)
   have E436_440 := E430_433.keep Kq436
   have E436_441 := A430.keep Kq436
   have K436 := K430.trans Kq436 (allS (Or.inr sz430) all0)
   have O436 := O430.keep Kq436 (allS gn430 all0)
   have Sf436_b_428 := Safe.keep Kq436 (allS Sf430_b430 all0) CR430.1 Sf430_b_428
   have Sf436_b430 := Safe.keep Kq436 (allS Sf430_b430 all0) CR430.1 Sf430_b430
   have CR436 : CHr Z EL0 s.vm h0 s.vm T436.heap := CR430.trans (CHr.keep Kq436 (allS Sf430_b430 all0) CR430.1)
   have hk := Nat.le_trans hk Kq436.1
   have sz436 : h0.size ≤ t436 := Nat.le_trans K430.1 tg436
   have gn436 : n0 ≤ t436 := Nat.le_trans (Nat.le_trans (Nat.le_of_eq O430.1.symm) O430.2.1) tg436
   have Sn436 : Safe Z EL0 s.vm T436.heap t436 := Safe.keep Kq436 (allS Sf430_b430 all0) CR430.1 (Safe.new tg436)
   have uC436' : Fld Z T436.heap b430 "java/lang/String" "coder" "B" (.int (0 : Int32)) := uC436
   have uF436' : Fld Z T436.heap b430 "java/lang/String" "value" "[B" (.ref t436) := uF436
   have uV436' : Arv Z T436.heap t436 kt436 .byte (8 : Int32) [(.int ((111 : Int32).toInt8.toInt32)), (.int ((112 : Int32).toInt8.toInt32)), (.int ((101 : Int32).toInt8.toInt32)), (.int ((114 : Int32).toInt8.toInt32)), (.int ((97 : Int32).toInt8.toInt32)), (.int ((116 : Int32).toInt8.toInt32)), (.int ((111 : Int32).toInt8.toInt32)), (.int ((114 : Int32).toInt8.toInt32))] (.int (0 : Int32)) := uV436
   have Vb442 : Arv Z T436.heap t436 kt436 .byte (8 : Int32) [(.int (111 : Int32)), (.int (112 : Int32)), (.int (101 : Int32)), (.int (114 : Int32)), (.int (97 : Int32)), (.int (116 : Int32)), (.int (111 : Int32)), (.int (114 : Int32))] (.int (0 : Int32)) := by have q := uV436'; rw [show ((111 : Int32).toInt8.toInt32) = (111 : Int32) from by decide, show ((112 : Int32).toInt8.toInt32) = (112 : Int32) from by decide, show ((101 : Int32).toInt8.toInt32) = (101 : Int32) from by decide, show ((114 : Int32).toInt8.toInt32) = (114 : Int32) from by decide, show ((97 : Int32).toInt8.toInt32) = (97 : Int32) from by decide, show ((116 : Int32).toInt8.toInt32) = (116 : Int32) from by decide] at q; exact q
   obtain ⟨_, _, ⟨T443, L443, k443, n443⟩, -, X443, ⟨Lc443, hQ443, l443, y443, z443⟩, st443⟩ := Jvm.LawKit.callS X436 hx (y := y9) hown (mvT hZ (ow hw 40 rfl)) (mvT hZ (ow hw 41 rfl)) (mvT hZ (ow hw 5 rfl)) (mvT hZ (ow hw 42 rfl)) (by decide) (backOf (W := 0) (rm9_8 l Z ar hw [] b430 w_CS0 w_SF1 w_PRODUCER w__VALUES w_WORKER w_OPERATOR w_ADMIN w_PRODUCER_shown w_PRODUCER_shown_value w_WORKER_shown w_WORKER_shown_value w_OPERATOR_shown w_OPERATOR_shown_value w_ADMIN_shown w_ADMIN_shown_value k__VALUES k_PRODUCER_shown_value k_WORKER_shown_value k_OPERATOR_shown_value k_ADMIN_shown_value t436 kt436 (111 : Int32) (112 : Int32) (101 : Int32) (114 : Int32) (97 : Int32) (116 : Int32) (111 : Int32) (114 : Int32) T436.heap n0 O436 HW E436_441 uC436' uF436' Vb442 gn430) hZ (ow hw 42 rfl) (ow hw 5 rfl) (by decide) (by decide)) (g := (mkF m 240 #[iv p0, iv p1, iv p2, iv p3, iv (2 : Int32), iv md, rv w_OPERATOR, rv b_428, rv b430, rv w_OPERATOR, un, un, un] [(.ref b430)])) rfl (by rw [hml]; rfl) (argsL := [(.ref b430)]) (rest := []) (lenOf pd_5 rfl) rfl (by show 2 * 0 + _ ≤ _; exact Nat.le_of_eq rfl) (hb hby at_240) (fun _ _ => ⟨rfl, rfl, (by decide : 3 + 1 ≤ _), (by decide : 20 + 4 ≤ _)⟩)
   dsimp only [Pt.U, Pt.locs, Pt.cells, Pt.slots] at X443 l443 y443 z443 st443 hQ443
   subst l443 y443 z443
   obtain ⟨rfl, N443q, Kq443⟩ := hQ443
   have N443 := Fr.app N436 N443q
   have V443_444 := V436_439.keep Kq443 nin0
   have E443_445 := E436_440.keep Kq443
   have E443_446 := E436_441.keep Kq443
   have F443_447 := uC436'.keep Kq443 nin0
   have F443_448 := uF436'.keep Kq443 nin0
   have V443_449 := Vb442.keep Kq443 nin0
   have K443 := K436.trans Kq443 all0
   have O443 := O436.keep Kq443 all0
   have Sf443_b_428 := Safe.keep Kq443 all0 CR436.1 Sf436_b_428
   have Sf443_b430 := Safe.keep Kq443 all0 CR436.1 Sf436_b430
   have Sf443_t436 := Safe.keep Kq443 all0 CR436.1 Sn436
   have CR443 : CHr Z EL0 s.vm h0 s.vm T443.heap := CR436.trans (CHr.keep Kq443 all0 CR436.1)
   have hk := Nat.le_trans hk Kq443.1
   have r443 : (f9_8 w_PRODUCER w_OPERATOR (111 : Int32) (112 : Int32) (101 : Int32) (114 : Int32) (97 : Int32) (116 : Int32) (111 : Int32) (114 : Int32)) = (.ref w_OPERATOR) := by rw [f9_8, if_pos ((by rw [f11_8_8]; rw [if_pos ((by rw [f12_8_8]; rw [if_neg ((by decide) : ¬ ((112 : Int32) = (111 : Int32)))]; (try decide)) : (f12_8_8 (112 : Int32) (114 : Int32) (111 : Int32) (100 : Int32) (117 : Int32) (99 : Int32) (101 : Int32) (114 : Int32) (111 : Int32) (112 : Int32) (101 : Int32) (114 : Int32) (97 : Int32) (116 : Int32) (111 : Int32) (114 : Int32)) = (0 : Int32))]; (try decide)) : (f11_8_8 (112 : Int32) (114 : Int32) (111 : Int32) (100 : Int32) (117 : Int32) (99 : Int32) (101 : Int32) (114 : Int32) (111 : Int32) (112 : Int32) (101 : Int32) (114 : Int32) (97 : Int32) (116 : Int32) (111 : Int32) (114 : Int32)) = (0 : Int32)), if_neg ((by rw [f11_8_8]; rw [if_neg ((by rw [f12_8_8]; rw [if_pos ((by decide) : (111 : Int32) = (111 : Int32))]; rw [if_pos ((by decide) : (112 : Int32) = (112 : Int32))]; rw [if_pos ((by decide) : (101 : Int32) = (101 : Int32))]; rw [if_pos ((by decide) : (114 : Int32) = (114 : Int32))]; rw [if_pos ((by decide) : (97 : Int32) = (97 : Int32))]; rw [if_pos ((by decide) : (116 : Int32) = (116 : Int32))]; rw [if_pos ((by decide) : (111 : Int32) = (111 : Int32))]; rw [if_pos ((by decide) : (114 : Int32) = (114 : Int32))]; (try decide)) : ¬ ((f12_8_8 (111 : Int32) (112 : Int32) (101 : Int32) (114 : Int32) (97 : Int32) (116 : Int32) (111 : Int32) (114 : Int32) (111 : Int32) (112 : Int32) (101 : Int32) (114 : Int32) (97 : Int32) (116 : Int32) (111 : Int32) (114 : Int32)) = (0 : Int32)))]; (try decide)) : ¬ ((f11_8_8 (111 : Int32) (112 : Int32) (101 : Int32) (114 : Int32) (97 : Int32) (116 : Int32) (111 : Int32) (114 : Int32) (111 : Int32) (112 : Int32) (101 : Int32) (114 : Int32) (97 : Int32) (116 : Int32) (111 : Int32) (114 : Int32)) = (0 : Int32)))] <;> decide
   rw [r443] at st443
   obtain ⟨fs, hr, hrun, hended, hRE⟩ := X443.leaveW hS hk (v := some (.int (1 : Int32))) (fun h => by rw [Bd.returns] at h; cases h)
   have CRf : CHr Z EL0 s.vm s.heap (T443.setFrames fs).vm (T443.setFrames fs).heap := by
     show CHr Z EL0 s.vm s.heap T443.vm T443.heap
     rw [hh]
     exact CR443.trans (CHv.at X443 hZ hEL CR443.1)
   subst hS0
   refine ⟨_, _, pre380 _ ?_, hrun, hended, _, _, rfl, ?_, CRf, hRE.1, hRE.2.1, hRE.2.2.1, hRE.2.2.2.mono (by decide) (by decide)⟩
   ·
    refine st427 _ ?_
    refine XS.astore X427.here hx rfl (hb hby at_18) rfl rfl (l' := #[iv p0, iv p1, iv p2, iv p3, iv (2 : Int32), iv md, rv w_OPERATOR, un, un, un, un, un, un]) rfl ?_
    refine XS.iload X427.here hx rfl (hb hby at_20) rfl ?_
    refine st428 _ ?_
    refine XS.astore X428.here hx rfl (hb hby at_25) rfl rfl (l' := #[iv p0, iv p1, iv p2, iv p3, iv (2 : Int32), iv md, rv w_OPERATOR, rv b_428, un, un, un, un, un]) rfl ?_
    refine XS.iload X428.here hx rfl (hb hby at_27) rfl ?_
    refine XS.iconst X428.here hx rfl (hb hby at_29) ?_
    show AT p e below T428 m 30 #[iv p0, iv p1, iv p2, iv p3, iv (2 : Int32), iv md, rv w_OPERATOR, rv b_428, un, un, un, un, un] [(.int (1 : Int32)), (.int md)] _
    refine XS.icmpNo X428.here hx rfl (hb hby at_30) rfl (XT.ii_gt_f (hc3 : ¬ ((1 : Int32) < md))) ?_
    refine st430 _ ?_
    refine XS.dup X430.here hx rfl (hb hby at_36) rfl rfl ?_
    refine XS.aload X430.here hx rfl (hb hby at_37) rfl rfl ?_
    refine st436.trans ?_
    refine XS.astore X436.here hx rfl (hb hby at_42) rfl rfl (l' := #[iv p0, iv p1, iv p2, iv p3, iv (2 : Int32), iv md, rv w_OPERATOR, rv b_428, rv b430, un, un, un, un]) rfl ?_
    refine XS.aload X436.here hx rfl (hb hby at_44) rfl rfl ?_
    refine XS.astore X436.here hx rfl (hb hby at_46) rfl rfl (l' := #[iv p0, iv p1, iv p2, iv p3, iv (2 : Int32), iv md, rv w_OPERATOR, rv b_428, rv b430, rv w_OPERATOR, un, un, un]) rfl ?_
    refine XS.goto X436.here hx rfl (pc0 := 48) (pc' := 238) rfl (hb hby at_48) (by decide) (by decide) ?_
    refine XS.aload X436.here hx rfl (hb hby at_238) rfl rfl ?_
    show AT p e below T436 m 240 #[iv p0, iv p1, iv p2, iv p3, iv (2 : Int32), iv md, rv w_OPERATOR, rv b_428, rv b430, rv w_OPERATOR, un, un, un] [(.ref b430)] _
    refine st443 _ ?_
    refine XS.aload X443.here hx rfl (hb hby at_243) rfl rfl ?_
    show AT p e below T443 m 245 #[iv p0, iv p1, iv p2, iv p3, iv (2 : Int32), iv md, rv w_OPERATOR, rv b_428, rv b430, rv w_OPERATOR, un, un, un] [(.ref w_OPERATOR), (.ref w_OPERATOR)] _
    refine Jvm.RoadKit.acmp (g := (mkF m 245 #[iv p0, iv p1, iv p2, iv p3, iv (2 : Int32), iv md, rv w_OPERATOR, rv b_428, rv b430, rv w_OPERATOR, un, un, un] [(.ref w_OPERATOR), (.ref w_OPERATOR)])) X443 hx rfl rfl rfl (pc0 := 245) (pc' := 248) (same := true) rfl (hb hby at_245) rfl (decide_eq_true rfl) (by decide) (by decide) ?_
    refine XS.iconst X443.here hx rfl (hb hby at_248) ?_
    refine XS.goto X443.here hx rfl (pc0 := 249) (pc' := 253) rfl (hb hby at_249) (by decide) (by decide) ?_
    exact retN X443 hx (t := .boolean) Bd.returns (by simp) (hb hby at_253) hr
   ·
    show Q0 Z p0 p1 p2 p3 w_CS0 w_SF1 w_PRODUCER w__VALUES w_WORKER w_OPERATOR w_ADMIN w_PRODUCER_shown w_PRODUCER_shown_value w_WORKER_shown w_WORKER_shown_value w_OPERATOR_shown w_OPERATOR_shown_value w_ADMIN_shown w_ADMIN_shown_value k__VALUES k_PRODUCER_shown_value k_WORKER_shown_value k_OPERATOR_shown_value k_ADMIN_shown_value h0 n0 _ T443.heap _
    exact ⟨rfl, N443⟩
  ·
   obtain ⟨_, _, ⟨T450, L450, k450, n450⟩, -, X450, ⟨Lc450, hQ450, l450, y450, z450⟩, st450⟩ := Jvm.LawKit.callS X0 hx (y := y1) hown (mvT hZ (ow hw 0 rfl)) (mvT hZ (ow hw 1 rfl)) (mvT hZ (ow hw 2 rfl)) (mvT hZ (ow hw 3 rfl)) (by decide) (backOf (W := 0) (rm1 l Z ar hw [] (3 : Int32) w_CS0 w_SF1 w_PRODUCER w__VALUES w_WORKER w_OPERATOR w_ADMIN w_PRODUCER_shown w_PRODUCER_shown_value w_WORKER_shown w_WORKER_shown_value w_OPERATOR_shown w_OPERATOR_shown_value w_ADMIN_shown w_ADMIN_shown_value k__VALUES k_PRODUCER_shown_value k_WORKER_shown_value k_OPERATOR_shown_value k_ADMIN_shown_value h0 n0 O0 HW) hZ (ow hw 3 rfl) (ow hw 2 rfl) (by decide) (by decide)) (g := (mkF m 15 #[iv p0, iv p1, iv p2, iv p3, iv (3 : Int32), iv md, un, un, un, un, un, un, un] [(.int (3 : Int32))])) rfl (by rw [hml]; rfl) (argsL := [(.int (3 : Int32))]) (rest := []) (lenOf pd_3 rfl) rfl (by show 2 * 0 + _ ≤ _; exact Nat.le_of_eq rfl) (hb hby at_15) (fun _ _ => ⟨rfl, e0, (by decide : 0 + 0 ≤ _), (by decide : 0 + 0 ≤ _)⟩)
   dsimp only [Pt.U, Pt.locs, Pt.cells, Pt.slots] at X450 l450 y450 z450 st450 hQ450
   subst l450 y450 z450
   obtain ⟨rfl, N450q, e450⟩ := hQ450
   have N450 := Fr.app N0 N450q
   have r450 : (f1 (3 : Int32) w_PRODUCER w_WORKER w_OPERATOR w_ADMIN) = w_ADMIN := by rw [f1, if_neg ((by decide) : ¬ ((3 : Int32) = (0 : Int32))), if_neg ((by decide) : ¬ ((3 : Int32) = (1 : Int32))), if_neg ((by decide) : ¬ ((3 : Int32) = (2 : Int32)))] <;> decide
   rw [r450] at st450
   obtain ⟨_, _, ⟨T451, L451, k451, n451⟩, -, X451, ⟨Lc451, hQ451, l451, y451, z451⟩, st451⟩ := Jvm.LawKit.callS X450 hx (y := y2) hown (mvT hZ (ow hw 7 rfl)) (mvT hZ (ow hw 8 rfl)) (mvT hZ (ow hw 2 rfl)) (mvT hZ (ow hw 9 rfl)) (by decide) (backOf (W := 0) (rm2_3 l Z ar hw []  h0 n0 O0) hZ (ow hw 9 rfl) (ow hw 2 rfl) (by decide) (by decide)) (g := (mkF m 22 #[iv p0, iv p1, iv p2, iv p3, iv (3 : Int32), iv md, rv w_ADMIN, un, un, un, un, un, un] [(.int (3 : Int32))])) rfl (by rw [hml]; rfl) (argsL := [(.int (3 : Int32))]) (rest := []) (lenOf pd_4 rfl) rfl (by show 2 * 0 + _ ≤ _; exact Nat.le_of_eq rfl) (hb hby at_22) (fun _ _ => ⟨rfl, e450, (by decide : 0 + 1 ≤ _), (by decide : 0 + 5 ≤ _)⟩)
   dsimp only [Pt.U, Pt.locs, Pt.cells, Pt.slots] at X451 l451 y451 z451 st451 hQ451
   subst l451 y451 z451
   obtain ⟨b_451, kb_451, rfl, N451q, Kq451, u451_0, u451_1, u451_2⟩ := hQ451
   have N451 := Fr.app N450 N451q
   have K451 := (Keep.refl h0 []).trans Kq451 all0
   have O451 := O0.keep Kq451 all0
   have CR451 : CHr Z EL0 s.vm h0 s.vm T451.heap := CR0.trans (CHr.keep Kq451 all0 CR0.1)
   have hk := Nat.le_trans hk Kq451.1
   have sz452 : h0.size ≤ b_451 := Nat.le_trans (Keep.refl h0 []).1 u451_1
   have gn452 : n0 ≤ b_451 := Nat.le_trans (Nat.le_trans (Nat.le_of_eq O0.1.symm) O0.2.1) u451_1
   have Sn452 : Safe Z EL0 s.vm T451.heap b_451 := Safe.keep Kq451 all0 CR0.1 (Safe.new u451_1)
   obtain ⟨T453, h453, X453, e453, E453, A453, D453, -, st453⟩ := newO X451 hx hZ hown (ow hw 11 rfl) (ow hw 12 rfl) (ow hw 13 rfl) rfl (g := (mkF m 33 #[iv p0, iv p1, iv p2, iv p3, iv (3 : Int32), iv md, rv w_ADMIN, rv b_451, un, un, un, un, un] [])) rfl (hb hby at_33) (by decide) (by decide)
   obtain ⟨b453, g453⟩ : ∃ z, z = T451.heap.size := ⟨_, rfl⟩
   rw [← g453] at A453 D453 st453
   have ne453_454 : b_451 ≠ b453 := Nat.ne_of_lt (Nat.lt_of_lt_of_le (u451_0).lt (Nat.le_of_eq g453.symm))
   have gn453 : n0 ≤ b453 := Nat.le_trans (Nat.le_trans (Nat.le_of_eq O451.1.symm) O451.2.1) (Nat.le_of_eq g453.symm)
   have sz453 : h0.size ≤ b453 := Nat.le_trans K451.1 (Nat.le_of_eq g453.symm)
   have Sn453 : Safe Z EL0 s.vm T451.heap b453 := Safe.new (Nat.le_of_eq g453.symm)
   have V453_455 := u451_0.ext E453
   have E453_456 := u451_2.ext E453
   have K453 := K451.ext E453
   have O453 := O451.ext E453
   have Sf453_b_451 := Safe.ext E453 CR451.1 Sn452
   have Sf453_b453 := Safe.ext E453 CR451.1 Sn453
   have CR453 : CHr Z EL0 s.vm h0 s.vm h453 := CR451.trans (CHr.ext E453 CR451.1)
   have hk := Nat.le_trans hk E453.1
   have F453_457 : Fld Z h453 b453 "java/lang/String" "coder" "B" (.int (0 : Int32)) := D453 (Or.inr (ow hw 37 rfl)) (ty := .byte) (by decide)
   have F453_458 : Fld Z h453 b453 "java/lang/String" "value" "[B" .null := D453 (Or.inr (ow hw 39 rfl)) (ty := (.array .byte)) (by decide)
   obtain ⟨_, _, ⟨T459, L459, k459, n459⟩, -, X459, ⟨Lc459, hQ459, l459, y459, z459⟩, st459⟩ := X453.specialBack hx (y := y3) rfl hown (mvT hZ (ow hw 14 rfl)) (mvT hZ (ow hw 15 rfl)) (mvT hZ (ow hw 16 rfl)) (by decide) (StrChars.Road.backV (W := 1) hZ (own_ws hw) (ow hw 12 rfl) (cs := [(97 : Int32), (100 : Int32), (109 : Int32), (105 : Int32), (110 : Int32)]) (bs := [((97 : Int32).toInt8.toInt32), ((100 : Int32).toInt8.toInt32), ((109 : Int32).toInt8.toInt32), ((105 : Int32).toInt8.toInt32), ((110 : Int32).toInt8.toInt32)]) (n := 5) gn453 (Nat.le_trans (Nat.le_of_eq O453.1.symm) O453.2.1) A453 F453_458 F453_457 V453_455 (S_COMPACT_STRINGS.ext O453.2) hz_w_CS0 rfl (by decide) (by decide) (by decide) (own_cc ⟨by decide, by decide⟩ (own_cc ⟨by decide, by decide⟩ (own_cc ⟨by decide, by decide⟩ (own_cc ⟨by decide, by decide⟩ (own_cc ⟨by decide, by decide⟩ own_cn))))) rfl (by decide) (by decide)) (g := (mkF m 39 #[iv p0, iv p1, iv p2, iv p3, iv (3 : Int32), iv md, rv w_ADMIN, rv b_451, un, un, un, un, un] [(.ref b_451), (.ref b453), (.ref b453)])) rfl (by rw [hml]; rfl) (Steps.refl _) (a := b453) (argsL := [(.ref b_451)]) (rest := [(.ref b453)]) (lenOf pd_7 rfl) rfl (by show 2 * 0 + _ ≤ _; exact Nat.le_of_eq rfl) (hb hby at_39) (fun _ _ => ⟨rfl, e453, (by decide : 2 + 1 ≤ _), (by decide : 9 + 5 ≤ _)⟩)
   dsimp only [Pt.U, Pt.locs, Pt.cells, Pt.slots] at X459 l459 y459 z459 st459 hQ459
   subst l459 y459 z459
   obtain ⟨rfl, N459q, Kq459, uE459, uC459, t459, kt459, -, tg459, tn459, uF459, uV459⟩ := hQ459
   have N459 := Fr.app N451 N459q
   have ne460 : b_451 ≠ t459 := Nat.ne_of_lt (Nat.lt_of_lt_of_le (V453_455).lt tg459)
   have ne461 : b453 ≠ t459 := Nat.ne_of_lt (Nat.lt_of_lt_of_le (A453).lt tg459)
   have V459_462 := V453_455.keep Kq459 (ninS ne453_454 nin0)
   have E459_463 := E453_456.keep Kq459
   have E459_464 := A453.keep Kq459
   have K459 := K453.trans Kq459 (allS (Or.inr sz453) all0)
   have O459 := O453.keep Kq459 (allS gn453 all0)
   have Sf459_b_451 := Safe.keep Kq459 (allS Sf453_b453 all0) CR453.1 Sf453_b_451
   have Sf459_b453 := Safe.keep Kq459 (allS Sf453_b453 all0) CR453.1 Sf453_b453
   have CR459 : CHr Z EL0 s.vm h0 s.vm T459.heap := CR453.trans (CHr.keep Kq459 (allS Sf453_b453 all0) CR453.1)
   have hk := Nat.le_trans hk Kq459.1
   have sz459 : h0.size ≤ t459 := Nat.le_trans K453.1 tg459
   have gn459 : n0 ≤ t459 := Nat.le_trans (Nat.le_trans (Nat.le_of_eq O453.1.symm) O453.2.1) tg459
   have Sn459 : Safe Z EL0 s.vm T459.heap t459 := Safe.keep Kq459 (allS Sf453_b453 all0) CR453.1 (Safe.new tg459)
   have uC459' : Fld Z T459.heap b453 "java/lang/String" "coder" "B" (.int (0 : Int32)) := uC459
   have uF459' : Fld Z T459.heap b453 "java/lang/String" "value" "[B" (.ref t459) := uF459
   have uV459' : Arv Z T459.heap t459 kt459 .byte (5 : Int32) [(.int ((97 : Int32).toInt8.toInt32)), (.int ((100 : Int32).toInt8.toInt32)), (.int ((109 : Int32).toInt8.toInt32)), (.int ((105 : Int32).toInt8.toInt32)), (.int ((110 : Int32).toInt8.toInt32))] (.int (0 : Int32)) := uV459
   have Vb465 : Arv Z T459.heap t459 kt459 .byte (5 : Int32) [(.int (97 : Int32)), (.int (100 : Int32)), (.int (109 : Int32)), (.int (105 : Int32)), (.int (110 : Int32))] (.int (0 : Int32)) := by have q := uV459'; rw [show ((97 : Int32).toInt8.toInt32) = (97 : Int32) from by decide, show ((100 : Int32).toInt8.toInt32) = (100 : Int32) from by decide, show ((109 : Int32).toInt8.toInt32) = (109 : Int32) from by decide, show ((105 : Int32).toInt8.toInt32) = (105 : Int32) from by decide, show ((110 : Int32).toInt8.toInt32) = (110 : Int32) from by decide] at q; exact q
   obtain ⟨_, _, ⟨T466, L466, k466, n466⟩, -, X466, ⟨Lc466, hQ466, l466, y466, z466⟩, st466⟩ := Jvm.LawKit.callS X459 hx (y := y9) hown (mvT hZ (ow hw 40 rfl)) (mvT hZ (ow hw 41 rfl)) (mvT hZ (ow hw 5 rfl)) (mvT hZ (ow hw 42 rfl)) (by decide) (backOf (W := 0) (rm9_5 l Z ar hw [] b453 w_CS0 w_SF1 w_PRODUCER w__VALUES w_WORKER w_OPERATOR w_ADMIN w_PRODUCER_shown w_PRODUCER_shown_value w_WORKER_shown w_WORKER_shown_value w_OPERATOR_shown w_OPERATOR_shown_value w_ADMIN_shown w_ADMIN_shown_value k__VALUES k_PRODUCER_shown_value k_WORKER_shown_value k_OPERATOR_shown_value k_ADMIN_shown_value t459 kt459 (97 : Int32) (100 : Int32) (109 : Int32) (105 : Int32) (110 : Int32) T459.heap n0 O459 HW E459_464 uC459' uF459' Vb465 gn453) hZ (ow hw 42 rfl) (ow hw 5 rfl) (by decide) (by decide)) (g := (mkF m 240 #[iv p0, iv p1, iv p2, iv p3, iv (3 : Int32), iv md, rv w_ADMIN, rv b_451, rv b453, rv w_ADMIN, un, un, un] [(.ref b453)])) rfl (by rw [hml]; rfl) (argsL := [(.ref b453)]) (rest := []) (lenOf pd_5 rfl) rfl (by show 2 * 0 + _ ≤ _; exact Nat.le_of_eq rfl) (hb hby at_240) (fun _ _ => ⟨rfl, rfl, (by decide : 3 + 1 ≤ _), (by decide : 14 + 4 ≤ _)⟩)
   dsimp only [Pt.U, Pt.locs, Pt.cells, Pt.slots] at X466 l466 y466 z466 st466 hQ466
   subst l466 y466 z466
   obtain ⟨rfl, N466q, Kq466⟩ := hQ466
   have N466 := Fr.app N459 N466q
   have V466_467 := V459_462.keep Kq466 nin0
   have E466_468 := E459_463.keep Kq466
   have E466_469 := E459_464.keep Kq466
   have F466_470 := uC459'.keep Kq466 nin0
   have F466_471 := uF459'.keep Kq466 nin0
   have V466_472 := Vb465.keep Kq466 nin0
   have K466 := K459.trans Kq466 all0
   have O466 := O459.keep Kq466 all0
   have Sf466_b_451 := Safe.keep Kq466 all0 CR459.1 Sf459_b_451
   have Sf466_b453 := Safe.keep Kq466 all0 CR459.1 Sf459_b453
   have Sf466_t459 := Safe.keep Kq466 all0 CR459.1 Sn459
   have CR466 : CHr Z EL0 s.vm h0 s.vm T466.heap := CR459.trans (CHr.keep Kq466 all0 CR459.1)
   have hk := Nat.le_trans hk Kq466.1
   have r466 : (f9_5 w_ADMIN (97 : Int32) (100 : Int32) (109 : Int32) (105 : Int32) (110 : Int32)) = (.ref w_ADMIN) := by rw [f9_5, if_neg ((by rw [f11_5_5]; rw [if_neg ((by rw [f12_5_5]; rw [if_pos ((by decide) : (97 : Int32) = (97 : Int32))]; rw [if_pos ((by decide) : (100 : Int32) = (100 : Int32))]; rw [if_pos ((by decide) : (109 : Int32) = (109 : Int32))]; rw [if_pos ((by decide) : (105 : Int32) = (105 : Int32))]; rw [if_pos ((by decide) : (110 : Int32) = (110 : Int32))]; (try decide)) : ¬ ((f12_5_5 (97 : Int32) (100 : Int32) (109 : Int32) (105 : Int32) (110 : Int32) (97 : Int32) (100 : Int32) (109 : Int32) (105 : Int32) (110 : Int32)) = (0 : Int32)))]; (try decide)) : ¬ ((f11_5_5 (97 : Int32) (100 : Int32) (109 : Int32) (105 : Int32) (110 : Int32) (97 : Int32) (100 : Int32) (109 : Int32) (105 : Int32) (110 : Int32)) = (0 : Int32)))] <;> decide
   rw [r466] at st466
   obtain ⟨fs, hr, hrun, hended, hRE⟩ := X466.leaveW hS hk (v := some (.int (1 : Int32))) (fun h => by rw [Bd.returns] at h; cases h)
   have CRf : CHr Z EL0 s.vm s.heap (T466.setFrames fs).vm (T466.setFrames fs).heap := by
     show CHr Z EL0 s.vm s.heap T466.vm T466.heap
     rw [hh]
     exact CR466.trans (CHv.at X466 hZ hEL CR466.1)
   subst hS0
   refine ⟨_, _, pre380 _ ?_, hrun, hended, _, _, rfl, ?_, CRf, hRE.1, hRE.2.1, hRE.2.2.1, hRE.2.2.2.mono (by decide) (by decide)⟩
   ·
    refine st450 _ ?_
    refine XS.astore X450.here hx rfl (hb hby at_18) rfl rfl (l' := #[iv p0, iv p1, iv p2, iv p3, iv (3 : Int32), iv md, rv w_ADMIN, un, un, un, un, un, un]) rfl ?_
    refine XS.iload X450.here hx rfl (hb hby at_20) rfl ?_
    refine st451 _ ?_
    refine XS.astore X451.here hx rfl (hb hby at_25) rfl rfl (l' := #[iv p0, iv p1, iv p2, iv p3, iv (3 : Int32), iv md, rv w_ADMIN, rv b_451, un, un, un, un, un]) rfl ?_
    refine XS.iload X451.here hx rfl (hb hby at_27) rfl ?_
    refine XS.iconst X451.here hx rfl (hb hby at_29) ?_
    show AT p e below T451 m 30 #[iv p0, iv p1, iv p2, iv p3, iv (3 : Int32), iv md, rv w_ADMIN, rv b_451, un, un, un, un, un] [(.int (1 : Int32)), (.int md)] _
    refine XS.icmpNo X451.here hx rfl (hb hby at_30) rfl (XT.ii_gt_f (hc3 : ¬ ((1 : Int32) < md))) ?_
    refine st453 _ ?_
    refine XS.dup X453.here hx rfl (hb hby at_36) rfl rfl ?_
    refine XS.aload X453.here hx rfl (hb hby at_37) rfl rfl ?_
    refine st459.trans ?_
    refine XS.astore X459.here hx rfl (hb hby at_42) rfl rfl (l' := #[iv p0, iv p1, iv p2, iv p3, iv (3 : Int32), iv md, rv w_ADMIN, rv b_451, rv b453, un, un, un, un]) rfl ?_
    refine XS.aload X459.here hx rfl (hb hby at_44) rfl rfl ?_
    refine XS.astore X459.here hx rfl (hb hby at_46) rfl rfl (l' := #[iv p0, iv p1, iv p2, iv p3, iv (3 : Int32), iv md, rv w_ADMIN, rv b_451, rv b453, rv w_ADMIN, un, un, un]) rfl ?_
    refine XS.goto X459.here hx rfl (pc0 := 48) (pc' := 238) rfl (hb hby at_48) (by decide) (by decide) ?_
    refine XS.aload X459.here hx rfl (hb hby at_238) rfl rfl ?_
    show AT p e below T459 m 240 #[iv p0, iv p1, iv p2, iv p3, iv (3 : Int32), iv md, rv w_ADMIN, rv b_451, rv b453, rv w_ADMIN, un, un, un] [(.ref b453)] _
    refine st466 _ ?_
    refine XS.aload X466.here hx rfl (hb hby at_243) rfl rfl ?_
    show AT p e below T466 m 245 #[iv p0, iv p1, iv p2, iv p3, iv (3 : Int32), iv md, rv w_ADMIN, rv b_451, rv b453, rv w_ADMIN, un, un, un] [(.ref w_ADMIN), (.ref w_ADMIN)] _
    refine Jvm.RoadKit.acmp (g := (mkF m 245 #[iv p0, iv p1, iv p2, iv p3, iv (3 : Int32), iv md, rv w_ADMIN, rv b_451, rv b453, rv w_ADMIN, un, un, un] [(.ref w_ADMIN), (.ref w_ADMIN)])) X466 hx rfl rfl rfl (pc0 := 245) (pc' := 248) (same := true) rfl (hb hby at_245) rfl (decide_eq_true rfl) (by decide) (by decide) ?_
    refine XS.iconst X466.here hx rfl (hb hby at_248) ?_
    refine XS.goto X466.here hx rfl (pc0 := 249) (pc' := 253) rfl (hb hby at_249) (by decide) (by decide) ?_
    exact retN X466 hx (t := .boolean) Bd.returns (by simp) (hb hby at_253) hr
   ·
    show Q0 Z p0 p1 p2 p3 w_CS0 w_SF1 w_PRODUCER w__VALUES w_WORKER w_OPERATOR w_ADMIN w_PRODUCER_shown w_PRODUCER_shown_value w_WORKER_shown w_WORKER_shown_value w_OPERATOR_shown w_OPERATOR_shown_value w_ADMIN_shown w_ADMIN_shown_value k__VALUES k_PRODUCER_shown_value k_WORKER_shown_value k_OPERATOR_shown_value k_ADMIN_shown_value h0 n0 _ T466.heap _
    exact ⟨rfl, N466⟩

set_option maxRecDepth 65536 in
set_option maxHeartbeats 40000000 in
theorem comes_1 {Post : Tables → Env → Array Value → State → Outcome → State → Prop} (hpost : ∀ tb e args s v u, (limb_1_1.after args s (.returned v) u = true ∧ limb_1_2.after args s (.returned v) u = true ∧ True) → ReturnedEndW s (.returned v) u (Jvm.fieldLocs frame_1_writes args s ++ Jvm.arrayLocs frame_1_arrays args s ++ Jvm.staticLocs frame_1_statics s) 24 1152 → Post tb e args s (.returned v) u) :
    ArmFor flags0 classFile x code maxLocals ret World_1 tables_1 room_1 Calls_1 rest_1 Pre_1 Post := by
  intro l hfl _ _ p e ha hc hk s m args below hf hA hF happ hP
  obtain ⟨hcalls, hrest, hpre⟩ := hP
  obtain ⟨-, -, -, hnamed, -, -, -, hat⟩ := (Spec.applies_iff hf).mp happ
  obtain ⟨hg, hn⟩ := and_e (Cond.before_iff.mp (show (Jvm.Cond.and given_1 narrow_1).before args s = true from hpre))
  obtain ⟨hg1, hg2⟩ := and_e hg
  obtain ⟨hg21, hg22⟩ := and_e hg2
  obtain ⟨hg221, hg222⟩ := and_e hg22
  obtain ⟨hg2221, hg2222⟩ := and_e hg222
  obtain ⟨w0, w1, w2, w3, rfl⟩ : ∃ w0 w1 w2 w3 : Value, args = #[w0, w1, w2, w3] := by
    have hs : args.size = 4 := by simpa [Cond.value, given_1] using hg1
    obtain ⟨L⟩ := args
    match L, hs with
    | [w0, w1, w2, w3], _ => exact ⟨w0, w1, w2, w3, rfl⟩
  have hw := fun d (hd : d ∈ tables_1) => atoms_spec (ws := Jvm.Cond.code x code maxLocals ret :: tables_1) hat d (List.mem_cons_of_mem _ hd)
  have hfit : Fit s := fun {y c} hc i hi => by
    obtain ⟨ha, rfl⟩ := Array.getElem?_eq_some_iff.mp hc
    have q := List.all_eq_true.mp ((Array.all_eq_true_iff_forall_mem.mp hF) _ (Array.getElem_mem ha)) i (List.mem_range.mpr hi)
    simpa [Array.getElem?_eq_getElem hi] using q
  obtain ⟨hsets, hown0⟩ := atoms_of _ (rest_1_c_eq ▸ (show rest_1_c.before _ s = true from hrest))
  have hr0 := Cond.before_iff.mp hown0
  obtain ⟨i0, ei0⟩ := is_v hg21
  obtain rfl : w0 = (.int i0) := Option.some.inj ei0
  obtain ⟨i1, ei1⟩ := is_v hg221
  obtain rfl : w1 = (.int i1) := Option.some.inj ei1
  obtain ⟨i2, ei2⟩ := is_v hg2221
  obtain rfl : w2 = (.int i2) := Option.some.inj ei2
  obtain ⟨i3, ei3⟩ := is_v hg2222
  obtain rfl : w3 = (.int i3) := Option.some.inj ei3
  obtain ⟨hn1, hn2⟩ := and_e hn
  obtain ⟨hn21, hn22⟩ := and_e hn2
  obtain ⟨hn221, hn222⟩ := and_e hn22
  obtain ⟨hn2221, hn2222⟩ := and_e hn222
  obtain ⟨hn22221, hn22222⟩ := and_e hn2222
  obtain ⟨hn222221, hn222222⟩ := and_e hn22222
  obtain ⟨hn2222221, hn2222222⟩ := and_e hn222222
  obtain ⟨hn22222221, hn22222222⟩ := and_e hn2222222
  obtain ⟨hn222222221, hn222222222⟩ := and_e hn22222222
  obtain ⟨hn2222222221, hn2222222222⟩ := and_e hn222222222
  obtain ⟨hn22222222221, hn22222222222⟩ := and_e hn2222222222
  obtain ⟨hn222222222221, hn222222222222⟩ := and_e hn22222222222
  obtain ⟨hn2222222222221, hn2222222222222⟩ := and_e hn222222222222
  obtain ⟨hn22222222222221, hn22222222222222⟩ := and_e hn2222222222222
  obtain ⟨hn222222222222221, hn222222222222222⟩ := and_e hn22222222222222
  obtain ⟨hn2222222222222221, hn2222222222222222⟩ := and_e hn222222222222222
  obtain ⟨hn22222222222222221, hn22222222222222222⟩ := and_e hn2222222222222222
  obtain ⟨hn222222222222222221, hn222222222222222222⟩ := and_e hn22222222222222222
  obtain ⟨hn2222222222222222221, hn2222222222222222222⟩ := and_e hn222222222222222222
  obtain ⟨hn22222222222222222221, hn22222222222222222222⟩ := and_e hn2222222222222222222
  obtain ⟨hn222222222222222222221, hn222222222222222222222⟩ := and_e hn22222222222222222222
  obtain ⟨hn2222222222222222222221, hn2222222222222222222222⟩ := and_e hn222222222222222222222
  obtain ⟨hn22222222222222222222221, hn22222222222222222222222⟩ := and_e hn2222222222222222222222
  obtain ⟨hn222222222222222222222221, hn222222222222222222222222⟩ := and_e hn22222222222222222222222
  obtain ⟨hn2222222222222222222222221, hn2222222222222222222222222⟩ := and_e hn222222222222222222222222
  obtain ⟨hn22222222222222222222222221, hn22222222222222222222222222⟩ := and_e hn2222222222222222222222222
  obtain ⟨hn222222222222222222222222221, hn222222222222222222222222222⟩ := and_e hn22222222222222222222222222
  obtain ⟨hn2222222222222222222222222221, hn2222222222222222222222222222⟩ := and_e hn222222222222222222222222222
  obtain ⟨hn22222222222222222222222222221, hn22222222222222222222222222222⟩ := and_e hn2222222222222222222222222222
  obtain ⟨hn222222222222222222222222222221, hn222222222222222222222222222222⟩ := and_e hn22222222222222222222222222222
  obtain ⟨hn2222222222222222222222222222221, hn2222222222222222222222222222222⟩ := and_e hn222222222222222222222222222222
  obtain ⟨hn22222222222222222222222222222221, hn22222222222222222222222222222222⟩ := and_e hn2222222222222222222222222222222
  obtain ⟨hn222222222222222222222222222222221, hn222222222222222222222222222222222⟩ := and_e hn22222222222222222222222222222222
  obtain ⟨hn2222222222222222222222222222222221, hn2222222222222222222222222222222222⟩ := and_e hn222222222222222222222222222222222
  obtain ⟨hn22222222222222222222222222222222221, hn22222222222222222222222222222222222⟩ := and_e hn2222222222222222222222222222222222
  obtain ⟨hn222222222222222222222222222222222221, hn222222222222222222222222222222222222⟩ := and_e hn22222222222222222222222222222222222
  obtain ⟨hn2222222222222222222222222222222222221, hn2222222222222222222222222222222222222⟩ := and_e hn222222222222222222222222222222222222
  obtain ⟨hn22222222222222222222222222222222222221, hn22222222222222222222222222222222222222⟩ := and_e hn2222222222222222222222222222222222222
  obtain ⟨hn222222222222222222222222222222222222221, hn222222222222222222222222222222222222222⟩ := and_e hn22222222222222222222222222222222222222
  obtain ⟨hn2222222222222222222222222222222222222221, hn2222222222222222222222222222222222222222⟩ := and_e hn222222222222222222222222222222222222222
  obtain ⟨hn22222222222222222222222222222222222222221, hn22222222222222222222222222222222222222222⟩ := and_e hn2222222222222222222222222222222222222222
  obtain ⟨hn222222222222222222222222222222222222222221, hn222222222222222222222222222222222222222222⟩ := and_e hn22222222222222222222222222222222222222222
  obtain ⟨hn2222222222222222222222222222222222222222221, hn2222222222222222222222222222222222222222222⟩ := and_e hn222222222222222222222222222222222222222222
  obtain ⟨hn22222222222222222222222222222222222222222221, hn22222222222222222222222222222222222222222222⟩ := and_e hn2222222222222222222222222222222222222222222
  obtain ⟨hn222222222222222222222222222222222222222222221, hn222222222222222222222222222222222222222222222⟩ := and_e hn22222222222222222222222222222222222222222222
  obtain ⟨hn2222222222222222222222222222222222222222222221, hn2222222222222222222222222222222222222222222222⟩ := and_e hn222222222222222222222222222222222222222222222
  obtain ⟨hn22222222222222222222222222222222222222222222221, hn22222222222222222222222222222222222222222222222⟩ := and_e hn2222222222222222222222222222222222222222222222
  obtain ⟨hn222222222222222222222222222222222222222222222221, hn222222222222222222222222222222222222222222222222⟩ := and_e hn22222222222222222222222222222222222222222222222
  obtain ⟨hn2222222222222222222222222222222222222222222222221, hn2222222222222222222222222222222222222222222222222⟩ := and_e hn222222222222222222222222222222222222222222222222
  obtain ⟨hn22222222222222222222222222222222222222222222222221, hn22222222222222222222222222222222222222222222222222⟩ := and_e hn2222222222222222222222222222222222222222222222222
  obtain ⟨hn222222222222222222222222222222222222222222222222221, hn222222222222222222222222222222222222222222222222222⟩ := and_e hn22222222222222222222222222222222222222222222222222
  obtain ⟨hn2222222222222222222222222222222222222222222222222221, hn2222222222222222222222222222222222222222222222222222⟩ := and_e hn222222222222222222222222222222222222222222222222222
  obtain ⟨hn22222222222222222222222222222222222222222222222222221, hn22222222222222222222222222222222222222222222222222222⟩ := and_e hn2222222222222222222222222222222222222222222222222222
  have hs1 := Cond.before_iff.mp (hsets _ (List.mem_of_getElem? (i := 1) rfl))
  have hs2 := Cond.before_iff.mp (hsets _ (List.mem_of_getElem? (i := 2) rfl))
  have hs8 := Cond.before_iff.mp (hsets _ (List.mem_of_getElem? (i := 8) rfl))
  obtain ⟨w_CS0, ev_w_CS0⟩ := is_v hs1
  have S_COMPACT_STRINGS : Sta s s.heap "java/lang/String" "COMPACT_STRINGS" "Z" (.int w_CS0) := Sta.start ev_w_CS0 (Or.inl (hsets _ (List.mem_of_getElem? (i := 0) rfl)))
  have hz_w_CS0 : ¬ w_CS0 = (0 : Int32) := own_neInt ev_w_CS0 hs2
  obtain ⟨w_SF1, ev_w_SF1, ir_w_SF1⟩ := isR_v hs8
  have S_SIOOBE_FORMATTER : Sta s s.heap "jdk/internal/util/Preconditions" "SIOOBE_FORMATTER" "Ljava/util/function/BiFunction;" w_SF1 := Sta.start ev_w_SF1 (Or.inl (hsets _ (List.mem_of_getElem? (i := 7) rfl)))
  obtain ⟨w_PRODUCER, ev_w_PRODUCER⟩ := exa_v hn1
  have S_PRODUCER : Sta s s.heap "com/example/lease/lease/Role" "PRODUCER" "Lcom/example/lease/lease/Role;" (.ref w_PRODUCER) := Sta.start ev_w_PRODUCER (Or.inr ⟨(ow hw 5 rfl), (ow hw 6 rfl)⟩)
  have E_PRODUCER : Exa s s.heap w_PRODUCER "com/example/lease/lease/Role" := Exa.start ev_w_PRODUCER hn1
  obtain ⟨w__VALUES, ev_w__VALUES⟩ := arr_v hn21
  have S__VALUES : Sta s s.heap "com/example/lease/lease/Role" "$VALUES" "[Lcom/example/lease/lease/Role;" (.ref w__VALUES) := Sta.start ev_w__VALUES (Or.inl (ow hw 58 rfl))
  have E__VALUES : Exa s s.heap w__VALUES "[Lcom/example/lease/lease/Role;" := Exa.start ev_w__VALUES hn221
  obtain ⟨w_WORKER, ev_w_WORKER⟩ := exa_v hn222221
  have S_WORKER : Sta s s.heap "com/example/lease/lease/Role" "WORKER" "Lcom/example/lease/lease/Role;" (.ref w_WORKER) := Sta.start ev_w_WORKER (Or.inr ⟨(ow hw 5 rfl), (ow hw 55 rfl)⟩)
  have E_WORKER : Exa s s.heap w_WORKER "com/example/lease/lease/Role" := Exa.start ev_w_WORKER hn222221
  obtain ⟨w_OPERATOR, ev_w_OPERATOR⟩ := exa_v hn22222221
  have S_OPERATOR : Sta s s.heap "com/example/lease/lease/Role" "OPERATOR" "Lcom/example/lease/lease/Role;" (.ref w_OPERATOR) := Sta.start ev_w_OPERATOR (Or.inr ⟨(ow hw 5 rfl), (ow hw 56 rfl)⟩)
  have E_OPERATOR : Exa s s.heap w_OPERATOR "com/example/lease/lease/Role" := Exa.start ev_w_OPERATOR hn22222221
  obtain ⟨w_ADMIN, ev_w_ADMIN⟩ := exa_v hn2222222221
  have S_ADMIN : Sta s s.heap "com/example/lease/lease/Role" "ADMIN" "Lcom/example/lease/lease/Role;" (.ref w_ADMIN) := Sta.start ev_w_ADMIN (Or.inr ⟨(ow hw 5 rfl), (ow hw 57 rfl)⟩)
  have E_ADMIN : Exa s s.heap w_ADMIN "com/example/lease/lease/Role" := Exa.start ev_w_ADMIN hn2222222221
  obtain ⟨w_PRODUCER_shown, ev_w_PRODUCER_shown⟩ := exa_v hn222222222221
  have F_shown_PRODUCER : Fld s s.heap w_PRODUCER "com/example/lease/lease/Role" "shown" "Ljava/lang/String;" (.ref w_PRODUCER_shown) := Fld.start ((fld_at ev_w_PRODUCER).symm.trans ev_w_PRODUCER_shown)
  have E_PRODUCER_shown : Exa s s.heap w_PRODUCER_shown "java/lang/String" := Exa.start ev_w_PRODUCER_shown hn222222222221
  have evhn2222222222221 := own_eqInt hn2222222222221
  have F_coder_PRODUCER_shown : Fld s s.heap w_PRODUCER_shown "java/lang/String" "coder" "B" (.int (0 : Int32)) := Fld.start ((fld_at ev_w_PRODUCER_shown).symm.trans evhn2222222222221)
  obtain ⟨w_PRODUCER_shown_value, ev_w_PRODUCER_shown_value⟩ := arr_v hn22222222222221
  have F_value_PRODUCER_shown : Fld s s.heap w_PRODUCER_shown "java/lang/String" "value" "[B" (.ref w_PRODUCER_shown_value) := Fld.start ((fld_at ev_w_PRODUCER_shown).symm.trans ev_w_PRODUCER_shown_value)
  obtain ⟨w_WORKER_shown, ev_w_WORKER_shown⟩ := exa_v hn2222222222222221
  have F_shown_WORKER : Fld s s.heap w_WORKER "com/example/lease/lease/Role" "shown" "Ljava/lang/String;" (.ref w_WORKER_shown) := Fld.start ((fld_at ev_w_WORKER).symm.trans ev_w_WORKER_shown)
  have E_WORKER_shown : Exa s s.heap w_WORKER_shown "java/lang/String" := Exa.start ev_w_WORKER_shown hn2222222222222221
  have evhn22222222222222221 := own_eqInt hn22222222222222221
  have F_coder_WORKER_shown : Fld s s.heap w_WORKER_shown "java/lang/String" "coder" "B" (.int (0 : Int32)) := Fld.start ((fld_at ev_w_WORKER_shown).symm.trans evhn22222222222222221)
  obtain ⟨w_WORKER_shown_value, ev_w_WORKER_shown_value⟩ := arr_v hn222222222222222221
  have F_value_WORKER_shown : Fld s s.heap w_WORKER_shown "java/lang/String" "value" "[B" (.ref w_WORKER_shown_value) := Fld.start ((fld_at ev_w_WORKER_shown).symm.trans ev_w_WORKER_shown_value)
  obtain ⟨w_OPERATOR_shown, ev_w_OPERATOR_shown⟩ := exa_v hn22222222222222222221
  have F_shown_OPERATOR : Fld s s.heap w_OPERATOR "com/example/lease/lease/Role" "shown" "Ljava/lang/String;" (.ref w_OPERATOR_shown) := Fld.start ((fld_at ev_w_OPERATOR).symm.trans ev_w_OPERATOR_shown)
  have E_OPERATOR_shown : Exa s s.heap w_OPERATOR_shown "java/lang/String" := Exa.start ev_w_OPERATOR_shown hn22222222222222222221
  have evhn222222222222222222221 := own_eqInt hn222222222222222222221
  have F_coder_OPERATOR_shown : Fld s s.heap w_OPERATOR_shown "java/lang/String" "coder" "B" (.int (0 : Int32)) := Fld.start ((fld_at ev_w_OPERATOR_shown).symm.trans evhn222222222222222222221)
  obtain ⟨w_OPERATOR_shown_value, ev_w_OPERATOR_shown_value⟩ := arr_v hn2222222222222222222221
  have F_value_OPERATOR_shown : Fld s s.heap w_OPERATOR_shown "java/lang/String" "value" "[B" (.ref w_OPERATOR_shown_value) := Fld.start ((fld_at ev_w_OPERATOR_shown).symm.trans ev_w_OPERATOR_shown_value)
  obtain ⟨w_ADMIN_shown, ev_w_ADMIN_shown⟩ := exa_v hn222222222222222222222221
  have F_shown_ADMIN : Fld s s.heap w_ADMIN "com/example/lease/lease/Role" "shown" "Ljava/lang/String;" (.ref w_ADMIN_shown) := Fld.start ((fld_at ev_w_ADMIN).symm.trans ev_w_ADMIN_shown)
  have E_ADMIN_shown : Exa s s.heap w_ADMIN_shown "java/lang/String" := Exa.start ev_w_ADMIN_shown hn222222222222222222222221
  have evhn2222222222222222222222221 := own_eqInt hn2222222222222222222222221
  have F_coder_ADMIN_shown : Fld s s.heap w_ADMIN_shown "java/lang/String" "coder" "B" (.int (0 : Int32)) := Fld.start ((fld_at ev_w_ADMIN_shown).symm.trans evhn2222222222222222222222221)
  obtain ⟨w_ADMIN_shown_value, ev_w_ADMIN_shown_value⟩ := arr_v hn22222222222222222222222221
  have F_value_ADMIN_shown : Fld s s.heap w_ADMIN_shown "java/lang/String" "value" "[B" (.ref w_ADMIN_shown_value) := Fld.start ((fld_at ev_w_ADMIN_shown).symm.trans ev_w_ADMIN_shown_value)
  obtain ⟨cl_w__VALUES, Ar_w__VALUES⟩ := Arr.start ev_w__VALUES hn21
  have lv_w__VALUES := own_eqInt hn2221
  obtain ⟨lq_w__VALUES, le_w__VALUES⟩ := own_len ev_w__VALUES Ar_w__VALUES lv_w__VALUES
  have el_w__VALUES_0 := elem_in (j := 0) (own_eqRef ev_w_PRODUCER hn22221) ev_w__VALUES rfl Ar_w__VALUES.1
  have el_w__VALUES_1 := elem_in (j := 1) (own_eqRef ev_w_WORKER hn2222221) ev_w__VALUES rfl Ar_w__VALUES.1
  have el_w__VALUES_2 := elem_in (j := 2) (own_eqRef ev_w_OPERATOR hn222222221) ev_w__VALUES rfl Ar_w__VALUES.1
  have el_w__VALUES_3 := elem_in (j := 3) (own_eqRef ev_w_ADMIN hn22222222221) ev_w__VALUES rfl Ar_w__VALUES.1
  obtain ⟨k__VALUES, hk_w__VALUES⟩ : ∃ z, z = cl_w__VALUES.cls := ⟨_, rfl⟩
  have V__VALUES : Arv s s.heap w__VALUES k__VALUES (.object "com/example/lease/lease/Role") (4 : Int32) [(.ref w_PRODUCER), (.ref w_WORKER), (.ref w_OPERATOR), (.ref w_ADMIN)] .null := by rw [hk_w__VALUES]; exact Arv.start hfit Ar_w__VALUES lq_w__VALUES le_w__VALUES (by decide) rfl ⟨el_w__VALUES_0.2, el_w__VALUES_1.2, el_w__VALUES_2.2, el_w__VALUES_3.2, trivial⟩
  obtain ⟨cl_w_PRODUCER_shown_value, Ar_w_PRODUCER_shown_value⟩ := Arr.start ev_w_PRODUCER_shown_value hn22222222222221
  have lv_w_PRODUCER_shown_value := own_eqInt hn222222222222221
  obtain ⟨lq_w_PRODUCER_shown_value, le_w_PRODUCER_shown_value⟩ := own_len ev_w_PRODUCER_shown_value Ar_w_PRODUCER_shown_value lv_w_PRODUCER_shown_value
  have el_w_PRODUCER_shown_value_0 := elem_in (j := 0) (own_eqInt hn2222222222222222222222222221) ev_w_PRODUCER_shown_value rfl Ar_w_PRODUCER_shown_value.1
  have el_w_PRODUCER_shown_value_1 := elem_in (j := 1) (own_eqInt hn22222222222222222222222222221) ev_w_PRODUCER_shown_value rfl Ar_w_PRODUCER_shown_value.1
  have el_w_PRODUCER_shown_value_2 := elem_in (j := 2) (own_eqInt hn222222222222222222222222222221) ev_w_PRODUCER_shown_value rfl Ar_w_PRODUCER_shown_value.1
  have el_w_PRODUCER_shown_value_3 := elem_in (j := 3) (own_eqInt hn2222222222222222222222222222221) ev_w_PRODUCER_shown_value rfl Ar_w_PRODUCER_shown_value.1
  have el_w_PRODUCER_shown_value_4 := elem_in (j := 4) (own_eqInt hn22222222222222222222222222222221) ev_w_PRODUCER_shown_value rfl Ar_w_PRODUCER_shown_value.1
  have el_w_PRODUCER_shown_value_5 := elem_in (j := 5) (own_eqInt hn222222222222222222222222222222221) ev_w_PRODUCER_shown_value rfl Ar_w_PRODUCER_shown_value.1
  have el_w_PRODUCER_shown_value_6 := elem_in (j := 6) (own_eqInt hn2222222222222222222222222222222221) ev_w_PRODUCER_shown_value rfl Ar_w_PRODUCER_shown_value.1
  have el_w_PRODUCER_shown_value_7 := elem_in (j := 7) (own_eqInt hn22222222222222222222222222222222221) ev_w_PRODUCER_shown_value rfl Ar_w_PRODUCER_shown_value.1
  obtain ⟨k_PRODUCER_shown_value, hk_w_PRODUCER_shown_value⟩ : ∃ z, z = cl_w_PRODUCER_shown_value.cls := ⟨_, rfl⟩
  have V_PRODUCER_shown_value : Arv s s.heap w_PRODUCER_shown_value k_PRODUCER_shown_value .byte (8 : Int32) [(.int (112 : Int32)), (.int (114 : Int32)), (.int (111 : Int32)), (.int (100 : Int32)), (.int (117 : Int32)), (.int (99 : Int32)), (.int (101 : Int32)), (.int (114 : Int32))] (.int (0 : Int32)) := by rw [hk_w_PRODUCER_shown_value]; exact Arv.start hfit Ar_w_PRODUCER_shown_value lq_w_PRODUCER_shown_value le_w_PRODUCER_shown_value (by decide) rfl ⟨el_w_PRODUCER_shown_value_0.2, el_w_PRODUCER_shown_value_1.2, el_w_PRODUCER_shown_value_2.2, el_w_PRODUCER_shown_value_3.2, el_w_PRODUCER_shown_value_4.2, el_w_PRODUCER_shown_value_5.2, el_w_PRODUCER_shown_value_6.2, el_w_PRODUCER_shown_value_7.2, trivial⟩
  obtain ⟨cl_w_WORKER_shown_value, Ar_w_WORKER_shown_value⟩ := Arr.start ev_w_WORKER_shown_value hn222222222222222221
  have lv_w_WORKER_shown_value := own_eqInt hn2222222222222222221
  obtain ⟨lq_w_WORKER_shown_value, le_w_WORKER_shown_value⟩ := own_len ev_w_WORKER_shown_value Ar_w_WORKER_shown_value lv_w_WORKER_shown_value
  have el_w_WORKER_shown_value_0 := elem_in (j := 0) (own_eqInt hn222222222222222222222222222222222221) ev_w_WORKER_shown_value rfl Ar_w_WORKER_shown_value.1
  have el_w_WORKER_shown_value_1 := elem_in (j := 1) (own_eqInt hn2222222222222222222222222222222222221) ev_w_WORKER_shown_value rfl Ar_w_WORKER_shown_value.1
  have el_w_WORKER_shown_value_2 := elem_in (j := 2) (own_eqInt hn22222222222222222222222222222222222221) ev_w_WORKER_shown_value rfl Ar_w_WORKER_shown_value.1
  have el_w_WORKER_shown_value_3 := elem_in (j := 3) (own_eqInt hn222222222222222222222222222222222222221) ev_w_WORKER_shown_value rfl Ar_w_WORKER_shown_value.1
  have el_w_WORKER_shown_value_4 := elem_in (j := 4) (own_eqInt hn2222222222222222222222222222222222222221) ev_w_WORKER_shown_value rfl Ar_w_WORKER_shown_value.1
  have el_w_WORKER_shown_value_5 := elem_in (j := 5) (own_eqInt hn22222222222222222222222222222222222222221) ev_w_WORKER_shown_value rfl Ar_w_WORKER_shown_value.1
  obtain ⟨k_WORKER_shown_value, hk_w_WORKER_shown_value⟩ : ∃ z, z = cl_w_WORKER_shown_value.cls := ⟨_, rfl⟩
  have V_WORKER_shown_value : Arv s s.heap w_WORKER_shown_value k_WORKER_shown_value .byte (6 : Int32) [(.int (119 : Int32)), (.int (111 : Int32)), (.int (114 : Int32)), (.int (107 : Int32)), (.int (101 : Int32)), (.int (114 : Int32))] (.int (0 : Int32)) := by rw [hk_w_WORKER_shown_value]; exact Arv.start hfit Ar_w_WORKER_shown_value lq_w_WORKER_shown_value le_w_WORKER_shown_value (by decide) rfl ⟨el_w_WORKER_shown_value_0.2, el_w_WORKER_shown_value_1.2, el_w_WORKER_shown_value_2.2, el_w_WORKER_shown_value_3.2, el_w_WORKER_shown_value_4.2, el_w_WORKER_shown_value_5.2, trivial⟩
  obtain ⟨cl_w_OPERATOR_shown_value, Ar_w_OPERATOR_shown_value⟩ := Arr.start ev_w_OPERATOR_shown_value hn2222222222222222222221
  have lv_w_OPERATOR_shown_value := own_eqInt hn22222222222222222222221
  obtain ⟨lq_w_OPERATOR_shown_value, le_w_OPERATOR_shown_value⟩ := own_len ev_w_OPERATOR_shown_value Ar_w_OPERATOR_shown_value lv_w_OPERATOR_shown_value
  have el_w_OPERATOR_shown_value_0 := elem_in (j := 0) (own_eqInt hn222222222222222222222222222222222222222221) ev_w_OPERATOR_shown_value rfl Ar_w_OPERATOR_shown_value.1
  have el_w_OPERATOR_shown_value_1 := elem_in (j := 1) (own_eqInt hn2222222222222222222222222222222222222222221) ev_w_OPERATOR_shown_value rfl Ar_w_OPERATOR_shown_value.1
  have el_w_OPERATOR_shown_value_2 := elem_in (j := 2) (own_eqInt hn22222222222222222222222222222222222222222221) ev_w_OPERATOR_shown_value rfl Ar_w_OPERATOR_shown_value.1
  have el_w_OPERATOR_shown_value_3 := elem_in (j := 3) (own_eqInt hn222222222222222222222222222222222222222222221) ev_w_OPERATOR_shown_value rfl Ar_w_OPERATOR_shown_value.1
  have el_w_OPERATOR_shown_value_4 := elem_in (j := 4) (own_eqInt hn2222222222222222222222222222222222222222222221) ev_w_OPERATOR_shown_value rfl Ar_w_OPERATOR_shown_value.1
  have el_w_OPERATOR_shown_value_5 := elem_in (j := 5) (own_eqInt hn22222222222222222222222222222222222222222222221) ev_w_OPERATOR_shown_value rfl Ar_w_OPERATOR_shown_value.1
  have el_w_OPERATOR_shown_value_6 := elem_in (j := 6) (own_eqInt hn222222222222222222222222222222222222222222222221) ev_w_OPERATOR_shown_value rfl Ar_w_OPERATOR_shown_value.1
  have el_w_OPERATOR_shown_value_7 := elem_in (j := 7) (own_eqInt hn2222222222222222222222222222222222222222222222221) ev_w_OPERATOR_shown_value rfl Ar_w_OPERATOR_shown_value.1
  obtain ⟨k_OPERATOR_shown_value, hk_w_OPERATOR_shown_value⟩ : ∃ z, z = cl_w_OPERATOR_shown_value.cls := ⟨_, rfl⟩
  have V_OPERATOR_shown_value : Arv s s.heap w_OPERATOR_shown_value k_OPERATOR_shown_value .byte (8 : Int32) [(.int (111 : Int32)), (.int (112 : Int32)), (.int (101 : Int32)), (.int (114 : Int32)), (.int (97 : Int32)), (.int (116 : Int32)), (.int (111 : Int32)), (.int (114 : Int32))] (.int (0 : Int32)) := by rw [hk_w_OPERATOR_shown_value]; exact Arv.start hfit Ar_w_OPERATOR_shown_value lq_w_OPERATOR_shown_value le_w_OPERATOR_shown_value (by decide) rfl ⟨el_w_OPERATOR_shown_value_0.2, el_w_OPERATOR_shown_value_1.2, el_w_OPERATOR_shown_value_2.2, el_w_OPERATOR_shown_value_3.2, el_w_OPERATOR_shown_value_4.2, el_w_OPERATOR_shown_value_5.2, el_w_OPERATOR_shown_value_6.2, el_w_OPERATOR_shown_value_7.2, trivial⟩
  obtain ⟨cl_w_ADMIN_shown_value, Ar_w_ADMIN_shown_value⟩ := Arr.start ev_w_ADMIN_shown_value hn22222222222222222222222221
  have lv_w_ADMIN_shown_value := own_eqInt hn222222222222222222222222221
  obtain ⟨lq_w_ADMIN_shown_value, le_w_ADMIN_shown_value⟩ := own_len ev_w_ADMIN_shown_value Ar_w_ADMIN_shown_value lv_w_ADMIN_shown_value
  have el_w_ADMIN_shown_value_0 := elem_in (j := 0) (own_eqInt hn22222222222222222222222222222222222222222222222221) ev_w_ADMIN_shown_value rfl Ar_w_ADMIN_shown_value.1
  have el_w_ADMIN_shown_value_1 := elem_in (j := 1) (own_eqInt hn222222222222222222222222222222222222222222222222221) ev_w_ADMIN_shown_value rfl Ar_w_ADMIN_shown_value.1
  have el_w_ADMIN_shown_value_2 := elem_in (j := 2) (own_eqInt hn2222222222222222222222222222222222222222222222222221) ev_w_ADMIN_shown_value rfl Ar_w_ADMIN_shown_value.1
  have el_w_ADMIN_shown_value_3 := elem_in (j := 3) (own_eqInt hn22222222222222222222222222222222222222222222222222221) ev_w_ADMIN_shown_value rfl Ar_w_ADMIN_shown_value.1
  have el_w_ADMIN_shown_value_4 := elem_in (j := 4) (own_eqInt hn22222222222222222222222222222222222222222222222222222) ev_w_ADMIN_shown_value rfl Ar_w_ADMIN_shown_value.1
  obtain ⟨k_ADMIN_shown_value, hk_w_ADMIN_shown_value⟩ : ∃ z, z = cl_w_ADMIN_shown_value.cls := ⟨_, rfl⟩
  have V_ADMIN_shown_value : Arv s s.heap w_ADMIN_shown_value k_ADMIN_shown_value .byte (5 : Int32) [(.int (97 : Int32)), (.int (100 : Int32)), (.int (109 : Int32)), (.int (105 : Int32)), (.int (110 : Int32))] (.int (0 : Int32)) := by rw [hk_w_ADMIN_shown_value]; exact Arv.start hfit Ar_w_ADMIN_shown_value lq_w_ADMIN_shown_value le_w_ADMIN_shown_value (by decide) rfl ⟨el_w_ADMIN_shown_value_0.2, el_w_ADMIN_shown_value_1.2, el_w_ADMIN_shown_value_2.2, el_w_ADMIN_shown_value_3.2, el_w_ADMIN_shown_value_4.2, trivial⟩
  have HW : Wd s w_CS0 w_SF1 w_PRODUCER w__VALUES w_WORKER w_OPERATOR w_ADMIN w_PRODUCER_shown w_PRODUCER_shown_value w_WORKER_shown w_WORKER_shown_value w_OPERATOR_shown w_OPERATOR_shown_value w_ADMIN_shown w_ADMIN_shown_value k__VALUES k_PRODUCER_shown_value k_WORKER_shown_value k_OPERATOR_shown_value k_ADMIN_shown_value := ⟨S_COMPACT_STRINGS, hz_w_CS0, S_SIOOBE_FORMATTER, ir_w_SF1, S_PRODUCER, E_PRODUCER, S__VALUES, E__VALUES, S_WORKER, E_WORKER, S_OPERATOR, E_OPERATOR, S_ADMIN, E_ADMIN, F_shown_PRODUCER, E_PRODUCER_shown, F_coder_PRODUCER_shown, F_value_PRODUCER_shown, F_shown_WORKER, E_WORKER_shown, F_coder_WORKER_shown, F_value_WORKER_shown, F_shown_OPERATOR, E_OPERATOR_shown, F_coder_OPERATOR_shown, F_value_OPERATOR_shown, F_shown_ADMIN, E_ADMIN_shown, F_coder_ADMIN_shown, F_value_ADMIN_shown, V__VALUES, V_PRODUCER_shown_value, V_WORKER_shown_value, V_OPERATOR_shown_value, V_ADMIN_shown_value⟩
  have hEL : EW s _ EL0 := (EW.cons (ow hw 77 rfl) (by decide) EW.nil)
  have hCH : CHv s EL0 s.vm s.heap := CHv.start hEL (fun p hp => hcalls.1 p hp) (hsets _ (List.mem_of_getElem? (i := 2) rfl)) (ow hw 29 rfl) (ow hw 12 rfl)
  obtain ⟨n, o, h1, h2, h3, _, L, rfl, ⟨rfl, N⟩, hCR, hq⟩ := rm0 l s _ hw tables_1 i0 i1 i2 i3 w_CS0 w_SF1 w_PRODUCER w__VALUES w_WORKER w_OPERATOR w_ADMIN w_PRODUCER_shown w_PRODUCER_shown_value w_WORKER_shown w_WORKER_shown_value w_OPERATOR_shown w_OPERATOR_shown_value w_ADMIN_shown w_ADMIN_shown_value k__VALUES k_PRODUCER_shown_value k_WORKER_shown_value k_OPERATOR_shown_value k_ADMIN_shown_value s.heap s.heap.size (Old.start s) hEL HW p e ha hc hk s m _ below hf ((Spec.applies_iff_loose hf).mp happ).1 ⟨rfl, State.Warmed39.refl s, rfl, hCH⟩ trivial
  refine ⟨n, _, h1, h2, h3, hpost _ _ _ _ _ _ ⟨Cond.after_iff.mpr rfl, Cond.after_iff.mpr (eq_i res_at (Term.int_eval (1)) rfl), trivial⟩ ⟨hq.1, hq.2.1, hq.2.2.1, (hq.2.2.2.sift fun y hy => Or.inr (N y hy)).mono (by decide) (by decide)⟩⟩
theorem main_1_1 : Claimed_1_1 := comes_1 fun _ _ _ _ _ _ h hF => ⟨h.1, hF⟩
theorem main_1_2 : Claimed_1_2 := comes_1 fun _ _ _ _ _ _ h hF => ⟨h.2.1, hF⟩
end Jvm.Pilot.@@N@@
namespace Jvm.Pilot.@@N@@
open Jvm Jvm.ClassFile Sem Op Lib Jvm.Free Jvm.Stand Jvm.Pilot.@@N@@.Jvm.D
/-! MADE BY PROGRAM (witnessworld.py) out of the Statement's table words and the real class files: 22 classes; the members and pool entries that the words name. The judged class is class 1, her method 3. -/
namespace start1
open Jvm.ClassFile
def u (s : String) : CpInfo := .utf8 (stringToUtf16 s)
/-- a pool by its gaps: so many unusable entries, then the entry; so many at the end -/
def gap : Nat → List CpInfo → List CpInfo
  | 0, r => r
  | n + 1, r => .unusable :: gap n r
def poolList (es : List (Nat × CpInfo)) (last : Nat) : List CpInfo := es.foldr (fun e r => gap e.1 (e.2 :: r)) (gap last [])
def pool (es : List (Nat × CpInfo)) (last : Nat) : Array CpInfo := ⟨poolList es last⟩
def fileOf (pool : Array CpInfo) (this : Nat) (attrs : Array Attribute := #[]) (ms : Array MethodInfo := #[]) (fl : Nat := 33) (sup : Nat := 0) (ifs : Array Nat := #[]) (fds : Array FieldInfo := #[]) : ClassFile where
  minorVersion := 0
  majorVersion := 65
  constantPool := pool
  accessFlags := fl
  thisClass := this
  superClass := sup
  interfaces := ifs
  fields := fds
  methods := ms
  attributes := attrs
def plain (name : String) (sup : Option ClassId) : Class where
  name := name
  kind := .ordinary
  loader := none
  accessFlags := 33
  super := sup
  interfaces := #[]
  cf := none
  fields := #[]
  methods := #[]
  instanceTypes := #[]
  staticTypes := #[]
  resolved := #[]
  callSites := []
  init := .initialized
  statics := none
  mirror := none

def pool0 : Array CpInfo := pool [(5, u "<init>"), (0, u "()V"), (1, .class_ 10), (1, u "java/lang/Object"), (85, u "clone"), (0, u "()Ljava/lang/Object;")] 26

def k0c0 : Code := { maxStack := 0, maxLocals := 1, code := object_method_1_code, exceptionTable := #[], attributes := #[] }
def k0m0 : Method := { name := "<init>", desc := "()V", sig := { parameters := [], returnType := none }, accessFlags := 1, code := some k0c0 }
def k0m1 : Method := { name := "clone", desc := "()Ljava/lang/Object;", sig := { parameters := [], returnType := some (.object "java/lang/Object") }, accessFlags := 260, code := none }
/-- java/lang/Object -/
def k0 : Class := { plain "java/lang/Object" none with
  accessFlags := 33
  interfaces := #[]
  cf := some (fileOf pool0 8 #[] #[{ accessFlags := 1, nameIndex := 5, descriptorIndex := 6, attributes := #[] }, { accessFlags := 260, nameIndex := 96, descriptorIndex := 97, attributes := #[] }] 33 0 #[] #[])
  fields := #[]
  methods := #[k0m0, k0m1]
  instanceTypes := #[]
  staticTypes := #[]
  resolved := Array.replicate 124 none
  statics := none }

def pool1 : Array CpInfo := pool [(2, .class_ 4), (1, u "java/lang/Object"), (0, u "<init>"), (0, u "()V"), (0, .fieldref 8 9), (0, .class_ 10), (0, .nameAndType 11 12), (0, u "com/example/lease/lease/Role"), (0, u "PRODUCER"), (0, u "Lcom/example/lease/lease/Role;"), (0, .fieldref 8 14), (0, .nameAndType 15 12), (0, u "WORKER"), (0, .fieldref 8 17), (0, .nameAndType 18 12), (0, u "OPERATOR"), (0, .fieldref 8 20), (0, .nameAndType 21 12), (0, u "ADMIN"), (0, .methodref 23 24), (0, .class_ 25), (0, .nameAndType 26 27), (0, u "com/example/lease/lease/RoleNamedPinLaw"), (0, u "role"), (0, u "(I)Lcom/example/lease/lease/Role;"), (0, .methodref 23 29), (0, .nameAndType 30 31), (0, u "word"), (0, u "(I)[C"), (0, .class_ 33), (0, u "java/lang/String"), (0, .methodref 32 35), (0, .nameAndType 5 36), (0, u "([C)V"), (0, .integer 2147483647), (0, .methodref 8 39), (0, .nameAndType 40 41), (0, u "named"), (0, u "(Ljava/lang/String;)Lcom/example/lease/lease/Role;"), (3, u "law"), (0, u "(IIII)Z")] 4

def k1m0 : Method := { name := "<init>", desc := "()V", sig := { parameters := [], returnType := none }, accessFlags := 1, code := none }
def k1c1 : Code := { maxStack := 2, maxLocals := 1, code := method_2_code, exceptionTable := #[], attributes := #[] }
def k1m1 : Method := { name := "role", desc := "(I)Lcom/example/lease/lease/Role;", sig := { parameters := [.int], returnType := some (.object "com/example/lease/lease/Role") }, accessFlags := 10, code := some k1c1 }
def k1c2 : Code := { maxStack := 4, maxLocals := 1, code := method_3_code, exceptionTable := #[], attributes := #[] }
def k1m2 : Method := { name := "word", desc := "(I)[C", sig := { parameters := [.int], returnType := some (.array .char) }, accessFlags := 10, code := some k1c2 }
def k1c3 : Code := { maxStack := 4, maxLocals := 13, code := code, exceptionTable := #[], attributes := #[] }
def k1m3 : Method := { name := "law", desc := "(IIII)Z", sig := { parameters := [.int, .int, .int, .int], returnType := some .boolean }, accessFlags := 9, code := some k1c3 }
/-- com/example/lease/lease/RoleNamedPinLaw -/
def k1 : Class := { plain "com/example/lease/lease/RoleNamedPinLaw" (some 0) with
  accessFlags := 49
  interfaces := #[]
  cf := some (fileOf pool1 23 #[] #[{ accessFlags := 1, nameIndex := 5, descriptorIndex := 6, attributes := #[] }, { accessFlags := 10, nameIndex := 26, descriptorIndex := 27, attributes := #[] }, { accessFlags := 10, nameIndex := 30, descriptorIndex := 31, attributes := #[] }, { accessFlags := 9, nameIndex := 45, descriptorIndex := 46, attributes := #[] }] 49 2 #[] #[])
  fields := #[]
  methods := #[k1m0, k1m1, k1m2, k1m3]
  instanceTypes := #[]
  staticTypes := #[]
  resolved := Array.replicate 51 none
  statics := none }

def pool2 : Array CpInfo := pool [(1, .class_ 2), (0, u "java/lang/constant/Constable"), (0, .class_ 4), (0, u "java/lang/Object")] 6

/-- java/lang/constant/Constable -/
def k2 : Class := { plain "java/lang/constant/Constable" (some 0) with
  accessFlags := 1537
  interfaces := #[]
  cf := some (fileOf pool2 1 #[] #[] 1537 3 #[] #[])
  fields := #[]
  methods := #[]
  instanceTypes := #[]
  staticTypes := #[]
  resolved := Array.replicate 11 none
  statics := none }

def pool3 : Array CpInfo := pool [(1, .class_ 2), (0, u "java/lang/Comparable"), (0, .class_ 4), (0, u "java/lang/Object")] 7

/-- java/lang/Comparable -/
def k3 : Class := { plain "java/lang/Comparable" (some 0) with
  accessFlags := 1537
  interfaces := #[]
  cf := some (fileOf pool3 1 #[] #[] 1537 3 #[] #[])
  fields := #[]
  methods := #[]
  instanceTypes := #[]
  staticTypes := #[]
  resolved := Array.replicate 12 none
  statics := none }

def pool4 : Array CpInfo := pool [(1, .class_ 2), (0, u "java/io/Serializable"), (0, .class_ 4), (0, u "java/lang/Object")] 2

/-- java/io/Serializable -/
def k4 : Class := { plain "java/io/Serializable" (some 0) with
  accessFlags := 1537
  interfaces := #[]
  cf := some (fileOf pool4 1 #[] #[] 1537 3 #[] #[])
  fields := #[]
  methods := #[]
  instanceTypes := #[]
  staticTypes := #[]
  resolved := Array.replicate 7 none
  statics := none }

def pool5 : Array CpInfo := pool [(2, .class_ 4), (1, u "java/lang/Enum"), (0, u "name"), (0, u "Ljava/lang/String;"), (2, u "ordinal"), (0, u "I"), (1, .class_ 14), (1, u "java/lang/Object"), (4, u "hash"), (86, .class_ 108), (1, u "java/lang/Enum$EnumDesc"), (2, .class_ 112), (0, u "java/lang/constant/Constable"), (0, .class_ 114), (0, u "java/lang/Comparable"), (0, .class_ 116), (0, u "java/io/Serializable")] 87

/-- java/lang/Enum -/
def k5 : Class := { plain "java/lang/Enum" (some 0) with
  accessFlags := 1057
  interfaces := #[2, 3, 4]
  cf := some (fileOf pool5 2 #[.nestMembers #[106]] #[] 1057 12 #[111, 113, 115] #[{ accessFlags := 18, nameIndex := 5, descriptorIndex := 6, attributes := #[] }, { accessFlags := 18, nameIndex := 9, descriptorIndex := 10, attributes := #[] }, { accessFlags := 2, nameIndex := 19, descriptorIndex := 10, attributes := #[] }])
  fields := #[{ name := "name", type := (.object "java/lang/String"), accessFlags := 18, slot := 0, constantValue := 0 }, { name := "ordinal", type := .int, accessFlags := 18, slot := 1, constantValue := 0 }, { name := "hash", type := .int, accessFlags := 2, slot := 2, constantValue := 0 }]
  methods := #[]
  instanceTypes := #[(.object "java/lang/String"), .int, .int]
  staticTypes := #[]
  resolved := Array.replicate 204 none
  statics := none }

def pool6 : Array CpInfo := pool [(1, .class_ 2), (0, u "com/example/lease/lease/Role"), (2, u "PRODUCER"), (0, u "Lcom/example/lease/lease/Role;"), (2, u "WORKER"), (2, u "OPERATOR"), (2, u "ADMIN"), (0, .fieldref 1 17), (0, .nameAndType 18 19), (0, u "$VALUES"), (0, u "[Lcom/example/lease/lease/Role;"), (0, .methodref 21 22), (0, .class_ 19), (0, .nameAndType 23 24), (0, u "clone"), (0, u "()Ljava/lang/Object;"), (1, .class_ 28), (1, u "java/lang/Enum"), (17, .class_ 48), (1, u "java/lang/String"), (2, .fieldref 1 52), (0, .nameAndType 53 54), (0, u "shown"), (0, u "Ljava/lang/String;"), (0, .methodref 1 56), (0, .nameAndType 57 58), (0, u "values"), (0, u "()[Lcom/example/lease/lease/Role;"), (0, .methodref 46 60), (0, .nameAndType 61 62), (0, u "equals"), (0, u "(Ljava/lang/Object;)Z"), (10, u "(Ljava/lang/String;)Lcom/example/lease/lease/Role;"), (3, u "named")] 5

def k6c0 : Code := { maxStack := 1, maxLocals := 0, code := prog_7_method_1_code, exceptionTable := #[], attributes := #[] }
def k6m0 : Method := { name := "values", desc := "()[Lcom/example/lease/lease/Role;", sig := { parameters := [], returnType := some (.array (.object "com/example/lease/lease/Role")) }, accessFlags := 9, code := some k6c0 }
def k6c1 : Code := { maxStack := 2, maxLocals := 6, code := prog_7_method_5_code, exceptionTable := #[], attributes := #[] }
def k6m1 : Method := { name := "named", desc := "(Ljava/lang/String;)Lcom/example/lease/lease/Role;", sig := { parameters := [(.object "java/lang/String")], returnType := some (.object "com/example/lease/lease/Role") }, accessFlags := 8, code := some k6c1 }
/-- com/example/lease/lease/Role -/
def k6 : Class := { plain "com/example/lease/lease/Role" (some 5) with
  accessFlags := 16432
  interfaces := #[]
  cf := some (fileOf pool6 1 #[] #[{ accessFlags := 9, nameIndex := 57, descriptorIndex := 58, attributes := #[] }, { accessFlags := 8, nameIndex := 77, descriptorIndex := 73, attributes := #[] }] 16432 26 #[] #[{ accessFlags := 16409, nameIndex := 5, descriptorIndex := 6, attributes := #[] }, { accessFlags := 16409, nameIndex := 9, descriptorIndex := 6, attributes := #[] }, { accessFlags := 16409, nameIndex := 12, descriptorIndex := 6, attributes := #[] }, { accessFlags := 16409, nameIndex := 15, descriptorIndex := 6, attributes := #[] }, { accessFlags := 18, nameIndex := 53, descriptorIndex := 54, attributes := #[] }, { accessFlags := 4122, nameIndex := 18, descriptorIndex := 19, attributes := #[] }])
  fields := #[{ name := "PRODUCER", type := (.object "com/example/lease/lease/Role"), accessFlags := 16409, slot := 0, constantValue := 0 }, { name := "WORKER", type := (.object "com/example/lease/lease/Role"), accessFlags := 16409, slot := 1, constantValue := 0 }, { name := "OPERATOR", type := (.object "com/example/lease/lease/Role"), accessFlags := 16409, slot := 2, constantValue := 0 }, { name := "ADMIN", type := (.object "com/example/lease/lease/Role"), accessFlags := 16409, slot := 3, constantValue := 0 }, { name := "shown", type := (.object "java/lang/String"), accessFlags := 18, slot := 3, constantValue := 0 }, { name := "$VALUES", type := (.array (.object "com/example/lease/lease/Role")), accessFlags := 4122, slot := 4, constantValue := 0 }]
  methods := #[k6m0, k6m1]
  instanceTypes := #[(.object "java/lang/String"), .int, .int, (.object "java/lang/String")]
  staticTypes := #[(.object "com/example/lease/lease/Role"), (.object "com/example/lease/lease/Role"), (.object "com/example/lease/lease/Role"), (.object "com/example/lease/lease/Role"), (.array (.object "com/example/lease/lease/Role"))]
  resolved := Array.replicate 83 none
  statics := some 0 }

def pool7 : Array CpInfo := pool [(2, .class_ 4), (1, u "java/lang/CharSequence"), (42, .class_ 48), (0, u "java/lang/CharSequence$1CodePointIterator"), (10, .class_ 60), (0, u "java/lang/CharSequence$1CharIterator"), (5, .class_ 67), (0, u "java/lang/Object")] 63

/-- java/lang/CharSequence -/
def k7 : Class := { plain "java/lang/CharSequence" (some 0) with
  accessFlags := 1537
  interfaces := #[]
  cf := some (fileOf pool7 2 #[.nestMembers #[47, 59]] #[] 1537 66 #[] #[])
  fields := #[]
  methods := #[]
  instanceTypes := #[]
  staticTypes := #[]
  resolved := Array.replicate 131 none
  statics := none }

def pool8 : Array CpInfo := pool [(1, .class_ 2), (0, u "java/lang/constant/ConstantDesc"), (0, .class_ 4), (0, u "java/lang/Object")] 32

/-- java/lang/constant/ConstantDesc -/
def k8 : Class := { plain "java/lang/constant/ConstantDesc" (some 0) with
  accessFlags := 1537
  interfaces := #[]
  cf := some (fileOf pool8 1 #[] #[] 1537 3 #[] #[])
  fields := #[]
  methods := #[]
  instanceTypes := #[]
  staticTypes := #[]
  resolved := Array.replicate 37 none
  statics := none }

def pool9 : Array CpInfo := pool [(1, .methodref 2 3), (0, .class_ 4), (0, .nameAndType 5 6), (0, u "java/lang/Object"), (0, u "<init>"), (0, u "()V"), (0, .string 8), (0, u ""), (0, .fieldref 10 11), (0, .class_ 12), (0, .nameAndType 13 14), (0, u "java/lang/String"), (0, u "value"), (0, u "[B"), (0, .fieldref 10 16), (0, .nameAndType 17 18), (0, u "coder"), (0, u "B"), (2, u "hash"), (0, u "I"), (2, u "hashIsZero"), (0, u "Z"), (0, .methodref 10 28), (0, .nameAndType 5 29), (0, u "([CIILjava/lang/Void;)V"), (8, .fieldref 10 39), (0, .nameAndType 40 26), (0, u "COMPACT_STRINGS"), (1, .class_ 44), (1, u "java/lang/StringUTF16"), (0, u "compress"), (1, .methodref 42 48), (0, .nameAndType 49 50), (0, u "coderFromArrayLen"), (0, u "([BI)B"), (56, .class_ 109), (1, u "java/lang/StringLatin1"), (67, .methodref 42 178), (0, .nameAndType 45 179), (0, u "([CII)[B"), (361, .methodref 107 542), (0, .nameAndType 543 544), (0, u "equals"), (0, u "([B[B)Z"), (28, u "(Ljava/lang/Object;)Z"), (1, .class_ 576), (0, u "java/lang/CharSequence"), (22, u "CASE_INSENSITIVE_ORDER"), (0, u "Ljava/util/Comparator;"), (409, u "([C)V"), (90, u "serialPersistentFields"), (0, u "[Ljava/io/ObjectStreamField;"), (0, .class_ 1104), (0, u "java/lang/String$CaseInsensitiveComparator"), (1, .class_ 1107), (0, u "java/io/Serializable"), (0, .class_ 1109), (0, u "java/lang/Comparable"), (0, .class_ 1111), (0, u "java/lang/constant/Constable"), (0, .class_ 1113), (0, u "java/lang/constant/ConstantDesc"), (2, u "serialVersionUID"), (0, u "J"), (3, u "REPL"), (0, u "C"), (2, u "LATIN1"), (1, u "UTF16")] 323

def k9m0 : Method := { name := "<init>", desc := "()V", sig := { parameters := [], returnType := none }, accessFlags := 1, code := none }
def k9c1 : Code := { maxStack := 5, maxLocals := 2, code := jdk_42_method_3_code, exceptionTable := #[], attributes := #[] }
def k9m1 : Method := { name := "<init>", desc := "([C)V", sig := { parameters := [(.array .char)], returnType := none }, accessFlags := 1, code := some k9c1 }
def k9c2 : Code := { maxStack := 2, maxLocals := 3, code := jdk_42_method_66_code, exceptionTable := #[], attributes := #[] }
def k9m2 : Method := { name := "equals", desc := "(Ljava/lang/Object;)Z", sig := { parameters := [(.object "java/lang/Object")], returnType := some .boolean }, accessFlags := 1, code := some k9c2 }
def k9c3 : Code := { maxStack := 4, maxLocals := 6, code := jdk_42_method_149_code, exceptionTable := #[], attributes := #[] }
def k9m3 : Method := { name := "<init>", desc := "([CIILjava/lang/Void;)V", sig := { parameters := [(.array .char), .int, .int, (.object "java/lang/Void")], returnType := none }, accessFlags := 2, code := some k9c3 }
/-- java/lang/String -/
def k9 : Class := { plain "java/lang/String" (some 0) with
  accessFlags := 49
  interfaces := #[4, 3, 7, 2, 8]
  cf := some (fileOf pool9 10 #[.nestMembers #[1103]] #[{ accessFlags := 1, nameIndex := 5, descriptorIndex := 6, attributes := #[] }, { accessFlags := 1, nameIndex := 5, descriptorIndex := 1010, attributes := #[] }, { accessFlags := 1, nameIndex := 543, descriptorIndex := 573, attributes := #[] }, { accessFlags := 2, nameIndex := 5, descriptorIndex := 29, attributes := #[] }] 49 2 #[1106, 1108, 575, 1110, 1112] #[{ accessFlags := 18, nameIndex := 13, descriptorIndex := 14, attributes := #[] }, { accessFlags := 18, nameIndex := 17, descriptorIndex := 18, attributes := #[] }, { accessFlags := 2, nameIndex := 21, descriptorIndex := 22, attributes := #[] }, { accessFlags := 2, nameIndex := 25, descriptorIndex := 26, attributes := #[] }, { accessFlags := 26, nameIndex := 1116, descriptorIndex := 1117, attributes := #[] }, { accessFlags := 24, nameIndex := 40, descriptorIndex := 26, attributes := #[] }, { accessFlags := 26, nameIndex := 1101, descriptorIndex := 1102, attributes := #[] }, { accessFlags := 26, nameIndex := 1121, descriptorIndex := 1122, attributes := #[] }, { accessFlags := 25, nameIndex := 599, descriptorIndex := 600, attributes := #[] }, { accessFlags := 24, nameIndex := 1125, descriptorIndex := 18, attributes := #[] }, { accessFlags := 24, nameIndex := 1127, descriptorIndex := 18, attributes := #[] }])
  fields := #[{ name := "value", type := (.array .byte), accessFlags := 18, slot := 0, constantValue := 0 }, { name := "coder", type := .byte, accessFlags := 18, slot := 1, constantValue := 0 }, { name := "hash", type := .int, accessFlags := 2, slot := 2, constantValue := 0 }, { name := "hashIsZero", type := .boolean, accessFlags := 2, slot := 3, constantValue := 0 }, { name := "serialVersionUID", type := .long, accessFlags := 26, slot := 0, constantValue := 0 }, { name := "COMPACT_STRINGS", type := .boolean, accessFlags := 24, slot := 1, constantValue := 0 }, { name := "serialPersistentFields", type := (.array (.object "java/io/ObjectStreamField")), accessFlags := 26, slot := 2, constantValue := 0 }, { name := "REPL", type := .char, accessFlags := 26, slot := 3, constantValue := 0 }, { name := "CASE_INSENSITIVE_ORDER", type := (.object "java/util/Comparator"), accessFlags := 25, slot := 4, constantValue := 0 }, { name := "LATIN1", type := .byte, accessFlags := 24, slot := 5, constantValue := 0 }, { name := "UTF16", type := .byte, accessFlags := 24, slot := 6, constantValue := 0 }]
  methods := #[k9m0, k9m1, k9m2, k9m3]
  instanceTypes := #[(.array .byte), .byte, .int, .boolean]
  staticTypes := #[.long, .boolean, (.array (.object "java/io/ObjectStreamField")), .char, (.object "java/util/Comparator"), .byte, .byte]
  resolved := Array.replicate 1451 none
  statics := some 1 }

def pool10 : Array CpInfo := pool [(6, .class_ 8), (1, u "java/lang/Object"), (0, u "<init>"), (0, u "()V"), (1, .class_ 14), (1, u "java/lang/StringUTF16"), (31, u "$assertionsDisabled"), (0, u "Z"), (13, u "HI_BYTE_SHIFT"), (0, u "I"), (2, u "LO_BYTE_SHIFT"), (49, .methodref 12 116), (0, .nameAndType 117 118), (0, u "compress"), (0, u "([CI[BII)I"), (3, u "([CII)[B"), (138, u "coderFromArrayLen"), (0, u "([BI)B"), (106, .class_ 371), (1, u "java/lang/StringUTF16$LinesSpliterator"), (58, u "MAX_LENGTH"), (196, .class_ 628), (0, u "java/lang/StringUTF16$CodePointsSpliterator"), (0, .class_ 630), (0, u "java/lang/StringUTF16$CharsSpliterator")] 4

def k10m0 : Method := { name := "<init>", desc := "()V", sig := { parameters := [], returnType := none }, accessFlags := 0, code := none }
def k10c1 : Code := { maxStack := 2, maxLocals := 2, code := jdk_52_method_15_code, exceptionTable := #[], attributes := #[] }
def k10m1 : Method := { name := "coderFromArrayLen", desc := "([BI)B", sig := { parameters := [(.array .byte), .int], returnType := some .byte }, accessFlags := 8, code := some k10c1 }
def k10c2 : Code := { maxStack := 5, maxLocals := 6, code := jdk_52_method_16_code, exceptionTable := #[], attributes := #[] }
def k10m2 : Method := { name := "compress", desc := "([CII)[B", sig := { parameters := [(.array .char), .int, .int], returnType := some (.array .byte) }, accessFlags := 9, code := some k10c2 }
def k10c3 : Code := { maxStack := 3, maxLocals := 7, code := jdk_52_method_21_code, exceptionTable := #[], attributes := #[] }
def k10m3 : Method := { name := "compress", desc := "([CI[BII)I", sig := { parameters := [(.array .char), .int, (.array .byte), .int, .int], returnType := some .int }, accessFlags := 9, code := some k10c3 }
/-- java/lang/StringUTF16 -/
def k10 : Class := { plain "java/lang/StringUTF16" (some 0) with
  accessFlags := 48
  interfaces := #[]
  cf := some (fileOf pool10 12 #[.nestMembers #[627, 629, 369]] #[{ accessFlags := 0, nameIndex := 9, descriptorIndex := 10, attributes := #[] }, { accessFlags := 8, nameIndex := 261, descriptorIndex := 262, attributes := #[] }, { accessFlags := 9, nameIndex := 117, descriptorIndex := 122, attributes := #[] }, { accessFlags := 9, nameIndex := 117, descriptorIndex := 118, attributes := #[] }] 48 6 #[] #[{ accessFlags := 26, nameIndex := 61, descriptorIndex := 62, attributes := #[] }, { accessFlags := 26, nameIndex := 65, descriptorIndex := 62, attributes := #[] }, { accessFlags := 24, nameIndex := 430, descriptorIndex := 62, attributes := #[] }, { accessFlags := 4120, nameIndex := 46, descriptorIndex := 47, attributes := #[] }])
  fields := #[{ name := "HI_BYTE_SHIFT", type := .int, accessFlags := 26, slot := 0, constantValue := 0 }, { name := "LO_BYTE_SHIFT", type := .int, accessFlags := 26, slot := 1, constantValue := 0 }, { name := "MAX_LENGTH", type := .int, accessFlags := 24, slot := 2, constantValue := 0 }, { name := "$assertionsDisabled", type := .boolean, accessFlags := 4120, slot := 3, constantValue := 0 }]
  methods := #[k10m0, k10m1, k10m2, k10m3]
  instanceTypes := #[]
  staticTypes := #[.int, .int, .int, .boolean]
  resolved := Array.replicate 635 none
  statics := none }

def pool11 : Array CpInfo := pool [(1, .class_ 2), (0, u "java/lang/Cloneable"), (0, .class_ 4), (0, u "java/lang/Object")] 2

/-- java/lang/Cloneable -/
def k11 : Class := { plain "java/lang/Cloneable" (some 0) with
  accessFlags := 1537
  interfaces := #[]
  cf := some (fileOf pool11 1 #[] #[] 1537 3 #[] #[])
  fields := #[]
  methods := #[]
  instanceTypes := #[]
  staticTypes := #[]
  resolved := Array.replicate 7 none
  statics := none }

def pool12 : Array CpInfo := pool [(4, .class_ 6), (1, u "java/lang/Object"), (0, u "<init>"), (0, u "()V"), (5, .class_ 16), (1, u "java/lang/StringLatin1"), (104, u "$assertionsDisabled"), (0, u "Z"), (98, .class_ 223), (1, u "java/lang/StringLatin1$LinesSpliterator"), (57, u "equals"), (0, u "([B[B)Z"), (107, .class_ 391), (0, u "java/lang/StringLatin1$CharsSpliterator")] 3

def k12m0 : Method := { name := "<init>", desc := "()V", sig := { parameters := [], returnType := none }, accessFlags := 0, code := none }
def k12c1 : Code := { maxStack := 3, maxLocals := 3, code := jdk_43_method_13_code, exceptionTable := #[], attributes := #[] }
def k12m1 : Method := { name := "equals", desc := "([B[B)Z", sig := { parameters := [(.array .byte), (.array .byte)], returnType := some .boolean }, accessFlags := 9, code := some k12c1 }
/-- java/lang/StringLatin1 -/
def k12 : Class := { plain "java/lang/StringLatin1" (some 0) with
  accessFlags := 48
  interfaces := #[]
  cf := some (fileOf pool12 14 #[.nestMembers #[390, 221]] #[{ accessFlags := 0, nameIndex := 7, descriptorIndex := 8, attributes := #[] }, { accessFlags := 9, nameIndex := 281, descriptorIndex := 282, attributes := #[] }] 48 4 #[] #[{ accessFlags := 4120, nameIndex := 121, descriptorIndex := 122, attributes := #[] }])
  fields := #[{ name := "$assertionsDisabled", type := .boolean, accessFlags := 4120, slot := 0, constantValue := 0 }]
  methods := #[k12m0, k12m1]
  instanceTypes := #[]
  staticTypes := #[.boolean]
  resolved := Array.replicate 395 none
  statics := none }

def pool13 : Array CpInfo := pool [(2, .class_ 4), (1, u "java/lang/Object"), (0, u "<init>"), (0, u "()V"), (17, .class_ 26), (1, u "jdk/internal/util/Preconditions"), (28, .class_ 56), (0, u "jdk/internal/util/Preconditions$4"), (57, .class_ 115), (0, u "jdk/internal/util/Preconditions$1"), (7, u "SIOOBE_FORMATTER"), (0, u "Ljava/util/function/BiFunction;"), (0, .class_ 126), (0, u "jdk/internal/util/Preconditions$2"), (3, u "AIOOBE_FORMATTER"), (0, .class_ 132), (0, u "jdk/internal/util/Preconditions$3"), (3, u "IOOBE_FORMATTER")] 57

def k13m0 : Method := { name := "<init>", desc := "()V", sig := { parameters := [], returnType := none }, accessFlags := 1, code := none }
/-- jdk/internal/util/Preconditions -/
def k13 : Class := { plain "jdk/internal/util/Preconditions" (some 0) with
  accessFlags := 33
  interfaces := #[]
  cf := some (fileOf pool13 24 #[.nestMembers #[55, 131, 125, 114]] #[{ accessFlags := 1, nameIndex := 5, descriptorIndex := 6, attributes := #[] }] 33 2 #[] #[{ accessFlags := 25, nameIndex := 123, descriptorIndex := 124, attributes := #[] }, { accessFlags := 25, nameIndex := 130, descriptorIndex := 124, attributes := #[] }, { accessFlags := 25, nameIndex := 136, descriptorIndex := 124, attributes := #[] }])
  fields := #[{ name := "SIOOBE_FORMATTER", type := (.object "java/util/function/BiFunction"), accessFlags := 25, slot := 0, constantValue := 0 }, { name := "AIOOBE_FORMATTER", type := (.object "java/util/function/BiFunction"), accessFlags := 25, slot := 1, constantValue := 0 }, { name := "IOOBE_FORMATTER", type := (.object "java/util/function/BiFunction"), accessFlags := 25, slot := 2, constantValue := 0 }]
  methods := #[k13m0]
  instanceTypes := #[]
  staticTypes := #[(.object "java/util/function/BiFunction"), (.object "java/util/function/BiFunction"), (.object "java/util/function/BiFunction")]
  resolved := Array.replicate 194 none
  statics := some 2 }

def pool14 : Array CpInfo := pool [(9, u "<init>"), (6, .class_ 18), (1, u "java/lang/Object"), (0, u "()V"), (1, .class_ 23), (1, u "jdk/internal/util/ArraysSupport"), (0, u "LOG2_ARRAY_LONG_INDEX_SCALE"), (0, u "I"), (2, u "U"), (0, u "Ljdk/internal/misc/Unsafe;"), (8, u "BIG_ENDIAN"), (0, u "Z"), (8, u "LOG2_BYTE_BIT_SIZE"), (4, u "LOG2_ARRAY_INT_INDEX_SCALE"), (54, u "JLA"), (0, u "Ljdk/internal/access/JavaLangAccess;"), (11, u "LOG2_ARRAY_BOOLEAN_INDEX_SCALE"), (9, u "LOG2_ARRAY_BYTE_INDEX_SCALE"), (5, u "LOG2_ARRAY_CHAR_INDEX_SCALE"), (5, u "LOG2_ARRAY_SHORT_INDEX_SCALE"), (18, u "LOG2_ARRAY_FLOAT_INDEX_SCALE"), (24, u "LOG2_ARRAY_DOUBLE_INDEX_SCALE"), (89, u "T_BOOLEAN"), (2, u "T_CHAR"), (1, u "T_FLOAT"), (1, u "T_DOUBLE"), (1, u "T_BYTE"), (1, u "T_SHORT"), (1, u "T_INT"), (1, u "T_LONG"), (1, u "SOFT_MAX_ARRAY_LENGTH")] 83

def k14m0 : Method := { name := "<init>", desc := "()V", sig := { parameters := [], returnType := none }, accessFlags := 2, code := none }
/-- jdk/internal/util/ArraysSupport -/
def k14 : Class := { plain "jdk/internal/util/ArraysSupport" (some 0) with
  accessFlags := 33
  interfaces := #[]
  cf := some (fileOf pool14 21 #[] #[{ accessFlags := 2, nameIndex := 9, descriptorIndex := 19, attributes := #[] }] 33 16 #[] #[{ accessFlags := 24, nameIndex := 28, descriptorIndex := 29, attributes := #[] }, { accessFlags := 26, nameIndex := 38, descriptorIndex := 39, attributes := #[] }, { accessFlags := 25, nameIndex := 121, descriptorIndex := 25, attributes := #[] }, { accessFlags := 25, nameIndex := 131, descriptorIndex := 25, attributes := #[] }, { accessFlags := 25, nameIndex := 137, descriptorIndex := 25, attributes := #[] }, { accessFlags := 25, nameIndex := 143, descriptorIndex := 25, attributes := #[] }, { accessFlags := 25, nameIndex := 53, descriptorIndex := 25, attributes := #[] }, { accessFlags := 25, nameIndex := 24, descriptorIndex := 25, attributes := #[] }, { accessFlags := 25, nameIndex := 162, descriptorIndex := 25, attributes := #[] }, { accessFlags := 25, nameIndex := 187, descriptorIndex := 25, attributes := #[] }, { accessFlags := 26, nameIndex := 48, descriptorIndex := 25, attributes := #[] }, { accessFlags := 25, nameIndex := 277, descriptorIndex := 25, attributes := #[] }, { accessFlags := 25, nameIndex := 280, descriptorIndex := 25, attributes := #[] }, { accessFlags := 25, nameIndex := 282, descriptorIndex := 25, attributes := #[] }, { accessFlags := 25, nameIndex := 284, descriptorIndex := 25, attributes := #[] }, { accessFlags := 25, nameIndex := 286, descriptorIndex := 25, attributes := #[] }, { accessFlags := 25, nameIndex := 288, descriptorIndex := 25, attributes := #[] }, { accessFlags := 25, nameIndex := 290, descriptorIndex := 25, attributes := #[] }, { accessFlags := 25, nameIndex := 292, descriptorIndex := 25, attributes := #[] }, { accessFlags := 26, nameIndex := 108, descriptorIndex := 109, attributes := #[] }, { accessFlags := 25, nameIndex := 294, descriptorIndex := 25, attributes := #[] }])
  fields := #[{ name := "U", type := (.object "jdk/internal/misc/Unsafe"), accessFlags := 24, slot := 0, constantValue := 0 }, { name := "BIG_ENDIAN", type := .boolean, accessFlags := 26, slot := 1, constantValue := 0 }, { name := "LOG2_ARRAY_BOOLEAN_INDEX_SCALE", type := .int, accessFlags := 25, slot := 2, constantValue := 0 }, { name := "LOG2_ARRAY_BYTE_INDEX_SCALE", type := .int, accessFlags := 25, slot := 3, constantValue := 0 }, { name := "LOG2_ARRAY_CHAR_INDEX_SCALE", type := .int, accessFlags := 25, slot := 4, constantValue := 0 }, { name := "LOG2_ARRAY_SHORT_INDEX_SCALE", type := .int, accessFlags := 25, slot := 5, constantValue := 0 }, { name := "LOG2_ARRAY_INT_INDEX_SCALE", type := .int, accessFlags := 25, slot := 6, constantValue := 0 }, { name := "LOG2_ARRAY_LONG_INDEX_SCALE", type := .int, accessFlags := 25, slot := 7, constantValue := 0 }, { name := "LOG2_ARRAY_FLOAT_INDEX_SCALE", type := .int, accessFlags := 25, slot := 8, constantValue := 0 }, { name := "LOG2_ARRAY_DOUBLE_INDEX_SCALE", type := .int, accessFlags := 25, slot := 9, constantValue := 0 }, { name := "LOG2_BYTE_BIT_SIZE", type := .int, accessFlags := 26, slot := 10, constantValue := 0 }, { name := "T_BOOLEAN", type := .int, accessFlags := 25, slot := 11, constantValue := 0 }, { name := "T_CHAR", type := .int, accessFlags := 25, slot := 12, constantValue := 0 }, { name := "T_FLOAT", type := .int, accessFlags := 25, slot := 13, constantValue := 0 }, { name := "T_DOUBLE", type := .int, accessFlags := 25, slot := 14, constantValue := 0 }, { name := "T_BYTE", type := .int, accessFlags := 25, slot := 15, constantValue := 0 }, { name := "T_SHORT", type := .int, accessFlags := 25, slot := 16, constantValue := 0 }, { name := "T_INT", type := .int, accessFlags := 25, slot := 17, constantValue := 0 }, { name := "T_LONG", type := .int, accessFlags := 25, slot := 18, constantValue := 0 }, { name := "JLA", type := (.object "jdk/internal/access/JavaLangAccess"), accessFlags := 26, slot := 19, constantValue := 0 }, { name := "SOFT_MAX_ARRAY_LENGTH", type := .int, accessFlags := 25, slot := 20, constantValue := 0 }]
  methods := #[k14m0]
  instanceTypes := #[]
  staticTypes := #[(.object "jdk/internal/misc/Unsafe"), .boolean, .int, .int, .int, .int, .int, .int, .int, .int, .int, .int, .int, .int, .int, .int, .int, .int, .int, (.object "jdk/internal/access/JavaLangAccess"), .int]
  resolved := Array.replicate 378 none
  statics := none }

/-- the primitive byte -/
def k15 : Class := { plain "byte" none with kind := .primitive 'B', accessFlags := 0x411 }
/-- [B -/
def k16 : Class := { plain "[B" (some 0) with kind := .array 15 .byte, interfaces := #[11, 4], accessFlags := 1041 }

/-- the primitive char -/
def k17 : Class := { plain "char" none with kind := .primitive 'C', accessFlags := 0x411 }
/-- [C -/
def k18 : Class := { plain "[C" (some 0) with kind := .array 17 .char, interfaces := #[11, 4], accessFlags := 1041 }

/-- the primitive int -/
def k19 : Class := { plain "int" none with kind := .primitive 'I', accessFlags := 0x411 }
/-- [I -/
def k20 : Class := { plain "[I" (some 0) with kind := .array 19 .int, interfaces := #[11, 4], accessFlags := 1041 }

/-- [Lcom/example/lease/lease/Role; -/
def k21 : Class := { plain "[Lcom/example/lease/lease/Role;" (some 0) with kind := .array 6 (.object "com/example/lease/lease/Role"), interfaces := #[11, 4], accessFlags := 1041 }

def heap : Heap := #[{ cls := 6, slots := #[.ref 3, .ref 5, .ref 6, .ref 7, .ref 4], vm := .statics 6 },
  { cls := 9, slots := #[.long 0, .int 1, .null, .int 0, .null, .int 0, .int 0], vm := .statics 9 },
  { cls := 13, slots := #[.null, .null, .null], vm := .statics 13 },
  { cls := 6, slots := #[.null, .int 0, .int 0, .ref 8], vm := .none },
  { cls := 21, slots := #[.ref 3, .ref 5, .ref 6, .ref 7], vm := .none },
  { cls := 6, slots := #[.null, .int 0, .int 0, .ref 9], vm := .none },
  { cls := 6, slots := #[.null, .int 0, .int 0, .ref 10], vm := .none },
  { cls := 6, slots := #[.null, .int 0, .int 0, .ref 11], vm := .none },
  { cls := 9, slots := #[.ref 12, .int 0, .int 0, .int 0], vm := .none },
  { cls := 9, slots := #[.ref 13, .int 0, .int 0, .int 0], vm := .none },
  { cls := 9, slots := #[.ref 14, .int 0, .int 0, .int 0], vm := .none },
  { cls := 9, slots := #[.ref 15, .int 0, .int 0, .int 0], vm := .none },
  { cls := 16, slots := #[.int 112, .int 114, .int 111, .int 100, .int 117, .int 99, .int 101, .int 114], vm := .none },
  { cls := 16, slots := #[.int 119, .int 111, .int 114, .int 107, .int 101, .int 114], vm := .none },
  { cls := 16, slots := #[.int 111, .int 112, .int 101, .int 114, .int 97, .int 116, .int 111, .int 114], vm := .none },
  { cls := 16, slots := #[.int 97, .int 100, .int 109, .int 105, .int 110], vm := .none }]
def classes : Array Class := #[k0, k1, k2, k3, k4, k5, k6, k7, k8, k9, k10, k11, k12, k13, k14, k15, k16, k17, k18, k19, k20, k21]
def interned : List (Array UInt16 × Addr) := []
def slotsUsed : Nat := 78
def theMethod : MethodId := ⟨1, 3⟩
def args0 : Array Value := #[.int 5, .int 5, .int 5, .int 5]
def aboutOver (below : List Frame) : State where
  vm := { classes := classes, interned := interned.toArray }
  heap := heap
  slotsUsed := slotsUsed
  threads := #[{ frames := .invoking theMethod args0 :: below }]
def below0 : List Frame := [.native { method := ⟨0, 0⟩, args := #[] }]
def about1 : State := aboutOver below0
def p0 : Program := .bare "" "" ""
def e0 : Env := launch0.env 0 0 0
theorem w_frames : about1.frames = Frame.invoking theMethod args0 :: below0 := rfl
set_option maxRecDepth 65536 in
theorem w_args : argsFit about1.vm theMethod args0 = true := by decide +kernel
set_option maxRecDepth 65536 in
theorem w_heap : heapFits about1 = true := by decide +kernel
set_option maxRecDepth 65536 in
theorem w_runnable : about1.curStatus? = some .runnable := by decide +kernel
set_option maxRecDepth 65536 in
theorem w_alone : about1.alone = true := by decide +kernel
set_option maxRecDepth 65536 in
theorem w_named : about1.methodNamed? x = some theMethod := by decide +kernel
set_option maxRecDepth 65536 in
theorem w_hears : about1.hears theMethod below0 = true := by decide +kernel
set_option maxRecDepth 65536 in
theorem w_ripe : about1.ripe theMethod args0 below0 = true := by decide +kernel
theorem w_running : about1.status = .running := rfl
set_option maxRecDepth 65536 in
theorem w_room : about1.hasRoom e0.platform room_1 = true :=
  launch0.hasRoom_least _ room_1 (by decide +kernel) (by decide +kernel) (by decide +kernel) (by decide +kernel) (by decide +kernel) (by decide +kernel)
theorem allAtoms_all (ts : List Jvm.Cond) (a : Array Jvm.Value) (st : Jvm.State) : (allAtoms ts).before a st = ts.all (fun c => c.before a st) := by
  induction ts with
  | nil => rfl
  | cons c t ih =>
    show (Jvm.Cond.and c (allAtoms t)).before a st = _
    rw [Jvm.Cond.before_and, ih, List.all_cons]
def words1 : List Jvm.Cond := Jvm.Cond.code x code maxLocals ret :: tables_1
/-- a 'code' word, met by the world's own term for the bytes: nothing is compared byte by byte -/
theorem code_word {y : MethodName} {bytes : ByteArray} {mx : Nat} {rt : Option FieldType} {a : Array Value} {s : State} {m : MethodId} {meth : Method} {c : Code} (h1 : s.methodNamed? y = some m) (h2 : s.vm.method? m = some meth) (h3 : meth.code = some c) (h4 : c.code = bytes)
    (h5 : (c.maxLocals == mx && c.exceptionTable.isEmpty && decide (c.maxStack ≤ mostOperands) && decide (meth.sig.returnType = rt) && !meth.locks && decide (parseMethodDescriptor y.desc = some meth.sig)) = true) : (Jvm.Cond.code y bytes mx rt).before a s = true := by
  simp only [Bool.and_eq_true, beq_iff_eq, Bool.not_eq_true', decide_eq_true_eq] at h5
  obtain ⟨⟨⟨⟨⟨g1, g2⟩, g3⟩, g4⟩, g5⟩, g6⟩ := h5
  simp [Cond.before, Cond.holds, Cond.value, h1, h2, h3, h4, g1, g2, g3, g4, g5, g6]
def isCode : Jvm.Cond → Bool
  | .code _ _ _ _ => true
  | _ => false
theorem all_split {L : List Jvm.Cond} {P : Jvm.Cond → Bool} (h1 : L.all (fun c => isCode c || P c) = true) (h2 : ∀ c ∈ L.filter isCode, P c = true) : L.all P = true := by
  refine List.all_eq_true.mpr fun c hc => ?_
  have h := List.all_eq_true.mp h1 c hc
  rcases Bool.eq_false_or_eq_true (isCode c) with hi | hi
  · exact h2 c (List.mem_filter.mpr ⟨hc, hi⟩)
  · simpa [hi] using h
set_option maxRecDepth 65536 in
theorem w_c0 : (Jvm.Cond.code x code maxLocals ret).before args0 about1 = true := code_word (m := ⟨1, 3⟩) (meth := k1m3) (c := k1c3) (by decide +kernel) rfl rfl rfl (by decide +kernel)
set_option maxRecDepth 65536 in
theorem w_c1 : (Jvm.Cond.code ({ cls := "com/example/lease/lease/RoleNamedPinLaw", name := "role", desc := "(I)Lcom/example/lease/lease/Role;" } : Jvm.MethodName) method_2_code (1 : Nat) (Option.some (Jvm.ClassFile.FieldType.object "com/example/lease/lease/Role"))).before args0 about1 = true := code_word (m := ⟨1, 1⟩) (meth := k1m1) (c := k1c1) (by decide +kernel) rfl rfl rfl (by decide +kernel)
set_option maxRecDepth 65536 in
theorem w_c2 : (Jvm.Cond.code ({ cls := "com/example/lease/lease/RoleNamedPinLaw", name := "word", desc := "(I)[C" } : Jvm.MethodName) method_3_code (1 : Nat) (Option.some (Jvm.ClassFile.FieldType.array Jvm.ClassFile.FieldType.char))).before args0 about1 = true := code_word (m := ⟨1, 2⟩) (meth := k1m2) (c := k1c2) (by decide +kernel) rfl rfl rfl (by decide +kernel)
set_option maxRecDepth 65536 in
theorem w_c3 : (Jvm.Cond.code ({ cls := "java/lang/String", name := "<init>", desc := "([C)V" } : Jvm.MethodName) jdk_42_method_3_code (2 : Nat) (Option.none : Option Jvm.ClassFile.FieldType)).before args0 about1 = true := code_word (m := ⟨9, 1⟩) (meth := k9m1) (c := k9c1) (by decide +kernel) rfl rfl rfl (by decide +kernel)
set_option maxRecDepth 65536 in
theorem w_c4 : (Jvm.Cond.code ({ cls := "java/lang/String", name := "<init>", desc := "([CIILjava/lang/Void;)V" } : Jvm.MethodName) jdk_42_method_149_code (6 : Nat) (Option.none : Option Jvm.ClassFile.FieldType)).before args0 about1 = true := code_word (m := ⟨9, 3⟩) (meth := k9m3) (c := k9c3) (by decide +kernel) rfl rfl rfl (by decide +kernel)
set_option maxRecDepth 65536 in
theorem w_c5 : (Jvm.Cond.code ({ cls := "java/lang/Object", name := "<init>", desc := "()V" } : Jvm.MethodName) object_method_1_code (1 : Nat) (Option.none : Option Jvm.ClassFile.FieldType)).before args0 about1 = true := code_word (m := ⟨0, 0⟩) (meth := k0m0) (c := k0c0) (by decide +kernel) rfl rfl rfl (by decide +kernel)
set_option maxRecDepth 65536 in
theorem w_c6 : (Jvm.Cond.code ({ cls := "java/lang/StringUTF16", name := "compress", desc := "([CII)[B" } : Jvm.MethodName) jdk_52_method_16_code (6 : Nat) (Option.some (Jvm.ClassFile.FieldType.array Jvm.ClassFile.FieldType.byte))).before args0 about1 = true := code_word (m := ⟨10, 2⟩) (meth := k10m2) (c := k10c2) (by decide +kernel) rfl rfl rfl (by decide +kernel)
set_option maxRecDepth 65536 in
theorem w_c7 : (Jvm.Cond.code ({ cls := "java/lang/StringUTF16", name := "compress", desc := "([CI[BII)I" } : Jvm.MethodName) jdk_52_method_21_code (7 : Nat) (Option.some Jvm.ClassFile.FieldType.int)).before args0 about1 = true := code_word (m := ⟨10, 3⟩) (meth := k10m3) (c := k10c3) (by decide +kernel) rfl rfl rfl (by decide +kernel)
set_option maxRecDepth 65536 in
theorem w_c8 : (Jvm.Cond.code ({ cls := "java/lang/StringUTF16", name := "coderFromArrayLen", desc := "([BI)B" } : Jvm.MethodName) jdk_52_method_15_code (2 : Nat) (Option.some Jvm.ClassFile.FieldType.byte)).before args0 about1 = true := code_word (m := ⟨10, 1⟩) (meth := k10m1) (c := k10c1) (by decide +kernel) rfl rfl rfl (by decide +kernel)
set_option maxRecDepth 65536 in
theorem w_c9 : (Jvm.Cond.code ({ cls := "com/example/lease/lease/Role", name := "named", desc := "(Ljava/lang/String;)Lcom/example/lease/lease/Role;" } : Jvm.MethodName) prog_7_method_5_code (6 : Nat) (Option.some (Jvm.ClassFile.FieldType.object "com/example/lease/lease/Role"))).before args0 about1 = true := code_word (m := ⟨6, 1⟩) (meth := k6m1) (c := k6c1) (by decide +kernel) rfl rfl rfl (by decide +kernel)
set_option maxRecDepth 65536 in
theorem w_c10 : (Jvm.Cond.code ({ cls := "com/example/lease/lease/Role", name := "values", desc := "()[Lcom/example/lease/lease/Role;" } : Jvm.MethodName) prog_7_method_1_code (0 : Nat) (Option.some (Jvm.ClassFile.FieldType.array (Jvm.ClassFile.FieldType.object "com/example/lease/lease/Role")))).before args0 about1 = true := code_word (m := ⟨6, 0⟩) (meth := k6m0) (c := k6c0) (by decide +kernel) rfl rfl rfl (by decide +kernel)
set_option maxRecDepth 65536 in
theorem w_c11 : (Jvm.Cond.code ({ cls := "java/lang/String", name := "equals", desc := "(Ljava/lang/Object;)Z" } : Jvm.MethodName) jdk_42_method_66_code (3 : Nat) (Option.some Jvm.ClassFile.FieldType.boolean)).before args0 about1 = true := code_word (m := ⟨9, 2⟩) (meth := k9m2) (c := k9c2) (by decide +kernel) rfl rfl rfl (by decide +kernel)
set_option maxRecDepth 65536 in
theorem w_c12 : (Jvm.Cond.code ({ cls := "java/lang/StringLatin1", name := "equals", desc := "([B[B)Z" } : Jvm.MethodName) jdk_43_method_13_code (3 : Nat) (Option.some Jvm.ClassFile.FieldType.boolean)).before args0 about1 = true := code_word (m := ⟨12, 1⟩) (meth := k12m1) (c := k12c1) (by decide +kernel) rfl rfl rfl (by decide +kernel)
def codes1 : List Jvm.Cond := [Jvm.Cond.code x code maxLocals ret, Jvm.Cond.code ({ cls := "com/example/lease/lease/RoleNamedPinLaw", name := "role", desc := "(I)Lcom/example/lease/lease/Role;" } : Jvm.MethodName) method_2_code (1 : Nat) (Option.some (Jvm.ClassFile.FieldType.object "com/example/lease/lease/Role")), Jvm.Cond.code ({ cls := "com/example/lease/lease/RoleNamedPinLaw", name := "word", desc := "(I)[C" } : Jvm.MethodName) method_3_code (1 : Nat) (Option.some (Jvm.ClassFile.FieldType.array Jvm.ClassFile.FieldType.char)), Jvm.Cond.code ({ cls := "java/lang/String", name := "<init>", desc := "([C)V" } : Jvm.MethodName) jdk_42_method_3_code (2 : Nat) (Option.none : Option Jvm.ClassFile.FieldType), Jvm.Cond.code ({ cls := "java/lang/String", name := "<init>", desc := "([CIILjava/lang/Void;)V" } : Jvm.MethodName) jdk_42_method_149_code (6 : Nat) (Option.none : Option Jvm.ClassFile.FieldType), Jvm.Cond.code ({ cls := "java/lang/Object", name := "<init>", desc := "()V" } : Jvm.MethodName) object_method_1_code (1 : Nat) (Option.none : Option Jvm.ClassFile.FieldType), Jvm.Cond.code ({ cls := "java/lang/StringUTF16", name := "compress", desc := "([CII)[B" } : Jvm.MethodName) jdk_52_method_16_code (6 : Nat) (Option.some (Jvm.ClassFile.FieldType.array Jvm.ClassFile.FieldType.byte)), Jvm.Cond.code ({ cls := "java/lang/StringUTF16", name := "compress", desc := "([CI[BII)I" } : Jvm.MethodName) jdk_52_method_21_code (7 : Nat) (Option.some Jvm.ClassFile.FieldType.int), Jvm.Cond.code ({ cls := "java/lang/StringUTF16", name := "coderFromArrayLen", desc := "([BI)B" } : Jvm.MethodName) jdk_52_method_15_code (2 : Nat) (Option.some Jvm.ClassFile.FieldType.byte), Jvm.Cond.code ({ cls := "com/example/lease/lease/Role", name := "named", desc := "(Ljava/lang/String;)Lcom/example/lease/lease/Role;" } : Jvm.MethodName) prog_7_method_5_code (6 : Nat) (Option.some (Jvm.ClassFile.FieldType.object "com/example/lease/lease/Role")), Jvm.Cond.code ({ cls := "com/example/lease/lease/Role", name := "values", desc := "()[Lcom/example/lease/lease/Role;" } : Jvm.MethodName) prog_7_method_1_code (0 : Nat) (Option.some (Jvm.ClassFile.FieldType.array (Jvm.ClassFile.FieldType.object "com/example/lease/lease/Role"))), Jvm.Cond.code ({ cls := "java/lang/String", name := "equals", desc := "(Ljava/lang/Object;)Z" } : Jvm.MethodName) jdk_42_method_66_code (3 : Nat) (Option.some Jvm.ClassFile.FieldType.boolean), Jvm.Cond.code ({ cls := "java/lang/StringLatin1", name := "equals", desc := "([B[B)Z" } : Jvm.MethodName) jdk_43_method_13_code (3 : Nat) (Option.some Jvm.ClassFile.FieldType.boolean)]
set_option maxRecDepth 65536 in
theorem codes_eq : words1.filter isCode = codes1 := rfl
theorem w_codes : ∀ c ∈ words1.filter isCode, c.before args0 about1 = true := by
  rw [codes_eq]
  intro c hc
  simp only [codes1, List.mem_cons, List.not_mem_nil, or_false] at hc
  rcases hc with rfl | rfl | rfl | rfl | rfl | rfl | rfl | rfl | rfl | rfl | rfl | rfl | rfl
  · exact w_c0
  · exact w_c1
  · exact w_c2
  · exact w_c3
  · exact w_c4
  · exact w_c5
  · exact w_c6
  · exact w_c7
  · exact w_c8
  · exact w_c9
  · exact w_c10
  · exact w_c11
  · exact w_c12
set_option maxRecDepth 65536 in
theorem w_t1 : (words1.take 24).all (fun c => isCode c || c.before args0 about1) = true := by decide +kernel
set_option maxRecDepth 65536 in
theorem w_t2 : ((words1.drop 24).take 24).all (fun c => isCode c || c.before args0 about1) = true := by decide +kernel
set_option maxRecDepth 65536 in
theorem w_t3 : (((words1.drop 24).drop 24).take 24).all (fun c => isCode c || c.before args0 about1) = true := by decide +kernel
set_option maxRecDepth 65536 in
theorem w_t4 : (((words1.drop 24).drop 24).drop 24).all (fun c => isCode c || c.before args0 about1) = true := by decide +kernel
theorem w_tables : (allAtoms (Jvm.Cond.code x code maxLocals ret :: tables_1)).before args0 about1 = true := by
  rw [allAtoms_all]
  show words1.all (fun c => c.before args0 about1) = true
  refine all_split ?_ w_codes
  rw [← List.take_append_drop 24 words1, List.all_append, w_t1, ← List.take_append_drop 24 (words1.drop 24), List.all_append, w_t2, ← List.take_append_drop 24 ((words1.drop 24).drop 24), List.all_append, w_t3, w_t4]
  rfl
set_option maxRecDepth 65536 in
theorem w_rest : rest_1_c.before args0 about1 = true := by decide +kernel
set_option maxRecDepth 65536 in
theorem w_case : (Jvm.Cond.and given_1 narrow_1).before args0 about1 = true := by decide +kernel
set_option maxRecDepth 65536 in
theorem w_consts : constsHeld consts_1 about1 := Jvm.Lit.constsHeldB_iff.mp (by decide +kernel)
theorem w_applies : (headSpec (Jvm.Cond.code x code maxLocals ret :: tables_1) room_1).applies x e0.platform about1 = true :=
  (Spec.applies_iff w_frames).mpr ⟨w_running, w_runnable, w_alone, w_named, w_hears, w_ripe, w_room, w_tables⟩
theorem atStart : AtStart classFile x code maxLocals ret World_1 tables_1 room_1 Calls_1 rest_1 Pre_1 launch0 p0 e0 about1 theMethod args0 below0 :=
  ⟨lists_1, trivial, launch0.admits_env _ _ _, launch0.least_env, fairChoices_fair.cas, fairChoices_fair.clock, w_frames, w_args, w_heap, w_applies, ⟨w_consts, trivial⟩, w_rest, w_case⟩
end start1
theorem witness_1 : WitnessClaimed_1 := ⟨start1.p0, start1.e0, start1.about1, start1.theMethod, start1.args0, start1.below0, start1.atStart⟩
end Jvm.Pilot.@@N@@
