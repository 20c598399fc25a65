import JvmDerived
import JvmDerived.Pilot.@@N@@Statement
import JvmDerived.Pilot.@@N@@Code
set_option linter.unusedVariables false
set_option linter.unusedSimpArgs false
/- laws to paste: Road.backV (cut by pick.py; bodies as the Statement names them) -/
namespace Jvm.Pilot.@@N@@
namespace StrChars
open Jvm Sem ClassFile Op Lib Jvm.Stand Jvm.Free.XT Jvm.Free.ALB Jvm.Free.JM Jvm.Free
open Jvm.Lib.Cold (StaticIs)
/-- a char array whose places are chars -/
def Ch (a : Addr) (A : Cell) (U : State) : Prop := Arr .char a A U ∧ Typed .char A
theorem Ch.mv {a : Addr} {A : Cell} {U U' : State} (h : Ch a A U) (hal : U.vm.Alike U'.vm) (hh : U'.heap = U.heap) : Ch a A U' := ⟨h.1.mv hal hh, h.2⟩
theorem Ch.keep {a : Addr} {A : Cell} {U U' : State} (h : Ch a A U) (hal : U.vm.Alike U'.vm) (hk : U'.heap[a]? = some A) : Ch a A U' := ⟨h.1.keep hal hk, h.2⟩
/-- what place i of a char[]'s cell holds -/
def cv (A : Cell) (i : Nat) : Int32 := match A.slots[i]? with | some (.int x) => x | _ => 0
theorem Ch.get {a : Addr} {A : Cell} {U : State} (h : Ch a A U) {i : Nat} (hi : i < A.slots.size) : A.slots[i]? = some (.int (cv A i)) := by
  have e := Array.getElem?_eq_getElem hi
  have f := h.2 i _ e
  unfold cv; rw [e]
  generalize A.slots[i] = v at f
  cases v <;> simp [fits] at f ⊢
/-- the byte that i2b leaves of a char -/
def lo8 (x : Int32) : Int32 := x.toInt8.toInt32
theorem fits_lo8 (y : Int32) : fits .byte (.int (lo8 y)) = true := by
  have h1 := y.toInt8.le_toInt
  have h2 := y.toInt8.toInt_lt
  simp only [lo8, fits, Bool.and_eq_true, decide_eq_true_eq, Int32.le_iff_toInt_le, Int8.toInt_toInt32, show (-128 : Int32).toInt = -128 from by decide, show (127 : Int32).toInt = 127 from by decide]
  omega
/-- A' is A but that each place j of lo .. hi - 1 holds f j -/
def Laid (A A' : Cell) (lo hi : Nat) (f : Nat → Value) : Prop := A'.cls = A.cls ∧ A'.vm = A.vm ∧ A'.slots.size = A.slots.size ∧ ∀ i, A'.slots[i]? = if lo ≤ i ∧ i < hi then some (f i) else A.slots[i]?
theorem Laid.zero (A : Cell) (lo : Nat) (f : Nat → Value) : Laid A A lo (lo + 0) f := ⟨rfl, rfl, rfl, fun i => by rw [if_neg (by omega)]⟩
theorem Laid.step {A Ak : Cell} {lo k : Nat} {f : Nat → Value} {v : Value} (h : Laid A Ak lo k f) (hlo : lo ≤ k) (hk : k < Ak.slots.size) (hv : v = f k) : Laid A (Ak.setSlot k v) lo (k + 1) f := by
  refine ⟨h.1, h.2.1, by simpa [Cell.setSlot] using h.2.2.1, fun i => ?_⟩
  by_cases e : k = i
  · subst e; rw [Cell.slots_setSlot_self v hk, if_pos (by omega), hv]
  · rw [Cell.slots_setSlot_ne v e, h.2.2.2 i]
    by_cases q : lo ≤ i ∧ i < k
    · rw [if_pos q, if_pos (by omega)]
    · rw [if_neg q, if_neg (by omega)]
def U16 : String := "java/lang/StringUTF16"
namespace Cmp5
def yN : MethodName := ⟨"java/lang/StringUTF16", "compress", "([CI[BII)I"⟩
abbrev yB : ByteArray := jdk_52_method_21_code
theorem d0 : decode yB 0 = .ok (.iconst 0, 1) := by decide +kernel
theorem d1 : decode yB 1 = .ok (.istore 5, 2) := by decide +kernel
theorem d3 : decode yB 3 = .ok (.iload 5, 2) := by decide +kernel
theorem d5 : decode yB 5 = .ok (.iload 4, 2) := by decide +kernel
theorem d7 : decode yB 7 = .ok (.if_icmp (.ge) 37, 3) := by decide +kernel
theorem d10 : decode yB 10 = .ok (.aload_n 0, 1) := by decide +kernel
theorem d11 : decode yB 11 = .ok (.iload_n 1, 1) := by decide +kernel
theorem d12 : decode yB 12 = .ok (.caload, 1) := by decide +kernel
theorem d13 : decode yB 13 = .ok (.istore 6, 2) := by decide +kernel
theorem d15 : decode yB 15 = .ok (.iload 6, 2) := by decide +kernel
theorem d17 : decode yB 17 = .ok (.sipush 255, 3) := by decide +kernel
theorem d20 : decode yB 20 = .ok (.if_icmp (.le) 6, 3) := by decide +kernel
theorem d26 : decode yB 26 = .ok (.aload_n 2, 1) := by decide +kernel
theorem d27 : decode yB 27 = .ok (.iload_n 3, 1) := by decide +kernel
theorem d28 : decode yB 28 = .ok (.iload 6, 2) := by decide +kernel
theorem d30 : decode yB 30 = .ok (.i2b, 1) := by decide +kernel
theorem d31 : decode yB 31 = .ok (.bastore, 1) := by decide +kernel
theorem d32 : decode yB 32 = .ok (.iinc 1 1, 3) := by decide +kernel
theorem d35 : decode yB 35 = .ok (.iinc 3 1, 3) := by decide +kernel
theorem d38 : decode yB 38 = .ok (.iinc 5 1, 3) := by decide +kernel
theorem d41 : decode yB 41 = .ok (.goto (-38), 3) := by decide +kernel
theorem d44 : decode yB 44 = .ok (.iload 4, 2) := by decide +kernel
theorem d46 : decode yB 46 = .ok (.ireturn, 1) := by decide +kernel
def site : List Cond := []
def tab : Cond := tabOf yN yB 7 (some .int) site
def P (b : Addr) (A : Cell) (d : Addr) (B : Cell) (o q len : Nat) (args : Array Value) (s : State) : Prop := args = #[.ref b, .int (Int32.ofNat o), .ref d, .int (Int32.ofNat q), .int (Int32.ofNat len)] ∧ Ch b A s ∧ Arr .byte d B s ∧ b ≠ d ∧ o + len ≤ A.slots.size ∧ q + len ≤ B.slots.size ∧ ∀ i, i < len → ¬ 255 < cv A (o + i)
def E (b : Addr) (A : Cell) (d : Addr) (B : Cell) (o q len : Nat) (r : Option Value) (s u : State) : Prop := r = some (.int (Int32.ofNat len)) ∧ ∃ B', Put d B' s u ∧ Laid B B' q (q + len) (fun j => Value.int (lo8 (cv A (o + (j - q)))))
/-- no char of the range above 255: len; the places written hold each char's low byte -/
theorem law (l : Launch) (b : Addr) (A : Cell) (d : Addr) (B : Cell) (o q len : Nat) : Law l yN 5 5 0 0 yB 7 (some .int) site (P b A d B o q len) (E b A d B o q len) (copyLocs d q len) 0 0 := by
  refine Law.of_walk (plainFor_of_name (by decide +kernel)) (by decide +kernel) (by decide +kernel) (by decide) (fun _ _ h => by rw [h.1]; rfl) (fun _ U U' hal hh h => ⟨h.1, h.2.1.mv hal hh, h.2.2.1.mv hal hh, h.2.2.2⟩) (fun r U U' V V' h1 hal h2 h => ⟨h.1, h.2.elim fun B' q => ⟨B', q.1.mv h1 h2, q.2⟩⟩) ?_
  intro p e s m args below meth c s₁ X0 hexec hbytes hml hret hlk hnm hown hh0 W hP
  obtain ⟨rfl, hA, hB, hne, l1, l2, hp⟩ := hP
  have c1 : Steps p.tables e below (s₁.setTop (entryFrame m #[.ref b, .int (Int32.ofNat o), .ref d, .int (Int32.ofNat q), .int (Int32.ofNat len)] 7)) (s₁.setTop (mkF m 0 #[.val (.ref b), .val (.int (Int32.ofNat o)), .val (.ref d), .val (.int (Int32.ofNat q)), .val (.int (Int32.ofNat len)), .unset, .unset] [])) := entry rfl
  have hA0 := hA.1.mv X0.warmed.alike hh0
  have hB0 := hB.mv X0.warmed.alike hh0
  have a31 := hA.1.2.2.2
  have c2 : Steps p.tables e below (s₁.setTop (entryFrame m #[.ref b, .int (Int32.ofNat o), .ref d, .int (Int32.ofNat q), .int (Int32.ofNat len)] 7)) (s₁.setTop (mkF m 3 #[.val (.ref b), .val (.int (Int32.ofNat o)), .val (.ref d), .val (.int (Int32.ofNat q)), .val (.int (Int32.ofNat len)), .val (.int 0), .unset] [])) := c1.trans (by
    refine iconstV X0.here hexec rfl 0 (hb hbytes d0) (by decide) ?_
    refine XS.istore X0.here hexec rfl (hb hbytes d1) rfl rfl ?_
    exact Steps.refl _)
  have loop : ∀ (r i : Nat), i + r = len → ∀ (z : Slot), (z = .unset ∨ ∃ w, z = .val w ∧ w.category = 1) → ∀ (Tl : State) (Bk : Cell), Stand p l e { frames := 0, locals := 0, cells := 0, slots := 0 } s m #[.ref b, .int (Int32.ofNat o), .ref d, .int (Int32.ofNat q), .int (Int32.ofNat len)] below meth c Tl ([] ++ copyLocs d q i) 0 0 → Put d Bk s₁ Tl → Laid B Bk q (q + i) (fun j => Value.int (lo8 (cv A (o + (j - q))))) →
      Steps p.tables e below (s₁.setTop (entryFrame m #[.ref b, .int (Int32.ofNat o), .ref d, .int (Int32.ofNat q), .int (Int32.ofNat len)] 7)) (Tl.setTop (mkF m 3 #[.val (.ref b), .val (.int (Int32.ofNat (o + i))), .val (.ref d), .val (.int (Int32.ofNat (q + i))), .val (.int (Int32.ofNat len)), .val (.int (Int32.ofNat i)), z] [])) → ∃ (T' : State) (B' : Cell) (z' : Slot), Stand p l e { frames := 0, locals := 0, cells := 0, slots := 0 } s m #[.ref b, .int (Int32.ofNat o), .ref d, .int (Int32.ofNat q), .int (Int32.ofNat len)] below meth c T' ([] ++ copyLocs d q len) 0 0 ∧ Put d B' s₁ T' ∧ Laid B B' q (q + len) (fun j => Value.int (lo8 (cv A (o + (j - q))))) ∧
      Steps p.tables e below (s₁.setTop (entryFrame m #[.ref b, .int (Int32.ofNat o), .ref d, .int (Int32.ofNat q), .int (Int32.ofNat len)] 7)) (T'.setTop (mkF m 3 #[.val (.ref b), .val (.int (Int32.ofNat (o + len))), .val (.ref d), .val (.int (Int32.ofNat (q + len))), .val (.int (Int32.ofNat len)), .val (.int (Int32.ofNat len)), z'] [])) := by
    intro r
    induction r with
    | zero =>
      intro i hi z hz Tl Bk Xl pl fl cl
      have hil : i = len := by omega
      rw [hil] at Xl fl cl
      exact ⟨Tl, Bk, z, Xl, pl, fl, cl⟩
    | succ r ih =>
      intro i hi z hz Tl Bk Xl pl fl cl
      have all := X0.warmed.alike.symm.trans Xl.warmed.alike
      have hAl := hA0.keep all (pl.other hne hA0.1)
      have hBk := hB0.like all pl.1 fl.1 fl.2.1 fl.2.2.1
      have hlt : q + i < Bk.slots.size := by rw [fl.2.2.1]; omega
      have c3 : Steps p.tables e below (s₁.setTop (entryFrame m #[.ref b, .int (Int32.ofNat o), .ref d, .int (Int32.ofNat q), .int (Int32.ofNat len)] 7)) (Tl.setTop (mkF m 12 #[.val (.ref b), .val (.int (Int32.ofNat (o + i))), .val (.ref d), .val (.int (Int32.ofNat (q + i))), .val (.int (Int32.ofNat len)), .val (.int (Int32.ofNat i)), z] [.int (Int32.ofNat (o + i)), .ref b])) := cl.trans (by
        refine XS.iload Xl.here hexec rfl (hb hbytes d3) rfl ?_
        refine XS.iload Xl.here hexec rfl (hb hbytes d5) rfl ?_
        refine XS.icmpNo Xl.here hexec rfl (hb hbytes d7) rfl (ii_ge_f (lt32 (by omega) (by omega))) ?_
        refine XS.aloadN Xl.here hexec rfl (hb hbytes d10) rfl rfl ?_
        refine XS.iloadN Xl.here hexec rfl (hb hbytes d11) rfl ?_
        exact Steps.refl _)
      have c4 : Steps p.tables e below (s₁.setTop (entryFrame m #[.ref b, .int (Int32.ofNat o), .ref d, .int (Int32.ofNat q), .int (Int32.ofNat len)] 7)) (Tl.setTop (mkF m 13 #[.val (.ref b), .val (.int (Int32.ofNat (o + i))), .val (.ref d), .val (.int (Int32.ofNat (q + i))), .val (.int (Int32.ofNat len)), .val (.int (Int32.ofNat i)), z] [.int (cv A (o + i))])) := c3.trans (by
        refine Xl.aget hexec hAl rfl (hA.get (i := o + i) (by omega)) rfl rfl (hb hbytes d12) ?_
        exact Steps.refl _)
      have c5 : Steps p.tables e below (s₁.setTop (entryFrame m #[.ref b, .int (Int32.ofNat o), .ref d, .int (Int32.ofNat q), .int (Int32.ofNat len)] 7)) (Tl.setTop (mkF m 15 #[.val (.ref b), .val (.int (Int32.ofNat (o + i))), .val (.ref d), .val (.int (Int32.ofNat (q + i))), .val (.int (Int32.ofNat len)), .val (.int (Int32.ofNat i)), .val (.int (cv A (o + i)))] [])) := c4.trans (by
        refine XS.istoreS Xl.here hexec rfl (hb hbytes d13) rfl rfl hz ?_
        exact Steps.refl _)
      have c6 : Steps p.tables e below (s₁.setTop (entryFrame m #[.ref b, .int (Int32.ofNat o), .ref d, .int (Int32.ofNat q), .int (Int32.ofNat len)] 7)) (Tl.setTop (mkF m 31 #[.val (.ref b), .val (.int (Int32.ofNat (o + i))), .val (.ref d), .val (.int (Int32.ofNat (q + i))), .val (.int (Int32.ofNat len)), .val (.int (Int32.ofNat i)), .val (.int (cv A (o + i)))] [.int (lo8 (cv A (o + i))), .int (Int32.ofNat (q + i)), .ref d])) := c5.trans (by
        refine XS.iload Xl.here hexec rfl (hb hbytes d15) rfl ?_
        refine sipushV Xl.here hexec rfl 255 (hb hbytes d17) (by decide) ?_
        refine XS.icmpYes Xl.here hexec rfl (pc0 := 20) rfl (hb hbytes d20) rfl (ii_le_t (hp i (by omega))) (by decide) rfl ?_
        refine XS.aloadN Xl.here hexec rfl (hb hbytes d26) rfl rfl ?_
        refine XS.iloadN Xl.here hexec rfl (hb hbytes d27) rfl ?_
        refine XS.iload Xl.here hexec rfl (hb hbytes d28) rfl ?_
        refine i2b Xl.here hexec rfl (hb hbytes d30) rfl ?_
        exact Steps.refl _)
      obtain ⟨T7, X7, p7, st7⟩ := Xl.aput hexec hBk rfl hlt rfl (fits_lo8 (cv A (o + i))) (g := (mkF m 31 #[.val (.ref b), .val (.int (Int32.ofNat (o + i))), .val (.ref d), .val (.int (Int32.ofNat (q + i))), .val (.int (Int32.ofNat len)), .val (.int (Int32.ofNat i)), .val (.int (cv A (o + i)))] [.int (lo8 (cv A (o + i))), .int (Int32.ofNat (q + i)), .ref d])) rfl (rest := []) rfl (hb hbytes d31)
      have c8 : Steps p.tables e below (s₁.setTop (entryFrame m #[.ref b, .int (Int32.ofNat o), .ref d, .int (Int32.ofNat q), .int (Int32.ofNat len)] 7)) (T7.setTop (mkF m 32 #[.val (.ref b), .val (.int (Int32.ofNat (o + i))), .val (.ref d), .val (.int (Int32.ofNat (q + i))), .val (.int (Int32.ofNat len)), .val (.int (Int32.ofNat i)), .val (.int (cv A (o + i)))] [])) := c6.trans (st7 _ (Steps.refl _))
      have c9 : Steps p.tables e below (s₁.setTop (entryFrame m #[.ref b, .int (Int32.ofNat o), .ref d, .int (Int32.ofNat q), .int (Int32.ofNat len)] 7)) (T7.setTop (mkF m 3 #[.val (.ref b), .val (.int (Int32.ofNat (o + i) + 1)), .val (.ref d), .val (.int (Int32.ofNat (q + i) + 1)), .val (.int (Int32.ofNat len)), .val (.int (Int32.ofNat i + 1)), .val (.int (cv A (o + i)))] [])) := c8.trans (by
        refine iincV X7.here hexec rfl 1 (hb hbytes d32) (by decide) rfl rfl ?_
        refine iincV X7.here hexec rfl 1 (hb hbytes d35) (by decide) rfl rfl ?_
        refine iincV X7.here hexec rfl 1 (hb hbytes d38) (by decide) rfl rfl ?_
        refine XS.goto X7.here hexec rfl (pc0 := 41) rfl (hb hbytes d41) (by decide) rfl ?_
        exact Steps.refl _)
      have c10 : Steps p.tables e below (s₁.setTop (entryFrame m #[.ref b, .int (Int32.ofNat o), .ref d, .int (Int32.ofNat q), .int (Int32.ofNat len)] 7)) (T7.setTop (mkF m 3 #[.val (.ref b), .val (.int (Int32.ofNat (o + (i + 1)))), .val (.ref d), .val (.int (Int32.ofNat (q + (i + 1)))), .val (.int (Int32.ofNat len)), .val (.int (Int32.ofNat (i + 1))), .val (.int (cv A (o + i)))] [])) := by
        have := c9
        rw [succ32, succ32, succ32] at this
        exact this
      exact ih (i + 1) (by omega) _ (Or.inr ⟨_, rfl, rfl⟩) T7 _ (by rw [copyLocs_step, ← List.append_assoc]; exact X7) (pl.trans p7) (fl.step (by omega) hlt (by simp)) c10
  obtain ⟨T9, B9, z9, X9, p9, f9, g9⟩ := loop len 0 (by omega) .unset (Or.inl rfl) s₁ B (by simpa [copyLocs] using X0) ⟨hB0.1, fun _ _ => rfl, rfl⟩ (Laid.zero _ _ _) c2
  have c11 : Steps p.tables e below (s₁.setTop (entryFrame m #[.ref b, .int (Int32.ofNat o), .ref d, .int (Int32.ofNat q), .int (Int32.ofNat len)] 7)) (T9.setTop (mkF m 46 #[.val (.ref b), .val (.int (Int32.ofNat (o + len))), .val (.ref d), .val (.int (Int32.ofNat (q + len))), .val (.int (Int32.ofNat len)), .val (.int (Int32.ofNat len)), z9] [.int (Int32.ofNat len)])) := g9.trans (by
    refine XS.iload X9.here hexec rfl (hb hbytes d3) rfl ?_
    refine XS.iload X9.here hexec rfl (hb hbytes d5) rfl ?_
    refine XS.icmpYes X9.here hexec rfl (pc0 := 7) rfl (hb hbytes d7) rfl (ii_ge_t (nlt32 (by omega) (Nat.le_refl _))) (by decide) rfl ?_
    refine XS.iload X9.here hexec rfl (hb hbytes d44) rfl ?_
    exact Steps.refl _)
  exact ⟨T9, some (.int (Int32.ofNat len)), _, _, _, X9, by simp, rfl, rfl, (fun h => by cases h), ⟨rfl, B9, p9.from hh0, f9⟩, fun fs hl => c11.trans (X9.ireturnOut hexec hret rfl (Or.inl rfl) (hb hbytes d46) hl)⟩
end Cmp5
namespace Cmp3
def yN : MethodName := ⟨"java/lang/StringUTF16", "compress", "([CII)[B"⟩
abbrev yB : ByteArray := jdk_52_method_16_code
theorem d0 : decode yB 0 = .ok (.iload_n 2, 1) := by decide +kernel
theorem d1 : decode yB 1 = .ok (.newarray .byte, 2) := by decide +kernel
theorem d3 : decode yB 3 = .ok (.astore_n 3, 1) := by decide +kernel
theorem d4 : decode yB 4 = .ok (.aload_n 0, 1) := by decide +kernel
theorem d5 : decode yB 5 = .ok (.iload_n 1, 1) := by decide +kernel
theorem d6 : decode yB 6 = .ok (.aload_n 3, 1) := by decide +kernel
theorem d7 : decode yB 7 = .ok (.iconst 0, 1) := by decide +kernel
theorem d8 : decode yB 8 = .ok (.iload_n 2, 1) := by decide +kernel
theorem d9 : decode yB 9 = .ok (.invokestatic 115, 3) := by decide +kernel
theorem d12 : decode yB 12 = .ok (.istore 4, 2) := by decide +kernel
theorem d14 : decode yB 14 = .ok (.iload 4, 2) := by decide +kernel
theorem d16 : decode yB 16 = .ok (.iload_n 2, 1) := by decide +kernel
theorem d17 : decode yB 17 = .ok (.if_icmp (.eq) 40, 3) := by decide +kernel
theorem d57 : decode yB 57 = .ok (.aload_n 3, 1) := by decide +kernel
theorem d58 : decode yB 58 = .ok (.areturn, 1) := by decide +kernel
def site : List Cond := [.arrayClass .byte, Cmp5.tab] ++ staticW U16 115 Cmp5.yN
def tab : Cond := tabOf yN yB 6 (some (.array .byte)) site
def P (b : Addr) (A : Cell) (o len : Nat) (args : Array Value) (s : State) : Prop := args = #[.ref b, .int (Int32.ofNat o), .int (Int32.ofNat len)] ∧ Ch b A s ∧ o + len ≤ A.slots.size ∧ len ≤ 536870912 ∧ ∀ i, i < len → ¬ 255 < cv A (o + i)
def E (b : Addr) (A : Cell) (o len : Nat) (r : Option Value) (s u : State) : Prop := NewArr .byte "[B" len (fun j => .int (lo8 (cv A (o + j)))) r s u ∧ u.heap.size = s.heap.size + 1
/-- no char of the range above 255: a new byte[] of their low bytes -/
theorem law (l : Launch) (b : Addr) (A : Cell) (o len : Nat) : Law l yN 3 3 1 18 yB 6 (some (.array .byte)) site (P b A o len) (E b A o len) [] 1 len := by
  refine Law.of_walk (plainFor_of_name (by decide +kernel)) (by decide +kernel) (by decide +kernel) (by decide) (fun _ _ h => by rw [h.1]; rfl) (fun _ U U' hal hh h => ⟨h.1, h.2.1.mv hal hh, h.2.2⟩) (fun r U U' V V' h1 hal h2 h => ⟨NewArr.mv r U U' V V' h1 hal h2 h.1, by rw [h1, h2]; exact h.2⟩) ?_
  intro p e s m args below meth c s₁ X0 hexec hbytes hml hret hlk hnm hown hh0 W hP
  obtain ⟨rfl, hA, l1, l2, hp⟩ := hP
  have a31 := hA.1.2.2.2
  have c1 : Steps p.tables e below (s₁.setTop (entryFrame m #[.ref b, .int (Int32.ofNat o), .int (Int32.ofNat len)] 6)) (s₁.setTop (mkF m 0 #[.val (.ref b), .val (.int (Int32.ofNat o)), .val (.int (Int32.ofNat len)), .unset, .unset, .unset] [])) := entry rfl
  have c2 : Steps p.tables e below (s₁.setTop (entryFrame m #[.ref b, .int (Int32.ofNat o), .int (Int32.ofNat len)] 6)) (s₁.setTop (mkF m 1 #[.val (.ref b), .val (.int (Int32.ofNat o)), .val (.int (Int32.ofNat len)), .unset, .unset, .unset] [.int (Int32.ofNat len)])) := c1.trans (by
    refine XS.iloadN X0.here hexec rfl (hb hbytes d0) rfl ?_
    exact Steps.refl _)
  obtain ⟨T3, B3, X3, ba3, bs3, bv3, bh3, bf3, st3⟩ := X0.anew hexec (atype := .byte) (wk W (.arrayClass .byte)) rfl (by show len * 1 ≤ _; omega) (by omega) (g := (mkF m 1 #[.val (.ref b), .val (.int (Int32.ofNat o)), .val (.int (Int32.ofNat len)), .unset, .unset, .unset] [.int (Int32.ofNat len)])) rfl (hb hbytes d1) (rest := []) rfl (Nat.le_refl _) (by show 0 + len ≤ len; omega)
  rw [hh0] at ba3 st3
  have kp3 : XT.Kept s T3 := (XT.Kept.of_eq hh0).push bh3
  have hA3 := hA.keep X3.warmed.alike (kp3 _ _ hA.1.1)
  have hne : b ≠ s.heap.size := hA.1.ne
  have c4 : Steps p.tables e below (s₁.setTop (entryFrame m #[.ref b, .int (Int32.ofNat o), .int (Int32.ofNat len)] 6)) (T3.setTop (mkF m 3 #[.val (.ref b), .val (.int (Int32.ofNat o)), .val (.int (Int32.ofNat len)), .unset, .unset, .unset] [.ref s.heap.size])) := c2.trans (st3 _ (Steps.refl _))
  have c5 : Steps p.tables e below (s₁.setTop (entryFrame m #[.ref b, .int (Int32.ofNat o), .int (Int32.ofNat len)] 6)) (T3.setTop (mkF m 9 #[.val (.ref b), .val (.int (Int32.ofNat o)), .val (.int (Int32.ofNat len)), .val (.ref s.heap.size), .unset, .unset] [.int (Int32.ofNat len), .int 0, .ref s.heap.size, .int (Int32.ofNat o), .ref b])) := c4.trans (by
    refine XS.astoreN X3.here hexec rfl (hb hbytes d3) rfl rfl rfl ?_
    refine XS.aloadN X3.here hexec rfl (hb hbytes d4) rfl rfl ?_
    refine XS.iloadN X3.here hexec rfl (hb hbytes d5) rfl ?_
    refine XS.aloadN X3.here hexec rfl (hb hbytes d6) rfl rfl ?_
    refine iconstV X3.here hexec rfl 0 (hb hbytes d7) (by decide) ?_
    refine XS.iloadN X3.here hexec rfl (hb hbytes d8) rfl ?_
    exact Steps.refl _)
  obtain ⟨v6, T6, X6, E6, g6⟩ := X3.callS hexec (Cmp5.law l b A s.heap.size B3 o 0 len) hown (wks W (staticW U16 115 Cmp5.yN)) (wk W Cmp5.tab) (W := 0) (Nat.le_of_ble_eq_true rfl) (Nat.le_of_ble_eq_true rfl) (Nat.le_refl _) (by show 0 + len + 0 ≤ len; omega) (g := (mkF m 9 #[.val (.ref b), .val (.int (Int32.ofNat o)), .val (.int (Int32.ofNat len)), .val (.ref s.heap.size), .unset, .unset] [.int (Int32.ofNat len), .int (Int32.ofNat 0), .ref s.heap.size, .int (Int32.ofNat o), .ref b])) rfl (by rw [hml]; rfl) c5 (argsL := [.ref b, .int (Int32.ofNat o), .ref s.heap.size, .int (Int32.ofNat 0), .int (Int32.ofNat len)]) (rest := []) rfl rfl (by show 2 * 0 + 0 ≤ _; decide) (hb hbytes d9) (⟨rfl, hA3, ba3, hne, l1, by rw [bs3]; simp, hp⟩)
  obtain ⟨rfl, B6, p6, f6⟩ := E6
  have c7 : Steps p.tables e below (s₁.setTop (entryFrame m #[.ref b, .int (Int32.ofNat o), .int (Int32.ofNat len)] 6)) (T6.setTop (mkF m 12 #[.val (.ref b), .val (.int (Int32.ofNat o)), .val (.int (Int32.ofNat len)), .val (.ref s.heap.size), .unset, .unset] [.int (Int32.ofNat len)])) := g6
  have c8 : Steps p.tables e below (s₁.setTop (entryFrame m #[.ref b, .int (Int32.ofNat o), .int (Int32.ofNat len)] 6)) (T6.setTop (mkF m 58 #[.val (.ref b), .val (.int (Int32.ofNat o)), .val (.int (Int32.ofNat len)), .val (.ref s.heap.size), .val (.int (Int32.ofNat len)), .unset] [.ref s.heap.size])) := c7.trans (by
    refine XS.istore X6.here hexec rfl (hb hbytes d12) rfl rfl ?_
    refine XS.iload X6.here hexec rfl (hb hbytes d14) rfl ?_
    refine XS.iloadN X6.here hexec rfl (hb hbytes d16) rfl ?_
    refine XS.icmpYes X6.here hexec rfl (pc0 := 17) rfl (hb hbytes d17) rfl (ii_eq_t rfl) (by decide) rfl ?_
    refine XS.aloadN X6.here hexec rfl (hb hbytes d57) rfl rfl ?_
    exact Steps.refl _)
  have X8 := X6.wide (L' := []) (cells' := 1) (slots' := len) (fun x hx hlt => by
    simp only [List.nil_append, copyLocs, List.mem_map, List.mem_range] at hx
    obtain ⟨i, -, rfl⟩ := hx
    exact absurd hlt (Nat.lt_irrefl _)) (Nat.le_refl _) (by omega)
  exact ⟨T6, some (.ref s.heap.size), _, _, _, X8, rfl, rfl, rfl, (fun h => by cases h), ⟨⟨rfl, B6, ba3.like (X3.warmed.alike.symm.trans X6.warmed.alike) p6.1 f6.1 f6.2.1 f6.2.2.1, f6.2.1.trans bv3, by rw [X6.warmed.alike.findClass, f6.1]; exact bf3, by rw [f6.2.2.1, bs3]; simp, fun j hj => by rw [f6.2.2.2 j, if_pos (by omega)]; rfl, kp3.put p6 (Nat.le_refl _)⟩, by rw [p6.2.2, bh3, hh0]; simp⟩, fun fs hl => c8.trans (X8.areturnOut hexec rfl hret rfl (hb hbytes d58) hl)⟩
end Cmp3
namespace CodL
def yN : MethodName := ⟨"java/lang/StringUTF16", "coderFromArrayLen", "([BI)B"⟩
abbrev yB : ByteArray := jdk_52_method_15_code
theorem d0 : decode yB 0 = .ok (.iload_n 1, 1) := by decide +kernel
theorem d1 : decode yB 1 = .ok (.aload_n 0, 1) := by decide +kernel
theorem d2 : decode yB 2 = .ok (.arraylength, 1) := by decide +kernel
theorem d3 : decode yB 3 = .ok (.isub, 1) := by decide +kernel
theorem d4 : decode yB 4 = .ok (.bipush 31, 2) := by decide +kernel
theorem d6 : decode yB 6 = .ok (.iushr, 1) := by decide +kernel
theorem d7 : decode yB 7 = .ok (.i2b, 1) := by decide +kernel
theorem d8 : decode yB 8 = .ok (.ireturn, 1) := by decide +kernel
def site : List Cond := []
def tab : Cond := tabOf yN yB 2 (some .byte) site
def P (d : Addr) (B : Cell) (args : Array Value) (s : State) : Prop := args = #[.ref d, .int (Int32.ofNat B.slots.size)] ∧ Arr .byte d B s
def E (r : Option Value) (s u : State) : Prop := XT.PureE (some (.int 0)) r s u
/-- an array as long as the number of chars: LATIN1 -/
theorem law (l : Launch) (d : Addr) (B : Cell) : Law l yN 2 2 0 0 yB 2 (some .byte) site (P d B) E [] 0 0 := by
  refine Law.of_walk (plainFor_of_name (by decide +kernel)) (by decide +kernel) (by decide +kernel) (by decide) (fun _ _ h => by rw [h.1]; rfl) (fun _ U U' hal hh h => ⟨h.1, h.2.mv hal hh⟩) (fun r U U' V V' h1 hal h2 h => XT.PureE.mv r U U' V V' h1 hal h2 h) ?_
  intro p e s m args below meth c s₁ X0 hexec hbytes hml hret hlk hnm hown hh0 W hP
  obtain ⟨rfl, hB⟩ := hP
  have hB0 := hB.mv X0.warmed.alike hh0
  have c1 : Steps p.tables e below (s₁.setTop (entryFrame m #[.ref d, .int (Int32.ofNat B.slots.size)] 2)) (s₁.setTop (mkF m 0 #[.val (.ref d), .val (.int (Int32.ofNat B.slots.size))] [])) := entry rfl
  have c2 : Steps p.tables e below (s₁.setTop (entryFrame m #[.ref d, .int (Int32.ofNat B.slots.size)] 2)) (s₁.setTop (mkF m 2 #[.val (.ref d), .val (.int (Int32.ofNat B.slots.size))] [.ref d, .int (Int32.ofNat B.slots.size)])) := c1.trans (by
    refine XS.iloadN X0.here hexec rfl (hb hbytes d0) rfl ?_
    refine XS.aloadN X0.here hexec rfl (hb hbytes d1) rfl rfl ?_
    exact Steps.refl _)
  have c3 : Steps p.tables e below (s₁.setTop (entryFrame m #[.ref d, .int (Int32.ofNat B.slots.size)] 2)) (s₁.setTop (mkF m 8 #[.val (.ref d), .val (.int (Int32.ofNat B.slots.size))] [.int (lo8 (ushr (Int32.ofNat B.slots.size - Int32.ofNat B.slots.size) 31))])) := c2.trans (by
    refine X0.alen hexec hB0 rfl rfl (hb hbytes d2) ?_
    refine XS.isub X0.here hexec rfl (hb hbytes d3) rfl ?_
    refine bipushV X0.here hexec rfl 31 (hb hbytes d4) (by decide) ?_
    refine iushr X0.here hexec rfl (hb hbytes d6) rfl ?_
    refine i2b X0.here hexec rfl (hb hbytes d7) rfl ?_
    exact Steps.refl _)
  have e0 : lo8 (ushr (Int32.ofNat B.slots.size - Int32.ofNat B.slots.size) 31) = 0 := by rw [Int32.sub_self]; decide
  rw [e0] at c3
  exact ⟨s₁, some (.int 0), _, _, _, X0, rfl, rfl, rfl, (fun h => by cases h), ⟨rfl, hh0⟩, fun fs hl => c3.trans (X0.ireturnOut hexec hret rfl (Or.inr (Or.inr (Or.inl rfl))) (hb hbytes d8) hl)⟩
end CodL
/-- the String at a is Latin-1 over a new byte[] (the heap's one new cell): the low bytes of the len chars of A from o on; every cell but a is kept -/
def Got (a : Addr) (D : Cell) (fV fC : Field) (A : Cell) (o len : Nat) (r : Option Value) (s u : State) : Prop := r = none ∧ ∃ D' V : Cell, Blank "java/lang/String" a D' u ∧ Same D D' [fV.slot, fC.slot] ∧ D'.slots[fV.slot]? = some (.ref s.heap.size) ∧ D'.slots[fC.slot]? = some (.int 0) ∧ Arr .byte s.heap.size V u ∧ V.vm = .none ∧ u.vm.findClass "[B" = some V.cls ∧ V.slots.size = len ∧ (∀ j, j < len → V.slots[j]? = some (.int (lo8 (cv A (o + j))))) ∧ (∀ (y : Addr) (c : Cell), y ≠ a → s.heap[y]? = some c → u.heap[y]? = some c) ∧ u.heap.size = s.heap.size + 1
theorem Got.mv {a : Addr} {D A : Cell} {fV fC : Field} {o len : Nat} : ∀ r (U U' V V' : State), U'.heap = U.heap → V.vm.Alike V'.vm → V'.heap = V.heap → Got a D fV fC A o len r U V → Got a D fV fC A o len r U' V' :=
  fun r U U' V V' h1 hal h2 ⟨e0, D', X, a1, a2, a3, a4, a5, a6, a7, a8, a9, a10, a11⟩ => ⟨e0, D', X, a1.mv hal h2, a2, by rw [h1]; exact a3, a4, by rw [h1]; exact a5.mv hal h2, a6, by rw [hal.findClass]; exact a7, a8, a9, by rw [h1, h2]; exact a10, by rw [h1, h2]; exact a11⟩
namespace New4
def yN : MethodName := ⟨"java/lang/String", "<init>", "([CIILjava/lang/Void;)V"⟩
abbrev yB : ByteArray := jdk_42_method_149_code
theorem d0 : decode yB 0 = .ok (.aload_n 0, 1) := by decide +kernel
theorem d1 : decode yB 1 = .ok (.invokespecial 1, 3) := by decide +kernel
theorem d4 : decode yB 4 = .ok (.iload_n 3, 1) := by decide +kernel
theorem d5 : decode yB 5 = .ok (.ifCond (.ne) 22, 3) := by decide +kernel
theorem d27 : decode yB 27 = .ok (.getstatic 38, 3) := by decide +kernel
theorem d30 : decode yB 30 = .ok (.ifCond (.eq) 28, 3) := by decide +kernel
theorem d33 : decode yB 33 = .ok (.aload_n 1, 1) := by decide +kernel
theorem d34 : decode yB 34 = .ok (.iload_n 2, 1) := by decide +kernel
theorem d35 : decode yB 35 = .ok (.iload_n 3, 1) := by decide +kernel
theorem d36 : decode yB 36 = .ok (.invokestatic 177, 3) := by decide +kernel
theorem d39 : decode yB 39 = .ok (.astore 5, 2) := by decide +kernel
theorem d41 : decode yB 41 = .ok (.aload_n 0, 1) := by decide +kernel
theorem d42 : decode yB 42 = .ok (.aload 5, 2) := by decide +kernel
theorem d44 : decode yB 44 = .ok (.iload_n 3, 1) := by decide +kernel
theorem d45 : decode yB 45 = .ok (.invokestatic 47, 3) := by decide +kernel
theorem d48 : decode yB 48 = .ok (.putfield 15, 3) := by decide +kernel
theorem d51 : decode yB 51 = .ok (.aload_n 0, 1) := by decide +kernel
theorem d52 : decode yB 52 = .ok (.aload 5, 2) := by decide +kernel
theorem d54 : decode yB 54 = .ok (.putfield 9, 3) := by decide +kernel
theorem d57 : decode yB 57 = .ok (.return_, 1) := by decide +kernel
def site : List Cond := [.fieldLink "java/lang/String" 38 "java/lang/String" "COMPACT_STRINGS" "Z", Cmp3.tab, CodL.tab, .laysFinal "java/lang/String" "java/lang/String" "value" "[B", .fieldLink "java/lang/String" 9 "java/lang/String" "value" "[B", .laysFinal "java/lang/String" "java/lang/String" "coder" "B", .fieldLink "java/lang/String" 15 "java/lang/String" "coder" "B"] ++ objW "java/lang/String" 1 ++ staticW "java/lang/String" 177 Cmp3.yN ++ staticW "java/lang/String" 47 CodL.yN
def tab : Cond := tabOf yN yB 6 none site
def P (a : Addr) (D : Cell) (fV fC : Field) (b : Addr) (A : Cell) (z : Int32) (o len : Nat) (args : Array Value) (s : State) : Prop := args = #[.ref a, .ref b, .int (Int32.ofNat o), .int (Int32.ofNat len), .null] ∧ Blank "java/lang/String" a D s ∧ Found "java/lang/String" "value" "[B" fV s ∧ Found "java/lang/String" "coder" "B" fC s ∧ Ch b A s ∧ StaticIs s "java/lang/String" "COMPACT_STRINGS" "Z" (.int z) ∧ ¬ z = 0 ∧ 0 < len ∧ o + len ≤ A.slots.size ∧ len ≤ 536870912 ∧ ∀ i, i < len → ¬ 255 < cv A (o + i)
def E (a : Addr) (D : Cell) (fV fC : Field) (A : Cell) (o len : Nat) (r : Option Value) (s u : State) : Prop := Got a D fV fC A o len r s u
/-- len > 0, no char of the range above 255: a Latin-1 String of their low bytes -/
theorem law (l : Launch) (a : Addr) (D : Cell) (fV fC : Field) (b : Addr) (A : Cell) (z : Int32) (o len : Nat) : Law l yN 5 4 2 35 yB 6 none site (P a D fV fC b A z o len) (E a D fV fC A o len) [⟨a, fC.slot⟩, ⟨a, fV.slot⟩] 1 len := by
  refine Law.of_walk (plainFor_of_name (by decide +kernel)) (by decide +kernel) (by decide +kernel) (by decide) (fun _ _ h => by rw [h.1]; rfl) (fun _ U U' hal hh h => ⟨h.1, h.2.1.mv hal hh, h.2.2.1.al hal, h.2.2.2.1.al hal, h.2.2.2.2.1.mv hal hh, h.2.2.2.2.2.1.there hal hh, h.2.2.2.2.2.2⟩) (fun r U U' V V' h1 hal h2 h => Got.mv r U U' V V' h1 hal h2 h) ?_
  intro p e s m args below meth c s₁ X0 hexec hbytes hml hret hlk hnm hown hh0 W hP
  obtain ⟨rfl, hB, f1, f2, hA, s1, hz, l0, l1, l2, hp⟩ := hP
  have a31 := hA.1.2.2.2
  have c1 : Steps p.tables e below (s₁.setTop (entryFrame m #[.ref a, .ref b, .int (Int32.ofNat o), .int (Int32.ofNat len), .null] 6)) (s₁.setTop (mkF m 0 #[.val (.ref a), .val (.ref b), .val (.int (Int32.ofNat o)), .val (.int (Int32.ofNat len)), .val .null, .unset] [])) := entry rfl
  have c2 : Steps p.tables e below (s₁.setTop (entryFrame m #[.ref a, .ref b, .int (Int32.ofNat o), .int (Int32.ofNat len), .null] 6)) (s₁.setTop (mkF m 1 #[.val (.ref a), .val (.ref b), .val (.int (Int32.ofNat o)), .val (.int (Int32.ofNat len)), .val .null, .unset] [.ref a])) := c1.trans (by
    refine XS.aloadN X0.here hexec rfl (hb hbytes d0) rfl rfl ?_
    exact Steps.refl _)
  obtain ⟨T3, X3, q3, st3⟩ := X0.oinit hexec hown (wks W (objW "java/lang/String" 1)) (g := (mkF m 1 #[.val (.ref a), .val (.ref b), .val (.int (Int32.ofNat o)), .val (.int (Int32.ofNat len)), .val .null, .unset] [.ref a])) rfl (by rw [hml]; rfl) (rest := []) rfl (hb hbytes d1) (W := 0) (by show 2 * 0 + 0 ≤ _; decide) (Nat.le_of_ble_eq_true rfl) (Nat.le_of_ble_eq_true rfl)
  have hh3 := q3.trans hh0
  have c4 : Steps p.tables e below (s₁.setTop (entryFrame m #[.ref a, .ref b, .int (Int32.ofNat o), .int (Int32.ofNat len), .null] 6)) (T3.setTop (mkF m 27 #[.val (.ref a), .val (.ref b), .val (.int (Int32.ofNat o)), .val (.int (Int32.ofNat len)), .val .null, .unset] [])) := (c2.trans (st3 _ (Steps.refl _))).trans (by
    refine XS.iloadN X3.here hexec rfl (hb hbytes d4) rfl ?_
    refine XS.ifYes X3.here hexec rfl (pc0 := 5) rfl (hb hbytes d5) rfl (i0_ne_t (nz32 (by omega) l0)) (by decide) rfl ?_
    exact Steps.refl _)
  obtain ⟨T5, X5, q5, st5⟩ := X3.sget hexec hown (wk W (.fieldLink "java/lang/String" 38 "java/lang/String" "COMPACT_STRINGS" "Z")) s1 (fun _ _ h => by rw [hh3]; exact h) (g := (mkF m 27 #[.val (.ref a), .val (.ref b), .val (.int (Int32.ofNat o)), .val (.int (Int32.ofNat len)), .val .null, .unset] [])) rfl (hb hbytes d27)
  have hh5 := q5.trans hh3
  have c6 : Steps p.tables e below (s₁.setTop (entryFrame m #[.ref a, .ref b, .int (Int32.ofNat o), .int (Int32.ofNat len), .null] 6)) (T5.setTop (mkF m 30 #[.val (.ref a), .val (.ref b), .val (.int (Int32.ofNat o)), .val (.int (Int32.ofNat len)), .val .null, .unset] [.int z])) := c4.trans (st5 _ (Steps.refl _))
  have c7 : Steps p.tables e below (s₁.setTop (entryFrame m #[.ref a, .ref b, .int (Int32.ofNat o), .int (Int32.ofNat len), .null] 6)) (T5.setTop (mkF m 36 #[.val (.ref a), .val (.ref b), .val (.int (Int32.ofNat o)), .val (.int (Int32.ofNat len)), .val .null, .unset] [.int (Int32.ofNat len), .int (Int32.ofNat o), .ref b])) := c6.trans (by
    refine XS.ifNo X5.here hexec rfl (hb hbytes d30) rfl (i0_eq_f hz) ?_
    refine XS.aloadN X5.here hexec rfl (hb hbytes d33) rfl rfl ?_
    refine XS.iloadN X5.here hexec rfl (hb hbytes d34) rfl ?_
    refine XS.iloadN X5.here hexec rfl (hb hbytes d35) rfl ?_
    exact Steps.refl _)
  obtain ⟨v8, T8, X8, E8, g8⟩ := X5.callS hexec (Cmp3.law l b A o len) hown (wks W (staticW "java/lang/String" 177 Cmp3.yN)) (wk W Cmp3.tab) (W := 0) (Nat.le_of_ble_eq_true rfl) (Nat.le_of_ble_eq_true rfl) (Nat.le_refl _) (by show 0 + len ≤ len; omega) (g := (mkF m 36 #[.val (.ref a), .val (.ref b), .val (.int (Int32.ofNat o)), .val (.int (Int32.ofNat len)), .val .null, .unset] [.int (Int32.ofNat len), .int (Int32.ofNat o), .ref b])) rfl (by rw [hml]; rfl) c7 (argsL := [.ref b, .int (Int32.ofNat o), .int (Int32.ofNat len)]) (rest := []) rfl rfl (by show 2 * 0 + 0 ≤ _; decide) (hb hbytes d36) (⟨rfl, hA.mv X5.warmed.alike hh5, l1, l2, hp⟩)
  obtain ⟨e8, z8⟩ := E8
  obtain ⟨rfl, N, n1, n2, n3, n4, n5, n6⟩ := NewArr.mv _ T5 s _ _ hh5.symm (Vm.Alike.refl _) rfl e8
  rw [hh5] at z8
  have hB1 := hB.keep X8.warmed.alike (n6 _ _ hB.1)
  have hne : s.heap.size ≠ a := (Nat.ne_of_lt (Array.getElem?_eq_some_iff.mp hB.1).1).symm
  have c9 : Steps p.tables e below (s₁.setTop (entryFrame m #[.ref a, .ref b, .int (Int32.ofNat o), .int (Int32.ofNat len), .null] 6)) (T8.setTop (mkF m 39 #[.val (.ref a), .val (.ref b), .val (.int (Int32.ofNat o)), .val (.int (Int32.ofNat len)), .val .null, .unset] [.ref s.heap.size])) := g8
  have c10 : Steps p.tables e below (s₁.setTop (entryFrame m #[.ref a, .ref b, .int (Int32.ofNat o), .int (Int32.ofNat len), .null] 6)) (T8.setTop (mkF m 45 #[.val (.ref a), .val (.ref b), .val (.int (Int32.ofNat o)), .val (.int (Int32.ofNat len)), .val .null, .val (.ref s.heap.size)] [.int (Int32.ofNat N.slots.size), .ref s.heap.size, .ref a])) := by
    have hc : Steps p.tables e below (s₁.setTop (entryFrame m #[.ref a, .ref b, .int (Int32.ofNat o), .int (Int32.ofNat len), .null] 6)) (T8.setTop (mkF m 45 #[.val (.ref a), .val (.ref b), .val (.int (Int32.ofNat o)), .val (.int (Int32.ofNat len)), .val .null, .val (.ref s.heap.size)] [.int (Int32.ofNat len), .ref s.heap.size, .ref a])) := c9.trans (by
      refine XS.astore X8.here hexec rfl (hb hbytes d39) rfl rfl rfl ?_
      refine XS.aloadN X8.here hexec rfl (hb hbytes d41) rfl rfl ?_
      refine XS.aload X8.here hexec rfl (hb hbytes d42) rfl rfl ?_
      refine XS.iloadN X8.here hexec rfl (hb hbytes d44) rfl ?_
      exact Steps.refl _)
    rw [n4]; exact hc
  obtain ⟨v11, T11, X11, E11, g11⟩ := X8.callS hexec (CodL.law l s.heap.size N) hown (wks W (staticW "java/lang/String" 47 CodL.yN)) (wk W CodL.tab) (W := 1) (Nat.le_of_ble_eq_true rfl) (Nat.le_of_ble_eq_true rfl) (Nat.le_refl _) (by show 0 + len + 0 ≤ len; omega) (g := (mkF m 45 #[.val (.ref a), .val (.ref b), .val (.int (Int32.ofNat o)), .val (.int (Int32.ofNat len)), .val .null, .val (.ref s.heap.size)] [.int (Int32.ofNat N.slots.size), .ref s.heap.size, .ref a])) rfl (by rw [hml]; rfl) c10 (argsL := [.ref s.heap.size, .int (Int32.ofNat N.slots.size)]) (rest := [.ref a]) rfl rfl (by show 2 * 0 + (1 + 0) ≤ _; decide) (hb hbytes d45) (⟨rfl, n1⟩)
  obtain ⟨rfl, q11⟩ := E11
  have hB11 := hB1.mv (X8.warmed.alike.symm.trans X11.warmed.alike) q11
  have c12 : Steps p.tables e below (s₁.setTop (entryFrame m #[.ref a, .ref b, .int (Int32.ofNat o), .int (Int32.ofNat len), .null] 6)) (T11.setTop (mkF m 48 #[.val (.ref a), .val (.ref b), .val (.int (Int32.ofNat o)), .val (.int (Int32.ofNat len)), .val .null, .val (.ref s.heap.size)] [.int 0, .ref a])) := g11
  obtain ⟨T13, X13, p13, bl13, sl13, st13⟩ := X11.finit hexec hown (wk W (.fieldLink "java/lang/String" 15 "java/lang/String" "coder" "B")) (Or.inr ⟨_, (wk W (.laysFinal "java/lang/String" "java/lang/String" "coder" "B"))⟩) (Or.inl ⟨rfl, hnm⟩) f2 (Or.inl rfl) hB11 (t := .byte) (by decide +kernel) rfl (g := (mkF m 48 #[.val (.ref a), .val (.ref b), .val (.int (Int32.ofNat o)), .val (.int (Int32.ofNat len)), .val .null, .val (.ref s.heap.size)] [.int 0, .ref a])) rfl (rest := []) rfl (hb hbytes d48)
  have c14 : Steps p.tables e below (s₁.setTop (entryFrame m #[.ref a, .ref b, .int (Int32.ofNat o), .int (Int32.ofNat len), .null] 6)) (T13.setTop (mkF m 54 #[.val (.ref a), .val (.ref b), .val (.int (Int32.ofNat o)), .val (.int (Int32.ofNat len)), .val .null, .val (.ref s.heap.size)] [.ref s.heap.size, .ref a])) := (c12.trans (st13 _ (Steps.refl _))).trans (by
    refine XS.aloadN X13.here hexec rfl (hb hbytes d51) rfl rfl ?_
    refine XS.aload X13.here hexec rfl (hb hbytes d52) rfl rfl ?_
    exact Steps.refl _)
  obtain ⟨T15, X15, p15, bl15, sl15, st15⟩ := X13.finit hexec hown (wk W (.fieldLink "java/lang/String" 9 "java/lang/String" "value" "[B")) (Or.inr ⟨_, (wk W (.laysFinal "java/lang/String" "java/lang/String" "value" "[B"))⟩) (Or.inl ⟨rfl, hnm⟩) f1 (Or.inl rfl) bl13 (t := (.array .byte)) (by decide +kernel) rfl (g := (mkF m 54 #[.val (.ref a), .val (.ref b), .val (.int (Int32.ofNat o)), .val (.int (Int32.ofNat len)), .val .null, .val (.ref s.heap.size)] [.ref s.heap.size, .ref a])) rfl (rest := []) rfl (hb hbytes d54)
  have c16 : Steps p.tables e below (s₁.setTop (entryFrame m #[.ref a, .ref b, .int (Int32.ofNat o), .int (Int32.ofNat len), .null] 6)) (T15.setTop (mkF m 57 #[.val (.ref a), .val (.ref b), .val (.int (Int32.ofNat o)), .val (.int (Int32.ofNat len)), .val .null, .val (.ref s.heap.size)] [])) := c14.trans (st15 _ (Steps.refl _))
  have ap := apart (Or.inr ⟨_, (wk W (.laysFinal "java/lang/String" "java/lang/String" "value" "[B"))⟩) (Or.inr ⟨_, (wk W (.laysFinal "java/lang/String" "java/lang/String" "coder" "B"))⟩) f1 f2 (t₁ := .array .byte) (t₂ := .byte) (by decide +kernel) (by decide +kernel) (by decide)
  have al := X8.warmed.alike.symm.trans X15.warmed.alike
  have n7 : T11.heap[s.heap.size]? = some N := by rw [q11]; exact n1.1
  exact ⟨T15, none, _, _, _, X15, by simp, rfl, by omega, (fun _ => rfl), ⟨rfl, _, N, bl15, ((Same.refl D _).set _ (by simp)).set _ (by simp), sl15, (Cell.slots_setSlot_ne _ ap).trans sl13, n1.keep al (p15.other hne (p13.other hne n7)), n2, by rw [al.findClass]; exact n3, n4, n5, fun y c h1 h2 => p15.other h1 (p13.other h1 (by rw [q11]; exact n6 y c h2)), by rw [p15.2.2, p13.2.2, q11]; exact z8⟩, fun fs hl => c16.trans (X15.returnOut hexec hret (hb hbytes d57) hl)⟩
end New4
namespace New1
def yN : MethodName := ⟨"java/lang/String", "<init>", "([C)V"⟩
abbrev yB : ByteArray := jdk_42_method_3_code
theorem d0 : decode yB 0 = .ok (.aload_n 0, 1) := by decide +kernel
theorem d1 : decode yB 1 = .ok (.aload_n 1, 1) := by decide +kernel
theorem d2 : decode yB 2 = .ok (.iconst 0, 1) := by decide +kernel
theorem d3 : decode yB 3 = .ok (.aload_n 1, 1) := by decide +kernel
theorem d4 : decode yB 4 = .ok (.arraylength, 1) := by decide +kernel
theorem d5 : decode yB 5 = .ok (.aconst_null, 1) := by decide +kernel
theorem d6 : decode yB 6 = .ok (.invokespecial 27, 3) := by decide +kernel
theorem d9 : decode yB 9 = .ok (.return_, 1) := by decide +kernel
def site : List Cond := [New4.tab] ++ initW "java/lang/String" 27 New4.yN
def tab : Cond := tabOf yN yB 2 none site
def P (a : Addr) (D : Cell) (fV fC : Field) (b : Addr) (A : Cell) (z : Int32) (args : Array Value) (s : State) : Prop := args = #[.ref a, .ref b] ∧ Blank "java/lang/String" a D s ∧ Found "java/lang/String" "value" "[B" fV s ∧ Found "java/lang/String" "coder" "B" fC s ∧ Ch b A s ∧ StaticIs s "java/lang/String" "COMPACT_STRINGS" "Z" (.int z) ∧ ¬ z = 0 ∧ 0 < A.slots.size ∧ A.slots.size ≤ 536870912 ∧ ∀ i, i < A.slots.size → ¬ 255 < cv A i
def E (a : Addr) (D : Cell) (fV fC : Field) (A : Cell) (r : Option Value) (s u : State) : Prop := Got a D fV fC A 0 A.slots.size r s u
/-- new String(chars), not empty, no char above 255: a Latin-1 String of their low bytes -/
theorem law (l : Launch) (a : Addr) (D : Cell) (fV fC : Field) (b : Addr) (A : Cell) (z : Int32) : Law l yN 2 1 3 52 yB 2 none site (P a D fV fC b A z) (E a D fV fC A) [⟨a, fC.slot⟩, ⟨a, fV.slot⟩] 1 A.slots.size := by
  refine Law.of_walk (plainFor_of_name (by decide +kernel)) (by decide +kernel) (by decide +kernel) (by decide) (fun _ _ h => by rw [h.1]; rfl) (fun _ U U' hal hh h => ⟨h.1, h.2.1.mv hal hh, h.2.2.1.al hal, h.2.2.2.1.al hal, h.2.2.2.2.1.mv hal hh, h.2.2.2.2.2.1.there hal hh, h.2.2.2.2.2.2⟩) (fun r U U' V V' h1 hal h2 h => Got.mv r U U' V V' h1 hal h2 h) ?_
  intro p e s m args below meth c s₁ X0 hexec hbytes hml hret hlk hnm hown hh0 W hP
  obtain ⟨rfl, hB, f1, f2, hA, s1, hz, l0, l2, hp⟩ := hP
  have c1 : Steps p.tables e below (s₁.setTop (entryFrame m #[.ref a, .ref b] 2)) (s₁.setTop (mkF m 0 #[.val (.ref a), .val (.ref b)] [])) := entry rfl
  have c2 : Steps p.tables e below (s₁.setTop (entryFrame m #[.ref a, .ref b] 2)) (s₁.setTop (mkF m 6 #[.val (.ref a), .val (.ref b)] [.null, .int (Int32.ofNat A.slots.size), .int 0, .ref b, .ref a])) := c1.trans (by
    refine XS.aloadN X0.here hexec rfl (hb hbytes d0) rfl rfl ?_
    refine XS.aloadN X0.here hexec rfl (hb hbytes d1) rfl rfl ?_
    refine iconstV X0.here hexec rfl 0 (hb hbytes d2) (by decide) ?_
    refine XS.aloadN X0.here hexec rfl (hb hbytes d3) rfl rfl ?_
    refine X0.alen hexec (hA.1.mv X0.warmed.alike hh0) rfl rfl (hb hbytes d4) ?_
    refine XS.aconstNull X0.here hexec rfl (hb hbytes d5) ?_
    exact Steps.refl _)
  obtain ⟨v3, T3, X3, E3, g3⟩ := X0.callN hexec (New4.law l a D fV fC b A z 0 A.slots.size) rfl hown (wks W (initW "java/lang/String" 27 New4.yN)) (W New4.tab (by simp only [site, List.mem_cons, List.mem_append, true_or, or_true])) (W := 0) (Nat.le_of_ble_eq_true rfl) (Nat.le_of_ble_eq_true rfl) (Nat.le_refl _) (by show 0 + A.slots.size ≤ A.slots.size; omega) (g := (mkF m 6 #[.val (.ref a), .val (.ref b)] [.null, .int (Int32.ofNat A.slots.size), .int (Int32.ofNat 0), .ref b, .ref a])) rfl (by rw [hml]; rfl) c2 (argsL := [.ref b, .int (Int32.ofNat 0), .int (Int32.ofNat A.slots.size), .null]) (rest := []) rfl rfl (by show 2 * 0 + 0 ≤ _; decide) (hb hbytes d6) (⟨rfl, hB.mv X0.warmed.alike hh0, f1.al X0.warmed.alike, f2.al X0.warmed.alike, hA.mv X0.warmed.alike hh0, s1.there X0.warmed.alike hh0, hz, l0, by omega, l2, fun i hi => by rw [Nat.zero_add]; exact hp i hi⟩)
  have e0 := Got.mv _ s₁ s _ _ hh0.symm (Vm.Alike.refl _) rfl E3
  obtain rfl := e0.1
  have c4 : Steps p.tables e below (s₁.setTop (entryFrame m #[.ref a, .ref b] 2)) (T3.setTop (mkF m 9 #[.val (.ref a), .val (.ref b)] [])) := g3
  exact ⟨T3, none, _, _, _, X3, by simp, rfl, by omega, (fun _ => rfl), e0, fun fs hl => c4.trans (X3.returnOut hexec hret (hb hbytes d9) hl)⟩
theorem pays {l : Launch} {R : Room} {p : Program} {e : Env} {below : List Frame} {s : State} {sargs : Array Value} {len W : Nat} (a : Addr) (D : Cell) (fV fC : Field) (b : Addr) (A : Cell) (z : Int32) (htab : tab.before sargs s = true) (hfr : 4 ≤ R.frames) (hlo : W + 65 ≤ R.locals) :
    Back l R p e below s sargs yN len W (fun A₁ a₁ => A₁.cells + 1 ≤ R.cells ∧ A₁.slots + A.slots.size ≤ R.slots ∧ P a D fV fC b A z a₁ A₁.U) (fun A₁ _ v₁ B₁ => E a D fV fC A v₁ A₁.U B₁.U ∧ B₁.locs = A₁.locs ++ [⟨a, fC.slot⟩, ⟨a, fV.slot⟩] ∧ B₁.cells = A₁.cells + 1 ∧ B₁.slots = A₁.slots + A.slots.size) :=
  (law l a D fV fC b A z).pays htab hfr (by omega)
end New1
end StrChars
namespace StrChars.Road
open Jvm Sem ClassFile Op Lib Jvm.Stand Jvm.Free Jvm.Free.XT
open Jvm.Lib.Cold (StaticIs)
abbrev ST : String := "java/lang/String"
/-- every table word that New1's law asks, flat -/
abbrev words : List Jvm.Cond := [.code New1.yN New1.yB 2 none, .initialized ST, .methodLink ST 27 New4.yN, .instanceMethod New4.yN,
  .code New4.yN New4.yB 6 none, .fieldLink ST 38 ST "COMPACT_STRINGS" "Z", .laysFinal ST ST "value" "[B", .fieldLink ST 9 ST "value" "[B", .laysFinal ST ST "coder" "B", .fieldLink ST 15 ST "coder" "B",
  .methodLink ST 1 Lib.objectInit, .instanceMethod Lib.objectInit, .code Lib.objectInit ⟨#[0xb1]⟩ 1 none, .methodLink ST 177 Cmp3.yN, .static Cmp3.yN, .methodLink ST 47 CodL.yN, .static CodL.yN,
  .code Cmp3.yN Cmp3.yB 6 (some (.array .byte)), .initialized U16, .arrayClass .byte, .methodLink U16 115 Cmp5.yN, .static Cmp5.yN, .code Cmp5.yN Cmp5.yB 7 (some .int), .code CodL.yN CodL.yB 2 (some .byte)]
theorem tab_of {a : Array Value} {s : State} (h : ∀ w ∈ words, w.before a s = true) : New1.tab.before a s = true := by
  have h5 : Cmp5.tab.before a s = true := unparts (wk h (.code Cmp5.yN Cmp5.yB 7 (some .int))) (wks h (.initialized Cmp5.yN.cls :: Cmp5.site))
  have hc : CodL.tab.before a s = true := unparts (wk h (.code CodL.yN CodL.yB 2 (some .byte))) (wks h (.initialized CodL.yN.cls :: CodL.site))
  have q5 : ∀ w ∈ Cmp5.tab :: words, w.before a s = true := fun w hw => (List.mem_cons.mp hw).elim (fun e => e ▸ h5) (h w)
  have h3 : Cmp3.tab.before a s = true := unparts (wk q5 (.code Cmp3.yN Cmp3.yB 6 (some (.array .byte)))) (wks q5 (.initialized Cmp3.yN.cls :: Cmp3.site))
  have q3 : ∀ w ∈ Cmp3.tab :: CodL.tab :: words, w.before a s = true := fun w hw => (List.mem_cons.mp hw).elim (fun e => e ▸ h3) fun hw => (List.mem_cons.mp hw).elim (fun e => e ▸ hc) (h w)
  have h4 : New4.tab.before a s = true := unparts (wk q3 (.code New4.yN New4.yB 6 none)) (wks q3 (.initialized New4.yN.cls :: New4.site))
  have q4 : ∀ w ∈ New4.tab :: words, w.before a s = true := fun w hw => (List.mem_cons.mp hw).elim (fun e => e ▸ h4) (h w)
  exact unparts (wk q4 (.code New1.yN New1.yB 2 none)) (wks q4 (.initialized New1.yN.cls :: New1.site))
/-- the words ride from the start Z to the walk's own state -/
theorem moved {Z s : State} {a0 args : Array Value} (hZ : Z.Warmed39 s.vm) (hw : ∀ d ∈ words, d.before a0 Z = true) : ∀ d ∈ words, d.before args s = true := fun d hd => by
  have q := hw d hd
  have t : ∀ d ∈ words, d = .arrayClass .byte ∨ (d.onTables && d.keepsFace) = true := by decide +kernel
  rcases t d hd with rfl | t
  · exact RoadKit.mvA hZ q
  · exact RoadKit.mv hZ q t
/-- WHAT COMES BACK, over the tables of the start Z: h the heap at the call, h' behind it -/
def Q (Z : State) (x : Addr) (A : Cell) (h : Heap) (v : Option Value) (h' : Heap) (L : List Loc) : Prop := v = none ∧ (∀ y ∈ L, y.base = x) ∧ RoadKit.Keep h h' [x] ∧ h'.size = h.size + 1 ∧ RoadKit.Exa Z h' x ST ∧ RoadKit.Fld Z h' x ST "value" "[B" (.ref h.size) ∧ RoadKit.Fld Z h' x ST "coder" "B" (.int 0) ∧
  (∃ V : Cell, RoadKit.Arr Z h' h.size V .byte ∧ V.vm = .none ∧ Z.vm.findClass "[B" = some V.cls ∧ V.slots.size = A.slots.size ∧ ∀ j, j < A.slots.size → V.slots[j]? = some (.int (lo8 (cv A j)))) ∧
  ∀ (O n d : String) (w : Value), RoadKit.Fld Z h x O n d w → RoadKit.slotOf Z O n d ≠ RoadKit.slotOf Z ST "value" "[B" → RoadKit.slotOf Z O n d ≠ RoadKit.slotOf Z ST "coder" "B" → RoadKit.Fld Z h' x O n d w
/-- **new String(chars) AT A CALL, IN THE ROAD'S FORM**: for specialBack behind newO: x the fresh String, b the char[] with the cell A -/
theorem back {p : Program} {l : Launch} {e : Env} {R : Room} {s : State} {args : Array Value} {below : List Frame} {len W : Nat} {Z : State} {a0 : Array Value} {h : Heap} (hZ : Z.Warmed39 s.vm) (hw : ∀ d ∈ words, d.before a0 Z = true) {kI : Nat} (wi : (Jvm.Cond.instantiable ST kI).before a0 Z = true)
    {x b : Addr} {A : Cell} {z : Int32} {v0 c0 : Value} (E : RoadKit.Exa Z h x ST) (V : RoadKit.Fld Z h x ST "value" "[B" v0) (C : RoadKit.Fld Z h x ST "coder" "B" c0) (K : RoadKit.Arr Z h b A .char) (hty : Typed .char A) (S : RoadKit.Sta Z h ST "COMPACT_STRINGS" "Z" (.int z)) (hz : ¬ z = 0)
    (l0 : 0 < A.slots.size) (l2 : A.slots.size ≤ 536870912) (hp : ∀ i, i < A.slots.size → ¬ 255 < cv A i) (hfr : 4 ≤ R.frames) (hlo : W + 65 ≤ R.locals) :
    Back l R p e below s args New1.yN len W (fun P a => a = #[.ref x, .ref b] ∧ P.U.heap = h ∧ P.cells + 1 ≤ R.cells ∧ P.slots + A.slots.size ≤ R.slots)
      (fun P _ v B => ∃ L, Q Z x A h v B.U.heap L ∧ B.locs = P.locs ++ L ∧ B.cells = P.cells + 1 ∧ B.slots = P.slots + A.slots.size) := by
  intro m meth c P g ig mk a X hg hsize hdg hW hn hp'
  obtain ⟨rfl, rfl, r1, r2⟩ := hp'
  have al : Z.vm.Alike P.U.vm := hZ.alike.trans X.warmed.alike
  obtain ⟨D, cfV, kV, iV, fV, hD, gV, stV, knV, obV, asV, slV⟩ := id V
  obtain ⟨D', cfC, kC, iC, fC, hD', gC, stC, -, -, asC, slC⟩ := id C
  cases hD.symm.trans hD'
  obtain ⟨D2, kD, e1, e2, e3, e4, e5⟩ := id E
  cases hD.symm.trans e1
  obtain ⟨c2, k2, i1, i2, i3, -⟩ := Cond.instantiable_spec wi
  cases e2.symm.trans i1
  cases e3.symm.trans i2
  obtain ⟨kU, u1, u2⟩ := al.2.2 _ _ e3
  have hB : Blank ST x D P.U := ⟨hD, ⟨knV, fun q hq => by rw [hq] at obV; cases obV⟩, by rw [al.findClass]; exact e2, kU, u1, by rw [u2]; exact i3, by rw [u2]; exact e5 i3⟩
  have F1 : Found ST "value" "[B" fV P.U := ⟨SBG.found_only al ⟨cfV, kV, iV, gV⟩, stV⟩
  have F2 : Found ST "coder" "B" fC P.U := ⟨SBG.found_only al ⟨cfC, kC, iC, gC⟩, stC⟩
  have hA : Ch b A P.U := ⟨⟨K.1, State.isArrayOf_alike al K.2.1, K.2.2, by omega⟩, hty⟩
  have hS : StaticIs P.U ST "COMPACT_STRINGS" "Z" (.int z) := by
    obtain ⟨cfS, iS, kS, fS, st, cS, t1, t2, t3, t4, t5, t6, t7⟩ := S
    exact StaticIs.there (s := { Z with heap := P.U.heap }) ⟨cfS, iS, kS, fS, st, cS, t1, t2, t3, t4, t5, (fun q => by rw [q] at t6; cases t6), t7⟩ al rfl
  obtain ⟨v, B, X', ⟨⟨hv, E', V', q1, q2, q3, q4, q5, q6, q7, q8, q9, q10, q11⟩, hl, hc, hs⟩, st⟩ := New1.pays x D fV fC b A z (tab_of (moved hZ hw)) hfr hlo m meth c P g ig mk _ X hg hsize hdg hW hn ⟨r1, r2, rfl, hB, F1, F2, hA, hS, hz, l0, l2, hp⟩
  have al' : Z.vm.Alike B.U.vm := hZ.alike.trans X'.warmed.alike
  have hsz : E'.slots.size = D.slots.size := by
    obtain ⟨-, -, -, kB, w1, w2, w3⟩ := q1
    obtain ⟨kB', y1, y2⟩ := al'.2.2 _ _ e3
    rw [q2.2.1] at w1
    cases w1.symm.trans y1
    rw [w3, e5 i3, y2]
  refine ⟨v, B, X', ⟨_, ⟨hv, ?_, ⟨by omega, fun y cy hy hn' => q10 y cy (by simpa using hn') hy, fun y cy hy => ?_⟩, q11, ⟨E', _, q1.1, by rw [q2.2.1]; exact e2, by rw [q2.2.1]; exact e3, by rw [q2.1]; exact obV, fun _ => by rw [hsz]; exact e5 i3⟩,
    ⟨E', cfV, kV, iV, fV, q1.1, gV, stV, by rw [q2.1]; exact knV, by rw [q2.1]; exact obV, by rw [q2.2.1]; exact asV, q3⟩, ⟨E', cfC, kC, iC, fC, q1.1, gC, stC, by rw [q2.1]; exact knV, by rw [q2.1]; exact obV, by rw [q2.2.1]; exact asC, q4⟩,
    ⟨V', ⟨q5.1, State.isArrayOf_alike al'.symm q5.2.1, q5.2.2.1⟩, q6, by rw [← al'.findClass]; exact q7, q8, fun j hj => by have := q9 j hj; rwa [Nat.zero_add] at this⟩, fun O n d w F n1 n2 => ?_⟩, hl, hc, hs⟩, st⟩
  · intro y hy
    simp only [List.mem_cons, List.not_mem_nil, or_false] at hy
    rcases hy with rfl | rfl <;> rfl
  · by_cases q : y = x
    · subst q
      cases hD.symm.trans hy
      exact ⟨E', q1.1, q2.2.1, q2.1, hsz⟩
    · exact ⟨cy, q10 y cy q hy, rfl, rfl, rfl⟩
  · obtain ⟨D3, cf, k, i, f, g1, g2, g3, g4, g5, g6, g7⟩ := F
    cases hD.symm.trans g1
    simp only [RoadKit.slotOf, g2, gV, gC, Option.map_some, Option.getD_some] at n1 n2
    exact ⟨E', cf, k, i, f, q1.1, g2, g3, by rw [q2.1]; exact g4, by rw [q2.1]; exact g5, by rw [q2.2.1]; exact g6, by rw [q2.2.2 f.slot (by simp [n1, n2])]; exact g7⟩
end StrChars.Road
namespace StrChars.Road
open Jvm Sem ClassFile Op Lib Jvm.Stand Jvm.Free Jvm.Free.XT
/-- WHAT COMES BACK, the byte[] as a list of values -/
def QA (Z : State) (x : Addr) (zn : Int32) (cs : List Int32) (h : Heap) (v : Option Value) (h' : Heap) (L : List Loc) : Prop := v = none ∧ (∀ y ∈ L, y.base = x) ∧ RoadKit.Keep h h' [x] ∧ h'.size = h.size + 1 ∧ RoadKit.Exa Z h' x ST ∧ RoadKit.Fld Z h' x ST "value" "[B" (.ref h.size) ∧ RoadKit.Fld Z h' x ST "coder" "B" (.int 0) ∧
  (∃ kb, Z.vm.findClass "[B" = some kb ∧ RoadKit.Arv Z h' h.size kb .byte zn (cs.map fun c => .int (lo8 c)) (.int 0)) ∧
  ∀ (O n d : String) (w : Value), RoadKit.Fld Z h x O n d w → RoadKit.slotOf Z O n d ≠ RoadKit.slotOf Z ST "value" "[B" → RoadKit.slotOf Z O n d ≠ RoadKit.slotOf Z ST "coder" "B" → RoadKit.Fld Z h' x O n d w
/-- **new String(chars) AT A CALL, THE ARRAYS AS LISTS**: the char[] at b holds cs, not empty, no char above 255 -/
theorem backArv {p : Program} {l : Launch} {e : Env} {R : Room} {s : State} {args : Array Value} {below : List Frame} {len W : Nat} {Z : State} {a0 : Array Value} {h : Heap} (hZ : Z.Warmed39 s.vm) (hw : ∀ d ∈ words, d.before a0 Z = true) {kI : Nat} (wi : (Jvm.Cond.instantiable ST kI).before a0 Z = true)
    {x b : Addr} {k : ClassId} {zn z : Int32} {cs : List Int32} {dv v0 c0 : Value} (E : RoadKit.Exa Z h x ST) (V : RoadKit.Fld Z h x ST "value" "[B" v0) (C : RoadKit.Fld Z h x ST "coder" "B" c0) (K : RoadKit.Arv Z h b k .char zn (cs.map Value.int) dv) (S : RoadKit.Sta Z h ST "COMPACT_STRINGS" "Z" (.int z)) (hz : ¬ z = 0)
    (hlen : zn.toNatClampNeg = cs.length) (h0 : 0 < cs.length) (hbig : cs.length ≤ 536870912) (hall : ∀ c ∈ cs, ¬ 255 < c) (hfr : 4 ≤ R.frames) (hlo : W + 65 ≤ R.locals) :
    Back l R p e below s args New1.yN len W (fun P a => a = #[.ref x, .ref b] ∧ P.U.heap = h ∧ P.cells + 1 ≤ R.cells ∧ P.slots + cs.length ≤ R.slots)
      (fun P _ v B => ∃ L, QA Z x zn cs h v B.U.heap L ∧ B.locs = P.locs ++ L ∧ B.cells = P.cells + 1 ∧ B.slots = P.slots + cs.length) := by
  obtain ⟨A, K1, K2, K3, K4, K5, K6⟩ := K
  have e : A.slots.size = cs.length := K3.trans hlen
  have hat : ∀ (i : Nat) (hi : i < cs.length), A.slots[i]? = some (.int cs[i]) := fun i hi => by rw [K5 i (by omega)]; simp [List.getD_eq_getElem?_getD, hi]
  have hcv : ∀ (i : Nat) (hi : i < cs.length), cv A i = cs[i] := fun i hi => by unfold cv; rw [hat i hi]
  have hty : Typed .char A := fun i v hv => by
    have hi : i < A.slots.size := (Array.getElem?_eq_some_iff.mp hv).1
    have q := K5 i hi
    rw [hv] at q
    rw [Option.some.inj q]
    exact K6 i hi
  refine Back.mono (back hZ hw wi E V C K1 hty S hz (by omega) (by omega) (fun i hi => by rw [hcv i (by omega)]; exact hall _ (List.getElem_mem _)) hfr hlo) (fun P a hp => ⟨hp.1, hp.2.1, hp.2.2.1, by rw [e]; exact hp.2.2.2⟩) (fun P a v B hp hq => ?_)
  obtain ⟨L, ⟨q1, q2, q3, q4, q5, q6, q7, ⟨V', v1, v2, v3, v4, v5⟩, q9⟩, hl, hc, hs⟩ := hq
  refine ⟨L, ⟨q1, q2, q3, q4, q5, q6, q7, ⟨V'.cls, v3, V', v1, rfl, by rw [v4, e, hlen], K4, fun i hi => ?_, fun i hi => ?_⟩, q9⟩, hl, hc, by rw [hs, e]⟩
  · have hi' : i < cs.length := by omega
    rw [v5 i (by omega), hcv i hi']; simp [List.getD_eq_getElem?_getD, hi']
  · have hi' : i < cs.length := by omega
    simp only [List.getD_eq_getElem?_getD, List.getElem?_map, List.getElem?_eq_getElem hi', Option.map_some, Option.getD_some]
    exact fits_lo8 _
end StrChars.Road
namespace StrChars.Road
open Jvm Sem ClassFile Op Lib Jvm.Stand Jvm.Free Jvm.Free.XT
/-- WHAT COMES BACK, in the writer's own shape -/
def QV (Z : State) (x : Addr) (N : Int32) (bs : List Int32) (h : Heap) (n0 : Nat) (v : Option Value) (h' : Heap) (L : List Loc) : Prop := v = none ∧ RoadKit.Fr n0 L ∧ RoadKit.Keep h h' [x] ∧ RoadKit.Exa Z h' x ST ∧ RoadKit.Fld Z h' x ST "coder" "B" (.int 0) ∧
  ∃ (t : Addr) (kb : ClassId), n0 ≤ t ∧ h.size ≤ t ∧ ¬ t = x ∧ RoadKit.Fld Z h' x ST "value" "[B" (.ref t) ∧ RoadKit.Arv Z h' t kb .byte N (bs.map Value.int) (.int 0)
/-- **new String(chars) AT A CALL, FOR THE WRITER**: a char[] of n known ints, each 0 to 255 -/
theorem backV {p : Program} {l : Launch} {e : Env} {R : Room} {s : State} {args : Array Value} {below : List Frame} {len W : Nat} {Z : State} {a0 : Array Value} {h : Heap} (hZ : Z.Warmed39 s.vm) (hw : ∀ d ∈ words, d.before a0 Z = true) {kI : Nat} (wi : (Jvm.Cond.instantiable ST kI).before a0 Z = true)
    {x b : Addr} {kC : ClassId} {cs bs : List Int32} {d v0 c0 : Value} {z N : Int32} {n n0 : Nat} (hx0 : n0 ≤ x) (hh0 : n0 ≤ h.size) (E : RoadKit.Exa Z h x ST) (V : RoadKit.Fld Z h x ST "value" "[B" v0) (C : RoadKit.Fld Z h x ST "coder" "B" c0) (K : RoadKit.Arv Z h b kC .char N (cs.map Value.int) d) (S : RoadKit.Sta Z h ST "COMPACT_STRINGS" "Z" (.int z)) (hz : ¬ z = 0)
    (hn : cs.length = n) (hN : N = Int32.ofNat n) (l0 : 0 < n) (l2 : n ≤ 4000) (hp : ∀ c ∈ cs, ¬ c < 0 ∧ ¬ (255 : Int32) < c) (hb : bs = cs.map (fun c => c.toInt8.toInt32)) (hfr : 4 ≤ R.frames) (hlo : W + 65 ≤ R.locals) :
    Back l R p e below s args (⟨"java/lang/String", "<init>", "([C)V"⟩ : MethodName) len W (fun P a => a = #[.ref x, .ref b] ∧ P.U.heap = h ∧ P.cells + 1 ≤ R.cells ∧ P.slots + n ≤ R.slots)
      (fun P _ v B => ∃ L, QV Z x N bs h n0 v B.U.heap L ∧ B.locs = P.locs ++ L ∧ B.cells = P.cells + 1 ∧ B.slots = P.slots + n) := by
  subst hn hN hb
  refine Back.mono (backArv hZ hw wi E V C K S hz (n32 (by omega)) l0 (by omega) (fun c hc => (hp c hc).2) hfr hlo) (fun P a hp => hp) (fun P a v B hp hq => ?_)
  obtain ⟨L, ⟨q1, q2, q3, q4, q5, q6, q7, ⟨kb, v1, v2⟩, q9⟩, hl, hc, hs⟩ := hq
  exact ⟨L, ⟨q1, fun y hy => by rw [q2 y hy]; exact hx0, q3, q5, q7, h.size, kb, hh0, Nat.le_refl _, Nat.ne_of_gt E.lt, q6, by rw [List.map_map]; exact v2⟩, hl, hc, hs⟩
end StrChars.Road
end Jvm.Pilot.@@N@@
namespace Jvm.Pilot.@@N@@
open Jvm Jvm.ClassFile Sem Op Lib Jvm.Free Jvm.Stand Jvm.LawKit Jvm.RoadKit Bundle Jvm.Pilot.@@N@@.Jvm.D
abbrev y1 : MethodName := ⟨"com/example/lease/lease/WorkerStateNamedPinLaw", "name", "(I)Ljava/lang/String;"⟩
abbrev y2 : MethodName := ⟨"java/lang/String", "length", "()I"⟩
abbrev y3 : MethodName := ⟨"java/lang/String", "coder", "()B"⟩
abbrev y4 : MethodName := ⟨"com/example/lease/lease/WorkerStateNamedPinLaw", "make", "(IIIC)Ljava/lang/String;"⟩
abbrev y5 : MethodName := ⟨"com/example/lease/lease/WorkerStateNamedPinLaw", "a", "(IIIC)C"⟩
abbrev y6 : MethodName := ⟨"java/lang/String", "charAt", "(I)C"⟩
abbrev y7 : MethodName := ⟨"java/lang/String", "isLatin1", "()Z"⟩
abbrev y8 : MethodName := ⟨"java/lang/StringLatin1", "charAt", "([BI)C"⟩
abbrev y9 : MethodName := ⟨"java/lang/String", "checkIndex", "(II)V"⟩
abbrev y10 : MethodName := ⟨"jdk/internal/util/Preconditions", "checkIndex", "(IILjava/util/function/BiFunction;)I"⟩
abbrev y11 : MethodName := ⟨"java/lang/String", "<init>", "([C)V"⟩
abbrev y12 : MethodName := ⟨"java/lang/String", "<init>", "([CIILjava/lang/Void;)V"⟩
abbrev y13 : MethodName := ⟨"java/lang/Object", "<init>", "()V"⟩
abbrev y14 : MethodName := ⟨"java/lang/StringUTF16", "compress", "([CII)[B"⟩
abbrev y15 : MethodName := ⟨"java/lang/StringUTF16", "compress", "([CI[BII)I"⟩
abbrev y16 : MethodName := ⟨"java/lang/StringUTF16", "coderFromArrayLen", "([BI)B"⟩
abbrev y17 : MethodName := ⟨"java/lang/String", "equals", "(Ljava/lang/Object;)Z"⟩
abbrev y18 : MethodName := ⟨"java/lang/StringLatin1", "equals", "([B[B)Z"⟩
abbrev y19 : MethodName := ⟨"com/example/lease/lease/WorkerState", "named", "(Ljava/lang/String;)Lcom/example/lease/lease/WorkerState;"⟩
abbrev y20 : MethodName := ⟨"com/example/lease/lease/WorkerState", "values", "()[Lcom/example/lease/lease/WorkerState;"⟩
abbrev y21 : MethodName := ⟨"java/lang/Math", "max", "(II)I"⟩

abbrev jv (x : Int64) : Slot := .val (.long x)
abbrev un : Slot := .unset
abbrev se : Slot := .second
abbrev AT (p : Program) (e : Env) (below : List Frame) (T : State) (m : MethodId) (pc : Nat) (ls : Array Slot) (st : List Value) (tg : State) : Prop := Steps p.tables e below (T.setTop (mkF m pc ls st)) tg
theorem ow {Z : State} {a0 : Array Value} (hw : ∀ d ∈ tables_1, d.before a0 Z = true) (i : Nat) {d : Jvm.Cond} (h : tables_1[i]? = some d) : d.before a0 Z = true := hw _ (List.mem_of_getElem? h)
theorem own_lrem {p : Program} {l : Launch} {e : Env} {R : Room} {s : State} {m : MethodId} {args : Array Value} {below : List Frame} {meth : Method} {c : Code} {T : State} {locs : List Loc} {cells slots : Nat} {g : JFrame} {target : State} (X : Stand p l e R s m args below meth c T locs cells slots) (hx : p.tables.exec = Jvm.exec) (hg : g.method = m) {x y : Int64} {rest : List Value} (hd : decode c.code g.pc = .ok (.lrem, 1)) (hs : g.stack = .long y :: .long x :: rest) (hy : y ≠ 0)
    (hr : Steps p.tables e below (T.setTop { g with pc := g.pc + 1, stack := .long (x % y) :: rest }) target) : Steps p.tables e below (T.setTop g) target :=
  XS.lrem X.here hx hg hd hs hy (by rw [lrem_mod]; exact hr)
theorem own_eqInt {args : Array Value} {first s : State} {o : Option Outcome} {idx : List Nat} {t : Term} {n : Int32} (h : (Jvm.Cond.eq t (.int n)).value args first o s idx = some true) : t.eval args first o idx s = some (.int n) := by
  simp only [Cond.value, Term.eval] at h
  cases ht : t.eval args first o idx s with
  | none => simp [ht] at h
  | some v => cases v <;> simp [ht] at h ⊢; exact h
theorem own_eqLong {args : Array Value} {first s : State} {o : Option Outcome} {idx : List Nat} {t : Term} {n : Int64} (h : (Jvm.Cond.eq t (.long n)).value args first o s idx = some true) : t.eval args first o idx s = some (.long n) := by
  simp only [Cond.value, Term.eval] at h
  cases ht : t.eval args first o idx s with
  | none => simp [ht] at h
  | some v => cases v <;> simp [ht] at h ⊢; exact h
theorem own_eqRef {args : Array Value} {first s : State} {o : Option Outcome} {idx : List Nat} {t u : Term} {a : Addr} (hu : u.eval args first o idx s = some (.ref a)) (h : (Jvm.Cond.eq t u).value args first o s idx = some true) : t.eval args first o idx s = some (.ref a) := by
  simp only [Cond.value, hu] at h
  cases ht : t.eval args first o idx s with
  | none => simp [ht] at h
  | some v => cases v <;> simp [ht] at h ⊢; exact h

theorem own_x32 {a b : Int} (h : (a - b) % 4294967296 = 0) (r : -2147483648 ≤ a ∧ a ≤ 2147483647) (q : -2147483648 ≤ b ∧ b ≤ 2147483647) : a = b := by omega
theorem own_x64 {a b : Int} (h : (a - b) % 18446744073709551616 = 0) (r : -9223372036854775808 ≤ a ∧ a ≤ 9223372036854775807) (q : -9223372036854775808 ≤ b ∧ b ≤ 9223372036854775807) : a = b := by omega
theorem own_in {c : Cell} {n : Int32} (j : Int32) (S : c.slots.size = n.toNatClampNeg) (q : ¬ j < 0 ∧ j < n) : ¬ (j < 0 ∨ c.slots.size ≤ j.toNatClampNeg) := inb_of S q
theorem own_up {x a b : Int32} (h : x < a) (q : a.toInt ≤ b.toInt) : x < b := Int32.lt_iff_toInt_lt.mpr (Int.lt_of_lt_of_le (Int32.lt_iff_toInt_lt.mp h) q)
theorem own_dn {x a b : Int32} (h : ¬ x < a) (q : b.toInt ≤ a.toInt) : ¬ x < b := fun z => h (own_up z q)
theorem own_neInt {args : Array Value} {first s : State} {o : Option Outcome} {idx : List Nat} {t : Term} {x n : Int32} (ht : t.eval args first o idx s = some (.int x)) (h : (Jvm.Cond.not (Jvm.Cond.eq t (.int n))).value args first o s idx = some true) : ¬ x = n := by
  simpa [Cond.value, Term.eval, ht] using h

theorem own_len {Z : State} {args : Array Value} {t : Term} {a : Addr} {cl : Cell} {ty : FieldType} {n : Int32} (ev : t.eval args Z none [] Z = some (.ref a)) (A : Arr Z Z.heap a cl ty) (h : (Term.length t).eval args Z none [] Z = some (.int n)) : cl.slots.size < 2 ^ 31 ∧ cl.slots.size.toInt32 = n := by
  have q := A.fin (U := Z) (Vm.Alike.refl _)
  simp only [Term.eval, ev, q, Option.bind_eq_bind, Option.bind_some, Option.pure_def] at h
  split at h
  · rename_i hlt; exact ⟨hlt, by simpa using h⟩
  · simp at h

theorem own_nar {v : Value} {c : String} (h : v.isRef = true) : narrow (.object c) v = v := by cases v <;> first | rfl | simp [Value.isRef] at h
theorem own_fits {v : Value} {c : String} (h : v.isRef = true) : fits (.object c) v = true := by cases v <;> first | rfl | simp [Value.isRef] at h
theorem own_cat {v : Value} (h : v.isRef = true) : v.category = 1 := by cases v <;> first | rfl | simp [Value.isRef] at h

theorem own_notOf {Z : State} {a0 : Array Value} {C S K : String} {n : Nat} (w : (Jvm.Cond.superclass C S).before a0 Z = true) (w0 : (Jvm.Cond.noSuperclass S).before a0 Z = true) (wk : (Jvm.Cond.instantiable K n).before a0 Z = true) (h1 : C ≠ K) (h2 : S ≠ K) :
    ∃ c t, Z.vm.findClass C = some c ∧ Z.vm.findClass K = some t ∧ Z.vm.assignable c t = false := by
  obtain ⟨t, k', g0, g2, g5, g7, -⟩ := Cond.instantiable_spec wk
  obtain ⟨c, h0⟩ := found_sup w
  obtain ⟨p, k, kp, q1, q2, q3, q4, q5, q6, q7⟩ := Cond.superclass_spec h0 w
  obtain ⟨c0, k0, r1, r2, r3, -, -⟩ := Cond.noSuperclass_spec w0
  cases q1.symm.trans r1
  have ne1 := ids_ne h0 g0 h1
  have ne2 := ids_ne r1 g0 h2
  have g8 := (Bool.or_eq_false_iff.mp g7).1
  have n3 : ∀ fuel, Z.vm.isSubclassAux fuel c t = false := by
    intro fuel
    cases fuel with
    | zero => rfl
    | succ f =>
      cases f with
      | zero => simp [Vm.isSubclassAux, ne1, q2, q4]
      | succ g => simp [Vm.isSubclassAux, ne1, ne2, q2, q4, r2, r3]
  refine ⟨c, t, h0, g0, ?_⟩
  show Z.vm.assignableAux (255 + 1) c t = false
  simp [Vm.assignableAux, ne1, q2, g2, q5, g5, g8, Vm.isSubclass, n3]

theorem own_selP {Z s : State} {a0 args : Array Value} {y : MethodName} {n : Nat} (hZ : Z.Warmed39 s.vm) (wi : (Jvm.Cond.instantiable y.cls n).before a0 Z = true) (wp : (Jvm.Cond.privateMethod y).before a0 Z = true) (wm : (Jvm.Cond.instanceMethod y).before a0 Z = true) (hy : y.cls ≠ "java/lang/invoke/MethodHandle" ∧ y.cls ≠ "java/lang/invoke/VarHandle") : (Jvm.Cond.selects y.cls y y).before args s = true := by
  obtain ⟨c, k, hc, hk, -, hni, -⟩ := Cond.instantiable_spec (mvT (s := s) (args := args) hZ wi)
  exact selects_self_of_private hc hk (Bool.or_eq_false_iff.mp hni).1 (Cond.privateMethod_at (mvP hZ wp (args := #[]))) (mvT hZ wm) hy

theorem own_neS {Z : State} {h : Heap} {a b u w : Addr} {C f d : String} {k k' : ClassId} {ty : FieldType} {z z' : Int32} {vs vs' : List Value} {dv dv' : Value} (Fa : Fld Z h a C f d (.ref u)) (Va : Arv Z h u k ty z vs dv) (Fb : Fld Z h b C f d (.ref w)) (Vb : Arv Z h w k' ty z' vs' dv') (hn : z ≠ z' ∨ ∃ i : Nat, i < z.toNatClampNeg ∧ vs.getD i dv ≠ vs'.getD i dv') : a ≠ b := fun e => by
  subst e
  have hu : u = w := by
    rcases Decidable.em (u = w) with q | q
    · exact q
    · exact absurd rfl (Fld.ne Fa Fb (fun x => q (Value.ref.inj x)))
  subst hu
  obtain ⟨c1, A1, -, S1, N1, H1, -⟩ := Va
  obtain ⟨c2, A2, -, S2, N2, H2, -⟩ := Vb
  cases A1.1.symm.trans A2.1
  rcases hn with hn | ⟨i, hi, hn⟩
  · exact hn ((len_of S1 N1).symm.trans (len_of S2 N2))
  · have q1 := H1 i (by rw [S1]; exact hi)
    have q2 := H2 i (by rw [S1]; exact hi)
    exact hn (Option.some.inj (q1.symm.trans q2))

theorem own_goal {P : Prop} (h : ∀ G : Prop, (P → G) → G) : P := h P id
theorem own_mono {p : Program} {l : Launch} {e : Env} {R : Room} {s : State} {m : MethodId} {args : Array Value} {below : List Frame} {meth : Method} {c : Code} {T : State} {locs : List Loc} {cells slots c2 s2 : Nat} (X : Stand p l e R s m args below meth c T locs cells slots) (h1 : cells ≤ c2) (h2 : slots ≤ s2) : Stand p l e R s m args below meth c T locs c2 s2 := { X with same := X.same.mono h1 h2 }

theorem own_sa {Z : State} {a0 : Array Value} (hw : ∀ d ∈ tables_1, d.before a0 Z = true) : ∀ a ∈ Bundle.stringAtoms, a.before a0 Z = true := fun d hd => by
  simp only [Bundle.stringAtoms, List.mem_cons, List.not_mem_nil, or_false] at hd
  rcases hd with rfl | rfl | rfl | rfl | rfl | rfl | rfl
  · exact ow hw 6 rfl
  · exact ow hw 7 rfl
  · exact ow hw 8 rfl
  · exact ow hw 9 rfl
  · exact ow hw 10 rfl
  · exact ow hw 11 rfl
  · exact ow hw 12 rfl
abbrev EL0 : List (String × Nat) := [("com/example/lease/lease/WorkerStateNamedPinLaw", 30), ("com/example/lease/lease/WorkerStateNamedPinLaw", 42), ("com/example/lease/lease/WorkerStateNamedPinLaw", 47), ("com/example/lease/lease/WorkerStateNamedPinLaw", 56), ("java/lang/String", 7)]
def Wd (Z : State) (w_z0 : Int32) (w_z1 : Value) (w_z2 : Addr) (w_z3 : Addr) (w_z4 : Addr) (w_z5 : Addr) (w_z6 : Addr) (w_z7 : Addr) (w_z8 : Addr) (w_z9 : Addr) (w_z10 : Addr) (w_z11 : Addr) (k_z3 : ClassId) (k_z7 : ClassId) (k_z9 : ClassId) (k_z11 : ClassId) : Prop :=
  Sta Z Z.heap "java/lang/String" "COMPACT_STRINGS" "Z" (.int w_z0) ∧
  ¬ w_z0 = (0 : Int32) ∧
  Sta Z Z.heap "jdk/internal/util/Preconditions" "SIOOBE_FORMATTER" "Ljava/util/function/BiFunction;" w_z1 ∧
  w_z1.isRef = true ∧
  Sta Z Z.heap "com/example/lease/lease/WorkerState" "RUNNING" "Lcom/example/lease/lease/WorkerState;" (.ref w_z2) ∧
  Exa Z Z.heap w_z2 "com/example/lease/lease/WorkerState" ∧
  Sta Z Z.heap "com/example/lease/lease/WorkerState" "$VALUES" "[Lcom/example/lease/lease/WorkerState;" (.ref w_z3) ∧
  Exa Z Z.heap w_z3 "[Lcom/example/lease/lease/WorkerState;" ∧
  Sta Z Z.heap "com/example/lease/lease/WorkerState" "QUIET" "Lcom/example/lease/lease/WorkerState;" (.ref w_z4) ∧
  Exa Z Z.heap w_z4 "com/example/lease/lease/WorkerState" ∧
  Sta Z Z.heap "com/example/lease/lease/WorkerState" "TERMINATE" "Lcom/example/lease/lease/WorkerState;" (.ref w_z5) ∧
  Exa Z Z.heap w_z5 "com/example/lease/lease/WorkerState" ∧
  Fld Z Z.heap w_z2 "com/example/lease/lease/WorkerState" "shown" "Ljava/lang/String;" (.ref w_z6) ∧
  Exa Z Z.heap w_z6 "java/lang/String" ∧
  Fld Z Z.heap w_z6 "java/lang/String" "coder" "B" (.int (0 : Int32)) ∧
  Fld Z Z.heap w_z6 "java/lang/String" "value" "[B" (.ref w_z7) ∧
  Fld Z Z.heap w_z4 "com/example/lease/lease/WorkerState" "shown" "Ljava/lang/String;" (.ref w_z8) ∧
  Exa Z Z.heap w_z8 "java/lang/String" ∧
  Fld Z Z.heap w_z8 "java/lang/String" "coder" "B" (.int (0 : Int32)) ∧
  Fld Z Z.heap w_z8 "java/lang/String" "value" "[B" (.ref w_z9) ∧
  Fld Z Z.heap w_z5 "com/example/lease/lease/WorkerState" "shown" "Ljava/lang/String;" (.ref w_z10) ∧
  Exa Z Z.heap w_z10 "java/lang/String" ∧
  Fld Z Z.heap w_z10 "java/lang/String" "coder" "B" (.int (0 : Int32)) ∧
  Fld Z Z.heap w_z10 "java/lang/String" "value" "[B" (.ref w_z11) ∧
  Arv Z Z.heap w_z3 k_z3 (.object "com/example/lease/lease/WorkerState") (3 : Int32) [(.ref w_z2), (.ref w_z4), (.ref w_z5)] .null ∧
  Arv Z Z.heap w_z7 k_z7 .byte (7 : Int32) [(.int (114 : Int32)), (.int (117 : Int32)), (.int (110 : Int32)), (.int (110 : Int32)), (.int (105 : Int32)), (.int (110 : Int32)), (.int (103 : Int32))] (.int (0 : Int32)) ∧
  Arv Z Z.heap w_z9 k_z9 .byte (5 : Int32) [(.int (113 : Int32)), (.int (117 : Int32)), (.int (105 : Int32)), (.int (101 : Int32)), (.int (116 : Int32))] (.int (0 : Int32)) ∧
  Arv Z Z.heap w_z11 k_z11 .byte (9 : Int32) [(.int (116 : Int32)), (.int (101 : Int32)), (.int (114 : Int32)), (.int (109 : Int32)), (.int (105 : Int32)), (.int (110 : Int32)), (.int (97 : Int32)), (.int (116 : Int32)), (.int (101 : Int32))] (.int (0 : Int32))
variable {w_z0 : Int32} {w_z1 : Value} {w_z2 : Addr} {w_z3 : Addr} {w_z4 : Addr} {w_z5 : Addr} {w_z6 : Addr} {w_z7 : Addr} {w_z8 : Addr} {w_z9 : Addr} {w_z10 : Addr} {w_z11 : Addr} {k_z3 : ClassId} {k_z7 : ClassId} {k_z9 : ClassId} {k_z11 : ClassId}
theorem pn_0 : plainName "java/lang/String" = true := by first | (simp [plainName, overriddenIn]; done) | decide +kernel
theorem pn_1 : plainName "jdk/internal/util/Preconditions" = true := by first | (simp [plainName, overriddenIn]; done) | decide +kernel
theorem pn_2 : plainName "java/lang/StringLatin1" = true := by first | (simp [plainName, overriddenIn]; done) | decide +kernel
theorem pn_3 : plainName "com/example/lease/lease/WorkerStateNamedPinLaw" = true := by first | (simp [plainName, overriddenIn]; done) | decide +kernel
theorem pn_4 : plainName "com/example/lease/lease/WorkerState" = true := by first | (simp [plainName, overriddenIn]; done) | decide +kernel
theorem pd_0 : parseMethodDescriptor "()B" = some ⟨[], some .byte⟩ := by decide +kernel
theorem pd_1 : parseMethodDescriptor "(IILjava/util/function/BiFunction;)I" = some ⟨[.int, .int, (.object "java/util/function/BiFunction")], some .int⟩ := by decide +kernel
theorem pd_2 : parseMethodDescriptor "(II)V" = some ⟨[.int, .int], none⟩ := by decide +kernel
theorem pd_3 : parseMethodDescriptor "()Z" = some ⟨[], some .boolean⟩ := by decide +kernel
theorem pd_4 : parseMethodDescriptor "([BI)C" = some ⟨[(.array .byte), .int], some .char⟩ := by decide +kernel
theorem pd_5 : parseMethodDescriptor "(I)Ljava/lang/String;" = some ⟨[.int], some (.object "java/lang/String")⟩ := by decide +kernel
theorem pd_6 : parseMethodDescriptor "()I" = some ⟨[], some .int⟩ := by decide +kernel
theorem pd_7 : parseMethodDescriptor "(I)C" = some ⟨[.int], some .char⟩ := by decide +kernel
theorem pd_8 : parseMethodDescriptor "(IIIC)C" = some ⟨[.int, .int, .int, .char], some .char⟩ := by decide +kernel
theorem pd_9 : parseMethodDescriptor "([CIILjava/lang/Void;)V" = some ⟨[(.array .char), .int, .int, (.object "java/lang/Void")], none⟩ := by decide +kernel
theorem pd_10 : parseMethodDescriptor "([C)V" = some ⟨[(.array .char)], none⟩ := by decide +kernel
theorem pd_11 : parseMethodDescriptor "([B[B)Z" = some ⟨[(.array .byte), (.array .byte)], some .boolean⟩ := by decide +kernel
theorem pd_12 : parseMethodDescriptor "()[Lcom/example/lease/lease/WorkerState;" = some ⟨[], some (.array (.object "com/example/lease/lease/WorkerState"))⟩ := by decide +kernel
theorem pd_13 : parseMethodDescriptor "(Ljava/lang/Object;)Z" = some ⟨[(.object "java/lang/Object")], some .boolean⟩ := by decide +kernel
theorem pd_14 : parseMethodDescriptor "(II)I" = some ⟨[.int, .int], some .int⟩ := by decide +kernel
theorem pd_15 : parseMethodDescriptor "(IIIC)Ljava/lang/String;" = some ⟨[.int, .int, .int, .char], some (.object "java/lang/String")⟩ := by decide +kernel
theorem pd_16 : parseMethodDescriptor "(Ljava/lang/String;)Lcom/example/lease/lease/WorkerState;" = some ⟨[(.object "java/lang/String")], some (.object "com/example/lease/lease/WorkerState")⟩ := by decide +kernel

theorem own_safeNull {Z : State} {EL : List (String × Nat)} {vm : Vm} {h : Heap} {a : Addr} {n : Nat} {a0 : Array Value} (hal : Z.vm.Alike vm) (wi : (Jvm.Cond.instantiable "java/lang/String" n).before a0 Z = true) (E : Exa Z h a "java/lang/String") (F : Fld Z h a "java/lang/String" "value" "[B" .null) : Safe Z EL vm h a := fun B => by
  obtain ⟨p, -, u, b, -, q, hq, ⟨cS, ⟨⟨g1, g2, g3, ⟨c1, k1, i1, f1, -⟩, -, g6, -, g8, -, g10, g11, g12, -⟩, -, -⟩, -⟩, hy⟩ := B
  rcases hy with rfl | rfl
  · obtain ⟨cell, cf, k, i, f, h1, h2, h3, -, -, -, h7⟩ := F
    cases h1.symm.trans g1
    obtain ⟨k3, e3, -⟩ := State.fieldFound?_setVm (s := { Z with heap := h }) hal (show ({ Z with heap := h } : State).fieldFound? "java/lang/String" "value" "[B" = _ from h2)
    have e4 := (show (Wst Z vm h).fieldFound? _ _ _ = _ from e3).symm.trans f1
    simp only [Option.some.injEq, Prod.mk.injEq] at e4
    rw [e4.2.2.2, g8] at h7
    cases h7
  · exact ne_arr E wi (show Arr Z h q.sd q.SA .byte from ⟨g10, State.isArrayOf_alike (s := Wst Z vm h) (T := Z) hal.symm g11, g12⟩) rfl


theorem own_ws {Z : State} {a0 : Array Value} (hw : ∀ d ∈ tables_1, d.before a0 Z = true) : ∀ d ∈ StrChars.Road.words, d.before a0 Z = true := fun d hd => hw d ((by decide +kernel : ∀ d ∈ StrChars.Road.words, d ∈ tables_1) d hd)
theorem own_cn {P : Int32 → Prop} : ∀ x ∈ ([] : List Int32), P x := fun _ q => nomatch q
theorem own_cc {P : Int32 → Prop} {c : Int32} {l : List Int32} (h : P c) (t : ∀ x ∈ l, P x) : ∀ x ∈ c :: l, P x := List.forall_mem_cons.mpr ⟨h, t⟩

def wd0 (p : Int32) : Int32 := if p = (0 : Int32) then (114 : Int32) else (if p = (1 : Int32) then (117 : Int32) else (if p = (2 : Int32) then (110 : Int32) else (if p = (3 : Int32) then (110 : Int32) else (if p = (4 : Int32) then (105 : Int32) else (if p = (5 : Int32) then (110 : Int32) else ((103 : Int32)))))))
def wd1 (p : Int32) : Int32 := if p = (0 : Int32) then (113 : Int32) else (if p = (1 : Int32) then (117 : Int32) else (if p = (2 : Int32) then (105 : Int32) else (if p = (3 : Int32) then (101 : Int32) else ((116 : Int32)))))
def wd2 (p : Int32) : Int32 := if p = (0 : Int32) then (116 : Int32) else (if p = (1 : Int32) then (101 : Int32) else (if p = (2 : Int32) then (114 : Int32) else (if p = (3 : Int32) then (109 : Int32) else (if p = (4 : Int32) then (105 : Int32) else (if p = (5 : Int32) then (110 : Int32) else (if p = (6 : Int32) then (97 : Int32) else (if p = (7 : Int32) then (116 : Int32) else ((101 : Int32)))))))))
def av0 (i p c : Int32) : Int32 := if i = p then c else if i < (7 : Int32) then wd0 i else c
def av1 (i p c : Int32) : Int32 := if i = p then c else if i < (5 : Int32) then wd1 i else c
def av2 (i p c : Int32) : Int32 := if i = p then c else if i < (9 : Int32) then wd2 i else c
def av3 (i p c : Int32) : Int32 := if i = p then c else c

theorem own_nch {x : Int32} (h : 0 ≤ x.toInt ∧ x.toInt ≤ 255) : nar .char x = x := by
  show x.toUInt32.toUInt16.toUInt32.toInt32 = x
  have := c_i2c x
  rw [← Int32.toInt_inj]
  omega
theorem own_i32 {x : Int32} {n : Int} (h : x.toInt = n) (y : Int32) (e : y.toInt = n) : x = y := by rw [← Int32.toInt_inj, h, e]
theorem own_cz (x : Int32) : 0 ≤ ((x &&& (255 : Int32)).toUInt32.toUInt16.toUInt32.toInt32).toInt ∧ ((x &&& (255 : Int32)).toUInt32.toUInt16.toUInt32.toInt32).toInt ≤ 255 := by
  rw [i2c_mask]
  have k : ((255 : Int32)).toInt = 255 := rfl
  have := c_and x (255 : Int32) (by decide)
  omega
theorem own_255 {x : Int32} (h : 0 ≤ x.toInt ∧ x.toInt ≤ 255) : ¬ (255 : Int32) < x := by
  rw [Int32.lt_iff_toInt_lt]
  have k : ((255 : Int32)).toInt = 255 := rfl
  omega
theorem own_0 {x : Int32} (h : 0 ≤ x.toInt ∧ x.toInt ≤ 255) : ¬ x < (0 : Int32) := by
  rw [Int32.lt_iff_toInt_lt]
  have k : ((0 : Int32)).toInt = 0 := rfl
  omega

theorem own_c0 {p : Int32} (h0 : ¬ p < (0 : Int32)) (h1 : p < (7 : Int32)) : p = (0 : Int32) ∨ p = (1 : Int32) ∨ p = (2 : Int32) ∨ p = (3 : Int32) ∨ p = (4 : Int32) ∨ p = (5 : Int32) ∨ p = (6 : Int32) := by
  rw [Int32.lt_iff_toInt_lt] at h0 h1
  have l0 : ((0 : Int32)).toInt = 0 := rfl
  have ln : ((7 : Int32)).toInt = 7 := rfl
  have k1 : ((1 : Int32)).toInt = 1 := rfl
  have k2 : ((2 : Int32)).toInt = 2 := rfl
  have k3 : ((3 : Int32)).toInt = 3 := rfl
  have k4 : ((4 : Int32)).toInt = 4 := rfl
  have k5 : ((5 : Int32)).toInt = 5 := rfl
  have k6 : ((6 : Int32)).toInt = 6 := rfl
  simp only [← Int32.toInt_inj, l0, k1, k2, k3, k4, k5, k6]
  omega

theorem own_g0 {p : Int32} (h : p = (0 : Int32) ∨ p = (1 : Int32) ∨ p = (2 : Int32) ∨ p = (3 : Int32) ∨ p = (4 : Int32) ∨ p = (5 : Int32) ∨ p = (6 : Int32)) : ([(.int (114 : Int32)), (.int (117 : Int32)), (.int (110 : Int32)), (.int (110 : Int32)), (.int (105 : Int32)), (.int (110 : Int32)), (.int (103 : Int32))] : List Value).getD p.toNatClampNeg (.int (0 : Int32)) = (.int (wd0 p)) := by rcases h with rfl | rfl | rfl | rfl | rfl | rfl | rfl <;> rfl

theorem own_wr0 {p : Int32} (h : p = (0 : Int32) ∨ p = (1 : Int32) ∨ p = (2 : Int32) ∨ p = (3 : Int32) ∨ p = (4 : Int32) ∨ p = (5 : Int32) ∨ p = (6 : Int32)) : 0 ≤ (wd0 p).toInt ∧ (wd0 p).toInt ≤ 255 := by rcases h with rfl | rfl | rfl | rfl | rfl | rfl | rfl <;> decide

theorem own_wc0 {p : Int32} (h : p = (0 : Int32) ∨ p = (1 : Int32) ∨ p = (2 : Int32) ∨ p = (3 : Int32) ∨ p = (4 : Int32) ∨ p = (5 : Int32) ∨ p = (6 : Int32)) : nar .char (((wd0 p) &&& (255 : Int32)).toUInt32.toUInt16.toUInt32.toInt32) = wd0 p := by rcases h with rfl | rfl | rfl | rfl | rfl | rfl | rfl <;> decide

theorem own_c1 {p : Int32} (h0 : ¬ p < (0 : Int32)) (h1 : p < (5 : Int32)) : p = (0 : Int32) ∨ p = (1 : Int32) ∨ p = (2 : Int32) ∨ p = (3 : Int32) ∨ p = (4 : Int32) := by
  rw [Int32.lt_iff_toInt_lt] at h0 h1
  have l0 : ((0 : Int32)).toInt = 0 := rfl
  have ln : ((5 : Int32)).toInt = 5 := rfl
  have k1 : ((1 : Int32)).toInt = 1 := rfl
  have k2 : ((2 : Int32)).toInt = 2 := rfl
  have k3 : ((3 : Int32)).toInt = 3 := rfl
  have k4 : ((4 : Int32)).toInt = 4 := rfl
  simp only [← Int32.toInt_inj, l0, k1, k2, k3, k4]
  omega

theorem own_g1 {p : Int32} (h : p = (0 : Int32) ∨ p = (1 : Int32) ∨ p = (2 : Int32) ∨ p = (3 : Int32) ∨ p = (4 : Int32)) : ([(.int (113 : Int32)), (.int (117 : Int32)), (.int (105 : Int32)), (.int (101 : Int32)), (.int (116 : Int32))] : List Value).getD p.toNatClampNeg (.int (0 : Int32)) = (.int (wd1 p)) := by rcases h with rfl | rfl | rfl | rfl | rfl <;> rfl

theorem own_wr1 {p : Int32} (h : p = (0 : Int32) ∨ p = (1 : Int32) ∨ p = (2 : Int32) ∨ p = (3 : Int32) ∨ p = (4 : Int32)) : 0 ≤ (wd1 p).toInt ∧ (wd1 p).toInt ≤ 255 := by rcases h with rfl | rfl | rfl | rfl | rfl <;> decide

theorem own_wc1 {p : Int32} (h : p = (0 : Int32) ∨ p = (1 : Int32) ∨ p = (2 : Int32) ∨ p = (3 : Int32) ∨ p = (4 : Int32)) : nar .char (((wd1 p) &&& (255 : Int32)).toUInt32.toUInt16.toUInt32.toInt32) = wd1 p := by rcases h with rfl | rfl | rfl | rfl | rfl <;> decide

theorem own_c2 {p : Int32} (h0 : ¬ p < (0 : Int32)) (h1 : p < (9 : Int32)) : p = (0 : Int32) ∨ p = (1 : Int32) ∨ p = (2 : Int32) ∨ p = (3 : Int32) ∨ p = (4 : Int32) ∨ p = (5 : Int32) ∨ p = (6 : Int32) ∨ p = (7 : Int32) ∨ p = (8 : Int32) := by
  rw [Int32.lt_iff_toInt_lt] at h0 h1
  have l0 : ((0 : Int32)).toInt = 0 := rfl
  have ln : ((9 : Int32)).toInt = 9 := rfl
  have k1 : ((1 : Int32)).toInt = 1 := rfl
  have k2 : ((2 : Int32)).toInt = 2 := rfl
  have k3 : ((3 : Int32)).toInt = 3 := rfl
  have k4 : ((4 : Int32)).toInt = 4 := rfl
  have k5 : ((5 : Int32)).toInt = 5 := rfl
  have k6 : ((6 : Int32)).toInt = 6 := rfl
  have k7 : ((7 : Int32)).toInt = 7 := rfl
  have k8 : ((8 : Int32)).toInt = 8 := rfl
  simp only [← Int32.toInt_inj, l0, k1, k2, k3, k4, k5, k6, k7, k8]
  omega

theorem own_g2 {p : Int32} (h : p = (0 : Int32) ∨ p = (1 : Int32) ∨ p = (2 : Int32) ∨ p = (3 : Int32) ∨ p = (4 : Int32) ∨ p = (5 : Int32) ∨ p = (6 : Int32) ∨ p = (7 : Int32) ∨ p = (8 : Int32)) : ([(.int (116 : Int32)), (.int (101 : Int32)), (.int (114 : Int32)), (.int (109 : Int32)), (.int (105 : Int32)), (.int (110 : Int32)), (.int (97 : Int32)), (.int (116 : Int32)), (.int (101 : Int32))] : List Value).getD p.toNatClampNeg (.int (0 : Int32)) = (.int (wd2 p)) := by rcases h with rfl | rfl | rfl | rfl | rfl | rfl | rfl | rfl | rfl <;> rfl

theorem own_wr2 {p : Int32} (h : p = (0 : Int32) ∨ p = (1 : Int32) ∨ p = (2 : Int32) ∨ p = (3 : Int32) ∨ p = (4 : Int32) ∨ p = (5 : Int32) ∨ p = (6 : Int32) ∨ p = (7 : Int32) ∨ p = (8 : Int32)) : 0 ≤ (wd2 p).toInt ∧ (wd2 p).toInt ≤ 255 := by rcases h with rfl | rfl | rfl | rfl | rfl | rfl | rfl | rfl | rfl <;> decide

theorem own_wc2 {p : Int32} (h : p = (0 : Int32) ∨ p = (1 : Int32) ∨ p = (2 : Int32) ∨ p = (3 : Int32) ∨ p = (4 : Int32) ∨ p = (5 : Int32) ∨ p = (6 : Int32) ∨ p = (7 : Int32) ∨ p = (8 : Int32)) : nar .char (((wd2 p) &&& (255 : Int32)).toUInt32.toUInt16.toUInt32.toInt32) = wd2 p := by rcases h with rfl | rfl | rfl | rfl | rfl | rfl | rfl | rfl | rfl <;> decide

theorem d3_0 : decode jdk_42_method_152_code 0 = .ok (.getstatic 38, 3) := by decide +kernel
theorem d3_3 : decode jdk_42_method_152_code 3 = .ok (.ifCond .eq 10, 3) := by decide +kernel
theorem d3_6 : decode jdk_42_method_152_code 6 = .ok (.aload_n 0, 1) := by decide +kernel
theorem d3_7 : decode jdk_42_method_152_code 7 = .ok (.getfield 15, 3) := by decide +kernel
theorem d3_10 : decode jdk_42_method_152_code 10 = .ok (.goto 4, 3) := by decide +kernel
theorem d3_14 : decode jdk_42_method_152_code 14 = .ok (.ireturn, 1) := by decide +kernel
theorem ef_3 (m : MethodId) (a0 : Addr) : entryFrame m #[(.ref a0)] 1 = mkF m 0 #[rv a0] [] := by first | (simp [entryFrame, mkF, argsToLocals, Value.category]; done) | rfl
def Q3 (Z : State) (a0 : Addr) (h0 : Heap) (n0 : Nat) (v : Option Value) (h : Heap) (L : List Loc) : Prop := v = some (.int (0 : Int32)) ∧ Fr n0 L ∧ h = h0
abbrev R3 : Room := ({ frames := 0, cells := 0, slots := 0, locals := 0 } : Room)
set_option maxRecDepth 65536 in
set_option maxHeartbeats 40000000 in
theorem rm3 (l : Launch) (Z : State) (ar : Array Value) (hw : ∀ d ∈ tables_1, d.before ar Z = true) (ws : List Jvm.Cond) (a0 : Addr) (h0 : Heap) (n0 : Nat) (O0 : Old Z n0 h0) (HW : Wd Z w_z0 w_z1 w_z2 w_z3 w_z4 w_z5 w_z6 w_z7 w_z8 w_z9 w_z10 w_z11 k_z3 k_z7 k_z9 k_z11) (pf0 : Fld Z h0 a0 "java/lang/String" "coder" "B" (.int (0 : Int32))) :
    MetFree l y3 (head1 (Jvm.Cond.code y3 jdk_42_method_152_code 1 (some .byte) :: ws) R3) (fun a U => a = #[(.ref a0)] ∧ Z.Warmed39 U.vm ∧ U.heap = h0) (fun _ _ _ _ _ => True) (fun _ U o U' => ∃ v L, o = .returned v ∧ Q3 Z a0 h0 n0 v U'.heap L ∧ FrameEnd U o U' L R3.cells R3.slots) := by
 refine MetFree.of_bodySF (plainFor_of_name pn_0) hisR ?_
 intro p e s m args below meth c s₁ Bd hml0 hP hK
 obtain ⟨rfl, hZ, hh⟩ := hP
 have hx := Bd.exec
 have hby := Bd.bytes
 have hml : c.maxLocals = 1 := hml0
 have hown : s.vm.findClass "java/lang/String" = some m.cls := findClass_of_methodNamed Bd.named
 have hnm := (name_of_methodNamed Bd.named Bd.method).1
 have hlk : meth.locks = false := by first | assumption | exact BodyLoose.notSynchronized (by assumption) | exact Body.notSynchronized (by assumption)
 have X0 : Stand p l e R3 s m #[(.ref a0)] below meth c s₁ [] 0 0 := Stand.of_body Bd
 have e0 : s₁.heap = h0 := by rw [← hh, Bd.state]; rfl
 have N0 := Fr.nil n0
 have Z0 : n0 ≤ h0.size := Nat.le_trans (Nat.le_of_eq O0.1.symm) O0.2.1
 obtain ⟨S0, hS0⟩ : ∃ z, z = s₁.setTop (entryFrame m #[(.ref a0)] 1) := ⟨_, rfl⟩
 have pre0 : ∀ tg, AT p e below s₁ m 0 #[rv a0] [] tg → Steps p.tables e below S0 tg := fun tg kg => by rw [hS0]; exact castTop (ef_3 m a0) kg
 obtain ⟨S_q0, hz_w_z0, -, -, -, -, -, -, -, -, -, -, -, -, -, -, -, -, -, -, -, -, -, -, -, -, -, -⟩ := id HW
 obtain ⟨T1, X1, e1, st1⟩ := getS2 X0 hx hZ hown (host := "") (Or.inl (ow hw 24 rfl)) Via.refl e0 (S_q0.ext O0.2) (g := (mkF m 0 #[rv a0] [])) rfl (hb hby d3_0)
 obtain ⟨T2, X2, e2, st2⟩ := getF X1 hx hZ hown (host := "") (Or.inl (ow hw 25 rfl)) Via.refl e1 pf0 (g := (mkF m 7 #[rv a0] [(.ref a0)])) rfl rfl (hb hby d3_7)
 obtain ⟨fs, hr, hrun, hended, hW, hsame⟩ := X2.leave (v := some (.int (0 : Int32))) (fun h => by rw [Bd.returns] at h; cases h) hlk
 subst hS0
 refine ⟨_, _, pre0 _ ?_, hrun, hended, _, _, rfl, ?_, ⟨_, rfl⟩, hW, hsame.mono (by decide) (by decide)⟩
 ·
  refine st1 _ ?_
  show AT p e below T1 m 3 #[rv a0] [(.int w_z0)] _
  refine XS.ifNo X1.here hx rfl (hb hby d3_3) rfl (XT.i0_eq_f (hz_w_z0 : ¬ (w_z0 = (0 : Int32)))) ?_
  refine XS.aloadN X1.here hx rfl (hb hby d3_6) rfl rfl ?_
  refine st2 _ ?_
  refine XS.goto X2.here hx rfl (pc0 := 10) (pc' := 14) rfl (hb hby d3_10) (by decide) (by decide) ?_
  exact retN X2 hx (t := .byte) Bd.returns (by simp) (hb hby d3_14) hr
 ·
  show Q3 Z a0 h0 n0 _ T2.heap _
  rw [e2]
  exact ⟨rfl, N0, rfl⟩

theorem d7_0 : decode jdk_42_method_154_code 0 = .ok (.getstatic 38, 3) := by decide +kernel
theorem d7_3 : decode jdk_42_method_154_code 3 = .ok (.ifCond .eq 14, 3) := by decide +kernel
theorem d7_6 : decode jdk_42_method_154_code 6 = .ok (.aload_n 0, 1) := by decide +kernel
theorem d7_7 : decode jdk_42_method_154_code 7 = .ok (.getfield 15, 3) := by decide +kernel
theorem d7_10 : decode jdk_42_method_154_code 10 = .ok (.ifCond .ne 7, 3) := by decide +kernel
theorem d7_13 : decode jdk_42_method_154_code 13 = .ok (.iconst 1, 1) := by decide +kernel
theorem d7_14 : decode jdk_42_method_154_code 14 = .ok (.goto 4, 3) := by decide +kernel
theorem d7_18 : decode jdk_42_method_154_code 18 = .ok (.ireturn, 1) := by decide +kernel
theorem ef_7 (m : MethodId) (a0 : Addr) : entryFrame m #[(.ref a0)] 1 = mkF m 0 #[rv a0] [] := by first | (simp [entryFrame, mkF, argsToLocals, Value.category]; done) | rfl
def Q7 (Z : State) (a0 : Addr) (h0 : Heap) (n0 : Nat) (v : Option Value) (h : Heap) (L : List Loc) : Prop := v = some (.int (1 : Int32)) ∧ Fr n0 L ∧ h = h0
abbrev R7 : Room := ({ frames := 0, cells := 0, slots := 0, locals := 0 } : Room)
set_option maxRecDepth 65536 in
set_option maxHeartbeats 40000000 in
theorem rm7 (l : Launch) (Z : State) (ar : Array Value) (hw : ∀ d ∈ tables_1, d.before ar Z = true) (ws : List Jvm.Cond) (a0 : Addr) (h0 : Heap) (n0 : Nat) (O0 : Old Z n0 h0) (HW : Wd Z w_z0 w_z1 w_z2 w_z3 w_z4 w_z5 w_z6 w_z7 w_z8 w_z9 w_z10 w_z11 k_z3 k_z7 k_z9 k_z11) (pf0 : Fld Z h0 a0 "java/lang/String" "coder" "B" (.int (0 : Int32))) :
    MetFree l y7 (head1 (Jvm.Cond.code y7 jdk_42_method_154_code 1 (some .boolean) :: ws) R7) (fun a U => a = #[(.ref a0)] ∧ Z.Warmed39 U.vm ∧ U.heap = h0) (fun _ _ _ _ _ => True) (fun _ U o U' => ∃ v L, o = .returned v ∧ Q7 Z a0 h0 n0 v U'.heap L ∧ FrameEnd U o U' L R7.cells R7.slots) := by
 refine MetFree.of_bodySF (plainFor_of_name pn_0) hisR ?_
 intro p e s m args below meth c s₁ Bd hml0 hP hK
 obtain ⟨rfl, hZ, hh⟩ := hP
 have hx := Bd.exec
 have hby := Bd.bytes
 have hml : c.maxLocals = 1 := hml0
 have hown : s.vm.findClass "java/lang/String" = some m.cls := findClass_of_methodNamed Bd.named
 have hnm := (name_of_methodNamed Bd.named Bd.method).1
 have hlk : meth.locks = false := by first | assumption | exact BodyLoose.notSynchronized (by assumption) | exact Body.notSynchronized (by assumption)
 have X0 : Stand p l e R7 s m #[(.ref a0)] below meth c s₁ [] 0 0 := Stand.of_body Bd
 have e0 : s₁.heap = h0 := by rw [← hh, Bd.state]; rfl
 have N0 := Fr.nil n0
 have Z0 : n0 ≤ h0.size := Nat.le_trans (Nat.le_of_eq O0.1.symm) O0.2.1
 obtain ⟨S0, hS0⟩ : ∃ z, z = s₁.setTop (entryFrame m #[(.ref a0)] 1) := ⟨_, rfl⟩
 have pre0 : ∀ tg, AT p e below s₁ m 0 #[rv a0] [] tg → Steps p.tables e below S0 tg := fun tg kg => by rw [hS0]; exact castTop (ef_7 m a0) kg
 obtain ⟨S_q0, hz_w_z0, -, -, -, -, -, -, -, -, -, -, -, -, -, -, -, -, -, -, -, -, -, -, -, -, -, -⟩ := id HW
 obtain ⟨T1, X1, e1, st1⟩ := getS2 X0 hx hZ hown (host := "") (Or.inl (ow hw 24 rfl)) Via.refl e0 (S_q0.ext O0.2) (g := (mkF m 0 #[rv a0] [])) rfl (hb hby d7_0)
 obtain ⟨T2, X2, e2, st2⟩ := getF X1 hx hZ hown (host := "") (Or.inl (ow hw 25 rfl)) Via.refl e1 pf0 (g := (mkF m 7 #[rv a0] [(.ref a0)])) rfl rfl (hb hby d7_7)
 obtain ⟨fs, hr, hrun, hended, hW, hsame⟩ := X2.leave (v := some (.int (1 : Int32))) (fun h => by rw [Bd.returns] at h; cases h) hlk
 subst hS0
 refine ⟨_, _, pre0 _ ?_, hrun, hended, _, _, rfl, ?_, ⟨_, rfl⟩, hW, hsame.mono (by decide) (by decide)⟩
 ·
  refine st1 _ ?_
  show AT p e below T1 m 3 #[rv a0] [(.int w_z0)] _
  refine XS.ifNo X1.here hx rfl (hb hby d7_3) rfl (XT.i0_eq_f (hz_w_z0 : ¬ (w_z0 = (0 : Int32)))) ?_
  refine XS.aloadN X1.here hx rfl (hb hby d7_6) rfl rfl ?_
  refine st2 _ ?_
  show AT p e below T2 m 10 #[rv a0] [(.int (0 : Int32))] _
  refine XS.ifNo X2.here hx rfl (hb hby d7_10) rfl (XT.i0_ne_f ((by decide) : (0 : Int32) = (0 : Int32))) ?_
  refine XS.iconst X2.here hx rfl (hb hby d7_13) ?_
  refine XS.goto X2.here hx rfl (pc0 := 14) (pc' := 18) rfl (hb hby d7_14) (by decide) (by decide) ?_
  exact retN X2 hx (t := .boolean) Bd.returns (by simp) (hb hby d7_18) hr
 ·
  show Q7 Z a0 h0 n0 _ T2.heap _
  rw [e2]
  exact ⟨rfl, N0, rfl⟩

theorem d2_0 : decode jdk_42_method_54_code 0 = .ok (.aload_n 0, 1) := by decide +kernel
theorem d2_1 : decode jdk_42_method_54_code 1 = .ok (.getfield 9, 3) := by decide +kernel
theorem d2_4 : decode jdk_42_method_54_code 4 = .ok (.arraylength, 1) := by decide +kernel
theorem d2_5 : decode jdk_42_method_54_code 5 = .ok (.aload_n 0, 1) := by decide +kernel
theorem d2_6 : decode jdk_42_method_54_code 6 = .ok (.invokevirtual 335, 3) := by decide +kernel
theorem d2_9 : decode jdk_42_method_54_code 9 = .ok (.ishr, 1) := by decide +kernel
theorem d2_10 : decode jdk_42_method_54_code 10 = .ok (.ireturn, 1) := by decide +kernel
theorem ef_2_7 (m : MethodId) (a0 : Addr) : entryFrame m #[(.ref a0)] 1 = mkF m 0 #[rv a0] [] := by first | (simp [entryFrame, mkF, argsToLocals, Value.category]; done) | rfl
def Q2_7 (Z : State) (a0 : Addr) (u : Addr) (ku : ClassId) (vs : List Value) (h0 : Heap) (n0 : Nat) (v : Option Value) (h : Heap) (L : List Loc) : Prop := v = some (.int (7 : Int32)) ∧ Fr n0 L ∧ h = h0
abbrev R2_7 : Room := ({ frames := 1, cells := 0, slots := 0, locals := 13 } : Room)
set_option maxRecDepth 65536 in
set_option maxHeartbeats 40000000 in
theorem rm2_7 (l : Launch) (Z : State) (ar : Array Value) (hw : ∀ d ∈ tables_1, d.before ar Z = true) (ws : List Jvm.Cond) (a0 : Addr) (u : Addr) (ku : ClassId) (vs : List Value) (h0 : Heap) (n0 : Nat) (O0 : Old Z n0 h0) (HW : Wd Z w_z0 w_z1 w_z2 w_z3 w_z4 w_z5 w_z6 w_z7 w_z8 w_z9 w_z10 w_z11 k_z3 k_z7 k_z9 k_z11) (pf0 : Exa Z h0 a0 "java/lang/String") (pf1 : Fld Z h0 a0 "java/lang/String" "coder" "B" (.int (0 : Int32))) (pf2 : Fld Z h0 a0 "java/lang/String" "value" "[B" (.ref u)) (pf3 : Arv Z h0 u ku .byte (7 : Int32) vs (.int (0 : Int32))) :
    MetFree l y2 (head1 (Jvm.Cond.code y2 jdk_42_method_54_code 1 (some .int) :: ws) R2_7) (fun a U => a = #[(.ref a0)] ∧ Z.Warmed39 U.vm ∧ U.heap = h0) (fun _ _ _ _ _ => True) (fun _ U o U' => ∃ v L, o = .returned v ∧ Q2_7 Z a0 u ku vs h0 n0 v U'.heap L ∧ FrameEnd U o U' L R2_7.cells R2_7.slots) := by
 refine MetFree.of_bodySF (plainFor_of_name pn_0) hisR ?_
 intro p e s m args below meth c s₁ Bd hml0 hP hK
 obtain ⟨rfl, hZ, hh⟩ := hP
 have hx := Bd.exec
 have hby := Bd.bytes
 have hml : c.maxLocals = 1 := hml0
 have hown : s.vm.findClass "java/lang/String" = some m.cls := findClass_of_methodNamed Bd.named
 have hnm := (name_of_methodNamed Bd.named Bd.method).1
 have hlk : meth.locks = false := by first | assumption | exact BodyLoose.notSynchronized (by assumption) | exact Body.notSynchronized (by assumption)
 have X0 : Stand p l e R2_7 s m #[(.ref a0)] below meth c s₁ [] 0 0 := Stand.of_body Bd
 have e0 : s₁.heap = h0 := by rw [← hh, Bd.state]; rfl
 have N0 := Fr.nil n0
 have Z0 : n0 ≤ h0.size := Nat.le_trans (Nat.le_of_eq O0.1.symm) O0.2.1
 obtain ⟨S0, hS0⟩ : ∃ z, z = s₁.setTop (entryFrame m #[(.ref a0)] 1) := ⟨_, rfl⟩
 have pre0 : ∀ tg, AT p e below s₁ m 0 #[rv a0] [] tg → Steps p.tables e below S0 tg := fun tg kg => by rw [hS0]; exact castTop (ef_2_7 m a0) kg
 obtain ⟨-, -, -, -, -, -, -, -, -, -, -, -, -, -, -, -, -, -, -, -, -, -, -, -, -, -, -, -⟩ := id HW
 obtain ⟨T1, X1, e1, st1⟩ := getF X0 hx hZ hown (host := "") (Or.inl (ow hw 18 rfl)) Via.refl e0 pf2 (g := (mkF m 1 #[rv a0] [(.ref a0)])) rfl rfl (hb hby d2_1)
 obtain ⟨cl2, Ar2, q2, S2, N2, H2, G2⟩ := id pf3
 obtain ⟨cq3, kq3, q3a, q3b, q3c⟩ := isOf hZ e1 pf0
 obtain ⟨_, _, ⟨T3, L3, k3, n3⟩, -, X3, ⟨Lc3, hQ3, l3, y3, z3⟩, st3⟩ := X1.virtualBack hx (y := y3) (z := y3) hown (mvT hZ (ow hw 19 rfl)) (mvT hZ (ow hw 20 rfl)) (notFace_of_selects (args := #[]) (mvT hZ (ow hw 22 rfl))) (mvT hZ (ow hw 22 rfl)) (mvT hZ (ow hw 21 rfl)) (by decide) (backOf (W := 1) (rm3 l Z ar hw [] a0 h0 n0 O0 HW pf1) hZ (ow hw 23 rfl) (ow hw 6 rfl) (by decide) (by decide)) q3a q3c (g := (mkF m 6 #[rv a0] [(.ref a0), (.int (7 : Int32))])) rfl (by rw [hml]; rfl) (Steps.refl _) (argsL := []) (rest := [(.int (7 : Int32))]) (lenOf pd_0 rfl) rfl (by show 2 * 0 + _ ≤ _; exact Nat.le_of_eq rfl) (hb hby d2_6) (fun _ _ => ⟨rfl, e1, (by decide : 0 + 0 ≤ _), (by decide : 0 + 0 ≤ _)⟩)
 dsimp only [Pt.U, Pt.locs, Pt.cells, Pt.slots] at X3 l3 y3 z3 st3 hQ3
 subst l3 y3 z3
 obtain ⟨rfl, N3q, e3⟩ := hQ3
 have N3 := Fr.app N0 N3q
 obtain ⟨fs, hr, hrun, hended, hW, hsame⟩ := X3.leave (v := some (.int (7 : Int32))) (fun h => by rw [Bd.returns] at h; cases h) hlk
 subst hS0
 refine ⟨_, _, pre0 _ ?_, hrun, hended, _, _, rfl, ?_, ⟨_, rfl⟩, hW, hsame.mono (by decide) (by decide)⟩
 ·
  refine XS.aloadN X0.here hx rfl (hb hby d2_0) rfl rfl ?_
  refine st1 _ ?_
  refine X1.arraylength hx (by rw [e1]; exact Ar2.1) (State.isArrayOf_alike hZ.alike Ar2.2.1) (g := (mkF m 4 #[rv a0] [(.ref u)])) rfl rfl (hb hby d2_4) _ ?_
  rw [len_of S2 N2]
  refine XS.aloadN X1.here hx rfl (hb hby d2_5) rfl rfl ?_
  refine st3.trans ?_
  refine XS.ishr X3.here hx rfl (hb hby d2_9) rfl ?_
  exact retOut X3 hx (t := .int) (i := .ireturn) Bd.returns rfl (Or.inl ⟨rfl, Or.inl rfl, _, rfl⟩) (hb hby d2_10) hr
 ·
  show Q2_7 Z a0 u ku vs h0 n0 _ T3.heap _
  rw [e3]
  exact ⟨rfl, N3, rfl⟩

theorem ef_2_5 (m : MethodId) (a0 : Addr) : entryFrame m #[(.ref a0)] 1 = mkF m 0 #[rv a0] [] := by first | (simp [entryFrame, mkF, argsToLocals, Value.category]; done) | rfl
def Q2_5 (Z : State) (a0 : Addr) (u : Addr) (ku : ClassId) (vs : List Value) (h0 : Heap) (n0 : Nat) (v : Option Value) (h : Heap) (L : List Loc) : Prop := v = some (.int (5 : Int32)) ∧ Fr n0 L ∧ h = h0
abbrev R2_5 : Room := ({ frames := 1, cells := 0, slots := 0, locals := 13 } : Room)
set_option maxRecDepth 65536 in
set_option maxHeartbeats 40000000 in
theorem rm2_5 (l : Launch) (Z : State) (ar : Array Value) (hw : ∀ d ∈ tables_1, d.before ar Z = true) (ws : List Jvm.Cond) (a0 : Addr) (u : Addr) (ku : ClassId) (vs : List Value) (h0 : Heap) (n0 : Nat) (O0 : Old Z n0 h0) (HW : Wd Z w_z0 w_z1 w_z2 w_z3 w_z4 w_z5 w_z6 w_z7 w_z8 w_z9 w_z10 w_z11 k_z3 k_z7 k_z9 k_z11) (pf0 : Exa Z h0 a0 "java/lang/String") (pf1 : Fld Z h0 a0 "java/lang/String" "coder" "B" (.int (0 : Int32))) (pf2 : Fld Z h0 a0 "java/lang/String" "value" "[B" (.ref u)) (pf3 : Arv Z h0 u ku .byte (5 : Int32) vs (.int (0 : Int32))) :
    MetFree l y2 (head1 (Jvm.Cond.code y2 jdk_42_method_54_code 1 (some .int) :: ws) R2_5) (fun a U => a = #[(.ref a0)] ∧ Z.Warmed39 U.vm ∧ U.heap = h0) (fun _ _ _ _ _ => True) (fun _ U o U' => ∃ v L, o = .returned v ∧ Q2_5 Z a0 u ku vs h0 n0 v U'.heap L ∧ FrameEnd U o U' L R2_5.cells R2_5.slots) := by
 refine MetFree.of_bodySF (plainFor_of_name pn_0) hisR ?_
 intro p e s m args below meth c s₁ Bd hml0 hP hK
 obtain ⟨rfl, hZ, hh⟩ := hP
 have hx := Bd.exec
 have hby := Bd.bytes
 have hml : c.maxLocals = 1 := hml0
 have hown : s.vm.findClass "java/lang/String" = some m.cls := findClass_of_methodNamed Bd.named
 have hnm := (name_of_methodNamed Bd.named Bd.method).1
 have hlk : meth.locks = false := by first | assumption | exact BodyLoose.notSynchronized (by assumption) | exact Body.notSynchronized (by assumption)
 have X0 : Stand p l e R2_5 s m #[(.ref a0)] below meth c s₁ [] 0 0 := Stand.of_body Bd
 have e0 : s₁.heap = h0 := by rw [← hh, Bd.state]; rfl
 have N0 := Fr.nil n0
 have Z0 : n0 ≤ h0.size := Nat.le_trans (Nat.le_of_eq O0.1.symm) O0.2.1
 obtain ⟨S0, hS0⟩ : ∃ z, z = s₁.setTop (entryFrame m #[(.ref a0)] 1) := ⟨_, rfl⟩
 have pre0 : ∀ tg, AT p e below s₁ m 0 #[rv a0] [] tg → Steps p.tables e below S0 tg := fun tg kg => by rw [hS0]; exact castTop (ef_2_5 m a0) kg
 obtain ⟨-, -, -, -, -, -, -, -, -, -, -, -, -, -, -, -, -, -, -, -, -, -, -, -, -, -, -, -⟩ := id HW
 obtain ⟨T1, X1, e1, st1⟩ := getF X0 hx hZ hown (host := "") (Or.inl (ow hw 18 rfl)) Via.refl e0 pf2 (g := (mkF m 1 #[rv a0] [(.ref a0)])) rfl rfl (hb hby d2_1)
 obtain ⟨cl2, Ar2, q2, S2, N2, H2, G2⟩ := id pf3
 obtain ⟨cq3, kq3, q3a, q3b, q3c⟩ := isOf hZ e1 pf0
 obtain ⟨_, _, ⟨T3, L3, k3, n3⟩, -, X3, ⟨Lc3, hQ3, l3, y3, z3⟩, st3⟩ := X1.virtualBack hx (y := y3) (z := y3) hown (mvT hZ (ow hw 19 rfl)) (mvT hZ (ow hw 20 rfl)) (notFace_of_selects (args := #[]) (mvT hZ (ow hw 22 rfl))) (mvT hZ (ow hw 22 rfl)) (mvT hZ (ow hw 21 rfl)) (by decide) (backOf (W := 1) (rm3 l Z ar hw [] a0 h0 n0 O0 HW pf1) hZ (ow hw 23 rfl) (ow hw 6 rfl) (by decide) (by decide)) q3a q3c (g := (mkF m 6 #[rv a0] [(.ref a0), (.int (5 : Int32))])) rfl (by rw [hml]; rfl) (Steps.refl _) (argsL := []) (rest := [(.int (5 : Int32))]) (lenOf pd_0 rfl) rfl (by show 2 * 0 + _ ≤ _; exact Nat.le_of_eq rfl) (hb hby d2_6) (fun _ _ => ⟨rfl, e1, (by decide : 0 + 0 ≤ _), (by decide : 0 + 0 ≤ _)⟩)
 dsimp only [Pt.U, Pt.locs, Pt.cells, Pt.slots] at X3 l3 y3 z3 st3 hQ3
 subst l3 y3 z3
 obtain ⟨rfl, N3q, e3⟩ := hQ3
 have N3 := Fr.app N0 N3q
 obtain ⟨fs, hr, hrun, hended, hW, hsame⟩ := X3.leave (v := some (.int (5 : Int32))) (fun h => by rw [Bd.returns] at h; cases h) hlk
 subst hS0
 refine ⟨_, _, pre0 _ ?_, hrun, hended, _, _, rfl, ?_, ⟨_, rfl⟩, hW, hsame.mono (by decide) (by decide)⟩
 ·
  refine XS.aloadN X0.here hx rfl (hb hby d2_0) rfl rfl ?_
  refine st1 _ ?_
  refine X1.arraylength hx (by rw [e1]; exact Ar2.1) (State.isArrayOf_alike hZ.alike Ar2.2.1) (g := (mkF m 4 #[rv a0] [(.ref u)])) rfl rfl (hb hby d2_4) _ ?_
  rw [len_of S2 N2]
  refine XS.aloadN X1.here hx rfl (hb hby d2_5) rfl rfl ?_
  refine st3.trans ?_
  refine XS.ishr X3.here hx rfl (hb hby d2_9) rfl ?_
  exact retOut X3 hx (t := .int) (i := .ireturn) Bd.returns rfl (Or.inl ⟨rfl, Or.inl rfl, _, rfl⟩) (hb hby d2_10) hr
 ·
  show Q2_5 Z a0 u ku vs h0 n0 _ T3.heap _
  rw [e3]
  exact ⟨rfl, N3, rfl⟩

theorem ef_2_9 (m : MethodId) (a0 : Addr) : entryFrame m #[(.ref a0)] 1 = mkF m 0 #[rv a0] [] := by first | (simp [entryFrame, mkF, argsToLocals, Value.category]; done) | rfl
def Q2_9 (Z : State) (a0 : Addr) (u : Addr) (ku : ClassId) (vs : List Value) (h0 : Heap) (n0 : Nat) (v : Option Value) (h : Heap) (L : List Loc) : Prop := v = some (.int (9 : Int32)) ∧ Fr n0 L ∧ h = h0
abbrev R2_9 : Room := ({ frames := 1, cells := 0, slots := 0, locals := 13 } : Room)
set_option maxRecDepth 65536 in
set_option maxHeartbeats 40000000 in
theorem rm2_9 (l : Launch) (Z : State) (ar : Array Value) (hw : ∀ d ∈ tables_1, d.before ar Z = true) (ws : List Jvm.Cond) (a0 : Addr) (u : Addr) (ku : ClassId) (vs : List Value) (h0 : Heap) (n0 : Nat) (O0 : Old Z n0 h0) (HW : Wd Z w_z0 w_z1 w_z2 w_z3 w_z4 w_z5 w_z6 w_z7 w_z8 w_z9 w_z10 w_z11 k_z3 k_z7 k_z9 k_z11) (pf0 : Exa Z h0 a0 "java/lang/String") (pf1 : Fld Z h0 a0 "java/lang/String" "coder" "B" (.int (0 : Int32))) (pf2 : Fld Z h0 a0 "java/lang/String" "value" "[B" (.ref u)) (pf3 : Arv Z h0 u ku .byte (9 : Int32) vs (.int (0 : Int32))) :
    MetFree l y2 (head1 (Jvm.Cond.code y2 jdk_42_method_54_code 1 (some .int) :: ws) R2_9) (fun a U => a = #[(.ref a0)] ∧ Z.Warmed39 U.vm ∧ U.heap = h0) (fun _ _ _ _ _ => True) (fun _ U o U' => ∃ v L, o = .returned v ∧ Q2_9 Z a0 u ku vs h0 n0 v U'.heap L ∧ FrameEnd U o U' L R2_9.cells R2_9.slots) := by
 refine MetFree.of_bodySF (plainFor_of_name pn_0) hisR ?_
 intro p e s m args below meth c s₁ Bd hml0 hP hK
 obtain ⟨rfl, hZ, hh⟩ := hP
 have hx := Bd.exec
 have hby := Bd.bytes
 have hml : c.maxLocals = 1 := hml0
 have hown : s.vm.findClass "java/lang/String" = some m.cls := findClass_of_methodNamed Bd.named
 have hnm := (name_of_methodNamed Bd.named Bd.method).1
 have hlk : meth.locks = false := by first | assumption | exact BodyLoose.notSynchronized (by assumption) | exact Body.notSynchronized (by assumption)
 have X0 : Stand p l e R2_9 s m #[(.ref a0)] below meth c s₁ [] 0 0 := Stand.of_body Bd
 have e0 : s₁.heap = h0 := by rw [← hh, Bd.state]; rfl
 have N0 := Fr.nil n0
 have Z0 : n0 ≤ h0.size := Nat.le_trans (Nat.le_of_eq O0.1.symm) O0.2.1
 obtain ⟨S0, hS0⟩ : ∃ z, z = s₁.setTop (entryFrame m #[(.ref a0)] 1) := ⟨_, rfl⟩
 have pre0 : ∀ tg, AT p e below s₁ m 0 #[rv a0] [] tg → Steps p.tables e below S0 tg := fun tg kg => by rw [hS0]; exact castTop (ef_2_9 m a0) kg
 obtain ⟨-, -, -, -, -, -, -, -, -, -, -, -, -, -, -, -, -, -, -, -, -, -, -, -, -, -, -, -⟩ := id HW
 obtain ⟨T1, X1, e1, st1⟩ := getF X0 hx hZ hown (host := "") (Or.inl (ow hw 18 rfl)) Via.refl e0 pf2 (g := (mkF m 1 #[rv a0] [(.ref a0)])) rfl rfl (hb hby d2_1)
 obtain ⟨cl2, Ar2, q2, S2, N2, H2, G2⟩ := id pf3
 obtain ⟨cq3, kq3, q3a, q3b, q3c⟩ := isOf hZ e1 pf0
 obtain ⟨_, _, ⟨T3, L3, k3, n3⟩, -, X3, ⟨Lc3, hQ3, l3, y3, z3⟩, st3⟩ := X1.virtualBack hx (y := y3) (z := y3) hown (mvT hZ (ow hw 19 rfl)) (mvT hZ (ow hw 20 rfl)) (notFace_of_selects (args := #[]) (mvT hZ (ow hw 22 rfl))) (mvT hZ (ow hw 22 rfl)) (mvT hZ (ow hw 21 rfl)) (by decide) (backOf (W := 1) (rm3 l Z ar hw [] a0 h0 n0 O0 HW pf1) hZ (ow hw 23 rfl) (ow hw 6 rfl) (by decide) (by decide)) q3a q3c (g := (mkF m 6 #[rv a0] [(.ref a0), (.int (9 : Int32))])) rfl (by rw [hml]; rfl) (Steps.refl _) (argsL := []) (rest := [(.int (9 : Int32))]) (lenOf pd_0 rfl) rfl (by show 2 * 0 + _ ≤ _; exact Nat.le_of_eq rfl) (hb hby d2_6) (fun _ _ => ⟨rfl, e1, (by decide : 0 + 0 ≤ _), (by decide : 0 + 0 ≤ _)⟩)
 dsimp only [Pt.U, Pt.locs, Pt.cells, Pt.slots] at X3 l3 y3 z3 st3 hQ3
 subst l3 y3 z3
 obtain ⟨rfl, N3q, e3⟩ := hQ3
 have N3 := Fr.app N0 N3q
 obtain ⟨fs, hr, hrun, hended, hW, hsame⟩ := X3.leave (v := some (.int (9 : Int32))) (fun h => by rw [Bd.returns] at h; cases h) hlk
 subst hS0
 refine ⟨_, _, pre0 _ ?_, hrun, hended, _, _, rfl, ?_, ⟨_, rfl⟩, hW, hsame.mono (by decide) (by decide)⟩
 ·
  refine XS.aloadN X0.here hx rfl (hb hby d2_0) rfl rfl ?_
  refine st1 _ ?_
  refine X1.arraylength hx (by rw [e1]; exact Ar2.1) (State.isArrayOf_alike hZ.alike Ar2.2.1) (g := (mkF m 4 #[rv a0] [(.ref u)])) rfl rfl (hb hby d2_4) _ ?_
  rw [len_of S2 N2]
  refine XS.aloadN X1.here hx rfl (hb hby d2_5) rfl rfl ?_
  refine st3.trans ?_
  refine XS.ishr X3.here hx rfl (hb hby d2_9) rfl ?_
  exact retOut X3 hx (t := .int) (i := .ireturn) Bd.returns rfl (Or.inl ⟨rfl, Or.inl rfl, _, rfl⟩) (hb hby d2_10) hr
 ·
  show Q2_9 Z a0 u ku vs h0 n0 _ T3.heap _
  rw [e3]
  exact ⟨rfl, N3, rfl⟩

theorem ef_2_0 (m : MethodId) (a0 : Addr) : entryFrame m #[(.ref a0)] 1 = mkF m 0 #[rv a0] [] := by first | (simp [entryFrame, mkF, argsToLocals, Value.category]; done) | rfl
def Q2_0 (Z : State) (a0 : Addr) (u : Addr) (ku : ClassId) (vs : List Value) (h0 : Heap) (n0 : Nat) (v : Option Value) (h : Heap) (L : List Loc) : Prop := v = some (.int (0 : Int32)) ∧ Fr n0 L ∧ h = h0
abbrev R2_0 : Room := ({ frames := 1, cells := 0, slots := 0, locals := 13 } : Room)
set_option maxRecDepth 65536 in
set_option maxHeartbeats 40000000 in
theorem rm2_0 (l : Launch) (Z : State) (ar : Array Value) (hw : ∀ d ∈ tables_1, d.before ar Z = true) (ws : List Jvm.Cond) (a0 : Addr) (u : Addr) (ku : ClassId) (vs : List Value) (h0 : Heap) (n0 : Nat) (O0 : Old Z n0 h0) (HW : Wd Z w_z0 w_z1 w_z2 w_z3 w_z4 w_z5 w_z6 w_z7 w_z8 w_z9 w_z10 w_z11 k_z3 k_z7 k_z9 k_z11) (pf0 : Exa Z h0 a0 "java/lang/String") (pf1 : Fld Z h0 a0 "java/lang/String" "coder" "B" (.int (0 : Int32))) (pf2 : Fld Z h0 a0 "java/lang/String" "value" "[B" (.ref u)) (pf3 : Arv Z h0 u ku .byte (0 : Int32) vs (.int (0 : Int32))) :
    MetFree l y2 (head1 (Jvm.Cond.code y2 jdk_42_method_54_code 1 (some .int) :: ws) R2_0) (fun a U => a = #[(.ref a0)] ∧ Z.Warmed39 U.vm ∧ U.heap = h0) (fun _ _ _ _ _ => True) (fun _ U o U' => ∃ v L, o = .returned v ∧ Q2_0 Z a0 u ku vs h0 n0 v U'.heap L ∧ FrameEnd U o U' L R2_0.cells R2_0.slots) := by
 refine MetFree.of_bodySF (plainFor_of_name pn_0) hisR ?_
 intro p e s m args below meth c s₁ Bd hml0 hP hK
 obtain ⟨rfl, hZ, hh⟩ := hP
 have hx := Bd.exec
 have hby := Bd.bytes
 have hml : c.maxLocals = 1 := hml0
 have hown : s.vm.findClass "java/lang/String" = some m.cls := findClass_of_methodNamed Bd.named
 have hnm := (name_of_methodNamed Bd.named Bd.method).1
 have hlk : meth.locks = false := by first | assumption | exact BodyLoose.notSynchronized (by assumption) | exact Body.notSynchronized (by assumption)
 have X0 : Stand p l e R2_0 s m #[(.ref a0)] below meth c s₁ [] 0 0 := Stand.of_body Bd
 have e0 : s₁.heap = h0 := by rw [← hh, Bd.state]; rfl
 have N0 := Fr.nil n0
 have Z0 : n0 ≤ h0.size := Nat.le_trans (Nat.le_of_eq O0.1.symm) O0.2.1
 obtain ⟨S0, hS0⟩ : ∃ z, z = s₁.setTop (entryFrame m #[(.ref a0)] 1) := ⟨_, rfl⟩
 have pre0 : ∀ tg, AT p e below s₁ m 0 #[rv a0] [] tg → Steps p.tables e below S0 tg := fun tg kg => by rw [hS0]; exact castTop (ef_2_0 m a0) kg
 obtain ⟨-, -, -, -, -, -, -, -, -, -, -, -, -, -, -, -, -, -, -, -, -, -, -, -, -, -, -, -⟩ := id HW
 obtain ⟨T1, X1, e1, st1⟩ := getF X0 hx hZ hown (host := "") (Or.inl (ow hw 18 rfl)) Via.refl e0 pf2 (g := (mkF m 1 #[rv a0] [(.ref a0)])) rfl rfl (hb hby d2_1)
 obtain ⟨cl2, Ar2, q2, S2, N2, H2, G2⟩ := id pf3
 obtain ⟨cq3, kq3, q3a, q3b, q3c⟩ := isOf hZ e1 pf0
 obtain ⟨_, _, ⟨T3, L3, k3, n3⟩, -, X3, ⟨Lc3, hQ3, l3, y3, z3⟩, st3⟩ := X1.virtualBack hx (y := y3) (z := y3) hown (mvT hZ (ow hw 19 rfl)) (mvT hZ (ow hw 20 rfl)) (notFace_of_selects (args := #[]) (mvT hZ (ow hw 22 rfl))) (mvT hZ (ow hw 22 rfl)) (mvT hZ (ow hw 21 rfl)) (by decide) (backOf (W := 1) (rm3 l Z ar hw [] a0 h0 n0 O0 HW pf1) hZ (ow hw 23 rfl) (ow hw 6 rfl) (by decide) (by decide)) q3a q3c (g := (mkF m 6 #[rv a0] [(.ref a0), (.int (0 : Int32))])) rfl (by rw [hml]; rfl) (Steps.refl _) (argsL := []) (rest := [(.int (0 : Int32))]) (lenOf pd_0 rfl) rfl (by show 2 * 0 + _ ≤ _; exact Nat.le_of_eq rfl) (hb hby d2_6) (fun _ _ => ⟨rfl, e1, (by decide : 0 + 0 ≤ _), (by decide : 0 + 0 ≤ _)⟩)
 dsimp only [Pt.U, Pt.locs, Pt.cells, Pt.slots] at X3 l3 y3 z3 st3 hQ3
 subst l3 y3 z3
 obtain ⟨rfl, N3q, e3⟩ := hQ3
 have N3 := Fr.app N0 N3q
 obtain ⟨fs, hr, hrun, hended, hW, hsame⟩ := X3.leave (v := some (.int (0 : Int32))) (fun h => by rw [Bd.returns] at h; cases h) hlk
 subst hS0
 refine ⟨_, _, pre0 _ ?_, hrun, hended, _, _, rfl, ?_, ⟨_, rfl⟩, hW, hsame.mono (by decide) (by decide)⟩
 ·
  refine XS.aloadN X0.here hx rfl (hb hby d2_0) rfl rfl ?_
  refine st1 _ ?_
  refine X1.arraylength hx (by rw [e1]; exact Ar2.1) (State.isArrayOf_alike hZ.alike Ar2.2.1) (g := (mkF m 4 #[rv a0] [(.ref u)])) rfl rfl (hb hby d2_4) _ ?_
  rw [len_of S2 N2]
  refine XS.aloadN X1.here hx rfl (hb hby d2_5) rfl rfl ?_
  refine st3.trans ?_
  refine XS.ishr X3.here hx rfl (hb hby d2_9) rfl ?_
  exact retOut X3 hx (t := .int) (i := .ireturn) Bd.returns rfl (Or.inl ⟨rfl, Or.inl rfl, _, rfl⟩) (hb hby d2_10) hr
 ·
  show Q2_0 Z a0 u ku vs h0 n0 _ T3.heap _
  rw [e3]
  exact ⟨rfl, N3, rfl⟩

theorem d21_0 : decode jdk_29_method_65_code 0 = .ok (.iload_n 0, 1) := by decide +kernel
theorem d21_1 : decode jdk_29_method_65_code 1 = .ok (.iload_n 1, 1) := by decide +kernel
theorem d21_2 : decode jdk_29_method_65_code 2 = .ok (.if_icmp .lt 7, 3) := by decide +kernel
theorem d21_5 : decode jdk_29_method_65_code 5 = .ok (.iload_n 0, 1) := by decide +kernel
theorem d21_6 : decode jdk_29_method_65_code 6 = .ok (.goto 4, 3) := by decide +kernel
theorem d21_9 : decode jdk_29_method_65_code 9 = .ok (.iload_n 1, 1) := by decide +kernel
theorem d21_10 : decode jdk_29_method_65_code 10 = .ok (.ireturn, 1) := by decide +kernel
theorem ef_21 (m : MethodId) (p0 : Int32) (p1 : Int32) : entryFrame m #[(.int p0), (.int p1)] 2 = mkF m 0 #[iv p0, iv p1] [] := by first | (simp [entryFrame, mkF, argsToLocals, Value.category]; done) | rfl
def f21 (p0 : Int32) (p1 : Int32) : Int32 := if p0 < p1 then p1 else p0
def Q21 (Z : State) (p0 : Int32) (p1 : Int32) (h0 : Heap) (n0 : Nat) (v : Option Value) (h : Heap) (L : List Loc) : Prop := v = some (.int (f21 p0 p1)) ∧ Fr n0 L ∧ h = h0
abbrev R21 : Room := ({ frames := 0, cells := 0, slots := 0, locals := 0 } : Room)
set_option maxRecDepth 65536 in
set_option maxHeartbeats 40000000 in
theorem rm21 (l : Launch) (Z : State) (ar : Array Value) (hw : ∀ d ∈ tables_1, d.before ar Z = true) (ws : List Jvm.Cond) (p0 : Int32) (p1 : Int32) (h0 : Heap) (n0 : Nat) (O0 : Old Z n0 h0) :
    MetFree l y21 (head1 (Jvm.Cond.code y21 jdk_29_method_65_code 2 (some .int) :: ws) R21) (fun a U => a = #[(.int p0), (.int p1)] ∧ Z.Warmed39 U.vm ∧ U.heap = h0) (fun _ _ _ _ _ => True) (fun _ U o U' => ∃ v L, o = .returned v ∧ Q21 Z p0 p1 h0 n0 v U'.heap L ∧ FrameEnd U o U' L R21.cells R21.slots) := by
 refine MetFree.of_bodySF (Jvm.Free.JP.mathPlain rfl (by decide +kernel)) hisR ?_
 intro p e s m args below meth c s₁ Bd hml0 hP hK
 obtain ⟨rfl, hZ, hh⟩ := hP
 have hx := Bd.exec
 have hby := Bd.bytes
 have hml : c.maxLocals = 2 := hml0
 have hown : s.vm.findClass "java/lang/Math" = some m.cls := findClass_of_methodNamed Bd.named
 have hnm := (name_of_methodNamed Bd.named Bd.method).1
 have hlk : meth.locks = false := by first | assumption | exact BodyLoose.notSynchronized (by assumption) | exact Body.notSynchronized (by assumption)
 have X0 : Stand p l e R21 s m #[(.int p0), (.int p1)] below meth c s₁ [] 0 0 := Stand.of_body Bd
 have e0 : s₁.heap = h0 := by rw [← hh, Bd.state]; rfl
 have N0 := Fr.nil n0
 have Z0 : n0 ≤ h0.size := Nat.le_trans (Nat.le_of_eq O0.1.symm) O0.2.1
 obtain ⟨S0, hS0⟩ : ∃ z, z = s₁.setTop (entryFrame m #[(.int p0), (.int p1)] 2) := ⟨_, rfl⟩
 have pre0 : ∀ tg, AT p e below s₁ m 0 #[iv p0, iv p1] [] tg → Steps p.tables e below S0 tg := fun tg kg => by rw [hS0]; exact castTop (ef_21 m p0 p1) kg
 have pre1 : ∀ tg, AT p e below s₁ m 2 #[iv p0, iv p1] [(.int p1), (.int p0)] tg → Steps p.tables e below S0 tg := fun tg kg => pre0 tg (by
  refine XS.iloadN X0.here hx rfl (hb hby d21_0) rfl ?_
  refine XS.iloadN X0.here hx rfl (hb hby d21_1) rfl ?_
  exact kg)
 rcases Decidable.em (p0 < p1) with hc2 | hc2
 ·
  obtain ⟨fs, hr, hrun, hended, hW, hsame⟩ := X0.leave (v := some (.int p1)) (fun h => by rw [Bd.returns] at h; cases h) hlk
  subst hS0
  refine ⟨_, _, pre1 _ ?_, hrun, hended, _, _, rfl, ?_, ⟨_, rfl⟩, hW, hsame.mono (by decide) (by decide)⟩
  ·
   refine XS.icmpYes X0.here hx rfl (pc0 := 2) (pc' := 9) rfl (hb hby d21_2) rfl (XT.ii_lt_t hc2) (by decide) (by decide) ?_
   refine XS.iloadN X0.here hx rfl (hb hby d21_9) rfl ?_
   exact retOut X0 hx (t := .int) (i := .ireturn) Bd.returns rfl (Or.inl ⟨rfl, Or.inl rfl, _, rfl⟩) (hb hby d21_10) hr
  ·
   show Q21 Z p0 p1 h0 n0 _ s₁.heap _
   rw [e0]
   exact ⟨(by rw [f21, if_pos hc2]), N0, rfl⟩
 ·
  obtain ⟨fs, hr, hrun, hended, hW, hsame⟩ := X0.leave (v := some (.int p0)) (fun h => by rw [Bd.returns] at h; cases h) hlk
  subst hS0
  refine ⟨_, _, pre1 _ ?_, hrun, hended, _, _, rfl, ?_, ⟨_, rfl⟩, hW, hsame.mono (by decide) (by decide)⟩
  ·
   refine XS.icmpNo X0.here hx rfl (hb hby d21_2) rfl (XT.ii_lt_f hc2) ?_
   refine XS.iloadN X0.here hx rfl (hb hby d21_5) rfl ?_
   refine XS.goto X0.here hx rfl (pc0 := 6) (pc' := 10) rfl (hb hby d21_6) (by decide) (by decide) ?_
   exact retOut X0 hx (t := .int) (i := .ireturn) Bd.returns rfl (Or.inl ⟨rfl, Or.inl rfl, _, rfl⟩) (hb hby d21_10) hr
  ·
   show Q21 Z p0 p1 h0 n0 _ s₁.heap _
   rw [e0]
   exact ⟨(by rw [f21, if_neg hc2]), N0, rfl⟩

theorem d10_0 : decode jdk_41_method_11_code 0 = .ok (.iload_n 0, 1) := by decide +kernel
theorem d10_1 : decode jdk_41_method_11_code 1 = .ok (.ifCond .lt 8, 3) := by decide +kernel
theorem d10_4 : decode jdk_41_method_11_code 4 = .ok (.iload_n 0, 1) := by decide +kernel
theorem d10_5 : decode jdk_41_method_11_code 5 = .ok (.iload_n 1, 1) := by decide +kernel
theorem d10_6 : decode jdk_41_method_11_code 6 = .ok (.if_icmp .lt 10, 3) := by decide +kernel
theorem d10_16 : decode jdk_41_method_11_code 16 = .ok (.iload_n 0, 1) := by decide +kernel
theorem d10_17 : decode jdk_41_method_11_code 17 = .ok (.ireturn, 1) := by decide +kernel
theorem ef_10n (m : MethodId) (p0 : Int32) (p1 : Int32) : entryFrame m #[(.int p0), (.int p1), .null] 3 = mkF m 0 #[iv p0, iv p1, .val .null] [] := by first | (simp [entryFrame, mkF, argsToLocals, Value.category]; done) | rfl
def Q10n (Z : State) (p0 : Int32) (p1 : Int32) (h0 : Heap) (n0 : Nat) (v : Option Value) (h : Heap) (L : List Loc) : Prop := v = some (.int p0) ∧ Fr n0 L ∧ h = h0
abbrev R10n : Room := ({ frames := 0, cells := 0, slots := 0, locals := 0 } : Room)
set_option maxRecDepth 65536 in
set_option maxHeartbeats 40000000 in
theorem rm10n (l : Launch) (Z : State) (ar : Array Value) (hw : ∀ d ∈ tables_1, d.before ar Z = true) (ws : List Jvm.Cond) (p0 : Int32) (p1 : Int32) (h0 : Heap) (n0 : Nat) (O0 : Old Z n0 h0) (hq0 : ¬ p0 < (0 : Int32)) (hq1 : p0 < p1) :
    MetFree l y10 (head1 (Jvm.Cond.code y10 jdk_41_method_11_code 3 (some .int) :: ws) R10n) (fun a U => a = #[(.int p0), (.int p1), .null] ∧ Z.Warmed39 U.vm ∧ U.heap = h0) (fun _ _ _ _ _ => True) (fun _ U o U' => ∃ v L, o = .returned v ∧ Q10n Z p0 p1 h0 n0 v U'.heap L ∧ FrameEnd U o U' L R10n.cells R10n.slots) := by
 refine MetFree.of_bodySF (plainFor_of_name pn_1) hisR ?_
 intro p e s m args below meth c s₁ Bd hml0 hP hK
 obtain ⟨rfl, hZ, hh⟩ := hP
 have hx := Bd.exec
 have hby := Bd.bytes
 have hml : c.maxLocals = 3 := hml0
 have hown : s.vm.findClass "jdk/internal/util/Preconditions" = some m.cls := findClass_of_methodNamed Bd.named
 have hnm := (name_of_methodNamed Bd.named Bd.method).1
 have hlk : meth.locks = false := by first | assumption | exact BodyLoose.notSynchronized (by assumption) | exact Body.notSynchronized (by assumption)
 have X0 : Stand p l e R10n s m #[(.int p0), (.int p1), .null] below meth c s₁ [] 0 0 := Stand.of_body Bd
 have e0 : s₁.heap = h0 := by rw [← hh, Bd.state]; rfl
 have N0 := Fr.nil n0
 have Z0 : n0 ≤ h0.size := Nat.le_trans (Nat.le_of_eq O0.1.symm) O0.2.1
 obtain ⟨S0, hS0⟩ : ∃ z, z = s₁.setTop (entryFrame m #[(.int p0), (.int p1), .null] 3) := ⟨_, rfl⟩
 have pre0 : ∀ tg, AT p e below s₁ m 0 #[iv p0, iv p1, .val .null] [] tg → Steps p.tables e below S0 tg := fun tg kg => by rw [hS0]; exact castTop (ef_10n m p0 p1) kg
 obtain ⟨fs, hr, hrun, hended, hW, hsame⟩ := X0.leave (v := some (.int p0)) (fun h => by rw [Bd.returns] at h; cases h) hlk
 subst hS0
 refine ⟨_, _, pre0 _ ?_, hrun, hended, _, _, rfl, ?_, ⟨_, rfl⟩, hW, hsame.mono (by decide) (by decide)⟩
 ·
  refine XS.iloadN X0.here hx rfl (hb hby d10_0) rfl ?_
  show AT p e below s₁ m 1 #[iv p0, iv p1, .val .null] [(.int p0)] _
  refine XS.ifNo X0.here hx rfl (hb hby d10_1) rfl (XT.i0_lt_f (hq0 : ¬ (p0 < (0 : Int32)))) ?_
  refine XS.iloadN X0.here hx rfl (hb hby d10_4) rfl ?_
  refine XS.iloadN X0.here hx rfl (hb hby d10_5) rfl ?_
  show AT p e below s₁ m 6 #[iv p0, iv p1, .val .null] [(.int p1), (.int p0)] _
  refine XS.icmpYes X0.here hx rfl (pc0 := 6) (pc' := 16) rfl (hb hby d10_6) rfl (XT.ii_lt_t (hq1 : p0 < p1)) (by decide) (by decide) ?_
  refine XS.iloadN X0.here hx rfl (hb hby d10_16) rfl ?_
  exact retOut X0 hx (t := .int) (i := .ireturn) Bd.returns rfl (Or.inl ⟨rfl, Or.inl rfl, _, rfl⟩) (hb hby d10_17) hr
 ·
  show Q10n Z p0 p1 h0 n0 _ s₁.heap _
  rw [e0]
  exact ⟨rfl, N0, rfl⟩

theorem ef_10 (m : MethodId) (p0 : Int32) (p1 : Int32) (a2 : Addr) : entryFrame m #[(.int p0), (.int p1), (.ref a2)] 3 = mkF m 0 #[iv p0, iv p1, rv a2] [] := by first | (simp [entryFrame, mkF, argsToLocals, Value.category]; done) | rfl
def Q10 (Z : State) (p0 : Int32) (p1 : Int32) (a2 : Addr) (h0 : Heap) (n0 : Nat) (v : Option Value) (h : Heap) (L : List Loc) : Prop := v = some (.int p0) ∧ Fr n0 L ∧ h = h0
abbrev R10 : Room := ({ frames := 0, cells := 0, slots := 0, locals := 0 } : Room)
set_option maxRecDepth 65536 in
set_option maxHeartbeats 40000000 in
theorem rm10 (l : Launch) (Z : State) (ar : Array Value) (hw : ∀ d ∈ tables_1, d.before ar Z = true) (ws : List Jvm.Cond) (p0 : Int32) (p1 : Int32) (a2 : Addr) (h0 : Heap) (n0 : Nat) (O0 : Old Z n0 h0) (hq0 : ¬ p0 < (0 : Int32)) (hq1 : p0 < p1) :
    MetFree l y10 (head1 (Jvm.Cond.code y10 jdk_41_method_11_code 3 (some .int) :: ws) R10) (fun a U => a = #[(.int p0), (.int p1), (.ref a2)] ∧ Z.Warmed39 U.vm ∧ U.heap = h0) (fun _ _ _ _ _ => True) (fun _ U o U' => ∃ v L, o = .returned v ∧ Q10 Z p0 p1 a2 h0 n0 v U'.heap L ∧ FrameEnd U o U' L R10.cells R10.slots) := by
 refine MetFree.of_bodySF (plainFor_of_name pn_1) hisR ?_
 intro p e s m args below meth c s₁ Bd hml0 hP hK
 obtain ⟨rfl, hZ, hh⟩ := hP
 have hx := Bd.exec
 have hby := Bd.bytes
 have hml : c.maxLocals = 3 := hml0
 have hown : s.vm.findClass "jdk/internal/util/Preconditions" = some m.cls := findClass_of_methodNamed Bd.named
 have hnm := (name_of_methodNamed Bd.named Bd.method).1
 have hlk : meth.locks = false := by first | assumption | exact BodyLoose.notSynchronized (by assumption) | exact Body.notSynchronized (by assumption)
 have X0 : Stand p l e R10 s m #[(.int p0), (.int p1), (.ref a2)] below meth c s₁ [] 0 0 := Stand.of_body Bd
 have e0 : s₁.heap = h0 := by rw [← hh, Bd.state]; rfl
 have N0 := Fr.nil n0
 have Z0 : n0 ≤ h0.size := Nat.le_trans (Nat.le_of_eq O0.1.symm) O0.2.1
 obtain ⟨S0, hS0⟩ : ∃ z, z = s₁.setTop (entryFrame m #[(.int p0), (.int p1), (.ref a2)] 3) := ⟨_, rfl⟩
 have pre0 : ∀ tg, AT p e below s₁ m 0 #[iv p0, iv p1, rv a2] [] tg → Steps p.tables e below S0 tg := fun tg kg => by rw [hS0]; exact castTop (ef_10 m p0 p1 a2) kg
 obtain ⟨fs, hr, hrun, hended, hW, hsame⟩ := X0.leave (v := some (.int p0)) (fun h => by rw [Bd.returns] at h; cases h) hlk
 subst hS0
 refine ⟨_, _, pre0 _ ?_, hrun, hended, _, _, rfl, ?_, ⟨_, rfl⟩, hW, hsame.mono (by decide) (by decide)⟩
 ·
  refine XS.iloadN X0.here hx rfl (hb hby d10_0) rfl ?_
  show AT p e below s₁ m 1 #[iv p0, iv p1, rv a2] [(.int p0)] _
  refine XS.ifNo X0.here hx rfl (hb hby d10_1) rfl (XT.i0_lt_f (hq0 : ¬ (p0 < (0 : Int32)))) ?_
  refine XS.iloadN X0.here hx rfl (hb hby d10_4) rfl ?_
  refine XS.iloadN X0.here hx rfl (hb hby d10_5) rfl ?_
  show AT p e below s₁ m 6 #[iv p0, iv p1, rv a2] [(.int p1), (.int p0)] _
  refine XS.icmpYes X0.here hx rfl (pc0 := 6) (pc' := 16) rfl (hb hby d10_6) rfl (XT.ii_lt_t (hq1 : p0 < p1)) (by decide) (by decide) ?_
  refine XS.iloadN X0.here hx rfl (hb hby d10_16) rfl ?_
  exact retOut X0 hx (t := .int) (i := .ireturn) Bd.returns rfl (Or.inl ⟨rfl, Or.inl rfl, _, rfl⟩) (hb hby d10_17) hr
 ·
  show Q10 Z p0 p1 a2 h0 n0 _ s₁.heap _
  rw [e0]
  exact ⟨rfl, N0, rfl⟩

theorem d9_0 : decode jdk_42_method_155_code 0 = .ok (.iload_n 0, 1) := by decide +kernel
theorem d9_1 : decode jdk_42_method_155_code 1 = .ok (.iload_n 1, 1) := by decide +kernel
theorem d9_2 : decode jdk_42_method_155_code 2 = .ok (.getstatic 1053, 3) := by decide +kernel
theorem d9_5 : decode jdk_42_method_155_code 5 = .ok (.invokestatic 1059, 3) := by decide +kernel
theorem d9_8 : decode jdk_42_method_155_code 8 = .ok (.pop, 1) := by decide +kernel
theorem d9_9 : decode jdk_42_method_155_code 9 = .ok (.return_, 1) := by decide +kernel
theorem ef_9 (m : MethodId) (p0 : Int32) (p1 : Int32) : entryFrame m #[(.int p0), (.int p1)] 2 = mkF m 0 #[iv p0, iv p1] [] := by first | (simp [entryFrame, mkF, argsToLocals, Value.category]; done) | rfl
def Q9 (Z : State) (p0 : Int32) (p1 : Int32) (h0 : Heap) (n0 : Nat) (v : Option Value) (h : Heap) (L : List Loc) : Prop := v = none ∧ Fr n0 L ∧ h = h0
abbrev R9 : Room := ({ frames := 1, cells := 0, slots := 0, locals := 14 } : Room)
set_option maxRecDepth 65536 in
set_option maxHeartbeats 40000000 in
theorem rm9 (l : Launch) (Z : State) (ar : Array Value) (hw : ∀ d ∈ tables_1, d.before ar Z = true) (ws : List Jvm.Cond) (p0 : Int32) (p1 : Int32) (h0 : Heap) (n0 : Nat) (O0 : Old Z n0 h0) (HW : Wd Z w_z0 w_z1 w_z2 w_z3 w_z4 w_z5 w_z6 w_z7 w_z8 w_z9 w_z10 w_z11 k_z3 k_z7 k_z9 k_z11) (hq0 : ¬ p0 < (0 : Int32)) (hq1 : p0 < p1) :
    MetFree l y9 (head1 (Jvm.Cond.code y9 jdk_42_method_155_code 2 none :: ws) R9) (fun a U => a = #[(.int p0), (.int p1)] ∧ Z.Warmed39 U.vm ∧ U.heap = h0) (fun _ _ _ _ _ => True) (fun _ U o U' => ∃ v L, o = .returned v ∧ Q9 Z p0 p1 h0 n0 v U'.heap L ∧ FrameEnd U o U' L R9.cells R9.slots) := by
 refine MetFree.of_bodySF (plainFor_of_name pn_0) hisR ?_
 intro p e s m args below meth c s₁ Bd hml0 hP hK
 obtain ⟨rfl, hZ, hh⟩ := hP
 have hx := Bd.exec
 have hby := Bd.bytes
 have hml : c.maxLocals = 2 := hml0
 have hown : s.vm.findClass "java/lang/String" = some m.cls := findClass_of_methodNamed Bd.named
 have hnm := (name_of_methodNamed Bd.named Bd.method).1
 have hlk : meth.locks = false := by first | assumption | exact BodyLoose.notSynchronized (by assumption) | exact Body.notSynchronized (by assumption)
 have X0 : Stand p l e R9 s m #[(.int p0), (.int p1)] below meth c s₁ [] 0 0 := Stand.of_body Bd
 have e0 : s₁.heap = h0 := by rw [← hh, Bd.state]; rfl
 have N0 := Fr.nil n0
 have Z0 : n0 ≤ h0.size := Nat.le_trans (Nat.le_of_eq O0.1.symm) O0.2.1
 obtain ⟨S0, hS0⟩ : ∃ z, z = s₁.setTop (entryFrame m #[(.int p0), (.int p1)] 2) := ⟨_, rfl⟩
 have pre0 : ∀ tg, AT p e below s₁ m 0 #[iv p0, iv p1] [] tg → Steps p.tables e below S0 tg := fun tg kg => by rw [hS0]; exact castTop (ef_9 m p0 p1) kg
 obtain ⟨-, -, S_q2, ir_w_z1, -, -, -, -, -, -, -, -, -, -, -, -, -, -, -, -, -, -, -, -, -, -, -, -⟩ := id HW
 rcases ref_cases ir_w_z1 with hv | ⟨sv, hv⟩
 ·
  have Sq1 := S_q2.ext O0.2
  rw [hv] at Sq1
  obtain ⟨T2, X2, e2, st2⟩ := getS2 X0 hx hZ hown (host := "") (Or.inl (ow hw 51 rfl)) Via.refl e0 Sq1 (g := (mkF m 2 #[iv p0, iv p1] [(.int p1), (.int p0)])) rfl (hb hby d9_2)
  obtain ⟨_, _, ⟨T3, L3, k3, n3⟩, -, X3, ⟨Lc3, hQ3, l3, y3, z3⟩, st3⟩ := Jvm.LawKit.callS X2 hx (y := y10) hown (mvT hZ (ow hw 53 rfl)) (mvT hZ (ow hw 54 rfl)) (mvT hZ (ow hw 52 rfl)) (mvT hZ (ow hw 55 rfl)) (by decide) (backOf (W := 0) (rm10n l Z ar hw [] p0 p1 h0 n0 O0 hq0 hq1) hZ (ow hw 55 rfl) (ow hw 52 rfl) (by decide) (by decide)) (g := (mkF m 5 #[iv p0, iv p1] [.null, (.int p1), (.int p0)])) rfl (by rw [hml]; rfl) (argsL := [(.int p0), (.int p1), .null]) (rest := []) (lenOf pd_1 rfl) rfl (by show 2 * 0 + _ ≤ _; exact Nat.le_of_eq rfl) (hb hby d9_5) (fun _ _ => ⟨rfl, e2, (by decide : 0 + 0 ≤ _), (by decide : 0 + 0 ≤ _)⟩)
  dsimp only [Pt.U, Pt.locs, Pt.cells, Pt.slots] at X3 l3 y3 z3 st3 hQ3
  subst l3 y3 z3
  obtain ⟨rfl, N3q, e3⟩ := hQ3
  have N3 := Fr.app N0 N3q
  obtain ⟨fs, hr, hrun, hended, hW, hsame⟩ := X3.leave (v := none) (fun _ => rfl) hlk
  subst hS0
  refine ⟨_, _, pre0 _ ?_, hrun, hended, _, _, rfl, ?_, ⟨_, rfl⟩, hW, hsame.mono (by decide) (by decide)⟩
  ·
   refine XS.iloadN X0.here hx rfl (hb hby d9_0) rfl ?_
   refine XS.iloadN X0.here hx rfl (hb hby d9_1) rfl ?_
   refine st2 _ ?_
   refine st3 _ ?_
   refine XS.pop X3.here hx rfl (hb hby d9_8) rfl rfl ?_
   exact X3.returnOut hx Bd.returns (hb hby d9_9) hr
  ·
   show Q9 Z p0 p1 h0 n0 _ T3.heap _
   rw [e3]
   exact ⟨rfl, N3, rfl⟩
 ·
  have Sq4 := S_q2.ext O0.2
  rw [hv] at Sq4
  obtain ⟨T5, X5, e5, st5⟩ := getS2 X0 hx hZ hown (host := "") (Or.inl (ow hw 51 rfl)) Via.refl e0 Sq4 (g := (mkF m 2 #[iv p0, iv p1] [(.int p1), (.int p0)])) rfl (hb hby d9_2)
  obtain ⟨_, _, ⟨T6, L6, k6, n6⟩, -, X6, ⟨Lc6, hQ6, l6, y6, z6⟩, st6⟩ := Jvm.LawKit.callS X5 hx (y := y10) hown (mvT hZ (ow hw 53 rfl)) (mvT hZ (ow hw 54 rfl)) (mvT hZ (ow hw 52 rfl)) (mvT hZ (ow hw 55 rfl)) (by decide) (backOf (W := 0) (rm10 l Z ar hw [] p0 p1 sv h0 n0 O0 hq0 hq1) hZ (ow hw 55 rfl) (ow hw 52 rfl) (by decide) (by decide)) (g := (mkF m 5 #[iv p0, iv p1] [(.ref sv), (.int p1), (.int p0)])) rfl (by rw [hml]; rfl) (argsL := [(.int p0), (.int p1), (.ref sv)]) (rest := []) (lenOf pd_1 rfl) rfl (by show 2 * 0 + _ ≤ _; exact Nat.le_of_eq rfl) (hb hby d9_5) (fun _ _ => ⟨rfl, e5, (by decide : 0 + 0 ≤ _), (by decide : 0 + 0 ≤ _)⟩)
  dsimp only [Pt.U, Pt.locs, Pt.cells, Pt.slots] at X6 l6 y6 z6 st6 hQ6
  subst l6 y6 z6
  obtain ⟨rfl, N6q, e6⟩ := hQ6
  have N6 := Fr.app N0 N6q
  obtain ⟨fs, hr, hrun, hended, hW, hsame⟩ := X6.leave (v := none) (fun _ => rfl) hlk
  subst hS0
  refine ⟨_, _, pre0 _ ?_, hrun, hended, _, _, rfl, ?_, ⟨_, rfl⟩, hW, hsame.mono (by decide) (by decide)⟩
  ·
   refine XS.iloadN X0.here hx rfl (hb hby d9_0) rfl ?_
   refine XS.iloadN X0.here hx rfl (hb hby d9_1) rfl ?_
   refine st5 _ ?_
   refine st6 _ ?_
   refine XS.pop X6.here hx rfl (hb hby d9_8) rfl rfl ?_
   exact X6.returnOut hx Bd.returns (hb hby d9_9) hr
  ·
   show Q9 Z p0 p1 h0 n0 _ T6.heap _
   rw [e6]
   exact ⟨rfl, N6, rfl⟩

theorem d8_0 : decode jdk_43_method_2_code 0 = .ok (.iload_n 1, 1) := by decide +kernel
theorem d8_1 : decode jdk_43_method_2_code 1 = .ok (.aload_n 0, 1) := by decide +kernel
theorem d8_2 : decode jdk_43_method_2_code 2 = .ok (.arraylength, 1) := by decide +kernel
theorem d8_3 : decode jdk_43_method_2_code 3 = .ok (.invokestatic 9, 3) := by decide +kernel
theorem d8_6 : decode jdk_43_method_2_code 6 = .ok (.aload_n 0, 1) := by decide +kernel
theorem d8_7 : decode jdk_43_method_2_code 7 = .ok (.iload_n 1, 1) := by decide +kernel
theorem d8_8 : decode jdk_43_method_2_code 8 = .ok (.baload, 1) := by decide +kernel
theorem d8_9 : decode jdk_43_method_2_code 9 = .ok (.sipush 255, 3) := by decide +kernel
theorem d8_12 : decode jdk_43_method_2_code 12 = .ok (.iand, 1) := by decide +kernel
theorem d8_13 : decode jdk_43_method_2_code 13 = .ok (.i2c, 1) := by decide +kernel
theorem d8_14 : decode jdk_43_method_2_code 14 = .ok (.ireturn, 1) := by decide +kernel
theorem ef_8_0 (m : MethodId) (a0 : Addr) (p1 : Int32) : entryFrame m #[(.ref a0), (.int p1)] 2 = mkF m 0 #[rv a0, iv p1] [] := by first | (simp [entryFrame, mkF, argsToLocals, Value.category]; done) | rfl
def Q8_0 (Z : State) (a0 : Addr) (p1 : Int32) (ku : ClassId) (h0 : Heap) (n0 : Nat) (v : Option Value) (h : Heap) (L : List Loc) : Prop := v = some (.int (wd0 p1)) ∧ Fr n0 L ∧ h = h0
abbrev R8_0 : Room := ({ frames := 2, cells := 0, slots := 0, locals := 27 } : Room)
set_option maxRecDepth 65536 in
set_option maxHeartbeats 40000000 in
theorem rm8_0 (l : Launch) (Z : State) (ar : Array Value) (hw : ∀ d ∈ tables_1, d.before ar Z = true) (ws : List Jvm.Cond) (a0 : Addr) (p1 : Int32) (ku : ClassId) (h0 : Heap) (n0 : Nat) (O0 : Old Z n0 h0) (HW : Wd Z w_z0 w_z1 w_z2 w_z3 w_z4 w_z5 w_z6 w_z7 w_z8 w_z9 w_z10 w_z11 k_z3 k_z7 k_z9 k_z11) (pf0 : Arv Z h0 a0 ku .byte (7 : Int32) [(.int (114 : Int32)), (.int (117 : Int32)), (.int (110 : Int32)), (.int (110 : Int32)), (.int (105 : Int32)), (.int (110 : Int32)), (.int (103 : Int32))] (.int (0 : Int32))) (hq0 : ¬ p1 < (0 : Int32)) (hq1 : p1 < (7 : Int32)) :
    MetFree l y8 (head1 (Jvm.Cond.code y8 jdk_43_method_2_code 2 (some .char) :: ws) R8_0) (fun a U => a = #[(.ref a0), (.int p1)] ∧ Z.Warmed39 U.vm ∧ U.heap = h0) (fun _ _ _ _ _ => True) (fun _ U o U' => ∃ v L, o = .returned v ∧ Q8_0 Z a0 p1 ku h0 n0 v U'.heap L ∧ FrameEnd U o U' L R8_0.cells R8_0.slots) := by
 refine MetFree.of_bodySF (plainFor_of_name pn_2) hisR ?_
 intro p e s m args below meth c s₁ Bd hml0 hP hK
 obtain ⟨rfl, hZ, hh⟩ := hP
 have hx := Bd.exec
 have hby := Bd.bytes
 have hml : c.maxLocals = 2 := hml0
 have hown : s.vm.findClass "java/lang/StringLatin1" = some m.cls := findClass_of_methodNamed Bd.named
 have hnm := (name_of_methodNamed Bd.named Bd.method).1
 have hlk : meth.locks = false := by first | assumption | exact BodyLoose.notSynchronized (by assumption) | exact Body.notSynchronized (by assumption)
 have X0 : Stand p l e R8_0 s m #[(.ref a0), (.int p1)] below meth c s₁ [] 0 0 := Stand.of_body Bd
 have e0 : s₁.heap = h0 := by rw [← hh, Bd.state]; rfl
 have N0 := Fr.nil n0
 have Z0 : n0 ≤ h0.size := Nat.le_trans (Nat.le_of_eq O0.1.symm) O0.2.1
 obtain ⟨S0, hS0⟩ : ∃ z, z = s₁.setTop (entryFrame m #[(.ref a0), (.int p1)] 2) := ⟨_, rfl⟩
 have pre0 : ∀ tg, AT p e below s₁ m 0 #[rv a0, iv p1] [] tg → Steps p.tables e below S0 tg := fun tg kg => by rw [hS0]; exact castTop (ef_8_0 m a0 p1) kg
 obtain ⟨-, -, -, -, -, -, -, -, -, -, -, -, -, -, -, -, -, -, -, -, -, -, -, -, -, -, -, -⟩ := id HW
 obtain ⟨cl1, Ar1, q1, S1, N1, H1, G1⟩ := id pf0
 obtain ⟨_, _, ⟨T2, L2, k2, n2⟩, -, X2, ⟨Lc2, hQ2, l2, y2, z2⟩, st2⟩ := Jvm.LawKit.callS X0 hx (y := y9) hown (mvT hZ (ow hw 48 rfl)) (mvT hZ (ow hw 49 rfl)) (mvT hZ (ow hw 6 rfl)) (mvT hZ (ow hw 50 rfl)) (by decide) (backOf (W := 0) (rm9 l Z ar hw [] p1 (7 : Int32) h0 n0 O0 HW hq0 hq1) hZ (ow hw 50 rfl) (ow hw 6 rfl) (by decide) (by decide)) (g := (mkF m 3 #[rv a0, iv p1] [(.int (7 : Int32)), (.int p1)])) rfl (by rw [hml]; rfl) (argsL := [(.int p1), (.int (7 : Int32))]) (rest := []) (lenOf pd_2 rfl) rfl (by show 2 * 0 + _ ≤ _; exact Nat.le_of_eq rfl) (hb hby d8_3) (fun _ _ => ⟨rfl, e0, (by decide : 0 + 0 ≤ _), (by decide : 0 + 0 ≤ _)⟩)
 dsimp only [Pt.U, Pt.locs, Pt.cells, Pt.slots] at X2 l2 y2 z2 st2 hQ2
 subst l2 y2 z2
 obtain ⟨rfl, N2q, e2⟩ := hQ2
 have N2 := Fr.app N0 N2q
 obtain ⟨cl3, Ar3, q3, S3, N3, H3, G3⟩ := id pf0
 have hp := own_c0 hq0 hq1
 have hin3 := own_in p1 S3 ⟨hq0, hq1⟩
 have hat3 : cl3.slots[p1.toNatClampNeg]? = some (.int (wd0 p1)) := Has.at H3 hin3 (own_g0 hp)
 obtain ⟨fs, hr, hrun, hended, hW, hsame⟩ := X2.leave (v := some (.int (nar .char (((wd0 p1) &&& (255 : Int32)).toUInt32.toUInt16.toUInt32.toInt32)))) (fun h => by rw [Bd.returns] at h; cases h) hlk
 subst hS0
 refine ⟨_, _, pre0 _ ?_, hrun, hended, _, _, rfl, ?_, ⟨_, rfl⟩, hW, hsame.mono (by decide) (by decide)⟩
 ·
  refine XS.iloadN X0.here hx rfl (hb hby d8_0) rfl ?_
  refine XS.aloadN X0.here hx rfl (hb hby d8_1) rfl rfl ?_
  refine X0.arraylength hx (by rw [e0]; exact Ar1.1) (State.isArrayOf_alike hZ.alike Ar1.2.1) (g := (mkF m 2 #[rv a0, iv p1] [(.ref a0), (.int p1)])) rfl rfl (hb hby d8_2) _ ?_
  rw [len_of S1 N1]
  refine st2 _ ?_
  refine XS.aloadN X2.here hx rfl (hb hby d8_6) rfl rfl ?_
  refine XS.iloadN X2.here hx rfl (hb hby d8_7) rfl ?_
  refine X2.baloadBytes hx (j := p1) (v := (.int (wd0 p1))) (by rw [e2]; exact Ar3.1) (State.isArrayOf_alike hZ.alike Ar3.2.1) Ar3.2.2 hin3 hat3 (g := (mkF m 8 #[rv a0, iv p1] [(.int p1), (.ref a0)])) rfl rfl (hb hby d8_8) _ ?_
  refine XS.sipush X2.here hx rfl (hb hby d8_9) ?_
  refine XS.iand X2.here hx rfl (hb hby d8_12) rfl ?_
  refine XS.i2c X2.here hx rfl (hb hby d8_13) rfl ?_
  exact retN X2 hx (t := .char) Bd.returns (by simp) (hb hby d8_14) hr
 ·
  show Q8_0 Z a0 p1 ku h0 n0 _ T2.heap _
  rw [e2]
  exact ⟨(by rw [own_wc0 hp]), N2, rfl⟩

theorem d6_0 : decode jdk_42_method_56_code 0 = .ok (.aload_n 0, 1) := by decide +kernel
theorem d6_1 : decode jdk_42_method_56_code 1 = .ok (.invokevirtual 492, 3) := by decide +kernel
theorem d6_4 : decode jdk_42_method_56_code 4 = .ok (.ifCond .eq 12, 3) := by decide +kernel
theorem d6_7 : decode jdk_42_method_56_code 7 = .ok (.aload_n 0, 1) := by decide +kernel
theorem d6_8 : decode jdk_42_method_56_code 8 = .ok (.getfield 9, 3) := by decide +kernel
theorem d6_11 : decode jdk_42_method_56_code 11 = .ok (.iload_n 1, 1) := by decide +kernel
theorem d6_12 : decode jdk_42_method_56_code 12 = .ok (.invokestatic 495, 3) := by decide +kernel
theorem d6_15 : decode jdk_42_method_56_code 15 = .ok (.ireturn, 1) := by decide +kernel
theorem ef_6_0 (m : MethodId) (a0 : Addr) (p1 : Int32) : entryFrame m #[(.ref a0), (.int p1)] 2 = mkF m 0 #[rv a0, iv p1] [] := by first | (simp [entryFrame, mkF, argsToLocals, Value.category]; done) | rfl
def Q6_0 (Z : State) (a0 : Addr) (p1 : Int32) (u : Addr) (ku : ClassId) (h0 : Heap) (n0 : Nat) (v : Option Value) (h : Heap) (L : List Loc) : Prop := v = some (.int (wd0 p1)) ∧ Fr n0 L ∧ h = h0
abbrev R6_0 : Room := ({ frames := 3, cells := 0, slots := 0, locals := 40 } : Room)
set_option maxRecDepth 65536 in
set_option maxHeartbeats 40000000 in
theorem rm6_0 (l : Launch) (Z : State) (ar : Array Value) (hw : ∀ d ∈ tables_1, d.before ar Z = true) (ws : List Jvm.Cond) (a0 : Addr) (p1 : Int32) (u : Addr) (ku : ClassId) (h0 : Heap) (n0 : Nat) (O0 : Old Z n0 h0) (HW : Wd Z w_z0 w_z1 w_z2 w_z3 w_z4 w_z5 w_z6 w_z7 w_z8 w_z9 w_z10 w_z11 k_z3 k_z7 k_z9 k_z11) (pf0 : Exa Z h0 a0 "java/lang/String") (pf1 : Fld Z h0 a0 "java/lang/String" "coder" "B" (.int (0 : Int32))) (pf2 : Fld Z h0 a0 "java/lang/String" "value" "[B" (.ref u)) (pf3 : Arv Z h0 u ku .byte (7 : Int32) [(.int (114 : Int32)), (.int (117 : Int32)), (.int (110 : Int32)), (.int (110 : Int32)), (.int (105 : Int32)), (.int (110 : Int32)), (.int (103 : Int32))] (.int (0 : Int32))) (hq0 : ¬ p1 < (0 : Int32)) (hq1 : p1 < (7 : Int32)) :
    MetFree l y6 (head1 (Jvm.Cond.code y6 jdk_42_method_56_code 2 (some .char) :: ws) R6_0) (fun a U => a = #[(.ref a0), (.int p1)] ∧ Z.Warmed39 U.vm ∧ U.heap = h0) (fun _ _ _ _ _ => True) (fun _ U o U' => ∃ v L, o = .returned v ∧ Q6_0 Z a0 p1 u ku h0 n0 v U'.heap L ∧ FrameEnd U o U' L R6_0.cells R6_0.slots) := by
 refine MetFree.of_bodySF (plainFor_of_name pn_0) hisR ?_
 intro p e s m args below meth c s₁ Bd hml0 hP hK
 obtain ⟨rfl, hZ, hh⟩ := hP
 have hx := Bd.exec
 have hby := Bd.bytes
 have hml : c.maxLocals = 2 := hml0
 have hown : s.vm.findClass "java/lang/String" = some m.cls := findClass_of_methodNamed Bd.named
 have hnm := (name_of_methodNamed Bd.named Bd.method).1
 have hlk : meth.locks = false := by first | assumption | exact BodyLoose.notSynchronized (by assumption) | exact Body.notSynchronized (by assumption)
 have X0 : Stand p l e R6_0 s m #[(.ref a0), (.int p1)] below meth c s₁ [] 0 0 := Stand.of_body Bd
 have e0 : s₁.heap = h0 := by rw [← hh, Bd.state]; rfl
 have N0 := Fr.nil n0
 have Z0 : n0 ≤ h0.size := Nat.le_trans (Nat.le_of_eq O0.1.symm) O0.2.1
 obtain ⟨S0, hS0⟩ : ∃ z, z = s₁.setTop (entryFrame m #[(.ref a0), (.int p1)] 2) := ⟨_, rfl⟩
 have pre0 : ∀ tg, AT p e below s₁ m 0 #[rv a0, iv p1] [] tg → Steps p.tables e below S0 tg := fun tg kg => by rw [hS0]; exact castTop (ef_6_0 m a0 p1) kg
 obtain ⟨-, -, -, -, -, -, -, -, -, -, -, -, -, -, -, -, -, -, -, -, -, -, -, -, -, -, -, -⟩ := id HW
 obtain ⟨cq1, kq1, q1a, q1b, q1c⟩ := isOf hZ e0 pf0
 obtain ⟨_, _, ⟨T1, L1, k1, n1⟩, -, X1, ⟨Lc1, hQ1, l1, y1, z1⟩, st1⟩ := X0.virtualBack hx (y := y7) (z := y7) hown (mvT hZ (ow hw 39 rfl)) (mvT hZ (ow hw 40 rfl)) (notFace_of_selects (args := #[]) (mvT hZ (ow hw 42 rfl))) (mvT hZ (ow hw 42 rfl)) (mvT hZ (ow hw 41 rfl)) (by decide) (backOf (W := 0) (rm7 l Z ar hw [] a0 h0 n0 O0 HW pf1) hZ (ow hw 43 rfl) (ow hw 6 rfl) (by decide) (by decide)) q1a q1c (g := (mkF m 1 #[rv a0, iv p1] [(.ref a0)])) rfl (by rw [hml]; rfl) (Steps.refl _) (argsL := []) (rest := []) (lenOf pd_3 rfl) rfl (by show 2 * 0 + _ ≤ _; exact Nat.le_of_eq rfl) (hb hby d6_1) (fun _ _ => ⟨rfl, e0, (by decide : 0 + 0 ≤ _), (by decide : 0 + 0 ≤ _)⟩)
 dsimp only [Pt.U, Pt.locs, Pt.cells, Pt.slots] at X1 l1 y1 z1 st1 hQ1
 subst l1 y1 z1
 obtain ⟨rfl, N1q, e1⟩ := hQ1
 have N1 := Fr.app N0 N1q
 obtain ⟨T2, X2, e2, st2⟩ := getF X1 hx hZ hown (host := "") (Or.inl (ow hw 18 rfl)) Via.refl e1 pf2 (g := (mkF m 8 #[rv a0, iv p1] [(.ref a0)])) rfl rfl (hb hby d6_8)
 obtain ⟨_, _, ⟨T3, L3, k3, n3⟩, -, X3, ⟨Lc3, hQ3, l3, y3, z3⟩, st3⟩ := Jvm.LawKit.callS X2 hx (y := y8) hown (mvT hZ (ow hw 44 rfl)) (mvT hZ (ow hw 45 rfl)) (mvT hZ (ow hw 46 rfl)) (mvT hZ (ow hw 47 rfl)) (by decide) (backOf (W := 0) (rm8_0 l Z ar hw [] u p1 _ h0 n0 O0 HW pf3 hq0 hq1) hZ (ow hw 47 rfl) (ow hw 46 rfl) (by decide) (by decide)) (g := (mkF m 12 #[rv a0, iv p1] [(.int p1), (.ref u)])) rfl (by rw [hml]; rfl) (argsL := [(.ref u), (.int p1)]) (rest := []) (lenOf pd_4 rfl) rfl (by show 2 * 0 + _ ≤ _; exact Nat.le_of_eq rfl) (hb hby d6_12) (fun _ _ => ⟨rfl, e2, (by decide : 0 + 0 ≤ _), (by decide : 0 + 0 ≤ _)⟩)
 dsimp only [Pt.U, Pt.locs, Pt.cells, Pt.slots] at X3 l3 y3 z3 st3 hQ3
 subst l3 y3 z3
 obtain ⟨rfl, N3q, e3⟩ := hQ3
 have N3 := Fr.app N1 N3q
 obtain ⟨fs, hr, hrun, hended, hW, hsame⟩ := X3.leave (v := some (.int (nar .char (wd0 p1)))) (fun h => by rw [Bd.returns] at h; cases h) hlk
 subst hS0
 refine ⟨_, _, pre0 _ ?_, hrun, hended, _, _, rfl, ?_, ⟨_, rfl⟩, hW, hsame.mono (by decide) (by decide)⟩
 ·
  refine XS.aloadN X0.here hx rfl (hb hby d6_0) rfl rfl ?_
  refine st1.trans ?_
  show AT p e below T1 m 4 #[rv a0, iv p1] [(.int (1 : Int32))] _
  refine XS.ifNo X1.here hx rfl (hb hby d6_4) rfl (XT.i0_eq_f ((by decide) : ¬ ((1 : Int32) = (0 : Int32)))) ?_
  refine XS.aloadN X1.here hx rfl (hb hby d6_7) rfl rfl ?_
  refine st2 _ ?_
  refine XS.iloadN X2.here hx rfl (hb hby d6_11) rfl ?_
  refine st3 _ ?_
  exact retN X3 hx (t := .char) Bd.returns (by simp) (hb hby d6_15) hr
 ·
  show Q6_0 Z a0 p1 u ku h0 n0 _ T3.heap _
  rw [e3]
  exact ⟨(by rw [own_nch (own_wr0 (own_c0 hq0 hq1))]), N3, rfl⟩

theorem ef_8_1 (m : MethodId) (a0 : Addr) (p1 : Int32) : entryFrame m #[(.ref a0), (.int p1)] 2 = mkF m 0 #[rv a0, iv p1] [] := by first | (simp [entryFrame, mkF, argsToLocals, Value.category]; done) | rfl
def Q8_1 (Z : State) (a0 : Addr) (p1 : Int32) (ku : ClassId) (h0 : Heap) (n0 : Nat) (v : Option Value) (h : Heap) (L : List Loc) : Prop := v = some (.int (wd1 p1)) ∧ Fr n0 L ∧ h = h0
abbrev R8_1 : Room := ({ frames := 2, cells := 0, slots := 0, locals := 27 } : Room)
set_option maxRecDepth 65536 in
set_option maxHeartbeats 40000000 in
theorem rm8_1 (l : Launch) (Z : State) (ar : Array Value) (hw : ∀ d ∈ tables_1, d.before ar Z = true) (ws : List Jvm.Cond) (a0 : Addr) (p1 : Int32) (ku : ClassId) (h0 : Heap) (n0 : Nat) (O0 : Old Z n0 h0) (HW : Wd Z w_z0 w_z1 w_z2 w_z3 w_z4 w_z5 w_z6 w_z7 w_z8 w_z9 w_z10 w_z11 k_z3 k_z7 k_z9 k_z11) (pf0 : Arv Z h0 a0 ku .byte (5 : Int32) [(.int (113 : Int32)), (.int (117 : Int32)), (.int (105 : Int32)), (.int (101 : Int32)), (.int (116 : Int32))] (.int (0 : Int32))) (hq0 : ¬ p1 < (0 : Int32)) (hq1 : p1 < (5 : Int32)) :
    MetFree l y8 (head1 (Jvm.Cond.code y8 jdk_43_method_2_code 2 (some .char) :: ws) R8_1) (fun a U => a = #[(.ref a0), (.int p1)] ∧ Z.Warmed39 U.vm ∧ U.heap = h0) (fun _ _ _ _ _ => True) (fun _ U o U' => ∃ v L, o = .returned v ∧ Q8_1 Z a0 p1 ku h0 n0 v U'.heap L ∧ FrameEnd U o U' L R8_1.cells R8_1.slots) := by
 refine MetFree.of_bodySF (plainFor_of_name pn_2) hisR ?_
 intro p e s m args below meth c s₁ Bd hml0 hP hK
 obtain ⟨rfl, hZ, hh⟩ := hP
 have hx := Bd.exec
 have hby := Bd.bytes
 have hml : c.maxLocals = 2 := hml0
 have hown : s.vm.findClass "java/lang/StringLatin1" = some m.cls := findClass_of_methodNamed Bd.named
 have hnm := (name_of_methodNamed Bd.named Bd.method).1
 have hlk : meth.locks = false := by first | assumption | exact BodyLoose.notSynchronized (by assumption) | exact Body.notSynchronized (by assumption)
 have X0 : Stand p l e R8_1 s m #[(.ref a0), (.int p1)] below meth c s₁ [] 0 0 := Stand.of_body Bd
 have e0 : s₁.heap = h0 := by rw [← hh, Bd.state]; rfl
 have N0 := Fr.nil n0
 have Z0 : n0 ≤ h0.size := Nat.le_trans (Nat.le_of_eq O0.1.symm) O0.2.1
 obtain ⟨S0, hS0⟩ : ∃ z, z = s₁.setTop (entryFrame m #[(.ref a0), (.int p1)] 2) := ⟨_, rfl⟩
 have pre0 : ∀ tg, AT p e below s₁ m 0 #[rv a0, iv p1] [] tg → Steps p.tables e below S0 tg := fun tg kg => by rw [hS0]; exact castTop (ef_8_1 m a0 p1) kg
 obtain ⟨-, -, -, -, -, -, -, -, -, -, -, -, -, -, -, -, -, -, -, -, -, -, -, -, -, -, -, -⟩ := id HW
 obtain ⟨cl1, Ar1, q1, S1, N1, H1, G1⟩ := id pf0
 obtain ⟨_, _, ⟨T2, L2, k2, n2⟩, -, X2, ⟨Lc2, hQ2, l2, y2, z2⟩, st2⟩ := Jvm.LawKit.callS X0 hx (y := y9) hown (mvT hZ (ow hw 48 rfl)) (mvT hZ (ow hw 49 rfl)) (mvT hZ (ow hw 6 rfl)) (mvT hZ (ow hw 50 rfl)) (by decide) (backOf (W := 0) (rm9 l Z ar hw [] p1 (5 : Int32) h0 n0 O0 HW hq0 hq1) hZ (ow hw 50 rfl) (ow hw 6 rfl) (by decide) (by decide)) (g := (mkF m 3 #[rv a0, iv p1] [(.int (5 : Int32)), (.int p1)])) rfl (by rw [hml]; rfl) (argsL := [(.int p1), (.int (5 : Int32))]) (rest := []) (lenOf pd_2 rfl) rfl (by show 2 * 0 + _ ≤ _; exact Nat.le_of_eq rfl) (hb hby d8_3) (fun _ _ => ⟨rfl, e0, (by decide : 0 + 0 ≤ _), (by decide : 0 + 0 ≤ _)⟩)
 dsimp only [Pt.U, Pt.locs, Pt.cells, Pt.slots] at X2 l2 y2 z2 st2 hQ2
 subst l2 y2 z2
 obtain ⟨rfl, N2q, e2⟩ := hQ2
 have N2 := Fr.app N0 N2q
 obtain ⟨cl3, Ar3, q3, S3, N3, H3, G3⟩ := id pf0
 have hp := own_c1 hq0 hq1
 have hin3 := own_in p1 S3 ⟨hq0, hq1⟩
 have hat3 : cl3.slots[p1.toNatClampNeg]? = some (.int (wd1 p1)) := Has.at H3 hin3 (own_g1 hp)
 obtain ⟨fs, hr, hrun, hended, hW, hsame⟩ := X2.leave (v := some (.int (nar .char (((wd1 p1) &&& (255 : Int32)).toUInt32.toUInt16.toUInt32.toInt32)))) (fun h => by rw [Bd.returns] at h; cases h) hlk
 subst hS0
 refine ⟨_, _, pre0 _ ?_, hrun, hended, _, _, rfl, ?_, ⟨_, rfl⟩, hW, hsame.mono (by decide) (by decide)⟩
 ·
  refine XS.iloadN X0.here hx rfl (hb hby d8_0) rfl ?_
  refine XS.aloadN X0.here hx rfl (hb hby d8_1) rfl rfl ?_
  refine X0.arraylength hx (by rw [e0]; exact Ar1.1) (State.isArrayOf_alike hZ.alike Ar1.2.1) (g := (mkF m 2 #[rv a0, iv p1] [(.ref a0), (.int p1)])) rfl rfl (hb hby d8_2) _ ?_
  rw [len_of S1 N1]
  refine st2 _ ?_
  refine XS.aloadN X2.here hx rfl (hb hby d8_6) rfl rfl ?_
  refine XS.iloadN X2.here hx rfl (hb hby d8_7) rfl ?_
  refine X2.baloadBytes hx (j := p1) (v := (.int (wd1 p1))) (by rw [e2]; exact Ar3.1) (State.isArrayOf_alike hZ.alike Ar3.2.1) Ar3.2.2 hin3 hat3 (g := (mkF m 8 #[rv a0, iv p1] [(.int p1), (.ref a0)])) rfl rfl (hb hby d8_8) _ ?_
  refine XS.sipush X2.here hx rfl (hb hby d8_9) ?_
  refine XS.iand X2.here hx rfl (hb hby d8_12) rfl ?_
  refine XS.i2c X2.here hx rfl (hb hby d8_13) rfl ?_
  exact retN X2 hx (t := .char) Bd.returns (by simp) (hb hby d8_14) hr
 ·
  show Q8_1 Z a0 p1 ku h0 n0 _ T2.heap _
  rw [e2]
  exact ⟨(by rw [own_wc1 hp]), N2, rfl⟩

theorem ef_6_1 (m : MethodId) (a0 : Addr) (p1 : Int32) : entryFrame m #[(.ref a0), (.int p1)] 2 = mkF m 0 #[rv a0, iv p1] [] := by first | (simp [entryFrame, mkF, argsToLocals, Value.category]; done) | rfl
def Q6_1 (Z : State) (a0 : Addr) (p1 : Int32) (u : Addr) (ku : ClassId) (h0 : Heap) (n0 : Nat) (v : Option Value) (h : Heap) (L : List Loc) : Prop := v = some (.int (wd1 p1)) ∧ Fr n0 L ∧ h = h0
abbrev R6_1 : Room := ({ frames := 3, cells := 0, slots := 0, locals := 40 } : Room)
set_option maxRecDepth 65536 in
set_option maxHeartbeats 40000000 in
theorem rm6_1 (l : Launch) (Z : State) (ar : Array Value) (hw : ∀ d ∈ tables_1, d.before ar Z = true) (ws : List Jvm.Cond) (a0 : Addr) (p1 : Int32) (u : Addr) (ku : ClassId) (h0 : Heap) (n0 : Nat) (O0 : Old Z n0 h0) (HW : Wd Z w_z0 w_z1 w_z2 w_z3 w_z4 w_z5 w_z6 w_z7 w_z8 w_z9 w_z10 w_z11 k_z3 k_z7 k_z9 k_z11) (pf0 : Exa Z h0 a0 "java/lang/String") (pf1 : Fld Z h0 a0 "java/lang/String" "coder" "B" (.int (0 : Int32))) (pf2 : Fld Z h0 a0 "java/lang/String" "value" "[B" (.ref u)) (pf3 : Arv Z h0 u ku .byte (5 : Int32) [(.int (113 : Int32)), (.int (117 : Int32)), (.int (105 : Int32)), (.int (101 : Int32)), (.int (116 : Int32))] (.int (0 : Int32))) (hq0 : ¬ p1 < (0 : Int32)) (hq1 : p1 < (5 : Int32)) :
    MetFree l y6 (head1 (Jvm.Cond.code y6 jdk_42_method_56_code 2 (some .char) :: ws) R6_1) (fun a U => a = #[(.ref a0), (.int p1)] ∧ Z.Warmed39 U.vm ∧ U.heap = h0) (fun _ _ _ _ _ => True) (fun _ U o U' => ∃ v L, o = .returned v ∧ Q6_1 Z a0 p1 u ku h0 n0 v U'.heap L ∧ FrameEnd U o U' L R6_1.cells R6_1.slots) := by
 refine MetFree.of_bodySF (plainFor_of_name pn_0) hisR ?_
 intro p e s m args below meth c s₁ Bd hml0 hP hK
 obtain ⟨rfl, hZ, hh⟩ := hP
 have hx := Bd.exec
 have hby := Bd.bytes
 have hml : c.maxLocals = 2 := hml0
 have hown : s.vm.findClass "java/lang/String" = some m.cls := findClass_of_methodNamed Bd.named
 have hnm := (name_of_methodNamed Bd.named Bd.method).1
 have hlk : meth.locks = false := by first | assumption | exact BodyLoose.notSynchronized (by assumption) | exact Body.notSynchronized (by assumption)
 have X0 : Stand p l e R6_1 s m #[(.ref a0), (.int p1)] below meth c s₁ [] 0 0 := Stand.of_body Bd
 have e0 : s₁.heap = h0 := by rw [← hh, Bd.state]; rfl
 have N0 := Fr.nil n0
 have Z0 : n0 ≤ h0.size := Nat.le_trans (Nat.le_of_eq O0.1.symm) O0.2.1
 obtain ⟨S0, hS0⟩ : ∃ z, z = s₁.setTop (entryFrame m #[(.ref a0), (.int p1)] 2) := ⟨_, rfl⟩
 have pre0 : ∀ tg, AT p e below s₁ m 0 #[rv a0, iv p1] [] tg → Steps p.tables e below S0 tg := fun tg kg => by rw [hS0]; exact castTop (ef_6_1 m a0 p1) kg
 obtain ⟨-, -, -, -, -, -, -, -, -, -, -, -, -, -, -, -, -, -, -, -, -, -, -, -, -, -, -, -⟩ := id HW
 obtain ⟨cq1, kq1, q1a, q1b, q1c⟩ := isOf hZ e0 pf0
 obtain ⟨_, _, ⟨T1, L1, k1, n1⟩, -, X1, ⟨Lc1, hQ1, l1, y1, z1⟩, st1⟩ := X0.virtualBack hx (y := y7) (z := y7) hown (mvT hZ (ow hw 39 rfl)) (mvT hZ (ow hw 40 rfl)) (notFace_of_selects (args := #[]) (mvT hZ (ow hw 42 rfl))) (mvT hZ (ow hw 42 rfl)) (mvT hZ (ow hw 41 rfl)) (by decide) (backOf (W := 0) (rm7 l Z ar hw [] a0 h0 n0 O0 HW pf1) hZ (ow hw 43 rfl) (ow hw 6 rfl) (by decide) (by decide)) q1a q1c (g := (mkF m 1 #[rv a0, iv p1] [(.ref a0)])) rfl (by rw [hml]; rfl) (Steps.refl _) (argsL := []) (rest := []) (lenOf pd_3 rfl) rfl (by show 2 * 0 + _ ≤ _; exact Nat.le_of_eq rfl) (hb hby d6_1) (fun _ _ => ⟨rfl, e0, (by decide : 0 + 0 ≤ _), (by decide : 0 + 0 ≤ _)⟩)
 dsimp only [Pt.U, Pt.locs, Pt.cells, Pt.slots] at X1 l1 y1 z1 st1 hQ1
 subst l1 y1 z1
 obtain ⟨rfl, N1q, e1⟩ := hQ1
 have N1 := Fr.app N0 N1q
 obtain ⟨T2, X2, e2, st2⟩ := getF X1 hx hZ hown (host := "") (Or.inl (ow hw 18 rfl)) Via.refl e1 pf2 (g := (mkF m 8 #[rv a0, iv p1] [(.ref a0)])) rfl rfl (hb hby d6_8)
 obtain ⟨_, _, ⟨T3, L3, k3, n3⟩, -, X3, ⟨Lc3, hQ3, l3, y3, z3⟩, st3⟩ := Jvm.LawKit.callS X2 hx (y := y8) hown (mvT hZ (ow hw 44 rfl)) (mvT hZ (ow hw 45 rfl)) (mvT hZ (ow hw 46 rfl)) (mvT hZ (ow hw 47 rfl)) (by decide) (backOf (W := 0) (rm8_1 l Z ar hw [] u p1 _ h0 n0 O0 HW pf3 hq0 hq1) hZ (ow hw 47 rfl) (ow hw 46 rfl) (by decide) (by decide)) (g := (mkF m 12 #[rv a0, iv p1] [(.int p1), (.ref u)])) rfl (by rw [hml]; rfl) (argsL := [(.ref u), (.int p1)]) (rest := []) (lenOf pd_4 rfl) rfl (by show 2 * 0 + _ ≤ _; exact Nat.le_of_eq rfl) (hb hby d6_12) (fun _ _ => ⟨rfl, e2, (by decide : 0 + 0 ≤ _), (by decide : 0 + 0 ≤ _)⟩)
 dsimp only [Pt.U, Pt.locs, Pt.cells, Pt.slots] at X3 l3 y3 z3 st3 hQ3
 subst l3 y3 z3
 obtain ⟨rfl, N3q, e3⟩ := hQ3
 have N3 := Fr.app N1 N3q
 obtain ⟨fs, hr, hrun, hended, hW, hsame⟩ := X3.leave (v := some (.int (nar .char (wd1 p1)))) (fun h => by rw [Bd.returns] at h; cases h) hlk
 subst hS0
 refine ⟨_, _, pre0 _ ?_, hrun, hended, _, _, rfl, ?_, ⟨_, rfl⟩, hW, hsame.mono (by decide) (by decide)⟩
 ·
  refine XS.aloadN X0.here hx rfl (hb hby d6_0) rfl rfl ?_
  refine st1.trans ?_
  show AT p e below T1 m 4 #[rv a0, iv p1] [(.int (1 : Int32))] _
  refine XS.ifNo X1.here hx rfl (hb hby d6_4) rfl (XT.i0_eq_f ((by decide) : ¬ ((1 : Int32) = (0 : Int32)))) ?_
  refine XS.aloadN X1.here hx rfl (hb hby d6_7) rfl rfl ?_
  refine st2 _ ?_
  refine XS.iloadN X2.here hx rfl (hb hby d6_11) rfl ?_
  refine st3 _ ?_
  exact retN X3 hx (t := .char) Bd.returns (by simp) (hb hby d6_15) hr
 ·
  show Q6_1 Z a0 p1 u ku h0 n0 _ T3.heap _
  rw [e3]
  exact ⟨(by rw [own_nch (own_wr1 (own_c1 hq0 hq1))]), N3, rfl⟩

theorem ef_8_2 (m : MethodId) (a0 : Addr) (p1 : Int32) : entryFrame m #[(.ref a0), (.int p1)] 2 = mkF m 0 #[rv a0, iv p1] [] := by first | (simp [entryFrame, mkF, argsToLocals, Value.category]; done) | rfl
def Q8_2 (Z : State) (a0 : Addr) (p1 : Int32) (ku : ClassId) (h0 : Heap) (n0 : Nat) (v : Option Value) (h : Heap) (L : List Loc) : Prop := v = some (.int (wd2 p1)) ∧ Fr n0 L ∧ h = h0
abbrev R8_2 : Room := ({ frames := 2, cells := 0, slots := 0, locals := 27 } : Room)
set_option maxRecDepth 65536 in
set_option maxHeartbeats 40000000 in
theorem rm8_2 (l : Launch) (Z : State) (ar : Array Value) (hw : ∀ d ∈ tables_1, d.before ar Z = true) (ws : List Jvm.Cond) (a0 : Addr) (p1 : Int32) (ku : ClassId) (h0 : Heap) (n0 : Nat) (O0 : Old Z n0 h0) (HW : Wd Z w_z0 w_z1 w_z2 w_z3 w_z4 w_z5 w_z6 w_z7 w_z8 w_z9 w_z10 w_z11 k_z3 k_z7 k_z9 k_z11) (pf0 : Arv Z h0 a0 ku .byte (9 : Int32) [(.int (116 : Int32)), (.int (101 : Int32)), (.int (114 : Int32)), (.int (109 : Int32)), (.int (105 : Int32)), (.int (110 : Int32)), (.int (97 : Int32)), (.int (116 : Int32)), (.int (101 : Int32))] (.int (0 : Int32))) (hq0 : ¬ p1 < (0 : Int32)) (hq1 : p1 < (9 : Int32)) :
    MetFree l y8 (head1 (Jvm.Cond.code y8 jdk_43_method_2_code 2 (some .char) :: ws) R8_2) (fun a U => a = #[(.ref a0), (.int p1)] ∧ Z.Warmed39 U.vm ∧ U.heap = h0) (fun _ _ _ _ _ => True) (fun _ U o U' => ∃ v L, o = .returned v ∧ Q8_2 Z a0 p1 ku h0 n0 v U'.heap L ∧ FrameEnd U o U' L R8_2.cells R8_2.slots) := by
 refine MetFree.of_bodySF (plainFor_of_name pn_2) hisR ?_
 intro p e s m args below meth c s₁ Bd hml0 hP hK
 obtain ⟨rfl, hZ, hh⟩ := hP
 have hx := Bd.exec
 have hby := Bd.bytes
 have hml : c.maxLocals = 2 := hml0
 have hown : s.vm.findClass "java/lang/StringLatin1" = some m.cls := findClass_of_methodNamed Bd.named
 have hnm := (name_of_methodNamed Bd.named Bd.method).1
 have hlk : meth.locks = false := by first | assumption | exact BodyLoose.notSynchronized (by assumption) | exact Body.notSynchronized (by assumption)
 have X0 : Stand p l e R8_2 s m #[(.ref a0), (.int p1)] below meth c s₁ [] 0 0 := Stand.of_body Bd
 have e0 : s₁.heap = h0 := by rw [← hh, Bd.state]; rfl
 have N0 := Fr.nil n0
 have Z0 : n0 ≤ h0.size := Nat.le_trans (Nat.le_of_eq O0.1.symm) O0.2.1
 obtain ⟨S0, hS0⟩ : ∃ z, z = s₁.setTop (entryFrame m #[(.ref a0), (.int p1)] 2) := ⟨_, rfl⟩
 have pre0 : ∀ tg, AT p e below s₁ m 0 #[rv a0, iv p1] [] tg → Steps p.tables e below S0 tg := fun tg kg => by rw [hS0]; exact castTop (ef_8_2 m a0 p1) kg
 obtain ⟨-, -, -, -, -, -, -, -, -, -, -, -, -, -, -, -, -, -, -, -, -, -, -, -, -, -, -, -⟩ := id HW
 obtain ⟨cl1, Ar1, q1, S1, N1, H1, G1⟩ := id pf0
 obtain ⟨_, _, ⟨T2, L2, k2, n2⟩, -, X2, ⟨Lc2, hQ2, l2, y2, z2⟩, st2⟩ := Jvm.LawKit.callS X0 hx (y := y9) hown (mvT hZ (ow hw 48 rfl)) (mvT hZ (ow hw 49 rfl)) (mvT hZ (ow hw 6 rfl)) (mvT hZ (ow hw 50 rfl)) (by decide) (backOf (W := 0) (rm9 l Z ar hw [] p1 (9 : Int32) h0 n0 O0 HW hq0 hq1) hZ (ow hw 50 rfl) (ow hw 6 rfl) (by decide) (by decide)) (g := (mkF m 3 #[rv a0, iv p1] [(.int (9 : Int32)), (.int p1)])) rfl (by rw [hml]; rfl) (argsL := [(.int p1), (.int (9 : Int32))]) (rest := []) (lenOf pd_2 rfl) rfl (by show 2 * 0 + _ ≤ _; exact Nat.le_of_eq rfl) (hb hby d8_3) (fun _ _ => ⟨rfl, e0, (by decide : 0 + 0 ≤ _), (by decide : 0 + 0 ≤ _)⟩)
 dsimp only [Pt.U, Pt.locs, Pt.cells, Pt.slots] at X2 l2 y2 z2 st2 hQ2
 subst l2 y2 z2
 obtain ⟨rfl, N2q, e2⟩ := hQ2
 have N2 := Fr.app N0 N2q
 obtain ⟨cl3, Ar3, q3, S3, N3, H3, G3⟩ := id pf0
 have hp := own_c2 hq0 hq1
 have hin3 := own_in p1 S3 ⟨hq0, hq1⟩
 have hat3 : cl3.slots[p1.toNatClampNeg]? = some (.int (wd2 p1)) := Has.at H3 hin3 (own_g2 hp)
 obtain ⟨fs, hr, hrun, hended, hW, hsame⟩ := X2.leave (v := some (.int (nar .char (((wd2 p1) &&& (255 : Int32)).toUInt32.toUInt16.toUInt32.toInt32)))) (fun h => by rw [Bd.returns] at h; cases h) hlk
 subst hS0
 refine ⟨_, _, pre0 _ ?_, hrun, hended, _, _, rfl, ?_, ⟨_, rfl⟩, hW, hsame.mono (by decide) (by decide)⟩
 ·
  refine XS.iloadN X0.here hx rfl (hb hby d8_0) rfl ?_
  refine XS.aloadN X0.here hx rfl (hb hby d8_1) rfl rfl ?_
  refine X0.arraylength hx (by rw [e0]; exact Ar1.1) (State.isArrayOf_alike hZ.alike Ar1.2.1) (g := (mkF m 2 #[rv a0, iv p1] [(.ref a0), (.int p1)])) rfl rfl (hb hby d8_2) _ ?_
  rw [len_of S1 N1]
  refine st2 _ ?_
  refine XS.aloadN X2.here hx rfl (hb hby d8_6) rfl rfl ?_
  refine XS.iloadN X2.here hx rfl (hb hby d8_7) rfl ?_
  refine X2.baloadBytes hx (j := p1) (v := (.int (wd2 p1))) (by rw [e2]; exact Ar3.1) (State.isArrayOf_alike hZ.alike Ar3.2.1) Ar3.2.2 hin3 hat3 (g := (mkF m 8 #[rv a0, iv p1] [(.int p1), (.ref a0)])) rfl rfl (hb hby d8_8) _ ?_
  refine XS.sipush X2.here hx rfl (hb hby d8_9) ?_
  refine XS.iand X2.here hx rfl (hb hby d8_12) rfl ?_
  refine XS.i2c X2.here hx rfl (hb hby d8_13) rfl ?_
  exact retN X2 hx (t := .char) Bd.returns (by simp) (hb hby d8_14) hr
 ·
  show Q8_2 Z a0 p1 ku h0 n0 _ T2.heap _
  rw [e2]
  exact ⟨(by rw [own_wc2 hp]), N2, rfl⟩

theorem ef_6_2 (m : MethodId) (a0 : Addr) (p1 : Int32) : entryFrame m #[(.ref a0), (.int p1)] 2 = mkF m 0 #[rv a0, iv p1] [] := by first | (simp [entryFrame, mkF, argsToLocals, Value.category]; done) | rfl
def Q6_2 (Z : State) (a0 : Addr) (p1 : Int32) (u : Addr) (ku : ClassId) (h0 : Heap) (n0 : Nat) (v : Option Value) (h : Heap) (L : List Loc) : Prop := v = some (.int (wd2 p1)) ∧ Fr n0 L ∧ h = h0
abbrev R6_2 : Room := ({ frames := 3, cells := 0, slots := 0, locals := 40 } : Room)
set_option maxRecDepth 65536 in
set_option maxHeartbeats 40000000 in
theorem rm6_2 (l : Launch) (Z : State) (ar : Array Value) (hw : ∀ d ∈ tables_1, d.before ar Z = true) (ws : List Jvm.Cond) (a0 : Addr) (p1 : Int32) (u : Addr) (ku : ClassId) (h0 : Heap) (n0 : Nat) (O0 : Old Z n0 h0) (HW : Wd Z w_z0 w_z1 w_z2 w_z3 w_z4 w_z5 w_z6 w_z7 w_z8 w_z9 w_z10 w_z11 k_z3 k_z7 k_z9 k_z11) (pf0 : Exa Z h0 a0 "java/lang/String") (pf1 : Fld Z h0 a0 "java/lang/String" "coder" "B" (.int (0 : Int32))) (pf2 : Fld Z h0 a0 "java/lang/String" "value" "[B" (.ref u)) (pf3 : Arv Z h0 u ku .byte (9 : Int32) [(.int (116 : Int32)), (.int (101 : Int32)), (.int (114 : Int32)), (.int (109 : Int32)), (.int (105 : Int32)), (.int (110 : Int32)), (.int (97 : Int32)), (.int (116 : Int32)), (.int (101 : Int32))] (.int (0 : Int32))) (hq0 : ¬ p1 < (0 : Int32)) (hq1 : p1 < (9 : Int32)) :
    MetFree l y6 (head1 (Jvm.Cond.code y6 jdk_42_method_56_code 2 (some .char) :: ws) R6_2) (fun a U => a = #[(.ref a0), (.int p1)] ∧ Z.Warmed39 U.vm ∧ U.heap = h0) (fun _ _ _ _ _ => True) (fun _ U o U' => ∃ v L, o = .returned v ∧ Q6_2 Z a0 p1 u ku h0 n0 v U'.heap L ∧ FrameEnd U o U' L R6_2.cells R6_2.slots) := by
 refine MetFree.of_bodySF (plainFor_of_name pn_0) hisR ?_
 intro p e s m args below meth c s₁ Bd hml0 hP hK
 obtain ⟨rfl, hZ, hh⟩ := hP
 have hx := Bd.exec
 have hby := Bd.bytes
 have hml : c.maxLocals = 2 := hml0
 have hown : s.vm.findClass "java/lang/String" = some m.cls := findClass_of_methodNamed Bd.named
 have hnm := (name_of_methodNamed Bd.named Bd.method).1
 have hlk : meth.locks = false := by first | assumption | exact BodyLoose.notSynchronized (by assumption) | exact Body.notSynchronized (by assumption)
 have X0 : Stand p l e R6_2 s m #[(.ref a0), (.int p1)] below meth c s₁ [] 0 0 := Stand.of_body Bd
 have e0 : s₁.heap = h0 := by rw [← hh, Bd.state]; rfl
 have N0 := Fr.nil n0
 have Z0 : n0 ≤ h0.size := Nat.le_trans (Nat.le_of_eq O0.1.symm) O0.2.1
 obtain ⟨S0, hS0⟩ : ∃ z, z = s₁.setTop (entryFrame m #[(.ref a0), (.int p1)] 2) := ⟨_, rfl⟩
 have pre0 : ∀ tg, AT p e below s₁ m 0 #[rv a0, iv p1] [] tg → Steps p.tables e below S0 tg := fun tg kg => by rw [hS0]; exact castTop (ef_6_2 m a0 p1) kg
 obtain ⟨-, -, -, -, -, -, -, -, -, -, -, -, -, -, -, -, -, -, -, -, -, -, -, -, -, -, -, -⟩ := id HW
 obtain ⟨cq1, kq1, q1a, q1b, q1c⟩ := isOf hZ e0 pf0
 obtain ⟨_, _, ⟨T1, L1, k1, n1⟩, -, X1, ⟨Lc1, hQ1, l1, y1, z1⟩, st1⟩ := X0.virtualBack hx (y := y7) (z := y7) hown (mvT hZ (ow hw 39 rfl)) (mvT hZ (ow hw 40 rfl)) (notFace_of_selects (args := #[]) (mvT hZ (ow hw 42 rfl))) (mvT hZ (ow hw 42 rfl)) (mvT hZ (ow hw 41 rfl)) (by decide) (backOf (W := 0) (rm7 l Z ar hw [] a0 h0 n0 O0 HW pf1) hZ (ow hw 43 rfl) (ow hw 6 rfl) (by decide) (by decide)) q1a q1c (g := (mkF m 1 #[rv a0, iv p1] [(.ref a0)])) rfl (by rw [hml]; rfl) (Steps.refl _) (argsL := []) (rest := []) (lenOf pd_3 rfl) rfl (by show 2 * 0 + _ ≤ _; exact Nat.le_of_eq rfl) (hb hby d6_1) (fun _ _ => ⟨rfl, e0, (by decide : 0 + 0 ≤ _), (by decide : 0 + 0 ≤ _)⟩)
 dsimp only [Pt.U, Pt.locs, Pt.cells, Pt.slots] at X1 l1 y1 z1 st1 hQ1
 subst l1 y1 z1
 obtain ⟨rfl, N1q, e1⟩ := hQ1
 have N1 := Fr.app N0 N1q
 obtain ⟨T2, X2, e2, st2⟩ := getF X1 hx hZ hown (host := "") (Or.inl (ow hw 18 rfl)) Via.refl e1 pf2 (g := (mkF m 8 #[rv a0, iv p1] [(.ref a0)])) rfl rfl (hb hby d6_8)
 obtain ⟨_, _, ⟨T3, L3, k3, n3⟩, -, X3, ⟨Lc3, hQ3, l3, y3, z3⟩, st3⟩ := Jvm.LawKit.callS X2 hx (y := y8) hown (mvT hZ (ow hw 44 rfl)) (mvT hZ (ow hw 45 rfl)) (mvT hZ (ow hw 46 rfl)) (mvT hZ (ow hw 47 rfl)) (by decide) (backOf (W := 0) (rm8_2 l Z ar hw [] u p1 _ h0 n0 O0 HW pf3 hq0 hq1) hZ (ow hw 47 rfl) (ow hw 46 rfl) (by decide) (by decide)) (g := (mkF m 12 #[rv a0, iv p1] [(.int p1), (.ref u)])) rfl (by rw [hml]; rfl) (argsL := [(.ref u), (.int p1)]) (rest := []) (lenOf pd_4 rfl) rfl (by show 2 * 0 + _ ≤ _; exact Nat.le_of_eq rfl) (hb hby d6_12) (fun _ _ => ⟨rfl, e2, (by decide : 0 + 0 ≤ _), (by decide : 0 + 0 ≤ _)⟩)
 dsimp only [Pt.U, Pt.locs, Pt.cells, Pt.slots] at X3 l3 y3 z3 st3 hQ3
 subst l3 y3 z3
 obtain ⟨rfl, N3q, e3⟩ := hQ3
 have N3 := Fr.app N1 N3q
 obtain ⟨fs, hr, hrun, hended, hW, hsame⟩ := X3.leave (v := some (.int (nar .char (wd2 p1)))) (fun h => by rw [Bd.returns] at h; cases h) hlk
 subst hS0
 refine ⟨_, _, pre0 _ ?_, hrun, hended, _, _, rfl, ?_, ⟨_, rfl⟩, hW, hsame.mono (by decide) (by decide)⟩
 ·
  refine XS.aloadN X0.here hx rfl (hb hby d6_0) rfl rfl ?_
  refine st1.trans ?_
  show AT p e below T1 m 4 #[rv a0, iv p1] [(.int (1 : Int32))] _
  refine XS.ifNo X1.here hx rfl (hb hby d6_4) rfl (XT.i0_eq_f ((by decide) : ¬ ((1 : Int32) = (0 : Int32)))) ?_
  refine XS.aloadN X1.here hx rfl (hb hby d6_7) rfl rfl ?_
  refine st2 _ ?_
  refine XS.iloadN X2.here hx rfl (hb hby d6_11) rfl ?_
  refine st3 _ ?_
  exact retN X3 hx (t := .char) Bd.returns (by simp) (hb hby d6_15) hr
 ·
  show Q6_2 Z a0 p1 u ku h0 n0 _ T3.heap _
  rw [e3]
  exact ⟨(by rw [own_nch (own_wr2 (own_c2 hq0 hq1))]), N3, rfl⟩

theorem d1_0 : decode method_3_code 0 = .ok (.iload_n 0, 1) := by decide +kernel
theorem d1_1 : decode method_3_code 1 = .ok (.ifCond .ne 6, 3) := by decide +kernel
theorem d1_4 : decode method_3_code 4 = .ok (.ldc 30, 2) := by decide +kernel
theorem d1_6 : decode method_3_code 6 = .ok (.areturn, 1) := by decide +kernel
theorem ef_1_0 (m : MethodId)  : entryFrame m #[(.int (0 : Int32))] 1 = mkF m 0 #[iv (0 : Int32)] [] := by first | (simp [entryFrame, mkF, argsToLocals, Value.category]; done) | rfl
def Q1_0 (Z : State)  (h0 : Heap) (n0 : Nat) (v : Option Value) (h : Heap) (L : List Loc) : Prop := ∃ (sr : Addr) (sb : Addr) (kb : ClassId), v = some (.ref sr) ∧ Fr n0 L ∧ Keep h0 h [] ∧ Exa Z h sr "java/lang/String" ∧ Fld Z h sr "java/lang/String" "coder" "B" (.int (0 : Int32)) ∧ Fld Z h sr "java/lang/String" "value" "[B" (.ref sb) ∧ Arv Z h sb kb .byte (7 : Int32) [(.int (114 : Int32)), (.int (117 : Int32)), (.int (110 : Int32)), (.int (110 : Int32)), (.int (105 : Int32)), (.int (110 : Int32)), (.int (103 : Int32))] (.int (0 : Int32))
abbrev R1_0 : Room := ({ frames := 0, cells := 2, slots := 32, locals := 0 } : Room)
set_option maxRecDepth 65536 in
set_option maxHeartbeats 40000000 in
theorem rm1_0 (l : Launch) (Z : State) (ar : Array Value) (hw : ∀ d ∈ tables_1, d.before ar Z = true) (ws : List Jvm.Cond)  (h0 : Heap) (n0 : Nat) (O0 : Old Z n0 h0) (hEL : EW Z ar EL0) :
    MetFree l y1 (head1 (Jvm.Cond.code y1 method_3_code 1 (some (.object "java/lang/String")) :: ws) R1_0) (fun a U => a = #[(.int (0 : Int32))] ∧ Z.Warmed39 U.vm ∧ U.heap = h0 ∧ CHv Z EL0 U.vm h0) (fun _ _ _ _ _ => True) (fun _ U o U' => ∃ v L, o = .returned v ∧ Q1_0 Z  h0 n0 v U'.heap L ∧ CHr Z EL0 U.vm U.heap U'.vm U'.heap ∧ ReturnedEndW U o U' L R1_0.cells R1_0.slots) := by
 refine MetFree.of_bodySF (plainFor_of_name pn_3) hisR ?_
 intro p e s m args below meth c s₁ Bd hml0 hP hK
 obtain ⟨rfl, hZ, hh, hCH⟩ := hP
 have hx := Bd.exec
 have hby := Bd.bytes
 have hml : c.maxLocals = 1 := hml0
 have hown : s.vm.findClass "com/example/lease/lease/WorkerStateNamedPinLaw" = some m.cls := findClass_of_methodNamed Bd.named
 have hnm := (name_of_methodNamed Bd.named Bd.method).1
 have hlk : meth.locks = false := by first | assumption | exact BodyLoose.notSynchronized (by assumption) | exact Body.notSynchronized (by assumption)
 have X0 : Stand p l e R1_0 (s.setVm s.vm) m #[(.int (0 : Int32))] below meth c s₁ [] 0 0 := Stand.of_body Bd
 have e0 : s₁.heap = h0 := by rw [← hh, Bd.state]; rfl
 have N0 := Fr.nil n0
 have Z0 : n0 ≤ h0.size := Nat.le_trans (Nat.le_of_eq O0.1.symm) O0.2.1
 obtain ⟨S0, hS0⟩ : ∃ z, z = s₁.setTop (entryFrame m #[(.int (0 : Int32))] 1) := ⟨_, rfl⟩
 have pre0 : ∀ tg, AT p e below s₁ m 0 #[iv (0 : Int32)] [] tg → Steps p.tables e below S0 tg := fun tg kg => by rw [hS0]; exact castTop (ef_1_0 m ) kg
 have hS : s.Since s.vm 0 := (State.WarmedH.refl s).since 0
 have hk : 0 ≤ h0.size := Nat.zero_le _
 have CR0 : CHr Z EL0 s.vm h0 s.vm h0 := CHr.refl hCH
 obtain ⟨al1, T1, h1, q1, b1, kb1, X1, e1, E1, hS, hk, hZ, hown, A1, C1, F1, V1, -, -, CRq1, Li1, Sx1, st1⟩ := ldcCH X0 hx hZ hown (ow hw 5 rfl) (own_sa hw) e0 hS hk hEL (List.mem_of_getElem? (i := 0) rfl) CR0.1 (vs := [(.int (114 : Int32)), (.int (117 : Int32)), (.int (110 : Int32)), (.int (110 : Int32)), (.int (105 : Int32)), (.int (110 : Int32)), (.int (103 : Int32))]) (z := (7 : Int32)) ⟨by decide, by decide⟩ (by decide) rfl (g := (mkF m 4 #[iv (0 : Int32)] [])) rfl (hb hby d1_4) (n := 28) (by decide) (by decide) (by decide) (by decide)
 have K1 := (Keep.refl h0 []).ext E1
 have O1 : Old Z n0 h1 := O0.ext E1
 have CR1 : CHr Z EL0 s.vm h0 T1.vm h1 := CR0.trans CRq1
 obtain ⟨fs, hr, hrun, hended, hRE⟩ := X1.leaveW hS (by rw [e1]; exact hk) (v := some (.ref al1)) (fun h => by rw [Bd.returns] at h; cases h)
 have CRf : CHr Z EL0 s.vm s.heap (T1.setFrames fs).vm (T1.setFrames fs).heap := by
   show CHr Z EL0 s.vm s.heap T1.vm T1.heap
   rw [hh, e1]
   exact CR1.trans (CHv.at X1 hZ hEL CR1.1)
 subst hS0
 refine ⟨_, _, pre0 _ ?_, hrun, hended, _, _, rfl, ?_, CRf, hRE.1, hRE.2.1, hRE.2.2.1, hRE.2.2.2.mono (by decide) (by decide)⟩
 ·
  refine XS.iloadN X0.here hx rfl (hb hby d1_0) rfl ?_
  show AT p e below s₁ m 1 #[iv (0 : Int32)] [(.int (0 : Int32))] _
  refine XS.ifNo X0.here hx rfl (hb hby d1_1) rfl (XT.i0_ne_f ((by decide) : (0 : Int32) = (0 : Int32))) ?_
  refine st1 _ ?_
  exact retOut X1 hx (t := (.object "java/lang/String")) (i := .areturn) Bd.returns rfl (Or.inr (Or.inr (Or.inr (Or.inr ⟨rfl, rfl, rfl⟩)))) (hb hby d1_6) hr
 ·
  show Q1_0 Z  h0 n0 _ T1.heap _
  rw [e1]
  exact ⟨al1, b1, kb1, rfl, N0, K1, A1, C1, F1, V1⟩

theorem d1_7 : decode method_3_code 7 = .ok (.iload_n 0, 1) := by decide +kernel
theorem d1_8 : decode method_3_code 8 = .ok (.iconst 1, 1) := by decide +kernel
theorem d1_9 : decode method_3_code 9 = .ok (.if_icmp .ne 6, 3) := by decide +kernel
theorem d1_12 : decode method_3_code 12 = .ok (.ldc 42, 2) := by decide +kernel
theorem d1_14 : decode method_3_code 14 = .ok (.areturn, 1) := by decide +kernel
theorem ef_1_1 (m : MethodId)  : entryFrame m #[(.int (1 : Int32))] 1 = mkF m 0 #[iv (1 : Int32)] [] := by first | (simp [entryFrame, mkF, argsToLocals, Value.category]; done) | rfl
def Q1_1 (Z : State)  (h0 : Heap) (n0 : Nat) (v : Option Value) (h : Heap) (L : List Loc) : Prop := ∃ (sr : Addr) (sb : Addr) (kb : ClassId), v = some (.ref sr) ∧ Fr n0 L ∧ Keep h0 h [] ∧ Exa Z h sr "java/lang/String" ∧ Fld Z h sr "java/lang/String" "coder" "B" (.int (0 : Int32)) ∧ Fld Z h sr "java/lang/String" "value" "[B" (.ref sb) ∧ Arv Z h sb kb .byte (5 : Int32) [(.int (113 : Int32)), (.int (117 : Int32)), (.int (105 : Int32)), (.int (101 : Int32)), (.int (116 : Int32))] (.int (0 : Int32))
abbrev R1_1 : Room := ({ frames := 0, cells := 2, slots := 24, locals := 0 } : Room)
set_option maxRecDepth 65536 in
set_option maxHeartbeats 40000000 in
theorem rm1_1 (l : Launch) (Z : State) (ar : Array Value) (hw : ∀ d ∈ tables_1, d.before ar Z = true) (ws : List Jvm.Cond)  (h0 : Heap) (n0 : Nat) (O0 : Old Z n0 h0) (hEL : EW Z ar EL0) :
    MetFree l y1 (head1 (Jvm.Cond.code y1 method_3_code 1 (some (.object "java/lang/String")) :: ws) R1_1) (fun a U => a = #[(.int (1 : Int32))] ∧ Z.Warmed39 U.vm ∧ U.heap = h0 ∧ CHv Z EL0 U.vm h0) (fun _ _ _ _ _ => True) (fun _ U o U' => ∃ v L, o = .returned v ∧ Q1_1 Z  h0 n0 v U'.heap L ∧ CHr Z EL0 U.vm U.heap U'.vm U'.heap ∧ ReturnedEndW U o U' L R1_1.cells R1_1.slots) := by
 refine MetFree.of_bodySF (plainFor_of_name pn_3) hisR ?_
 intro p e s m args below meth c s₁ Bd hml0 hP hK
 obtain ⟨rfl, hZ, hh, hCH⟩ := hP
 have hx := Bd.exec
 have hby := Bd.bytes
 have hml : c.maxLocals = 1 := hml0
 have hown : s.vm.findClass "com/example/lease/lease/WorkerStateNamedPinLaw" = some m.cls := findClass_of_methodNamed Bd.named
 have hnm := (name_of_methodNamed Bd.named Bd.method).1
 have hlk : meth.locks = false := by first | assumption | exact BodyLoose.notSynchronized (by assumption) | exact Body.notSynchronized (by assumption)
 have X0 : Stand p l e R1_1 (s.setVm s.vm) m #[(.int (1 : Int32))] below meth c s₁ [] 0 0 := Stand.of_body Bd
 have e0 : s₁.heap = h0 := by rw [← hh, Bd.state]; rfl
 have N0 := Fr.nil n0
 have Z0 : n0 ≤ h0.size := Nat.le_trans (Nat.le_of_eq O0.1.symm) O0.2.1
 obtain ⟨S0, hS0⟩ : ∃ z, z = s₁.setTop (entryFrame m #[(.int (1 : Int32))] 1) := ⟨_, rfl⟩
 have pre0 : ∀ tg, AT p e below s₁ m 0 #[iv (1 : Int32)] [] tg → Steps p.tables e below S0 tg := fun tg kg => by rw [hS0]; exact castTop (ef_1_1 m ) kg
 have hS : s.Since s.vm 0 := (State.WarmedH.refl s).since 0
 have hk : 0 ≤ h0.size := Nat.zero_le _
 have CR0 : CHr Z EL0 s.vm h0 s.vm h0 := CHr.refl hCH
 obtain ⟨al1, T1, h1, q1, b1, kb1, X1, e1, E1, hS, hk, hZ, hown, A1, C1, F1, V1, -, -, CRq1, Li1, Sx1, st1⟩ := ldcCH X0 hx hZ hown (ow hw 117 rfl) (own_sa hw) e0 hS hk hEL (List.mem_of_getElem? (i := 1) rfl) CR0.1 (vs := [(.int (113 : Int32)), (.int (117 : Int32)), (.int (105 : Int32)), (.int (101 : Int32)), (.int (116 : Int32))]) (z := (5 : Int32)) ⟨by decide, by decide⟩ (by decide) rfl (g := (mkF m 12 #[iv (1 : Int32)] [])) rfl (hb hby d1_12) (n := 20) (by decide) (by decide) (by decide) (by decide)
 have K1 := (Keep.refl h0 []).ext E1
 have O1 : Old Z n0 h1 := O0.ext E1
 have CR1 : CHr Z EL0 s.vm h0 T1.vm h1 := CR0.trans CRq1
 obtain ⟨fs, hr, hrun, hended, hRE⟩ := X1.leaveW hS (by rw [e1]; exact hk) (v := some (.ref al1)) (fun h => by rw [Bd.returns] at h; cases h)
 have CRf : CHr Z EL0 s.vm s.heap (T1.setFrames fs).vm (T1.setFrames fs).heap := by
   show CHr Z EL0 s.vm s.heap T1.vm T1.heap
   rw [hh, e1]
   exact CR1.trans (CHv.at X1 hZ hEL CR1.1)
 subst hS0
 refine ⟨_, _, pre0 _ ?_, hrun, hended, _, _, rfl, ?_, CRf, hRE.1, hRE.2.1, hRE.2.2.1, hRE.2.2.2.mono (by decide) (by decide)⟩
 ·
  refine XS.iloadN X0.here hx rfl (hb hby d1_0) rfl ?_
  show AT p e below s₁ m 1 #[iv (1 : Int32)] [(.int (1 : Int32))] _
  refine XS.ifYes X0.here hx rfl (pc0 := 1) (pc' := 7) rfl (hb hby d1_1) rfl (XT.i0_ne_t ((by decide) : ¬ ((1 : Int32) = (0 : Int32)))) (by decide) (by decide) ?_
  refine XS.iloadN X0.here hx rfl (hb hby d1_7) rfl ?_
  refine XS.iconst X0.here hx rfl (hb hby d1_8) ?_
  show AT p e below s₁ m 9 #[iv (1 : Int32)] [(.int (1 : Int32)), (.int (1 : Int32))] _
  refine XS.icmpNo X0.here hx rfl (hb hby d1_9) rfl (XT.ii_ne_f ((by decide) : (1 : Int32) = (1 : Int32))) ?_
  refine st1 _ ?_
  exact retOut X1 hx (t := (.object "java/lang/String")) (i := .areturn) Bd.returns rfl (Or.inr (Or.inr (Or.inr (Or.inr ⟨rfl, rfl, rfl⟩)))) (hb hby d1_14) hr
 ·
  show Q1_1 Z  h0 n0 _ T1.heap _
  rw [e1]
  exact ⟨al1, b1, kb1, rfl, N0, K1, A1, C1, F1, V1⟩

theorem d1_15 : decode method_3_code 15 = .ok (.iload_n 0, 1) := by decide +kernel
theorem d1_16 : decode method_3_code 16 = .ok (.iconst 2, 1) := by decide +kernel
theorem d1_17 : decode method_3_code 17 = .ok (.if_icmp .ne 6, 3) := by decide +kernel
theorem d1_20 : decode method_3_code 20 = .ok (.ldc 47, 2) := by decide +kernel
theorem d1_22 : decode method_3_code 22 = .ok (.areturn, 1) := by decide +kernel
theorem ef_1_2 (m : MethodId)  : entryFrame m #[(.int (2 : Int32))] 1 = mkF m 0 #[iv (2 : Int32)] [] := by first | (simp [entryFrame, mkF, argsToLocals, Value.category]; done) | rfl
def Q1_2 (Z : State)  (h0 : Heap) (n0 : Nat) (v : Option Value) (h : Heap) (L : List Loc) : Prop := ∃ (sr : Addr) (sb : Addr) (kb : ClassId), v = some (.ref sr) ∧ Fr n0 L ∧ Keep h0 h [] ∧ Exa Z h sr "java/lang/String" ∧ Fld Z h sr "java/lang/String" "coder" "B" (.int (0 : Int32)) ∧ Fld Z h sr "java/lang/String" "value" "[B" (.ref sb) ∧ Arv Z h sb kb .byte (9 : Int32) [(.int (116 : Int32)), (.int (101 : Int32)), (.int (114 : Int32)), (.int (109 : Int32)), (.int (105 : Int32)), (.int (110 : Int32)), (.int (97 : Int32)), (.int (116 : Int32)), (.int (101 : Int32))] (.int (0 : Int32))
abbrev R1_2 : Room := ({ frames := 0, cells := 2, slots := 40, locals := 0 } : Room)
set_option maxRecDepth 65536 in
set_option maxHeartbeats 40000000 in
theorem rm1_2 (l : Launch) (Z : State) (ar : Array Value) (hw : ∀ d ∈ tables_1, d.before ar Z = true) (ws : List Jvm.Cond)  (h0 : Heap) (n0 : Nat) (O0 : Old Z n0 h0) (hEL : EW Z ar EL0) :
    MetFree l y1 (head1 (Jvm.Cond.code y1 method_3_code 1 (some (.object "java/lang/String")) :: ws) R1_2) (fun a U => a = #[(.int (2 : Int32))] ∧ Z.Warmed39 U.vm ∧ U.heap = h0 ∧ CHv Z EL0 U.vm h0) (fun _ _ _ _ _ => True) (fun _ U o U' => ∃ v L, o = .returned v ∧ Q1_2 Z  h0 n0 v U'.heap L ∧ CHr Z EL0 U.vm U.heap U'.vm U'.heap ∧ ReturnedEndW U o U' L R1_2.cells R1_2.slots) := by
 refine MetFree.of_bodySF (plainFor_of_name pn_3) hisR ?_
 intro p e s m args below meth c s₁ Bd hml0 hP hK
 obtain ⟨rfl, hZ, hh, hCH⟩ := hP
 have hx := Bd.exec
 have hby := Bd.bytes
 have hml : c.maxLocals = 1 := hml0
 have hown : s.vm.findClass "com/example/lease/lease/WorkerStateNamedPinLaw" = some m.cls := findClass_of_methodNamed Bd.named
 have hnm := (name_of_methodNamed Bd.named Bd.method).1
 have hlk : meth.locks = false := by first | assumption | exact BodyLoose.notSynchronized (by assumption) | exact Body.notSynchronized (by assumption)
 have X0 : Stand p l e R1_2 (s.setVm s.vm) m #[(.int (2 : Int32))] below meth c s₁ [] 0 0 := Stand.of_body Bd
 have e0 : s₁.heap = h0 := by rw [← hh, Bd.state]; rfl
 have N0 := Fr.nil n0
 have Z0 : n0 ≤ h0.size := Nat.le_trans (Nat.le_of_eq O0.1.symm) O0.2.1
 obtain ⟨S0, hS0⟩ : ∃ z, z = s₁.setTop (entryFrame m #[(.int (2 : Int32))] 1) := ⟨_, rfl⟩
 have pre0 : ∀ tg, AT p e below s₁ m 0 #[iv (2 : Int32)] [] tg → Steps p.tables e below S0 tg := fun tg kg => by rw [hS0]; exact castTop (ef_1_2 m ) kg
 have hS : s.Since s.vm 0 := (State.WarmedH.refl s).since 0
 have hk : 0 ≤ h0.size := Nat.zero_le _
 have CR0 : CHr Z EL0 s.vm h0 s.vm h0 := CHr.refl hCH
 obtain ⟨al1, T1, h1, q1, b1, kb1, X1, e1, E1, hS, hk, hZ, hown, A1, C1, F1, V1, -, -, CRq1, Li1, Sx1, st1⟩ := ldcCH X0 hx hZ hown (ow hw 112 rfl) (own_sa hw) e0 hS hk hEL (List.mem_of_getElem? (i := 2) rfl) CR0.1 (vs := [(.int (116 : Int32)), (.int (101 : Int32)), (.int (114 : Int32)), (.int (109 : Int32)), (.int (105 : Int32)), (.int (110 : Int32)), (.int (97 : Int32)), (.int (116 : Int32)), (.int (101 : Int32))]) (z := (9 : Int32)) ⟨by decide, by decide⟩ (by decide) rfl (g := (mkF m 20 #[iv (2 : Int32)] [])) rfl (hb hby d1_20) (n := 36) (by decide) (by decide) (by decide) (by decide)
 have K1 := (Keep.refl h0 []).ext E1
 have O1 : Old Z n0 h1 := O0.ext E1
 have CR1 : CHr Z EL0 s.vm h0 T1.vm h1 := CR0.trans CRq1
 obtain ⟨fs, hr, hrun, hended, hRE⟩ := X1.leaveW hS (by rw [e1]; exact hk) (v := some (.ref al1)) (fun h => by rw [Bd.returns] at h; cases h)
 have CRf : CHr Z EL0 s.vm s.heap (T1.setFrames fs).vm (T1.setFrames fs).heap := by
   show CHr Z EL0 s.vm s.heap T1.vm T1.heap
   rw [hh, e1]
   exact CR1.trans (CHv.at X1 hZ hEL CR1.1)
 subst hS0
 refine ⟨_, _, pre0 _ ?_, hrun, hended, _, _, rfl, ?_, CRf, hRE.1, hRE.2.1, hRE.2.2.1, hRE.2.2.2.mono (by decide) (by decide)⟩
 ·
  refine XS.iloadN X0.here hx rfl (hb hby d1_0) rfl ?_
  show AT p e below s₁ m 1 #[iv (2 : Int32)] [(.int (2 : Int32))] _
  refine XS.ifYes X0.here hx rfl (pc0 := 1) (pc' := 7) rfl (hb hby d1_1) rfl (XT.i0_ne_t ((by decide) : ¬ ((2 : Int32) = (0 : Int32)))) (by decide) (by decide) ?_
  refine XS.iloadN X0.here hx rfl (hb hby d1_7) rfl ?_
  refine XS.iconst X0.here hx rfl (hb hby d1_8) ?_
  show AT p e below s₁ m 9 #[iv (2 : Int32)] [(.int (1 : Int32)), (.int (2 : Int32))] _
  refine XS.icmpYes X0.here hx rfl (pc0 := 9) (pc' := 15) rfl (hb hby d1_9) rfl (XT.ii_ne_t ((by decide) : ¬ ((2 : Int32) = (1 : Int32)))) (by decide) (by decide) ?_
  refine XS.iloadN X0.here hx rfl (hb hby d1_15) rfl ?_
  refine XS.iconst X0.here hx rfl (hb hby d1_16) ?_
  show AT p e below s₁ m 17 #[iv (2 : Int32)] [(.int (2 : Int32)), (.int (2 : Int32))] _
  refine XS.icmpNo X0.here hx rfl (hb hby d1_17) rfl (XT.ii_ne_f ((by decide) : (2 : Int32) = (2 : Int32))) ?_
  refine st1 _ ?_
  exact retOut X1 hx (t := (.object "java/lang/String")) (i := .areturn) Bd.returns rfl (Or.inr (Or.inr (Or.inr (Or.inr ⟨rfl, rfl, rfl⟩)))) (hb hby d1_22) hr
 ·
  show Q1_2 Z  h0 n0 _ T1.heap _
  rw [e1]
  exact ⟨al1, b1, kb1, rfl, N0, K1, A1, C1, F1, V1⟩

theorem d1_23 : decode method_3_code 23 = .ok (.ldc 56, 2) := by decide +kernel
theorem d1_25 : decode method_3_code 25 = .ok (.areturn, 1) := by decide +kernel
theorem ef_1_3 (m : MethodId)  : entryFrame m #[(.int (3 : Int32))] 1 = mkF m 0 #[iv (3 : Int32)] [] := by first | (simp [entryFrame, mkF, argsToLocals, Value.category]; done) | rfl
def Q1_3 (Z : State)  (h0 : Heap) (n0 : Nat) (v : Option Value) (h : Heap) (L : List Loc) : Prop := ∃ (sr : Addr) (sb : Addr) (kb : ClassId), v = some (.ref sr) ∧ Fr n0 L ∧ Keep h0 h [] ∧ Exa Z h sr "java/lang/String" ∧ Fld Z h sr "java/lang/String" "coder" "B" (.int (0 : Int32)) ∧ Fld Z h sr "java/lang/String" "value" "[B" (.ref sb) ∧ Arv Z h sb kb .byte (0 : Int32) [] (.int (0 : Int32))
abbrev R1_3 : Room := ({ frames := 0, cells := 2, slots := 4, locals := 0 } : Room)
set_option maxRecDepth 65536 in
set_option maxHeartbeats 40000000 in
theorem rm1_3 (l : Launch) (Z : State) (ar : Array Value) (hw : ∀ d ∈ tables_1, d.before ar Z = true) (ws : List Jvm.Cond)  (h0 : Heap) (n0 : Nat) (O0 : Old Z n0 h0) (hEL : EW Z ar EL0) :
    MetFree l y1 (head1 (Jvm.Cond.code y1 method_3_code 1 (some (.object "java/lang/String")) :: ws) R1_3) (fun a U => a = #[(.int (3 : Int32))] ∧ Z.Warmed39 U.vm ∧ U.heap = h0 ∧ CHv Z EL0 U.vm h0) (fun _ _ _ _ _ => True) (fun _ U o U' => ∃ v L, o = .returned v ∧ Q1_3 Z  h0 n0 v U'.heap L ∧ CHr Z EL0 U.vm U.heap U'.vm U'.heap ∧ ReturnedEndW U o U' L R1_3.cells R1_3.slots) := by
 refine MetFree.of_bodySF (plainFor_of_name pn_3) hisR ?_
 intro p e s m args below meth c s₁ Bd hml0 hP hK
 obtain ⟨rfl, hZ, hh, hCH⟩ := hP
 have hx := Bd.exec
 have hby := Bd.bytes
 have hml : c.maxLocals = 1 := hml0
 have hown : s.vm.findClass "com/example/lease/lease/WorkerStateNamedPinLaw" = some m.cls := findClass_of_methodNamed Bd.named
 have hnm := (name_of_methodNamed Bd.named Bd.method).1
 have hlk : meth.locks = false := by first | assumption | exact BodyLoose.notSynchronized (by assumption) | exact Body.notSynchronized (by assumption)
 have X0 : Stand p l e R1_3 (s.setVm s.vm) m #[(.int (3 : Int32))] below meth c s₁ [] 0 0 := Stand.of_body Bd
 have e0 : s₁.heap = h0 := by rw [← hh, Bd.state]; rfl
 have N0 := Fr.nil n0
 have Z0 : n0 ≤ h0.size := Nat.le_trans (Nat.le_of_eq O0.1.symm) O0.2.1
 obtain ⟨S0, hS0⟩ : ∃ z, z = s₁.setTop (entryFrame m #[(.int (3 : Int32))] 1) := ⟨_, rfl⟩
 have pre0 : ∀ tg, AT p e below s₁ m 0 #[iv (3 : Int32)] [] tg → Steps p.tables e below S0 tg := fun tg kg => by rw [hS0]; exact castTop (ef_1_3 m ) kg
 have hS : s.Since s.vm 0 := (State.WarmedH.refl s).since 0
 have hk : 0 ≤ h0.size := Nat.zero_le _
 have CR0 : CHr Z EL0 s.vm h0 s.vm h0 := CHr.refl hCH
 obtain ⟨al1, T1, h1, q1, b1, kb1, X1, e1, E1, hS, hk, hZ, hown, A1, C1, F1, V1, -, -, CRq1, Li1, Sx1, st1⟩ := ldcCH X0 hx hZ hown (ow hw 111 rfl) (own_sa hw) e0 hS hk hEL (List.mem_of_getElem? (i := 3) rfl) CR0.1 (vs := []) (z := (0 : Int32)) ⟨by decide, by decide⟩ (by decide) rfl (g := (mkF m 23 #[iv (3 : Int32)] [])) rfl (hb hby d1_23) (n := 0) (by decide) (by decide) (by decide) (by decide)
 have K1 := (Keep.refl h0 []).ext E1
 have O1 : Old Z n0 h1 := O0.ext E1
 have CR1 : CHr Z EL0 s.vm h0 T1.vm h1 := CR0.trans CRq1
 obtain ⟨fs, hr, hrun, hended, hRE⟩ := X1.leaveW hS (by rw [e1]; exact hk) (v := some (.ref al1)) (fun h => by rw [Bd.returns] at h; cases h)
 have CRf : CHr Z EL0 s.vm s.heap (T1.setFrames fs).vm (T1.setFrames fs).heap := by
   show CHr Z EL0 s.vm s.heap T1.vm T1.heap
   rw [hh, e1]
   exact CR1.trans (CHv.at X1 hZ hEL CR1.1)
 subst hS0
 refine ⟨_, _, pre0 _ ?_, hrun, hended, _, _, rfl, ?_, CRf, hRE.1, hRE.2.1, hRE.2.2.1, hRE.2.2.2.mono (by decide) (by decide)⟩
 ·
  refine XS.iloadN X0.here hx rfl (hb hby d1_0) rfl ?_
  show AT p e below s₁ m 1 #[iv (3 : Int32)] [(.int (3 : Int32))] _
  refine XS.ifYes X0.here hx rfl (pc0 := 1) (pc' := 7) rfl (hb hby d1_1) rfl (XT.i0_ne_t ((by decide) : ¬ ((3 : Int32) = (0 : Int32)))) (by decide) (by decide) ?_
  refine XS.iloadN X0.here hx rfl (hb hby d1_7) rfl ?_
  refine XS.iconst X0.here hx rfl (hb hby d1_8) ?_
  show AT p e below s₁ m 9 #[iv (3 : Int32)] [(.int (1 : Int32)), (.int (3 : Int32))] _
  refine XS.icmpYes X0.here hx rfl (pc0 := 9) (pc' := 15) rfl (hb hby d1_9) rfl (XT.ii_ne_t ((by decide) : ¬ ((3 : Int32) = (1 : Int32)))) (by decide) (by decide) ?_
  refine XS.iloadN X0.here hx rfl (hb hby d1_15) rfl ?_
  refine XS.iconst X0.here hx rfl (hb hby d1_16) ?_
  show AT p e below s₁ m 17 #[iv (3 : Int32)] [(.int (2 : Int32)), (.int (3 : Int32))] _
  refine XS.icmpYes X0.here hx rfl (pc0 := 17) (pc' := 23) rfl (hb hby d1_17) rfl (XT.ii_ne_t ((by decide) : ¬ ((3 : Int32) = (2 : Int32)))) (by decide) (by decide) ?_
  refine st1 _ ?_
  exact retOut X1 hx (t := (.object "java/lang/String")) (i := .areturn) Bd.returns rfl (Or.inr (Or.inr (Or.inr (Or.inr ⟨rfl, rfl, rfl⟩)))) (hb hby d1_25) hr
 ·
  show Q1_3 Z  h0 n0 _ T1.heap _
  rw [e1]
  exact ⟨al1, b1, kb1, rfl, N0, K1, A1, C1, F1, V1⟩


theorem own_ncr {x : Int32} (h : 0 ≤ x.toInt ∧ x.toInt ≤ 255) : 0 ≤ (nar .char x).toInt ∧ (nar .char x).toInt ≤ 255 := by rw [own_nch h]; exact h
theorem own_eqB {Z : State} {h : Heap} {a b u w : Addr} {C f d : String} {k k' : ClassId} {ty : FieldType} {z z' : Int32} {vs vs' : List Value} {dv dv' : Value} (Fa : Fld Z h a C f d (.ref u)) (Va : Arv Z h u k ty z vs dv) (Fb : Fld Z h b C f d (.ref w)) (Vb : Arv Z h w k' ty z' vs' dv') (q : a = b) (i : Nat) (hi : i < z.toNatClampNeg) : vs.getD i dv = vs'.getD i dv' :=
  Classical.byContradiction fun n => own_neS Fa Va Fb Vb (Or.inr ⟨i, hi, n⟩) q

theorem d5_0 : decode method_4_code 0 = .ok (.iload_n 1, 1) := by decide +kernel
theorem d5_1 : decode method_4_code 1 = .ok (.iload_n 2, 1) := by decide +kernel
theorem d5_2 : decode method_4_code 2 = .ok (.if_icmp .ne 5, 3) := by decide +kernel
theorem d5_5 : decode method_4_code 5 = .ok (.iload_n 3, 1) := by decide +kernel
theorem d5_6 : decode method_4_code 6 = .ok (.ireturn, 1) := by decide +kernel
theorem d5_7 : decode method_4_code 7 = .ok (.iload_n 0, 1) := by decide +kernel
theorem d5_8 : decode method_4_code 8 = .ok (.invokestatic 8, 3) := by decide +kernel
theorem d5_11 : decode method_4_code 11 = .ok (.astore 4, 2) := by decide +kernel
theorem d5_13 : decode method_4_code 13 = .ok (.iload_n 1, 1) := by decide +kernel
theorem d5_14 : decode method_4_code 14 = .ok (.aload 4, 2) := by decide +kernel
theorem d5_16 : decode method_4_code 16 = .ok (.invokevirtual 14, 3) := by decide +kernel
theorem d5_19 : decode method_4_code 19 = .ok (.if_icmp .ge 10, 3) := by decide +kernel
theorem d5_22 : decode method_4_code 22 = .ok (.aload 4, 2) := by decide +kernel
theorem d5_24 : decode method_4_code 24 = .ok (.iload_n 1, 1) := by decide +kernel
theorem d5_25 : decode method_4_code 25 = .ok (.invokevirtual 58, 3) := by decide +kernel
theorem d5_28 : decode method_4_code 28 = .ok (.ireturn, 1) := by decide +kernel
theorem d5_29 : decode method_4_code 29 = .ok (.iload_n 3, 1) := by decide +kernel
theorem d5_30 : decode method_4_code 30 = .ok (.ireturn, 1) := by decide +kernel
theorem ef_5 (m : MethodId) (p0 : Int32) (p1 : Int32) (p2 : Int32) (p3 : Int32) : entryFrame m #[(.int p0), (.int p1), (.int p2), (.int p3)] 5 = mkF m 0 #[iv p0, iv p1, iv p2, iv p3, un] [] := by first | (simp [entryFrame, mkF, argsToLocals, Value.category]; done) | rfl
def Q5 (Z : State) (p0 : Int32) (p1 : Int32) (p2 : Int32) (p3 : Int32) (h0 : Heap) (n0 : Nat) (v : Option Value) (h : Heap) (L : List Loc) : Prop := ∃ (r : Int32), v = some (.int r) ∧ Fr n0 L ∧ Keep h0 h [] ∧ (0 ≤ r.toInt ∧ r.toInt ≤ 255)
abbrev R5 : Room := ({ frames := 4, cells := 2, slots := 40, locals := 53 } : Room)
set_option maxRecDepth 65536 in
set_option maxHeartbeats 40000000 in
theorem rm5 (l : Launch) (Z : State) (ar : Array Value) (hw : ∀ d ∈ tables_1, d.before ar Z = true) (ws : List Jvm.Cond) (p0 : Int32) (p1 : Int32) (p2 : Int32) (p3 : Int32) (h0 : Heap) (n0 : Nat) (O0 : Old Z n0 h0) (hEL : EW Z ar EL0) (HW : Wd Z w_z0 w_z1 w_z2 w_z3 w_z4 w_z5 w_z6 w_z7 w_z8 w_z9 w_z10 w_z11 k_z3 k_z7 k_z9 k_z11) (hq0 : ¬ p1 < (0 : Int32)) (hc : 0 ≤ p3.toInt ∧ p3.toInt ≤ 255) (hk4 : p0 = (0 : Int32) ∨ p0 = (1 : Int32) ∨ p0 = (2 : Int32) ∨ p0 = (3 : Int32)) :
    MetFree l y5 (head1 (Jvm.Cond.code y5 method_4_code 5 (some .char) :: ws) R5) (fun a U => a = #[(.int p0), (.int p1), (.int p2), (.int p3)] ∧ Z.Warmed39 U.vm ∧ U.heap = h0 ∧ CHv Z EL0 U.vm h0) (fun _ _ _ _ _ => True) (fun _ U o U' => ∃ v L, o = .returned v ∧ Q5 Z p0 p1 p2 p3 h0 n0 v U'.heap L ∧ CHr Z EL0 U.vm U.heap U'.vm U'.heap ∧ ReturnedEndW U o U' L R5.cells R5.slots) := by
 refine MetFree.of_bodySF (plainFor_of_name pn_3) hisR ?_
 intro p e s m args below meth c s₁ Bd hml0 hP hK
 obtain ⟨rfl, hZ, hh, hCH⟩ := hP
 have hx := Bd.exec
 have hby := Bd.bytes
 have hml : c.maxLocals = 5 := hml0
 have hown : s.vm.findClass "com/example/lease/lease/WorkerStateNamedPinLaw" = some m.cls := findClass_of_methodNamed Bd.named
 have hnm := (name_of_methodNamed Bd.named Bd.method).1
 have hlk : meth.locks = false := by first | assumption | exact BodyLoose.notSynchronized (by assumption) | exact Body.notSynchronized (by assumption)
 have X0 : Stand p l e R5 (s.setVm s.vm) m #[(.int p0), (.int p1), (.int p2), (.int p3)] below meth c s₁ [] 0 0 := Stand.of_body Bd
 have e0 : s₁.heap = h0 := by rw [← hh, Bd.state]; rfl
 have N0 := Fr.nil n0
 have Z0 : n0 ≤ h0.size := Nat.le_trans (Nat.le_of_eq O0.1.symm) O0.2.1
 obtain ⟨S0, hS0⟩ : ∃ z, z = s₁.setTop (entryFrame m #[(.int p0), (.int p1), (.int p2), (.int p3)] 5) := ⟨_, rfl⟩
 have pre0 : ∀ tg, AT p e below s₁ m 0 #[iv p0, iv p1, iv p2, iv p3, un] [] tg → Steps p.tables e below S0 tg := fun tg kg => by rw [hS0]; exact castTop (ef_5 m p0 p1 p2 p3) kg
 have hS : s.Since s.vm 0 := (State.WarmedH.refl s).since 0
 have hk : 0 ≤ h0.size := Nat.zero_le _
 have CR0 : CHr Z EL0 s.vm h0 s.vm h0 := CHr.refl hCH
 obtain ⟨-, -, -, -, -, -, -, -, -, -, -, -, -, -, -, -, -, -, -, -, -, -, -, -, -, -, -, -⟩ := id HW
 rcases hk4 with hk4 | hk4 | hk4 | hk4
 ·
  have hw1 : p0 = (0 : Int32) := hk4
  have pre1 : ∀ tg, AT p e below s₁ m 0 #[iv (0 : Int32), iv p1, iv p2, iv p3, un] [] tg → Steps p.tables e below S0 tg := by
    have q := pre0
    rw [hw1] at q
    exact q
  have pre2 : ∀ tg, AT p e below s₁ m 2 #[iv (0 : Int32), iv p1, iv p2, iv p3, un] [(.int p2), (.int p1)] tg → Steps p.tables e below S0 tg := fun tg kg => pre1 tg (by
   refine XS.iloadN X0.here hx rfl (hb hby d5_0) rfl ?_
   refine XS.iloadN X0.here hx rfl (hb hby d5_1) rfl ?_
   exact kg)
  rcases Decidable.em (p1 = p2) with hc3 | hc3
  ·
   obtain ⟨fs, hr, hrun, hended, hRE⟩ := X0.leaveW hS (by rw [e0]; exact hk) (v := some (.int (nar .char p3))) (fun h => by rw [Bd.returns] at h; cases h)
   have CRf : CHr Z EL0 s.vm s.heap (s₁.setFrames fs).vm (s₁.setFrames fs).heap := by
     show CHr Z EL0 s.vm s.heap s₁.vm s₁.heap
     rw [hh, e0]
     exact CR0.trans (CHv.at X0 hZ hEL CR0.1)
   subst hS0
   refine ⟨_, _, pre2 _ ?_, hrun, hended, _, _, rfl, ?_, CRf, hRE.1, hRE.2.1, hRE.2.2.1, hRE.2.2.2.mono (by decide) (by decide)⟩
   ·
    refine XS.icmpNo X0.here hx rfl (hb hby d5_2) rfl (XT.ii_ne_f hc3) ?_
    refine XS.iloadN X0.here hx rfl (hb hby d5_5) rfl ?_
    exact retN X0 hx (t := .char) Bd.returns (by simp) (hb hby d5_6) hr
   ·
    show Q5 Z p0 p1 p2 p3 h0 n0 _ s₁.heap _
    rw [e0]
    exact ⟨(nar .char p3), rfl, N0, (Keep.refl h0 []), (own_ncr hc)⟩
  ·
   obtain ⟨_, _, ⟨T4, L4, k4, n4⟩, -, X4, hS4, hg4, ⟨Lc4, hQ4, l4, y4, z4, CRq4⟩, st4⟩ := callSS X0 hx (y := y1) hown (mvT hZ (ow hw 1 rfl)) (mvT hZ (ow hw 2 rfl)) (mvT hZ (ow hw 3 rfl)) (mvT hZ (ow hw 4 rfl)) (by decide) (backOfSH (W := 0) (rm1_0 l Z ar hw []  h0 n0 O0 hEL) hZ (ow hw 4 rfl) (ow hw 3 rfl) (by decide) (by decide) hEL CR0.1) (g := (mkF m 8 #[iv (0 : Int32), iv p1, iv p2, iv p3, un] [(.int (0 : Int32))])) rfl (by rw [hml]; rfl) (argsL := [(.int (0 : Int32))]) (rest := []) (lenOf pd_5 rfl) rfl (by show 2 * 0 + _ ≤ _; exact Nat.le_of_eq rfl) (hb hby d5_8) (fun _ _ => ⟨rfl, e0, (by decide : 0 + 2 ≤ _), (by decide : 0 + 32 ≤ _)⟩)
   dsimp only [Pt.U, Pt.locs, Pt.cells, Pt.slots] at X4 l4 y4 z4 st4 hQ4 hS4 hg4 CRq4
   subst l4 y4 z4
   obtain ⟨X4, hS, hZ, hown⟩ := rebS hS (by rw [e0]; exact hk) X4 hS4 hg4 hZ hown
   have CR4 : CHr Z EL0 s.vm h0 T4.vm T4.heap := CR0.trans CRq4
   obtain ⟨sr_4, sb_4, kb_4, rfl, N4q, Kq4, u4_0, u4_1, u4_2, u4_3⟩ := hQ4
   have N4 := Fr.app N0 N4q
   have K4 := (Keep.refl h0 []).trans Kq4 all0
   have O4 := O0.keep Kq4 all0
   have hk := Nat.le_trans hk Kq4.1
   have hk := Nat.le_refl (Array.size T4.heap)
   obtain ⟨cq5, kq5, q5a, q5b, q5c⟩ := isOf hZ rfl u4_0
   obtain ⟨_, _, ⟨T5, L5, k5, n5⟩, -, X5, ⟨Lc5, hQ5, l5, y5, z5⟩, st5⟩ := X4.virtualBack hx (y := y2) (z := y2) hown (mvT hZ (ow hw 13 rfl)) (mvT hZ (ow hw 14 rfl)) (notFace_of_selects (args := #[]) (mvT hZ (ow hw 16 rfl))) (mvT hZ (ow hw 16 rfl)) (mvT hZ (ow hw 15 rfl)) (by decide) (backOf (W := 1) (rm2_7 l Z ar hw [] sr_4 _ _ _ T4.heap n0 O4 HW u4_0 u4_1 u4_2 u4_3) hZ (ow hw 17 rfl) (ow hw 6 rfl) (by decide) (by decide)) q5a q5c (g := (mkF m 16 #[iv (0 : Int32), iv p1, iv p2, iv p3, rv sr_4] [(.ref sr_4), (.int p1)])) rfl (by rw [hml]; rfl) (Steps.refl _) (argsL := []) (rest := [(.int p1)]) (lenOf pd_6 rfl) rfl (by show 2 * 0 + _ ≤ _; exact Nat.le_of_eq rfl) (hb hby d5_16) (fun _ _ => ⟨rfl, rfl, (by decide : 2 + 0 ≤ _), (by decide : 32 + 0 ≤ _)⟩)
   dsimp only [Pt.U, Pt.locs, Pt.cells, Pt.slots] at X5 l5 y5 z5 st5 hQ5
   subst l5 y5 z5
   obtain ⟨rfl, N5q, e5⟩ := hQ5
   have N5 := Fr.app N4 N5q
   have pre6 : ∀ tg, AT p e below T5 m 19 #[iv (0 : Int32), iv p1, iv p2, iv p3, rv sr_4] [(.int (7 : Int32)), (.int p1)] tg → Steps p.tables e below S0 tg := fun tg kg => pre2 tg (by
    refine XS.icmpYes X0.here hx rfl (pc0 := 2) (pc' := 7) rfl (hb hby d5_2) rfl (XT.ii_ne_t hc3) (by decide) (by decide) ?_
    refine XS.iloadN X0.here hx rfl (hb hby d5_7) rfl ?_
    refine st4.trans ?_
    refine XS.astore X4.here hx rfl (hb hby d5_11) rfl rfl (l' := #[iv (0 : Int32), iv p1, iv p2, iv p3, rv sr_4]) rfl ?_
    refine XS.iloadN X4.here hx rfl (hb hby d5_13) rfl ?_
    refine XS.aload X4.here hx rfl (hb hby d5_14) rfl rfl ?_
    refine st5.trans ?_
    exact kg)
   rcases Decidable.em (p1 < (7 : Int32)) with hc7 | hc7
   ·
    obtain ⟨cq8, kq8, q8a, q8b, q8c⟩ := isOf hZ e5 u4_0
    obtain ⟨_, _, ⟨T8, L8, k8, n8⟩, -, X8, ⟨Lc8, hQ8, l8, y8, z8⟩, st8⟩ := X5.virtualBack hx (y := y6) (z := y6) hown (mvT hZ (ow hw 34 rfl)) (mvT hZ (ow hw 35 rfl)) (notFace_of_selects (args := #[]) (mvT hZ (ow hw 37 rfl))) (mvT hZ (ow hw 37 rfl)) (mvT hZ (ow hw 36 rfl)) (by decide) (backOf (W := 0) (rm6_0 l Z ar hw [] sr_4 p1 _ _ T4.heap n0 O4 HW u4_0 u4_1 u4_2 u4_3 hq0 hc7) hZ (ow hw 38 rfl) (ow hw 6 rfl) (by decide) (by decide)) q8a q8c (g := (mkF m 25 #[iv (0 : Int32), iv p1, iv p2, iv p3, rv sr_4] [(.int p1), (.ref sr_4)])) rfl (by rw [hml]; rfl) (Steps.refl _) (argsL := [(.int p1)]) (rest := []) (lenOf pd_7 rfl) rfl (by show 2 * 0 + _ ≤ _; exact Nat.le_of_eq rfl) (hb hby d5_25) (fun _ _ => ⟨rfl, e5, (by decide : 2 + 0 ≤ _), (by decide : 32 + 0 ≤ _)⟩)
    dsimp only [Pt.U, Pt.locs, Pt.cells, Pt.slots] at X8 l8 y8 z8 st8 hQ8
    subst l8 y8 z8
    obtain ⟨rfl, N8q, e8⟩ := hQ8
    have N8 := Fr.app N5 N8q
    obtain ⟨fs, hr, hrun, hended, hRE⟩ := X8.leaveW hS (by rw [e8]; exact hk) (v := some (.int (nar .char (wd0 p1)))) (fun h => by rw [Bd.returns] at h; cases h)
    have CRf : CHr Z EL0 s.vm s.heap (T8.setFrames fs).vm (T8.setFrames fs).heap := by
      show CHr Z EL0 s.vm s.heap T8.vm T8.heap
      rw [hh, e8]
      exact CR4.trans (CHv.at X8 hZ hEL CR4.1)
    subst hS0
    refine ⟨_, _, pre6 _ ?_, hrun, hended, _, _, rfl, ?_, CRf, hRE.1, hRE.2.1, hRE.2.2.1, hRE.2.2.2.mono (by decide) (by decide)⟩
    ·
     refine XS.icmpNo X5.here hx rfl (hb hby d5_19) rfl (XT.ii_ge_f hc7) ?_
     refine XS.aload X5.here hx rfl (hb hby d5_22) rfl rfl ?_
     refine XS.iloadN X5.here hx rfl (hb hby d5_24) rfl ?_
     refine st8.trans ?_
     exact retN X8 hx (t := .char) Bd.returns (by simp) (hb hby d5_28) hr
    ·
     show Q5 Z p0 p1 p2 p3 h0 n0 _ T8.heap _
     rw [e8]
     exact ⟨(nar .char (wd0 p1)), rfl, N8, K4, (own_ncr (own_wr0 (own_c0 hq0 hc7)))⟩
   ·
    obtain ⟨fs, hr, hrun, hended, hRE⟩ := X5.leaveW hS (by rw [e5]; exact hk) (v := some (.int (nar .char p3))) (fun h => by rw [Bd.returns] at h; cases h)
    have CRf : CHr Z EL0 s.vm s.heap (T5.setFrames fs).vm (T5.setFrames fs).heap := by
      show CHr Z EL0 s.vm s.heap T5.vm T5.heap
      rw [hh, e5]
      exact CR4.trans (CHv.at X5 hZ hEL CR4.1)
    subst hS0
    refine ⟨_, _, pre6 _ ?_, hrun, hended, _, _, rfl, ?_, CRf, hRE.1, hRE.2.1, hRE.2.2.1, hRE.2.2.2.mono (by decide) (by decide)⟩
    ·
     refine XS.icmpYes X5.here hx rfl (pc0 := 19) (pc' := 29) rfl (hb hby d5_19) rfl (XT.ii_ge_t hc7) (by decide) (by decide) ?_
     refine XS.iloadN X5.here hx rfl (hb hby d5_29) rfl ?_
     exact retN X5 hx (t := .char) Bd.returns (by simp) (hb hby d5_30) hr
    ·
     show Q5 Z p0 p1 p2 p3 h0 n0 _ T5.heap _
     rw [e5]
     exact ⟨(nar .char p3), rfl, N5, K4, (own_ncr hc)⟩
 ·
  have hw9 : p0 = (1 : Int32) := hk4
  have pre9 : ∀ tg, AT p e below s₁ m 0 #[iv (1 : Int32), iv p1, iv p2, iv p3, un] [] tg → Steps p.tables e below S0 tg := by
    have q := pre0
    rw [hw9] at q
    exact q
  have pre10 : ∀ tg, AT p e below s₁ m 2 #[iv (1 : Int32), iv p1, iv p2, iv p3, un] [(.int p2), (.int p1)] tg → Steps p.tables e below S0 tg := fun tg kg => pre9 tg (by
   refine XS.iloadN X0.here hx rfl (hb hby d5_0) rfl ?_
   refine XS.iloadN X0.here hx rfl (hb hby d5_1) rfl ?_
   exact kg)
  rcases Decidable.em (p1 = p2) with hc11 | hc11
  ·
   obtain ⟨fs, hr, hrun, hended, hRE⟩ := X0.leaveW hS (by rw [e0]; exact hk) (v := some (.int (nar .char p3))) (fun h => by rw [Bd.returns] at h; cases h)
   have CRf : CHr Z EL0 s.vm s.heap (s₁.setFrames fs).vm (s₁.setFrames fs).heap := by
     show CHr Z EL0 s.vm s.heap s₁.vm s₁.heap
     rw [hh, e0]
     exact CR0.trans (CHv.at X0 hZ hEL CR0.1)
   subst hS0
   refine ⟨_, _, pre10 _ ?_, hrun, hended, _, _, rfl, ?_, CRf, hRE.1, hRE.2.1, hRE.2.2.1, hRE.2.2.2.mono (by decide) (by decide)⟩
   ·
    refine XS.icmpNo X0.here hx rfl (hb hby d5_2) rfl (XT.ii_ne_f hc11) ?_
    refine XS.iloadN X0.here hx rfl (hb hby d5_5) rfl ?_
    exact retN X0 hx (t := .char) Bd.returns (by simp) (hb hby d5_6) hr
   ·
    show Q5 Z p0 p1 p2 p3 h0 n0 _ s₁.heap _
    rw [e0]
    exact ⟨(nar .char p3), rfl, N0, (Keep.refl h0 []), (own_ncr hc)⟩
  ·
   obtain ⟨_, _, ⟨T12, L12, k12, n12⟩, -, X12, hS12, hg12, ⟨Lc12, hQ12, l12, y12, z12, CRq12⟩, st12⟩ := callSS X0 hx (y := y1) hown (mvT hZ (ow hw 1 rfl)) (mvT hZ (ow hw 2 rfl)) (mvT hZ (ow hw 3 rfl)) (mvT hZ (ow hw 4 rfl)) (by decide) (backOfSH (W := 0) (rm1_1 l Z ar hw []  h0 n0 O0 hEL) hZ (ow hw 4 rfl) (ow hw 3 rfl) (by decide) (by decide) hEL CR0.1) (g := (mkF m 8 #[iv (1 : Int32), iv p1, iv p2, iv p3, un] [(.int (1 : Int32))])) rfl (by rw [hml]; rfl) (argsL := [(.int (1 : Int32))]) (rest := []) (lenOf pd_5 rfl) rfl (by show 2 * 0 + _ ≤ _; exact Nat.le_of_eq rfl) (hb hby d5_8) (fun _ _ => ⟨rfl, e0, (by decide : 0 + 2 ≤ _), (by decide : 0 + 24 ≤ _)⟩)
   dsimp only [Pt.U, Pt.locs, Pt.cells, Pt.slots] at X12 l12 y12 z12 st12 hQ12 hS12 hg12 CRq12
   subst l12 y12 z12
   obtain ⟨X12, hS, hZ, hown⟩ := rebS hS (by rw [e0]; exact hk) X12 hS12 hg12 hZ hown
   have CR12 : CHr Z EL0 s.vm h0 T12.vm T12.heap := CR0.trans CRq12
   obtain ⟨sr_12, sb_12, kb_12, rfl, N12q, Kq12, u12_0, u12_1, u12_2, u12_3⟩ := hQ12
   have N12 := Fr.app N0 N12q
   have K12 := (Keep.refl h0 []).trans Kq12 all0
   have O12 := O0.keep Kq12 all0
   have hk := Nat.le_trans hk Kq12.1
   have hk := Nat.le_refl (Array.size T12.heap)
   obtain ⟨cq13, kq13, q13a, q13b, q13c⟩ := isOf hZ rfl u12_0
   obtain ⟨_, _, ⟨T13, L13, k13, n13⟩, -, X13, ⟨Lc13, hQ13, l13, y13, z13⟩, st13⟩ := X12.virtualBack hx (y := y2) (z := y2) hown (mvT hZ (ow hw 13 rfl)) (mvT hZ (ow hw 14 rfl)) (notFace_of_selects (args := #[]) (mvT hZ (ow hw 16 rfl))) (mvT hZ (ow hw 16 rfl)) (mvT hZ (ow hw 15 rfl)) (by decide) (backOf (W := 1) (rm2_5 l Z ar hw [] sr_12 _ _ _ T12.heap n0 O12 HW u12_0 u12_1 u12_2 u12_3) hZ (ow hw 17 rfl) (ow hw 6 rfl) (by decide) (by decide)) q13a q13c (g := (mkF m 16 #[iv (1 : Int32), iv p1, iv p2, iv p3, rv sr_12] [(.ref sr_12), (.int p1)])) rfl (by rw [hml]; rfl) (Steps.refl _) (argsL := []) (rest := [(.int p1)]) (lenOf pd_6 rfl) rfl (by show 2 * 0 + _ ≤ _; exact Nat.le_of_eq rfl) (hb hby d5_16) (fun _ _ => ⟨rfl, rfl, (by decide : 2 + 0 ≤ _), (by decide : 24 + 0 ≤ _)⟩)
   dsimp only [Pt.U, Pt.locs, Pt.cells, Pt.slots] at X13 l13 y13 z13 st13 hQ13
   subst l13 y13 z13
   obtain ⟨rfl, N13q, e13⟩ := hQ13
   have N13 := Fr.app N12 N13q
   have pre14 : ∀ tg, AT p e below T13 m 19 #[iv (1 : Int32), iv p1, iv p2, iv p3, rv sr_12] [(.int (5 : Int32)), (.int p1)] tg → Steps p.tables e below S0 tg := fun tg kg => pre10 tg (by
    refine XS.icmpYes X0.here hx rfl (pc0 := 2) (pc' := 7) rfl (hb hby d5_2) rfl (XT.ii_ne_t hc11) (by decide) (by decide) ?_
    refine XS.iloadN X0.here hx rfl (hb hby d5_7) rfl ?_
    refine st12.trans ?_
    refine XS.astore X12.here hx rfl (hb hby d5_11) rfl rfl (l' := #[iv (1 : Int32), iv p1, iv p2, iv p3, rv sr_12]) rfl ?_
    refine XS.iloadN X12.here hx rfl (hb hby d5_13) rfl ?_
    refine XS.aload X12.here hx rfl (hb hby d5_14) rfl rfl ?_
    refine st13.trans ?_
    exact kg)
   rcases Decidable.em (p1 < (5 : Int32)) with hc15 | hc15
   ·
    obtain ⟨cq16, kq16, q16a, q16b, q16c⟩ := isOf hZ e13 u12_0
    obtain ⟨_, _, ⟨T16, L16, k16, n16⟩, -, X16, ⟨Lc16, hQ16, l16, y16, z16⟩, st16⟩ := X13.virtualBack hx (y := y6) (z := y6) hown (mvT hZ (ow hw 34 rfl)) (mvT hZ (ow hw 35 rfl)) (notFace_of_selects (args := #[]) (mvT hZ (ow hw 37 rfl))) (mvT hZ (ow hw 37 rfl)) (mvT hZ (ow hw 36 rfl)) (by decide) (backOf (W := 0) (rm6_1 l Z ar hw [] sr_12 p1 _ _ T12.heap n0 O12 HW u12_0 u12_1 u12_2 u12_3 hq0 hc15) hZ (ow hw 38 rfl) (ow hw 6 rfl) (by decide) (by decide)) q16a q16c (g := (mkF m 25 #[iv (1 : Int32), iv p1, iv p2, iv p3, rv sr_12] [(.int p1), (.ref sr_12)])) rfl (by rw [hml]; rfl) (Steps.refl _) (argsL := [(.int p1)]) (rest := []) (lenOf pd_7 rfl) rfl (by show 2 * 0 + _ ≤ _; exact Nat.le_of_eq rfl) (hb hby d5_25) (fun _ _ => ⟨rfl, e13, (by decide : 2 + 0 ≤ _), (by decide : 24 + 0 ≤ _)⟩)
    dsimp only [Pt.U, Pt.locs, Pt.cells, Pt.slots] at X16 l16 y16 z16 st16 hQ16
    subst l16 y16 z16
    obtain ⟨rfl, N16q, e16⟩ := hQ16
    have N16 := Fr.app N13 N16q
    obtain ⟨fs, hr, hrun, hended, hRE⟩ := X16.leaveW hS (by rw [e16]; exact hk) (v := some (.int (nar .char (wd1 p1)))) (fun h => by rw [Bd.returns] at h; cases h)
    have CRf : CHr Z EL0 s.vm s.heap (T16.setFrames fs).vm (T16.setFrames fs).heap := by
      show CHr Z EL0 s.vm s.heap T16.vm T16.heap
      rw [hh, e16]
      exact CR12.trans (CHv.at X16 hZ hEL CR12.1)
    subst hS0
    refine ⟨_, _, pre14 _ ?_, hrun, hended, _, _, rfl, ?_, CRf, hRE.1, hRE.2.1, hRE.2.2.1, hRE.2.2.2.mono (by decide) (by decide)⟩
    ·
     refine XS.icmpNo X13.here hx rfl (hb hby d5_19) rfl (XT.ii_ge_f hc15) ?_
     refine XS.aload X13.here hx rfl (hb hby d5_22) rfl rfl ?_
     refine XS.iloadN X13.here hx rfl (hb hby d5_24) rfl ?_
     refine st16.trans ?_
     exact retN X16 hx (t := .char) Bd.returns (by simp) (hb hby d5_28) hr
    ·
     show Q5 Z p0 p1 p2 p3 h0 n0 _ T16.heap _
     rw [e16]
     exact ⟨(nar .char (wd1 p1)), rfl, N16, K12, (own_ncr (own_wr1 (own_c1 hq0 hc15)))⟩
   ·
    obtain ⟨fs, hr, hrun, hended, hRE⟩ := X13.leaveW hS (by rw [e13]; exact hk) (v := some (.int (nar .char p3))) (fun h => by rw [Bd.returns] at h; cases h)
    have CRf : CHr Z EL0 s.vm s.heap (T13.setFrames fs).vm (T13.setFrames fs).heap := by
      show CHr Z EL0 s.vm s.heap T13.vm T13.heap
      rw [hh, e13]
      exact CR12.trans (CHv.at X13 hZ hEL CR12.1)
    subst hS0
    refine ⟨_, _, pre14 _ ?_, hrun, hended, _, _, rfl, ?_, CRf, hRE.1, hRE.2.1, hRE.2.2.1, hRE.2.2.2.mono (by decide) (by decide)⟩
    ·
     refine XS.icmpYes X13.here hx rfl (pc0 := 19) (pc' := 29) rfl (hb hby d5_19) rfl (XT.ii_ge_t hc15) (by decide) (by decide) ?_
     refine XS.iloadN X13.here hx rfl (hb hby d5_29) rfl ?_
     exact retN X13 hx (t := .char) Bd.returns (by simp) (hb hby d5_30) hr
    ·
     show Q5 Z p0 p1 p2 p3 h0 n0 _ T13.heap _
     rw [e13]
     exact ⟨(nar .char p3), rfl, N13, K12, (own_ncr hc)⟩
 ·
  have hw17 : p0 = (2 : Int32) := hk4
  have pre17 : ∀ tg, AT p e below s₁ m 0 #[iv (2 : Int32), iv p1, iv p2, iv p3, un] [] tg → Steps p.tables e below S0 tg := by
    have q := pre0
    rw [hw17] at q
    exact q
  have pre18 : ∀ tg, AT p e below s₁ m 2 #[iv (2 : Int32), iv p1, iv p2, iv p3, un] [(.int p2), (.int p1)] tg → Steps p.tables e below S0 tg := fun tg kg => pre17 tg (by
   refine XS.iloadN X0.here hx rfl (hb hby d5_0) rfl ?_
   refine XS.iloadN X0.here hx rfl (hb hby d5_1) rfl ?_
   exact kg)
  rcases Decidable.em (p1 = p2) with hc19 | hc19
  ·
   obtain ⟨fs, hr, hrun, hended, hRE⟩ := X0.leaveW hS (by rw [e0]; exact hk) (v := some (.int (nar .char p3))) (fun h => by rw [Bd.returns] at h; cases h)
   have CRf : CHr Z EL0 s.vm s.heap (s₁.setFrames fs).vm (s₁.setFrames fs).heap := by
     show CHr Z EL0 s.vm s.heap s₁.vm s₁.heap
     rw [hh, e0]
     exact CR0.trans (CHv.at X0 hZ hEL CR0.1)
   subst hS0
   refine ⟨_, _, pre18 _ ?_, hrun, hended, _, _, rfl, ?_, CRf, hRE.1, hRE.2.1, hRE.2.2.1, hRE.2.2.2.mono (by decide) (by decide)⟩
   ·
    refine XS.icmpNo X0.here hx rfl (hb hby d5_2) rfl (XT.ii_ne_f hc19) ?_
    refine XS.iloadN X0.here hx rfl (hb hby d5_5) rfl ?_
    exact retN X0 hx (t := .char) Bd.returns (by simp) (hb hby d5_6) hr
   ·
    show Q5 Z p0 p1 p2 p3 h0 n0 _ s₁.heap _
    rw [e0]
    exact ⟨(nar .char p3), rfl, N0, (Keep.refl h0 []), (own_ncr hc)⟩
  ·
   obtain ⟨_, _, ⟨T20, L20, k20, n20⟩, -, X20, hS20, hg20, ⟨Lc20, hQ20, l20, y20, z20, CRq20⟩, st20⟩ := callSS X0 hx (y := y1) hown (mvT hZ (ow hw 1 rfl)) (mvT hZ (ow hw 2 rfl)) (mvT hZ (ow hw 3 rfl)) (mvT hZ (ow hw 4 rfl)) (by decide) (backOfSH (W := 0) (rm1_2 l Z ar hw []  h0 n0 O0 hEL) hZ (ow hw 4 rfl) (ow hw 3 rfl) (by decide) (by decide) hEL CR0.1) (g := (mkF m 8 #[iv (2 : Int32), iv p1, iv p2, iv p3, un] [(.int (2 : Int32))])) rfl (by rw [hml]; rfl) (argsL := [(.int (2 : Int32))]) (rest := []) (lenOf pd_5 rfl) rfl (by show 2 * 0 + _ ≤ _; exact Nat.le_of_eq rfl) (hb hby d5_8) (fun _ _ => ⟨rfl, e0, (by decide : 0 + 2 ≤ _), (by decide : 0 + 40 ≤ _)⟩)
   dsimp only [Pt.U, Pt.locs, Pt.cells, Pt.slots] at X20 l20 y20 z20 st20 hQ20 hS20 hg20 CRq20
   subst l20 y20 z20
   obtain ⟨X20, hS, hZ, hown⟩ := rebS hS (by rw [e0]; exact hk) X20 hS20 hg20 hZ hown
   have CR20 : CHr Z EL0 s.vm h0 T20.vm T20.heap := CR0.trans CRq20
   obtain ⟨sr_20, sb_20, kb_20, rfl, N20q, Kq20, u20_0, u20_1, u20_2, u20_3⟩ := hQ20
   have N20 := Fr.app N0 N20q
   have K20 := (Keep.refl h0 []).trans Kq20 all0
   have O20 := O0.keep Kq20 all0
   have hk := Nat.le_trans hk Kq20.1
   have hk := Nat.le_refl (Array.size T20.heap)
   obtain ⟨cq21, kq21, q21a, q21b, q21c⟩ := isOf hZ rfl u20_0
   obtain ⟨_, _, ⟨T21, L21, k21, n21⟩, -, X21, ⟨Lc21, hQ21, l21, y21, z21⟩, st21⟩ := X20.virtualBack hx (y := y2) (z := y2) hown (mvT hZ (ow hw 13 rfl)) (mvT hZ (ow hw 14 rfl)) (notFace_of_selects (args := #[]) (mvT hZ (ow hw 16 rfl))) (mvT hZ (ow hw 16 rfl)) (mvT hZ (ow hw 15 rfl)) (by decide) (backOf (W := 1) (rm2_9 l Z ar hw [] sr_20 _ _ _ T20.heap n0 O20 HW u20_0 u20_1 u20_2 u20_3) hZ (ow hw 17 rfl) (ow hw 6 rfl) (by decide) (by decide)) q21a q21c (g := (mkF m 16 #[iv (2 : Int32), iv p1, iv p2, iv p3, rv sr_20] [(.ref sr_20), (.int p1)])) rfl (by rw [hml]; rfl) (Steps.refl _) (argsL := []) (rest := [(.int p1)]) (lenOf pd_6 rfl) rfl (by show 2 * 0 + _ ≤ _; exact Nat.le_of_eq rfl) (hb hby d5_16) (fun _ _ => ⟨rfl, rfl, (by decide : 2 + 0 ≤ _), (by decide : 40 + 0 ≤ _)⟩)
   dsimp only [Pt.U, Pt.locs, Pt.cells, Pt.slots] at X21 l21 y21 z21 st21 hQ21
   subst l21 y21 z21
   obtain ⟨rfl, N21q, e21⟩ := hQ21
   have N21 := Fr.app N20 N21q
   have pre22 : ∀ tg, AT p e below T21 m 19 #[iv (2 : Int32), iv p1, iv p2, iv p3, rv sr_20] [(.int (9 : Int32)), (.int p1)] tg → Steps p.tables e below S0 tg := fun tg kg => pre18 tg (by
    refine XS.icmpYes X0.here hx rfl (pc0 := 2) (pc' := 7) rfl (hb hby d5_2) rfl (XT.ii_ne_t hc19) (by decide) (by decide) ?_
    refine XS.iloadN X0.here hx rfl (hb hby d5_7) rfl ?_
    refine st20.trans ?_
    refine XS.astore X20.here hx rfl (hb hby d5_11) rfl rfl (l' := #[iv (2 : Int32), iv p1, iv p2, iv p3, rv sr_20]) rfl ?_
    refine XS.iloadN X20.here hx rfl (hb hby d5_13) rfl ?_
    refine XS.aload X20.here hx rfl (hb hby d5_14) rfl rfl ?_
    refine st21.trans ?_
    exact kg)
   rcases Decidable.em (p1 < (9 : Int32)) with hc23 | hc23
   ·
    obtain ⟨cq24, kq24, q24a, q24b, q24c⟩ := isOf hZ e21 u20_0
    obtain ⟨_, _, ⟨T24, L24, k24, n24⟩, -, X24, ⟨Lc24, hQ24, l24, y24, z24⟩, st24⟩ := X21.virtualBack hx (y := y6) (z := y6) hown (mvT hZ (ow hw 34 rfl)) (mvT hZ (ow hw 35 rfl)) (notFace_of_selects (args := #[]) (mvT hZ (ow hw 37 rfl))) (mvT hZ (ow hw 37 rfl)) (mvT hZ (ow hw 36 rfl)) (by decide) (backOf (W := 0) (rm6_2 l Z ar hw [] sr_20 p1 _ _ T20.heap n0 O20 HW u20_0 u20_1 u20_2 u20_3 hq0 hc23) hZ (ow hw 38 rfl) (ow hw 6 rfl) (by decide) (by decide)) q24a q24c (g := (mkF m 25 #[iv (2 : Int32), iv p1, iv p2, iv p3, rv sr_20] [(.int p1), (.ref sr_20)])) rfl (by rw [hml]; rfl) (Steps.refl _) (argsL := [(.int p1)]) (rest := []) (lenOf pd_7 rfl) rfl (by show 2 * 0 + _ ≤ _; exact Nat.le_of_eq rfl) (hb hby d5_25) (fun _ _ => ⟨rfl, e21, (by decide : 2 + 0 ≤ _), (by decide : 40 + 0 ≤ _)⟩)
    dsimp only [Pt.U, Pt.locs, Pt.cells, Pt.slots] at X24 l24 y24 z24 st24 hQ24
    subst l24 y24 z24
    obtain ⟨rfl, N24q, e24⟩ := hQ24
    have N24 := Fr.app N21 N24q
    obtain ⟨fs, hr, hrun, hended, hRE⟩ := X24.leaveW hS (by rw [e24]; exact hk) (v := some (.int (nar .char (wd2 p1)))) (fun h => by rw [Bd.returns] at h; cases h)
    have CRf : CHr Z EL0 s.vm s.heap (T24.setFrames fs).vm (T24.setFrames fs).heap := by
      show CHr Z EL0 s.vm s.heap T24.vm T24.heap
      rw [hh, e24]
      exact CR20.trans (CHv.at X24 hZ hEL CR20.1)
    subst hS0
    refine ⟨_, _, pre22 _ ?_, hrun, hended, _, _, rfl, ?_, CRf, hRE.1, hRE.2.1, hRE.2.2.1, hRE.2.2.2.mono (by decide) (by decide)⟩
    ·
     refine XS.icmpNo X21.here hx rfl (hb hby d5_19) rfl (XT.ii_ge_f hc23) ?_
     refine XS.aload X21.here hx rfl (hb hby d5_22) rfl rfl ?_
     refine XS.iloadN X21.here hx rfl (hb hby d5_24) rfl ?_
     refine st24.trans ?_
     exact retN X24 hx (t := .char) Bd.returns (by simp) (hb hby d5_28) hr
    ·
     show Q5 Z p0 p1 p2 p3 h0 n0 _ T24.heap _
     rw [e24]
     exact ⟨(nar .char (wd2 p1)), rfl, N24, K20, (own_ncr (own_wr2 (own_c2 hq0 hc23)))⟩
   ·
    obtain ⟨fs, hr, hrun, hended, hRE⟩ := X21.leaveW hS (by rw [e21]; exact hk) (v := some (.int (nar .char p3))) (fun h => by rw [Bd.returns] at h; cases h)
    have CRf : CHr Z EL0 s.vm s.heap (T21.setFrames fs).vm (T21.setFrames fs).heap := by
      show CHr Z EL0 s.vm s.heap T21.vm T21.heap
      rw [hh, e21]
      exact CR20.trans (CHv.at X21 hZ hEL CR20.1)
    subst hS0
    refine ⟨_, _, pre22 _ ?_, hrun, hended, _, _, rfl, ?_, CRf, hRE.1, hRE.2.1, hRE.2.2.1, hRE.2.2.2.mono (by decide) (by decide)⟩
    ·
     refine XS.icmpYes X21.here hx rfl (pc0 := 19) (pc' := 29) rfl (hb hby d5_19) rfl (XT.ii_ge_t hc23) (by decide) (by decide) ?_
     refine XS.iloadN X21.here hx rfl (hb hby d5_29) rfl ?_
     exact retN X21 hx (t := .char) Bd.returns (by simp) (hb hby d5_30) hr
    ·
     show Q5 Z p0 p1 p2 p3 h0 n0 _ T21.heap _
     rw [e21]
     exact ⟨(nar .char p3), rfl, N21, K20, (own_ncr hc)⟩
 ·
  have hw25 : p0 = (3 : Int32) := hk4
  have pre25 : ∀ tg, AT p e below s₁ m 0 #[iv (3 : Int32), iv p1, iv p2, iv p3, un] [] tg → Steps p.tables e below S0 tg := by
    have q := pre0
    rw [hw25] at q
    exact q
  have pre26 : ∀ tg, AT p e below s₁ m 2 #[iv (3 : Int32), iv p1, iv p2, iv p3, un] [(.int p2), (.int p1)] tg → Steps p.tables e below S0 tg := fun tg kg => pre25 tg (by
   refine XS.iloadN X0.here hx rfl (hb hby d5_0) rfl ?_
   refine XS.iloadN X0.here hx rfl (hb hby d5_1) rfl ?_
   exact kg)
  rcases Decidable.em (p1 = p2) with hc27 | hc27
  ·
   obtain ⟨fs, hr, hrun, hended, hRE⟩ := X0.leaveW hS (by rw [e0]; exact hk) (v := some (.int (nar .char p3))) (fun h => by rw [Bd.returns] at h; cases h)
   have CRf : CHr Z EL0 s.vm s.heap (s₁.setFrames fs).vm (s₁.setFrames fs).heap := by
     show CHr Z EL0 s.vm s.heap s₁.vm s₁.heap
     rw [hh, e0]
     exact CR0.trans (CHv.at X0 hZ hEL CR0.1)
   subst hS0
   refine ⟨_, _, pre26 _ ?_, hrun, hended, _, _, rfl, ?_, CRf, hRE.1, hRE.2.1, hRE.2.2.1, hRE.2.2.2.mono (by decide) (by decide)⟩
   ·
    refine XS.icmpNo X0.here hx rfl (hb hby d5_2) rfl (XT.ii_ne_f hc27) ?_
    refine XS.iloadN X0.here hx rfl (hb hby d5_5) rfl ?_
    exact retN X0 hx (t := .char) Bd.returns (by simp) (hb hby d5_6) hr
   ·
    show Q5 Z p0 p1 p2 p3 h0 n0 _ s₁.heap _
    rw [e0]
    exact ⟨(nar .char p3), rfl, N0, (Keep.refl h0 []), (own_ncr hc)⟩
  ·
   obtain ⟨_, _, ⟨T28, L28, k28, n28⟩, -, X28, hS28, hg28, ⟨Lc28, hQ28, l28, y28, z28, CRq28⟩, st28⟩ := callSS X0 hx (y := y1) hown (mvT hZ (ow hw 1 rfl)) (mvT hZ (ow hw 2 rfl)) (mvT hZ (ow hw 3 rfl)) (mvT hZ (ow hw 4 rfl)) (by decide) (backOfSH (W := 0) (rm1_3 l Z ar hw []  h0 n0 O0 hEL) hZ (ow hw 4 rfl) (ow hw 3 rfl) (by decide) (by decide) hEL CR0.1) (g := (mkF m 8 #[iv (3 : Int32), iv p1, iv p2, iv p3, un] [(.int (3 : Int32))])) rfl (by rw [hml]; rfl) (argsL := [(.int (3 : Int32))]) (rest := []) (lenOf pd_5 rfl) rfl (by show 2 * 0 + _ ≤ _; exact Nat.le_of_eq rfl) (hb hby d5_8) (fun _ _ => ⟨rfl, e0, (by decide : 0 + 2 ≤ _), (by decide : 0 + 4 ≤ _)⟩)
   dsimp only [Pt.U, Pt.locs, Pt.cells, Pt.slots] at X28 l28 y28 z28 st28 hQ28 hS28 hg28 CRq28
   subst l28 y28 z28
   obtain ⟨X28, hS, hZ, hown⟩ := rebS hS (by rw [e0]; exact hk) X28 hS28 hg28 hZ hown
   have CR28 : CHr Z EL0 s.vm h0 T28.vm T28.heap := CR0.trans CRq28
   obtain ⟨sr_28, sb_28, kb_28, rfl, N28q, Kq28, u28_0, u28_1, u28_2, u28_3⟩ := hQ28
   have N28 := Fr.app N0 N28q
   have K28 := (Keep.refl h0 []).trans Kq28 all0
   have O28 := O0.keep Kq28 all0
   have hk := Nat.le_trans hk Kq28.1
   have hk := Nat.le_refl (Array.size T28.heap)
   obtain ⟨cq29, kq29, q29a, q29b, q29c⟩ := isOf hZ rfl u28_0
   obtain ⟨_, _, ⟨T29, L29, k29, n29⟩, -, X29, ⟨Lc29, hQ29, l29, y29, z29⟩, st29⟩ := X28.virtualBack hx (y := y2) (z := y2) hown (mvT hZ (ow hw 13 rfl)) (mvT hZ (ow hw 14 rfl)) (notFace_of_selects (args := #[]) (mvT hZ (ow hw 16 rfl))) (mvT hZ (ow hw 16 rfl)) (mvT hZ (ow hw 15 rfl)) (by decide) (backOf (W := 1) (rm2_0 l Z ar hw [] sr_28 _ _ _ T28.heap n0 O28 HW u28_0 u28_1 u28_2 u28_3) hZ (ow hw 17 rfl) (ow hw 6 rfl) (by decide) (by decide)) q29a q29c (g := (mkF m 16 #[iv (3 : Int32), iv p1, iv p2, iv p3, rv sr_28] [(.ref sr_28), (.int p1)])) rfl (by rw [hml]; rfl) (Steps.refl _) (argsL := []) (rest := [(.int p1)]) (lenOf pd_6 rfl) rfl (by show 2 * 0 + _ ≤ _; exact Nat.le_of_eq rfl) (hb hby d5_16) (fun _ _ => ⟨rfl, rfl, (by decide : 2 + 0 ≤ _), (by decide : 4 + 0 ≤ _)⟩)
   dsimp only [Pt.U, Pt.locs, Pt.cells, Pt.slots] at X29 l29 y29 z29 st29 hQ29
   subst l29 y29 z29
   obtain ⟨rfl, N29q, e29⟩ := hQ29
   have N29 := Fr.app N28 N29q
   obtain ⟨fs, hr, hrun, hended, hRE⟩ := X29.leaveW hS (by rw [e29]; exact hk) (v := some (.int (nar .char p3))) (fun h => by rw [Bd.returns] at h; cases h)
   have CRf : CHr Z EL0 s.vm s.heap (T29.setFrames fs).vm (T29.setFrames fs).heap := by
     show CHr Z EL0 s.vm s.heap T29.vm T29.heap
     rw [hh, e29]
     exact CR28.trans (CHv.at X29 hZ hEL CR28.1)
   subst hS0
   refine ⟨_, _, pre26 _ ?_, hrun, hended, _, _, rfl, ?_, CRf, hRE.1, hRE.2.1, hRE.2.2.1, hRE.2.2.2.mono (by decide) (by decide)⟩
   ·
    refine XS.icmpYes X0.here hx rfl (pc0 := 2) (pc' := 7) rfl (hb hby d5_2) rfl (XT.ii_ne_t hc27) (by decide) (by decide) ?_
    refine XS.iloadN X0.here hx rfl (hb hby d5_7) rfl ?_
    refine st28.trans ?_
    refine XS.astore X28.here hx rfl (hb hby d5_11) rfl rfl (l' := #[iv (3 : Int32), iv p1, iv p2, iv p3, rv sr_28]) rfl ?_
    refine XS.iloadN X28.here hx rfl (hb hby d5_13) rfl ?_
    refine XS.aload X28.here hx rfl (hb hby d5_14) rfl rfl ?_
    refine st29.trans ?_
    show AT p e below T29 m 19 #[iv (3 : Int32), iv p1, iv p2, iv p3, rv sr_28] [(.int (0 : Int32)), (.int p1)] _
    refine XS.icmpYes X29.here hx rfl (pc0 := 19) (pc' := 29) rfl (hb hby d5_19) rfl (XT.ii_ge_t (hq0 : ¬ (p1 < (0 : Int32)))) (by decide) (by decide) ?_
    refine XS.iloadN X29.here hx rfl (hb hby d5_29) rfl ?_
    exact retN X29 hx (t := .char) Bd.returns (by simp) (hb hby d5_30) hr
   ·
    show Q5 Z p0 p1 p2 p3 h0 n0 _ T29.heap _
    rw [e29]
    exact ⟨(nar .char p3), rfl, N29, K28, (own_ncr hc)⟩


def TI (p : Program) (l : Launch) (e : Env) (R : Room) (s : State) (m : MethodId) (args : Array Value) (below : List Frame) (meth : Method) (c : Code) (Z : State) (h0 : Heap) (n0 : Nat) (b1 b4 : Addr) (k4 : ClassId) (z : Int32) (N : Nat) (vm : Vm) (T : State) (h : Heap) (L : List Loc) (cells slots : Nat) (vs : List Value) : Prop :=
  Stand p l e R (s.setVm vm) m args below meth c T L cells slots ∧ T.heap = h ∧ (∃ k, s.Since vm k ∧ k ≤ h.size) ∧ Z.Warmed39 (s.setVm vm).vm ∧ (s.setVm vm).vm.findClass "com/example/lease/lease/WorkerStateNamedPinLaw" = some m.cls ∧ CHr Z EL0 s.vm h0 vm h ∧ Fr n0 L ∧ Keep h0 h [] ∧ Old Z n0 h ∧ Exa Z h b1 "java/lang/String" ∧ Fld Z h b1 "java/lang/String" "value" "[B" .null ∧ Fld Z h b1 "java/lang/String" "coder" "B" (.int (0 : Int32)) ∧ Arv Z h b4 k4 .char z vs (.int (0 : Int32)) ∧ Exa Z h b4 "[C" ∧ Safe Z EL0 vm h b1 ∧ Safe Z EL0 vm h b4 ∧ vs.length = N
set_option maxRecDepth 65536 in
set_option maxHeartbeats 40000000 in
theorem turn {p : Program} {l : Launch} {e : Env} {R : Room} {s : State} {m : MethodId} {args : Array Value} {below : List Frame} {meth : Method} {c : Code} {Z : State} {ar : Array Value} (hw : ∀ d ∈ tables_1, d.before ar Z = true) {p1 p2 p3 : Int32} {h0 : Heap} {n0 : Nat} {b1 b4 : Addr} {k4 : ClassId} {z : Int32} {N : Nat} {vm : Vm} {T : State} {h : Heap} {L : List Loc} {cells slots : Nat} {vs : List Value} (hx : p.tables.exec = Jvm.exec) (hml : c.maxLocals = 4) (hEL : EW Z ar EL0) (HW : Wd Z w_z0 w_z1 w_z2 w_z3 w_z4 w_z5 w_z6 w_z7 w_z8 w_z9 w_z10 w_z11 k_z3 k_z7 k_z9 k_z11) (hcb : 0 ≤ p3.toInt ∧ p3.toInt ≤ 255) (hk4 : p1 = (0 : Int32) ∨ p1 = (1 : Int32) ∨ p1 = (2 : Int32) ∨ p1 = (3 : Int32)) (ne : b1 ≠ b4) (gn : n0 ≤ b4) (sz : h0.size ≤ b4) (hf : 4 + 1 ≤ R.frames) (hl : 5 + (5 + 11) + 53 ≤ R.locals)
    (I : TI p l e R s m args below meth c Z h0 n0 b1 b4 k4 z N vm T h L cells slots vs) {i : Int32} (hi : ¬ i < (0 : Int32) ∧ i < z) (j : Nat) (hj : i.toNatClampNeg = j) (hv : j < N) (q0 : Int32) {P : Nat} (hd : decode c.code P = .ok (.invokestatic 65, 3)) (hd3 : decode c.code (P + 3) = .ok (.castore, 1)) (hc : cells + 2 ≤ R.cells) (hs : slots + 40 ≤ R.slots) :
    ∃ (r : Int32) (vm' : Vm) (T' : State) (h' : Heap) (L' : List Loc), (0 ≤ r.toInt ∧ r.toInt ≤ 255) ∧ Stand p l e R (s.setVm vm') m args below meth c T' L' (cells + 2) (slots + 40) ∧ TI p l e R s m args below meth c Z h0 n0 b1 b4 k4 z N vm' T' h' L' (cells + 2) (slots + 40) (vs.set j (.int (nar .char r))) ∧
      ∀ tg, AT p e below T' m (P + 4) #[iv q0, iv p1, iv p2, iv p3] [.ref b4, .ref b1, .ref b1] tg → AT p e below T m P #[iv q0, iv p1, iv p2, iv p3] [.int p3, .int p2, .int i, .int p1, .int i, .ref b4, .ref b4, .ref b1, .ref b1] tg := by
  obtain ⟨X4, e4, ⟨kk, hS, hk⟩, hZ, hown, CR4, N0, K4, O4, A4, F4a, F4b, V4, B4, Sf1, Sf4, hlen⟩ := I
  obtain ⟨_, _, ⟨T10, L10, k10, n10⟩, -, X10, hS10, hg10, ⟨Lc10, hQ10, l10, y10, z10, CRq10⟩, st10⟩ := callSS X4 hx (y := y5) hown (mvT hZ (ow hw 31 rfl)) (mvT hZ (ow hw 32 rfl)) (mvT hZ (ow hw 3 rfl)) (mvT hZ (ow hw 33 rfl)) (by decide) (backOfSH (W := 5) (rm5 l Z ar hw [] p1 i p2 p3 h n0 O4 hEL HW hi.1 hcb hk4) hZ (ow hw 33 rfl) (ow hw 3 rfl) hf hl hEL CR4.1) (g := (mkF m P #[iv q0, iv p1, iv p2, iv p3] [.int p3, .int p2, .int i, .int p1, .int i, .ref b4, .ref b4, .ref b1, .ref b1])) rfl (by rw [hml]; rfl) (argsL := [(.int p1), (.int i), (.int p2), (.int p3)]) (rest := [(.int i), (.ref b4), (.ref b4), (.ref b1), (.ref b1)]) (lenOf pd_8 rfl) rfl (by show 2 * 0 + _ ≤ _; exact Nat.le_of_eq rfl) hd (fun _ _ => ⟨rfl, e4, hc, hs⟩)
  dsimp only [Pt.U, Pt.locs, Pt.cells, Pt.slots] at X10 l10 y10 z10 st10 hQ10 hS10 hg10 CRq10
  subst l10 y10 z10
  obtain ⟨X10, hS, hZ, hown⟩ := rebS hS (by rw [e4]; exact hk) X10 hS10 hg10 hZ hown
  have CR10 : CHr Z EL0 s.vm h0 T10.vm T10.heap := CR4.trans CRq10
  obtain ⟨r, rfl, N10q, Kq10, u10⟩ := hQ10
  have N10 := Fr.app N0 N10q
  have V10 := V4.keep Kq10 nin0
  have Sf10 := CRq10.safe V4.lt Sf4
  have O10 := O4.keep Kq10 all0
  obtain ⟨cl16, Ar16, q16, S16, M16, H16, G16⟩ := id V10
  obtain ⟨T16, h16, X16, e16, W16, st16⟩ := stC X10 hx hZ rfl Ar16 (j := i) (own_in i S16 hi) (g := (mkF m (P + 3) #[iv q0, iv p1, iv p2, iv p3] [.int r, .int i, .ref b4, .ref b4, .ref b1, .ref b1])) rfl rfl hd3
  have V16 : Arv Z h16 b4 k4 .char z (vs.set j (.int (nar .char r))) (.int (0 : Int32)) := Arv.set Ar16 q16 S16 M16 H16 G16 (fits_nar_char _) W16 j hj (by rw [hlen]; exact hv)
  refine ⟨r, _, T16, h16, _, u10, X16, ⟨X16, e16, ⟨_, hS, (Keep.of_wr W16).1⟩, hZ, hown, CR10.trans (CHr.wr W16 Sf10 CR10.1), Fr.snoc X16 N10 gn, (K4.trans Kq10 all0).wr W16 (Or.inr sz), O10.wr W16 gn, (A4.keep Kq10).wr W16, (F4a.keep Kq10 nin0).other W16 (Or.inl ne), (F4b.keep Kq10 nin0).other W16 (Or.inl ne), V16, (B4.keep Kq10).wr W16, Safe.wr W16 Sf10 CR10.1 (CRq10.safe A4.lt Sf1), Safe.wr W16 Sf10 CR10.1 Sf10, by rw [List.length_set]; exact hlen⟩, fun tg kg => ?_⟩
  refine st10.trans ?_
  show AT p e below T10 m (P + 3) #[iv q0, iv p1, iv p2, iv p3] [.int r, .int i, .ref b4, .ref b4, .ref b1, .ref b1] tg
  exact st16 tg kg

theorem d12_0 : decode jdk_42_method_149_code 0 = .ok (.aload_n 0, 1) := by decide +kernel
theorem d12_1 : decode jdk_42_method_149_code 1 = .ok (.invokespecial 1, 3) := by decide +kernel
theorem d12_4 : decode jdk_42_method_149_code 4 = .ok (.iload_n 3, 1) := by decide +kernel
theorem d12_5 : decode jdk_42_method_149_code 5 = .ok (.ifCond .ne 22, 3) := by decide +kernel
theorem d12_8 : decode jdk_42_method_149_code 8 = .ok (.aload_n 0, 1) := by decide +kernel
theorem d12_9 : decode jdk_42_method_149_code 9 = .ok (.ldc 7, 2) := by decide +kernel
theorem d12_11 : decode jdk_42_method_149_code 11 = .ok (.getfield 9, 3) := by decide +kernel
theorem d12_14 : decode jdk_42_method_149_code 14 = .ok (.putfield 9, 3) := by decide +kernel
theorem d12_17 : decode jdk_42_method_149_code 17 = .ok (.aload_n 0, 1) := by decide +kernel
theorem d12_18 : decode jdk_42_method_149_code 18 = .ok (.ldc 7, 2) := by decide +kernel
theorem d12_20 : decode jdk_42_method_149_code 20 = .ok (.getfield 15, 3) := by decide +kernel
theorem d12_23 : decode jdk_42_method_149_code 23 = .ok (.putfield 15, 3) := by decide +kernel
theorem d12_26 : decode jdk_42_method_149_code 26 = .ok (.return_, 1) := by decide +kernel
theorem ef_12_0 (m : MethodId) (a0 : Addr) (a1 : Addr) : entryFrame m #[(.ref a0), (.ref a1), (.int (0 : Int32)), (.int (0 : Int32)), .null] 6 = mkF m 0 #[rv a0, rv a1, iv (0 : Int32), iv (0 : Int32), .val .null, un] [] := by first | (simp [entryFrame, mkF, argsToLocals, Value.category]; done) | rfl
def Q12_0 (Z : State) (a0 : Addr) (a1 : Addr) (h0 : Heap) (n0 : Nat) (v : Option Value) (h : Heap) (L : List Loc) : Prop := ∃ (b : Addr) (kb : ClassId), v = none ∧ Fr n0 L ∧ Keep h0 h [a0] ∧ Exa Z h a0 "java/lang/String" ∧ Fld Z h a0 "java/lang/String" "coder" "B" (.int (0 : Int32)) ∧ Fld Z h a0 "java/lang/String" "value" "[B" (.ref b) ∧ Arv Z h b kb .byte (0 : Int32) [] (.int (0 : Int32))
abbrev R12_0 : Room := ({ frames := 1, cells := 4, slots := 8, locals := 12 } : Room)
set_option maxRecDepth 65536 in
set_option maxHeartbeats 40000000 in
theorem rm12_0 (l : Launch) (Z : State) (ar : Array Value) (hw : ∀ d ∈ tables_1, d.before ar Z = true) (ws : List Jvm.Cond) (a0 : Addr) (a1 : Addr) (h0 : Heap) (n0 : Nat) (O0 : Old Z n0 h0) (hEL : EW Z ar EL0) (pf0 : Exa Z h0 a0 "java/lang/String") (pf1 : Fld Z h0 a0 "java/lang/String" "value" "[B" .null) (pf2 : Fld Z h0 a0 "java/lang/String" "coder" "B" (.int (0 : Int32))) (pf3 : n0 ≤ a0) :
    MetFree l y12 (head1 (Jvm.Cond.code y12 jdk_42_method_149_code 6 none :: ws) R12_0) (fun a U => a = #[(.ref a0), (.ref a1), (.int (0 : Int32)), (.int (0 : Int32)), .null] ∧ Z.Warmed39 U.vm ∧ U.heap = h0 ∧ CHv Z EL0 U.vm h0) (fun _ _ _ _ _ => True) (fun _ U o U' => ∃ v L, o = .returned v ∧ Q12_0 Z a0 a1 h0 n0 v U'.heap L ∧ CHr Z EL0 U.vm U.heap U'.vm U'.heap ∧ ReturnedEndW U o U' L R12_0.cells R12_0.slots) := by
 refine MetFree.of_bodySF (plainFor_of_name pn_0) hisR ?_
 intro p e s m args below meth c s₁ Bd hml0 hP hK
 obtain ⟨rfl, hZ, hh, hCH⟩ := hP
 have hx := Bd.exec
 have hby := Bd.bytes
 have hml : c.maxLocals = 6 := hml0
 have hown : s.vm.findClass "java/lang/String" = some m.cls := findClass_of_methodNamed Bd.named
 have hnm := (name_of_methodNamed Bd.named Bd.method).1
 have hlk : meth.locks = false := by first | assumption | exact BodyLoose.notSynchronized (by assumption) | exact Body.notSynchronized (by assumption)
 have X0 : Stand p l e R12_0 (s.setVm s.vm) m #[(.ref a0), (.ref a1), (.int (0 : Int32)), (.int (0 : Int32)), .null] below meth c s₁ [] 0 0 := Stand.of_body Bd
 have e0 : s₁.heap = h0 := by rw [← hh, Bd.state]; rfl
 have N0 := Fr.nil n0
 have Z0 : n0 ≤ h0.size := Nat.le_trans (Nat.le_of_eq O0.1.symm) O0.2.1
 obtain ⟨S0, hS0⟩ : ∃ z, z = s₁.setTop (entryFrame m #[(.ref a0), (.ref a1), (.int (0 : Int32)), (.int (0 : Int32)), .null] 6) := ⟨_, rfl⟩
 have pre0 : ∀ tg, AT p e below s₁ m 0 #[rv a0, rv a1, iv (0 : Int32), iv (0 : Int32), .val .null, un] [] tg → Steps p.tables e below S0 tg := fun tg kg => by rw [hS0]; exact castTop (ef_12_0 m a0 a1) kg
 have hS : s.Since s.vm 0 := (State.WarmedH.refl s).since 0
 have hk : 0 ≤ h0.size := Nat.zero_le _
 have CR0 : CHr Z EL0 s.vm h0 s.vm h0 := CHr.refl hCH
 obtain ⟨T1, X1, e1, st1⟩ := initO X0 hx hZ hown (ow hw 63 rfl) (ow hw 64 rfl) (ow hw 65 rfl) e0 (g := (mkF m 1 #[rv a0, rv a1, iv (0 : Int32), iv (0 : Int32), .val .null, un] [(.ref a0)])) rfl (by rw [hml]; rfl) rfl (hb hby d12_1) (by decide) (W := 0) (by show 2 * 0 + _ ≤ _; exact Nat.le_of_eq rfl) (by decide)
 have Sf0 : Safe Z EL0 s.vm h0 a0 := own_safeNull hZ.alike (ow hw 7 rfl) pf0 pf1
 obtain ⟨al2, T2, h2, q2, b2, kb2, X2, e2, E2, hS, hk, hZ, hown, A2, C2, F2, V2, -, -, CRq2, Li2, Sx2, st2⟩ := ldcCH X1 hx hZ hown (ow hw 119 rfl) (own_sa hw) e1 hS hk hEL (List.mem_of_getElem? (i := 4) rfl) CR0.1 (vs := []) (z := (0 : Int32)) ⟨by decide, by decide⟩ (by decide) rfl (g := (mkF m 9 #[rv a0, rv a1, iv (0 : Int32), iv (0 : Int32), .val .null, un] [(.ref a0)])) rfl (hb hby d12_9) (n := 0) (by decide) (by decide) (by decide) (by decide)
 have E2_3 := pf0.ext E2
 have F2_4 := pf1.ext E2
 have F2_5 := pf2.ext E2
 have Sf2_a0 := CRq2.safe (pf0).lt Sf0
 have K2 := (Keep.refl h0 [a0]).ext E2
 have O2 : Old Z n0 h2 := O0.ext E2
 have CR2 : CHr Z EL0 s.vm h0 T2.vm h2 := CR0.trans CRq2
 have sx2_a0 := Sx2 _ Sf2_a0
 obtain ⟨T6, X6, e6, st6⟩ := getF X2 hx hZ hown (host := "") (Or.inl (ow hw 18 rfl)) Via.refl e2 F2 (g := (mkF m 11 #[rv a0, rv a1, iv (0 : Int32), iv (0 : Int32), .val .null, un] [(.ref al2), (.ref a0)])) rfl rfl (hb hby d12_11)
 obtain ⟨T7, h7, X7, e7, W7, st7⟩ := putF X6 hx hZ hown (host := "") (Or.inl (ow hw 18 rfl)) Via.refl e6 F2_4 E2_3 (Or.inr ⟨(ow hw 9 rfl), rfl, hnm⟩) (ow hw 7 rfl) (ty := (.array .byte)) (by decide) rfl rfl (g := (mkF m 14 #[rv a0, rv a1, iv (0 : Int32), iv (0 : Int32), .val .null, un] [(.ref b2), (.ref a0)])) rfl rfl (hb hby d12_14)
 have E7_8 := E2_3.wr W7
 have F7_9 : Fld Z h7 a0 "java/lang/String" "value" "[B" (.ref b2) := F2_4.same W7
 have F7_10 := F2_5.other W7 (Or.inr (slot_ne (Or.inr (ow hw 10 rfl)) (Or.inr (ow hw 9 rfl)) (by decide) (t := .byte) (t' := (.array .byte)) (by decide) (by decide)))
 have E7_11 := A2.wr W7
 have F7_12 := C2.other W7 (Or.inl (Ne.symm sx2_a0.1))
 have F7_13 := F2.other W7 (Or.inl (Ne.symm sx2_a0.1))
 have V7_14 := V2.other W7 (Ne.symm sx2_a0.2)
 have K7 := K2.wr W7 (Or.inl (List.mem_of_getElem? (i := 0) rfl))
 have O7 := O2.wr W7 pf3
 have Sf7_a0 := Safe.wr W7 Sf2_a0 CR2.1 Sf2_a0
 have CR7 : CHr Z EL0 s.vm h0 T2.vm h7 := CR2.trans (CHr.wr W7 Sf2_a0 CR2.1)
 have hk := Nat.le_trans hk (Keep.of_wr W7).1
 have N7 := Fr.snoc X7 N0 pf3
 obtain ⟨al15, T15, h15, q15, b15, kb15, X15, e15, E15, hS, hk, hZ, hown, A15, C15, F15, V15, -, -, CRq15, Li15, Sx15, st15⟩ := ldcCH X7 hx hZ hown (ow hw 119 rfl) (own_sa hw) e7 hS hk hEL (List.mem_of_getElem? (i := 4) rfl) CR7.1 (vs := []) (z := (0 : Int32)) ⟨by decide, by decide⟩ (by decide) rfl (g := (mkF m 18 #[rv a0, rv a1, iv (0 : Int32), iv (0 : Int32), .val .null, un] [(.ref a0)])) rfl (hb hby d12_18) (n := 0) (by decide) (by decide) (by decide) (by decide)
 have E15_16 := E7_8.ext E15
 have F15_17 := F7_9.ext E15
 have F15_18 := F7_10.ext E15
 have Sf15_a0 := CRq15.safe (E7_8).lt Sf7_a0
 have E15_19 := E7_11.ext E15
 have F15_20 := F7_12.ext E15
 have F15_21 := F7_13.ext E15
 have V15_22 := V7_14.ext E15
 have K15 := K7.ext E15
 have O15 : Old Z n0 h15 := O7.ext E15
 have CR15 : CHr Z EL0 s.vm h0 T15.vm h15 := CR7.trans CRq15
 have sx15_a0 := Sx15 _ Sf15_a0
 obtain ⟨T23, X23, e23, st23⟩ := getF X15 hx hZ hown (host := "") (Or.inl (ow hw 25 rfl)) Via.refl e15 C15 (g := (mkF m 20 #[rv a0, rv a1, iv (0 : Int32), iv (0 : Int32), .val .null, un] [(.ref al15), (.ref a0)])) rfl rfl (hb hby d12_20)
 obtain ⟨T24, h24, X24, e24, W24, st24⟩ := putFN X23 hx hZ hown (ow hw 25 rfl) Via.refl e23 F15_18 E15_16 (Or.inr ⟨(ow hw 10 rfl), rfl, hnm⟩) (ow hw 7 rfl) (ty := .byte) (v' := (.int (0 : Int32))) (by decide) rfl rfl (g := (mkF m 23 #[rv a0, rv a1, iv (0 : Int32), iv (0 : Int32), .val .null, un] [(.int (0 : Int32)), (.ref a0)])) rfl rfl (hb hby d12_23)
 have E24_25 := E15_16.wr W24
 have F24_26 := F15_17.other W24 (Or.inr (slot_ne (Or.inr (ow hw 9 rfl)) (Or.inr (ow hw 10 rfl)) (by decide) (t := (.array .byte)) (t' := .byte) (by decide) (by decide)))
 have F24_27 : Fld Z h24 a0 "java/lang/String" "coder" "B" (.int (0 : Int32)) := F15_18.same W24
 have E24_28 := E15_19.wr W24
 have F24_29 := F15_20.other W24 (Or.inl (Ne.symm sx2_a0.1))
 have F24_30 := F15_21.other W24 (Or.inl (Ne.symm sx2_a0.1))
 have V24_31 := V15_22.other W24 (Ne.symm sx2_a0.2)
 have E24_32 := A15.wr W24
 have F24_33 := C15.other W24 (Or.inl (Ne.symm sx15_a0.1))
 have F24_34 := F15.other W24 (Or.inl (Ne.symm sx15_a0.1))
 have V24_35 := V15.other W24 (Ne.symm sx15_a0.2)
 have K24 := K15.wr W24 (Or.inl (List.mem_of_getElem? (i := 0) rfl))
 have O24 := O15.wr W24 pf3
 have Sf24_a0 := Safe.wr W24 Sf15_a0 CR15.1 Sf15_a0
 have CR24 : CHr Z EL0 s.vm h0 T15.vm h24 := CR15.trans (CHr.wr W24 Sf15_a0 CR15.1)
 have hk := Nat.le_trans hk (Keep.of_wr W24).1
 have N24 := Fr.snoc X24 N7 pf3
 obtain ⟨fs, hr, hrun, hended, hRE⟩ := X24.leaveW hS (by rw [e24]; exact hk) (v := none) (fun _ => rfl)
 have CRf : CHr Z EL0 s.vm s.heap (T24.setFrames fs).vm (T24.setFrames fs).heap := by
   show CHr Z EL0 s.vm s.heap T24.vm T24.heap
   rw [hh, e24]
   exact CR24.trans (CHv.at X24 hZ hEL CR24.1)
 subst hS0
 refine ⟨_, _, pre0 _ ?_, hrun, hended, _, _, rfl, ?_, CRf, hRE.1, hRE.2.1, hRE.2.2.1, hRE.2.2.2.mono (by decide) (by decide)⟩
 ·
  refine XS.aloadN X0.here hx rfl (hb hby d12_0) rfl rfl ?_
  refine st1 _ ?_
  refine XS.iloadN X1.here hx rfl (hb hby d12_4) rfl ?_
  show AT p e below T1 m 5 #[rv a0, rv a1, iv (0 : Int32), iv (0 : Int32), .val .null, un] [(.int (0 : Int32))] _
  refine XS.ifNo X1.here hx rfl (hb hby d12_5) rfl (XT.i0_ne_f ((by decide) : (0 : Int32) = (0 : Int32))) ?_
  refine XS.aloadN X1.here hx rfl (hb hby d12_8) rfl rfl ?_
  refine st2 _ ?_
  refine st6 _ ?_
  refine st7 _ ?_
  refine XS.aloadN X7.here hx rfl (hb hby d12_17) rfl rfl ?_
  refine st15 _ ?_
  refine st23 _ ?_
  refine st24 _ ?_
  exact X24.returnOut hx Bd.returns (hb hby d12_26) hr
 ·
  show Q12_0 Z a0 a1 h0 n0 _ T24.heap _
  rw [e24]
  exact ⟨b2, kb2, rfl, N24, K24, E24_25, F24_27, F24_26, V24_31⟩

theorem d11_0 : decode jdk_42_method_3_code 0 = .ok (.aload_n 0, 1) := by decide +kernel
theorem d11_1 : decode jdk_42_method_3_code 1 = .ok (.aload_n 1, 1) := by decide +kernel
theorem d11_2 : decode jdk_42_method_3_code 2 = .ok (.iconst 0, 1) := by decide +kernel
theorem d11_3 : decode jdk_42_method_3_code 3 = .ok (.aload_n 1, 1) := by decide +kernel
theorem d11_4 : decode jdk_42_method_3_code 4 = .ok (.arraylength, 1) := by decide +kernel
theorem d11_5 : decode jdk_42_method_3_code 5 = .ok (.aconst_null, 1) := by decide +kernel
theorem d11_6 : decode jdk_42_method_3_code 6 = .ok (.invokespecial 27, 3) := by decide +kernel
theorem d11_9 : decode jdk_42_method_3_code 9 = .ok (.return_, 1) := by decide +kernel
theorem ef_11_0 (m : MethodId) (a0 : Addr) (a1 : Addr) : entryFrame m #[(.ref a0), (.ref a1)] 2 = mkF m 0 #[rv a0, rv a1] [] := by first | (simp [entryFrame, mkF, argsToLocals, Value.category]; done) | rfl
def Q11_0 (Z : State) (a0 : Addr) (a1 : Addr) (ka : ClassId) (h0 : Heap) (n0 : Nat) (v : Option Value) (h : Heap) (L : List Loc) : Prop := ∃ (b : Addr) (kb : ClassId), v = none ∧ Fr n0 L ∧ Keep h0 h [a0] ∧ Exa Z h a0 "java/lang/String" ∧ Fld Z h a0 "java/lang/String" "coder" "B" (.int (0 : Int32)) ∧ Fld Z h a0 "java/lang/String" "value" "[B" (.ref b) ∧ Arv Z h b kb .byte (0 : Int32) [] (.int (0 : Int32))
abbrev R11_0 : Room := ({ frames := 2, cells := 4, slots := 8, locals := 29 } : Room)
set_option maxRecDepth 65536 in
set_option maxHeartbeats 40000000 in
theorem rm11_0 (l : Launch) (Z : State) (ar : Array Value) (hw : ∀ d ∈ tables_1, d.before ar Z = true) (ws : List Jvm.Cond) (a0 : Addr) (a1 : Addr) (ka : ClassId) (h0 : Heap) (n0 : Nat) (O0 : Old Z n0 h0) (hEL : EW Z ar EL0) (pf0 : Exa Z h0 a0 "java/lang/String") (pf1 : Fld Z h0 a0 "java/lang/String" "value" "[B" .null) (pf2 : Fld Z h0 a0 "java/lang/String" "coder" "B" (.int (0 : Int32))) (pf3 : n0 ≤ a0) (pf4 : Arv Z h0 a1 ka .char (0 : Int32) [] (.int (0 : Int32))) (pf5 : a0 ≠ a1) :
    MetFree l y11 (head1 (Jvm.Cond.code y11 jdk_42_method_3_code 2 none :: ws) R11_0) (fun a U => a = #[(.ref a0), (.ref a1)] ∧ Z.Warmed39 U.vm ∧ U.heap = h0 ∧ CHv Z EL0 U.vm h0) (fun _ _ _ _ _ => True) (fun _ U o U' => ∃ v L, o = .returned v ∧ Q11_0 Z a0 a1 ka h0 n0 v U'.heap L ∧ CHr Z EL0 U.vm U.heap U'.vm U'.heap ∧ ReturnedEndW U o U' L R11_0.cells R11_0.slots) := by
 refine MetFree.of_bodySF (plainFor_of_name pn_0) hisR ?_
 intro p e s m args below meth c s₁ Bd hml0 hP hK
 obtain ⟨rfl, hZ, hh, hCH⟩ := hP
 have hx := Bd.exec
 have hby := Bd.bytes
 have hml : c.maxLocals = 2 := hml0
 have hown : s.vm.findClass "java/lang/String" = some m.cls := findClass_of_methodNamed Bd.named
 have hnm := (name_of_methodNamed Bd.named Bd.method).1
 have hlk : meth.locks = false := by first | assumption | exact BodyLoose.notSynchronized (by assumption) | exact Body.notSynchronized (by assumption)
 have X0 : Stand p l e R11_0 (s.setVm s.vm) m #[(.ref a0), (.ref a1)] below meth c s₁ [] 0 0 := Stand.of_body Bd
 have e0 : s₁.heap = h0 := by rw [← hh, Bd.state]; rfl
 have N0 := Fr.nil n0
 have Z0 : n0 ≤ h0.size := Nat.le_trans (Nat.le_of_eq O0.1.symm) O0.2.1
 obtain ⟨S0, hS0⟩ : ∃ z, z = s₁.setTop (entryFrame m #[(.ref a0), (.ref a1)] 2) := ⟨_, rfl⟩
 have pre0 : ∀ tg, AT p e below s₁ m 0 #[rv a0, rv a1] [] tg → Steps p.tables e below S0 tg := fun tg kg => by rw [hS0]; exact castTop (ef_11_0 m a0 a1) kg
 have hS : s.Since s.vm 0 := (State.WarmedH.refl s).since 0
 have hk : 0 ≤ h0.size := Nat.zero_le _
 have CR0 : CHr Z EL0 s.vm h0 s.vm h0 := CHr.refl hCH
 obtain ⟨cl1, Ar1, q1, S1, N1, H1, G1⟩ := id pf4
 have pre2 : ∀ tg, AT p e below s₁ m 6 #[rv a0, rv a1] [.null, (.int (0 : Int32)), (.int (0 : Int32)), (.ref a1), (.ref a0)] tg → Steps p.tables e below S0 tg := fun tg kg => pre0 tg (by
  refine XS.aloadN X0.here hx rfl (hb hby d11_0) rfl rfl ?_
  refine XS.aloadN X0.here hx rfl (hb hby d11_1) rfl rfl ?_
  refine XS.iconst X0.here hx rfl (hb hby d11_2) ?_
  refine XS.aloadN X0.here hx rfl (hb hby d11_3) rfl rfl ?_
  refine X0.arraylength hx (by rw [e0]; exact Ar1.1) (State.isArrayOf_alike hZ.alike Ar1.2.1) (g := (mkF m 4 #[rv a0, rv a1] [(.ref a1), (.int (0 : Int32)), (.ref a1), (.ref a0)])) rfl rfl (hb hby d11_4) _ ?_
  rw [len_of S1 N1]
  refine XS.aconstNull X0.here hx rfl (hb hby d11_5) ?_
  exact kg)
 obtain ⟨_, _, ⟨T3, L3, k3, n3⟩, -, X3, hS3, hg3, ⟨Lc3, hQ3, l3, y3, z3, CRq3⟩, st3⟩ := X0.specialBackS hx (y := y12) rfl hown (mvT hZ (ow hw 59 rfl)) (mvT hZ (ow hw 60 rfl)) (mvT hZ (ow hw 62 rfl)) (by decide) (backOfSH (W := 0) (rm12_0 l Z ar hw [] a0 a1 h0 n0 O0 hEL pf0 pf1 pf2 pf3) hZ (ow hw 62 rfl) (ow hw 6 rfl) (by decide) (by decide) hEL CR0.1) (g := (mkF m 6 #[rv a0, rv a1] [.null, (.int (0 : Int32)), (.int (0 : Int32)), (.ref a1), (.ref a0)])) rfl (by rw [hml]; rfl) (Steps.refl _) (a := a0) (argsL := [(.ref a1), (.int (0 : Int32)), (.int (0 : Int32)), .null]) (rest := []) (lenOf pd_9 rfl) rfl (by show 2 * 0 + _ ≤ _; exact Nat.le_of_eq rfl) (hb hby d11_6) (fun _ _ => ⟨rfl, e0, (by decide : 0 + 4 ≤ _), (by decide : 0 + 8 ≤ _)⟩)
 dsimp only [Pt.U, Pt.locs, Pt.cells, Pt.slots] at X3 l3 y3 z3 st3 hQ3 hS3 hg3 CRq3
 subst l3 y3 z3
 obtain ⟨X3, hS, hZ, hown⟩ := rebS hS (by rw [e0]; exact hk) X3 hS3 hg3 hZ hown
 have CR3 : CHr Z EL0 s.vm h0 T3.vm T3.heap := CR0.trans CRq3
 obtain ⟨b_3, kb_3, rfl, N3q, Kq3, u3_0, u3_1, u3_2, u3_3⟩ := hQ3
 have N3 := Fr.app N0 N3q
 have E3_4 := pf0.keep Kq3
 have V3_5 := pf4.keep Kq3 (ninS (Ne.symm pf5) nin0)
 have K3 := (Keep.refl h0 [a0]).trans Kq3 (allS (Or.inl (List.mem_of_getElem? (i := 0) rfl)) all0)
 have O3 := O0.keep Kq3 (allS pf3 all0)
 have hk := Nat.le_trans hk Kq3.1
 have hk := Nat.le_refl (Array.size T3.heap)
 obtain ⟨fs, hr, hrun, hended, hRE⟩ := X3.leaveW hS hk (v := none) (fun _ => rfl)
 have CRf : CHr Z EL0 s.vm s.heap (T3.setFrames fs).vm (T3.setFrames fs).heap := by
   show CHr Z EL0 s.vm s.heap T3.vm T3.heap
   rw [hh]
   exact CR3.trans (CHv.at X3 hZ hEL CR3.1)
 subst hS0
 refine ⟨_, _, pre2 _ ?_, hrun, hended, _, _, rfl, ?_, CRf, hRE.1, hRE.2.1, hRE.2.2.1, hRE.2.2.2.mono (by decide) (by decide)⟩
 ·
  refine st3.trans ?_
  exact X3.returnOut hx Bd.returns (hb hby d11_9) hr
 ·
  show Q11_0 Z a0 a1 ka h0 n0 _ T3.heap _
  exact ⟨b_3, kb_3, rfl, N3, K3, E3_4, u3_1, u3_2, u3_3⟩

theorem d4_0 : decode method_5_code 0 = .ok (.iload_n 0, 1) := by decide +kernel
theorem d4_1 : decode method_5_code 1 = .ok (.ifCond .ne 14, 3) := by decide +kernel
theorem d4_4 : decode method_5_code 4 = .ok (.new 15, 3) := by decide +kernel
theorem d4_7 : decode method_5_code 7 = .ok (.dup, 1) := by decide +kernel
theorem d4_8 : decode method_5_code 8 = .ok (.iconst 0, 1) := by decide +kernel
theorem d4_9 : decode method_5_code 9 = .ok (.newarray .char, 2) := by decide +kernel
theorem d4_11 : decode method_5_code 11 = .ok (.invokespecial 62, 3) := by decide +kernel
theorem d4_14 : decode method_5_code 14 = .ok (.areturn, 1) := by decide +kernel
theorem ef_4_0 (m : MethodId) (p1 : Int32) (p2 : Int32) (p3 : Int32) : entryFrame m #[(.int (0 : Int32)), (.int p1), (.int p2), (.int p3)] 4 = mkF m 0 #[iv (0 : Int32), iv p1, iv p2, iv p3] [] := by first | (simp [entryFrame, mkF, argsToLocals, Value.category]; done) | rfl
def Q4_0 (Z : State) (p1 : Int32) (p2 : Int32) (p3 : Int32) (h0 : Heap) (n0 : Nat) (v : Option Value) (h : Heap) (L : List Loc) : Prop := ∃ (t : Addr) (tb : Addr) (kb : ClassId), v = some (.ref t) ∧ Fr n0 L ∧ Keep h0 h [] ∧ Exa Z h t "java/lang/String" ∧ Fld Z h t "java/lang/String" "coder" "B" (.int (0 : Int32)) ∧ Fld Z h t "java/lang/String" "value" "[B" (.ref tb) ∧ Arv Z h tb kb .byte (0 : Int32) [] (.int (0 : Int32)) ∧ n0 ≤ t
abbrev R4_0 : Room := ({ frames := 3, cells := 6, slots := 12, locals := 43 } : Room)
set_option maxRecDepth 65536 in
set_option maxHeartbeats 40000000 in
theorem rm4_0 (l : Launch) (Z : State) (ar : Array Value) (hw : ∀ d ∈ tables_1, d.before ar Z = true) (ws : List Jvm.Cond) (p1 : Int32) (p2 : Int32) (p3 : Int32) (h0 : Heap) (n0 : Nat) (O0 : Old Z n0 h0) (hEL : EW Z ar EL0) (hcb : 0 ≤ p3.toInt ∧ p3.toInt ≤ 255) (hk4 : p1 = (0 : Int32) ∨ p1 = (1 : Int32) ∨ p1 = (2 : Int32) ∨ p1 = (3 : Int32)) :
    MetFree l y4 (head1 (Jvm.Cond.code y4 method_5_code 4 (some (.object "java/lang/String")) :: ws) R4_0) (fun a U => a = #[(.int (0 : Int32)), (.int p1), (.int p2), (.int p3)] ∧ Z.Warmed39 U.vm ∧ U.heap = h0 ∧ CHv Z EL0 U.vm h0) (fun _ _ _ _ _ => True) (fun _ U o U' => ∃ v L, o = .returned v ∧ Q4_0 Z p1 p2 p3 h0 n0 v U'.heap L ∧ CHr Z EL0 U.vm U.heap U'.vm U'.heap ∧ ReturnedEndW U o U' L R4_0.cells R4_0.slots) := by
 refine MetFree.of_bodySF (plainFor_of_name pn_3) hisR ?_
 intro p e s m args below meth c s₁ Bd hml0 hP hK
 obtain ⟨rfl, hZ, hh, hCH⟩ := hP
 have hx := Bd.exec
 have hby := Bd.bytes
 have hml : c.maxLocals = 4 := hml0
 have hown : s.vm.findClass "com/example/lease/lease/WorkerStateNamedPinLaw" = some m.cls := findClass_of_methodNamed Bd.named
 have hnm := (name_of_methodNamed Bd.named Bd.method).1
 have hlk : meth.locks = false := by first | assumption | exact BodyLoose.notSynchronized (by assumption) | exact Body.notSynchronized (by assumption)
 have X0 : Stand p l e R4_0 (s.setVm s.vm) m #[(.int (0 : Int32)), (.int p1), (.int p2), (.int p3)] below meth c s₁ [] 0 0 := Stand.of_body Bd
 have e0 : s₁.heap = h0 := by rw [← hh, Bd.state]; rfl
 have N0 := Fr.nil n0
 have Z0 : n0 ≤ h0.size := Nat.le_trans (Nat.le_of_eq O0.1.symm) O0.2.1
 obtain ⟨S0, hS0⟩ : ∃ z, z = s₁.setTop (entryFrame m #[(.int (0 : Int32)), (.int p1), (.int p2), (.int p3)] 4) := ⟨_, rfl⟩
 have pre0 : ∀ tg, AT p e below s₁ m 0 #[iv (0 : Int32), iv p1, iv p2, iv p3] [] tg → Steps p.tables e below S0 tg := fun tg kg => by rw [hS0]; exact castTop (ef_4_0 m p1 p2 p3) kg
 have hS : s.Since s.vm 0 := (State.WarmedH.refl s).since 0
 have hk : 0 ≤ h0.size := Nat.zero_le _
 have CR0 : CHr Z EL0 s.vm h0 s.vm h0 := CHr.refl hCH
 obtain ⟨T1, h1, X1, e1, E1, A1, D1, -, st1⟩ := newO X0 hx hZ hown (ow hw 29 rfl) (ow hw 7 rfl) (ow hw 6 rfl) e0 (g := (mkF m 4 #[iv (0 : Int32), iv p1, iv p2, iv p3] [])) rfl (hb hby d4_4) (by decide) (by decide)
 obtain ⟨b1, g1⟩ : ∃ z, z = h0.size := ⟨_, rfl⟩
 rw [← g1] at A1 D1 st1
 have gn1 : n0 ≤ b1 := Nat.le_trans (Nat.le_trans (Nat.le_of_eq O0.1.symm) O0.2.1) (Nat.le_of_eq g1.symm)
 have sz1 : h0.size ≤ b1 := Nat.le_trans (Keep.refl h0 []).1 (Nat.le_of_eq g1.symm)
 have Sn1 : Safe Z EL0 s.vm h0 b1 := Safe.new (Nat.le_of_eq g1.symm)
 have K1 := (Keep.refl h0 []).ext E1
 have O1 := O0.ext E1
 have Sf1_b1 := Safe.ext E1 CR0.1 Sn1
 have CR1 : CHr Z EL0 s.vm h0 s.vm h1 := CR0.trans (CHr.ext E1 CR0.1)
 have hk := Nat.le_trans hk E1.1
 have F1_2 : Fld Z h1 b1 "java/lang/String" "value" "[B" .null := D1 (Or.inr (ow hw 9 rfl)) (ty := (.array .byte)) (by decide)
 have F1_3 : Fld Z h1 b1 "java/lang/String" "coder" "B" (.int (0 : Int32)) := D1 (Or.inr (ow hw 10 rfl)) (ty := .byte) (by decide)
 obtain ⟨T4, h4, k4, X4, e4, E4, A4, B4, st4⟩ := newPE X1 hx hZ (ow hw 30 rfl) e1 (g := (mkF m 9 #[iv (0 : Int32), iv p1, iv p2, iv p3] [(.int (0 : Int32)), (.ref b1), (.ref b1)])) rfl (hb hby d4_9) rfl (by decide) (cap := 0) (by decide) (by decide) (by decide) (by decide) (ad := "[C") (by decide)
 obtain ⟨b4, g4⟩ : ∃ z, z = h1.size := ⟨_, rfl⟩
 rw [← g4] at A4 B4 st4
 have ne4_5 : b1 ≠ b4 := Nat.ne_of_lt (Nat.lt_of_lt_of_le (A1).lt (Nat.le_of_eq g4.symm))
 have gn4 : n0 ≤ b4 := Nat.le_trans (Nat.le_trans (Nat.le_of_eq O1.1.symm) O1.2.1) (Nat.le_of_eq g4.symm)
 have sz4 : h0.size ≤ b4 := Nat.le_trans K1.1 (Nat.le_of_eq g4.symm)
 have Sn4 : Safe Z EL0 s.vm h1 b4 := Safe.new (Nat.le_of_eq g4.symm)
 have E4_6 := A1.ext E4
 have F4_7 := F1_2.ext E4
 have F4_8 := F1_3.ext E4
 have K4 := K1.ext E4
 have O4 := O1.ext E4
 have Sf4_b1 := Safe.ext E4 CR1.1 Sf1_b1
 have Sf4_b4 := Safe.ext E4 CR1.1 Sn4
 have CR4 : CHr Z EL0 s.vm h0 s.vm h4 := CR1.trans (CHr.ext E4 CR1.1)
 have hk := Nat.le_trans hk E4.1
 have V4_9 : Arv Z h4 b4 k4 .char (0 : Int32) [] (.int (0 : Int32)) := (Arv.new A4 (by decide))
 obtain ⟨_, _, ⟨T10, L10, k10, n10⟩, -, X10, hS10, hg10, ⟨Lc10, hQ10, l10, y10, z10, CRq10⟩, st10⟩ := X4.specialBackS hx (y := y11) rfl hown (mvT hZ (ow hw 56 rfl)) (mvT hZ (ow hw 57 rfl)) (mvT hZ (ow hw 58 rfl)) (by decide) (backOfSH (W := 1) (rm11_0 l Z ar hw [] b1 b4 _ h4 n0 O4 hEL E4_6 F4_7 F4_8 gn1 V4_9 ne4_5) hZ (ow hw 58 rfl) (ow hw 6 rfl) (by decide) (by decide) hEL CR4.1) (g := (mkF m 11 #[iv (0 : Int32), iv p1, iv p2, iv p3] [(.ref b4), (.ref b1), (.ref b1)])) rfl (by rw [hml]; rfl) (Steps.refl _) (a := b1) (argsL := [(.ref b4)]) (rest := [(.ref b1)]) (lenOf pd_10 rfl) rfl (by show 2 * 0 + _ ≤ _; exact Nat.le_of_eq rfl) (hb hby d4_11) (fun _ _ => ⟨rfl, e4, (by decide : 2 + 4 ≤ _), (by decide : 4 + 8 ≤ _)⟩)
 dsimp only [Pt.U, Pt.locs, Pt.cells, Pt.slots] at X10 l10 y10 z10 st10 hQ10 hS10 hg10 CRq10
 subst l10 y10 z10
 obtain ⟨X10, hS, hZ, hown⟩ := rebS hS (by rw [e4]; exact hk) X10 hS10 hg10 hZ hown
 have CR10 : CHr Z EL0 s.vm h0 T10.vm T10.heap := CR4.trans CRq10
 obtain ⟨b_10, kb_10, rfl, N10q, Kq10, u10_0, u10_1, u10_2, u10_3⟩ := hQ10
 have N10 := Fr.app N0 N10q
 have E10_11 := E4_6.keep Kq10
 have V10_12 := V4_9.keep Kq10 (ninS (Ne.symm ne4_5) nin0)
 have E10_13 := B4.keep Kq10
 have Sf10_b1 := CRq10.safe (E4_6).lt Sf4_b1
 have Sf10_b4 := CRq10.safe (V4_9).lt Sf4_b4
 have K10 := K4.trans Kq10 (allS (Or.inr sz1) all0)
 have O10 := O4.keep Kq10 (allS gn1 all0)
 have hk := Nat.le_trans hk Kq10.1
 have hk := Nat.le_refl (Array.size T10.heap)
 obtain ⟨fs, hr, hrun, hended, hRE⟩ := X10.leaveW hS hk (v := some (.ref b1)) (fun h => by rw [Bd.returns] at h; cases h)
 have CRf : CHr Z EL0 s.vm s.heap (T10.setFrames fs).vm (T10.setFrames fs).heap := by
   show CHr Z EL0 s.vm s.heap T10.vm T10.heap
   rw [hh]
   exact CR10.trans (CHv.at X10 hZ hEL CR10.1)
 subst hS0
 refine ⟨_, _, pre0 _ ?_, hrun, hended, _, _, rfl, ?_, CRf, hRE.1, hRE.2.1, hRE.2.2.1, hRE.2.2.2.mono (by decide) (by decide)⟩
 ·
  refine XS.iloadN X0.here hx rfl (hb hby d4_0) rfl ?_
  show AT p e below s₁ m 1 #[iv (0 : Int32), iv p1, iv p2, iv p3] [(.int (0 : Int32))] _
  refine XS.ifNo X0.here hx rfl (hb hby d4_1) rfl (XT.i0_ne_f ((by decide) : (0 : Int32) = (0 : Int32))) ?_
  refine st1 _ ?_
  refine XS.dup X1.here hx rfl (hb hby d4_7) rfl rfl ?_
  refine XS.iconst X1.here hx rfl (hb hby d4_8) ?_
  refine st4 _ ?_
  refine st10.trans ?_
  exact retOut X10 hx (t := (.object "java/lang/String")) (i := .areturn) Bd.returns rfl (Or.inr (Or.inr (Or.inr (Or.inr ⟨rfl, rfl, rfl⟩)))) (hb hby d4_14) hr
 ·
  show Q4_0 Z p1 p2 p3 h0 n0 _ T10.heap _
  exact ⟨b1, b_10, kb_10, rfl, N10, K10, E10_11, u10_1, u10_2, u10_3, gn1⟩

theorem d4_15 : decode method_5_code 15 = .ok (.iload_n 0, 1) := by decide +kernel
theorem d4_16 : decode method_5_code 16 = .ok (.iconst 1, 1) := by decide +kernel
theorem d4_17 : decode method_5_code 17 = .ok (.if_icmp .ne 24, 3) := by decide +kernel
theorem d4_20 : decode method_5_code 20 = .ok (.new 15, 3) := by decide +kernel
theorem d4_23 : decode method_5_code 23 = .ok (.dup, 1) := by decide +kernel
theorem d4_24 : decode method_5_code 24 = .ok (.iconst 1, 1) := by decide +kernel
theorem d4_25 : decode method_5_code 25 = .ok (.newarray .char, 2) := by decide +kernel
theorem d4_27 : decode method_5_code 27 = .ok (.dup, 1) := by decide +kernel
theorem d4_28 : decode method_5_code 28 = .ok (.iconst 0, 1) := by decide +kernel
theorem d4_29 : decode method_5_code 29 = .ok (.iload_n 1, 1) := by decide +kernel
theorem d4_30 : decode method_5_code 30 = .ok (.iconst 0, 1) := by decide +kernel
theorem d4_31 : decode method_5_code 31 = .ok (.iload_n 2, 1) := by decide +kernel
theorem d4_32 : decode method_5_code 32 = .ok (.iload_n 3, 1) := by decide +kernel
theorem d4_33 : decode method_5_code 33 = .ok (.invokestatic 65, 3) := by decide +kernel
theorem d4_36 : decode method_5_code 36 = .ok (.castore, 1) := by decide +kernel
theorem d4_37 : decode method_5_code 37 = .ok (.invokespecial 62, 3) := by decide +kernel
theorem d4_40 : decode method_5_code 40 = .ok (.areturn, 1) := by decide +kernel
theorem ef_4_1 (m : MethodId) (p1 : Int32) (p2 : Int32) (p3 : Int32) : entryFrame m #[(.int (1 : Int32)), (.int p1), (.int p2), (.int p3)] 4 = mkF m 0 #[iv (1 : Int32), iv p1, iv p2, iv p3] [] := by first | (simp [entryFrame, mkF, argsToLocals, Value.category]; done) | rfl
def Q4_1 (Z : State) (p1 : Int32) (p2 : Int32) (p3 : Int32) (h0 : Heap) (n0 : Nat) (v : Option Value) (h : Heap) (L : List Loc) : Prop := ∃ (t : Addr) (tb : Addr) (kb : ClassId) (y0 : Int32), v = some (.ref t) ∧ Fr n0 L ∧ Keep h0 h [] ∧ Exa Z h t "java/lang/String" ∧ Fld Z h t "java/lang/String" "coder" "B" (.int (0 : Int32)) ∧ Fld Z h t "java/lang/String" "value" "[B" (.ref tb) ∧ Arv Z h tb kb .byte (1 : Int32) [(.int y0)] (.int (0 : Int32)) ∧ n0 ≤ t
abbrev R4_1 : Room := ({ frames := 5, cells := 5, slots := 46, locals := 74 } : Room)
set_option maxRecDepth 65536 in
set_option maxHeartbeats 40000000 in
theorem rm4_1 (l : Launch) (Z : State) (ar : Array Value) (hw : ∀ d ∈ tables_1, d.before ar Z = true) (ws : List Jvm.Cond) (p1 : Int32) (p2 : Int32) (p3 : Int32) (h0 : Heap) (n0 : Nat) (O0 : Old Z n0 h0) (hEL : EW Z ar EL0) (HW : Wd Z w_z0 w_z1 w_z2 w_z3 w_z4 w_z5 w_z6 w_z7 w_z8 w_z9 w_z10 w_z11 k_z3 k_z7 k_z9 k_z11) (hcb : 0 ≤ p3.toInt ∧ p3.toInt ≤ 255) (hk4 : p1 = (0 : Int32) ∨ p1 = (1 : Int32) ∨ p1 = (2 : Int32) ∨ p1 = (3 : Int32)) :
    MetFree l y4 (head1 (Jvm.Cond.code y4 method_5_code 4 (some (.object "java/lang/String")) :: ws) R4_1) (fun a U => a = #[(.int (1 : Int32)), (.int p1), (.int p2), (.int p3)] ∧ Z.Warmed39 U.vm ∧ U.heap = h0 ∧ CHv Z EL0 U.vm h0) (fun _ _ _ _ _ => True) (fun _ U o U' => ∃ v L, o = .returned v ∧ Q4_1 Z p1 p2 p3 h0 n0 v U'.heap L ∧ CHr Z EL0 U.vm U.heap U'.vm U'.heap ∧ ReturnedEndW U o U' L R4_1.cells R4_1.slots) := by
 refine MetFree.of_bodySF (plainFor_of_name pn_3) hisR ?_
 intro p e s m args below meth c s₁ Bd hml0 hP hK
 obtain ⟨rfl, hZ, hh, hCH⟩ := hP
 have hx := Bd.exec
 have hby := Bd.bytes
 have hml : c.maxLocals = 4 := hml0
 have hown : s.vm.findClass "com/example/lease/lease/WorkerStateNamedPinLaw" = some m.cls := findClass_of_methodNamed Bd.named
 have hnm := (name_of_methodNamed Bd.named Bd.method).1
 have hlk : meth.locks = false := by first | assumption | exact BodyLoose.notSynchronized (by assumption) | exact Body.notSynchronized (by assumption)
 have X0 : Stand p l e R4_1 (s.setVm s.vm) m #[(.int (1 : Int32)), (.int p1), (.int p2), (.int p3)] below meth c s₁ [] 0 0 := Stand.of_body Bd
 have e0 : s₁.heap = h0 := by rw [← hh, Bd.state]; rfl
 have N0 := Fr.nil n0
 have Z0 : n0 ≤ h0.size := Nat.le_trans (Nat.le_of_eq O0.1.symm) O0.2.1
 obtain ⟨S0, hS0⟩ : ∃ z, z = s₁.setTop (entryFrame m #[(.int (1 : Int32)), (.int p1), (.int p2), (.int p3)] 4) := ⟨_, rfl⟩
 have pre0 : ∀ tg, AT p e below s₁ m 0 #[iv (1 : Int32), iv p1, iv p2, iv p3] [] tg → Steps p.tables e below S0 tg := fun tg kg => by rw [hS0]; exact castTop (ef_4_1 m p1 p2 p3) kg
 have hS : s.Since s.vm 0 := (State.WarmedH.refl s).since 0
 have hk : 0 ≤ h0.size := Nat.zero_le _
 have CR0 : CHr Z EL0 s.vm h0 s.vm h0 := CHr.refl hCH
 obtain ⟨S_q0, hz_w_z0, -, -, -, -, -, -, -, -, -, -, -, -, -, -, -, -, -, -, -, -, -, -, -, -, -, -⟩ := id HW
 obtain ⟨T1, h1, X1, e1, E1, A1, D1, -, st1⟩ := newO X0 hx hZ hown (ow hw 29 rfl) (ow hw 7 rfl) (ow hw 6 rfl) e0 (g := (mkF m 20 #[iv (1 : Int32), iv p1, iv p2, iv p3] [])) rfl (hb hby d4_20) (by decide) (by decide)
 obtain ⟨b1, g1⟩ : ∃ z, z = h0.size := ⟨_, rfl⟩
 rw [← g1] at A1 D1 st1
 have gn1 : n0 ≤ b1 := Nat.le_trans (Nat.le_trans (Nat.le_of_eq O0.1.symm) O0.2.1) (Nat.le_of_eq g1.symm)
 have sz1 : h0.size ≤ b1 := Nat.le_trans (Keep.refl h0 []).1 (Nat.le_of_eq g1.symm)
 have Sn1 : Safe Z EL0 s.vm h0 b1 := Safe.new (Nat.le_of_eq g1.symm)
 have K1 := (Keep.refl h0 []).ext E1
 have O1 := O0.ext E1
 have Sf1_b1 := Safe.ext E1 CR0.1 Sn1
 have CR1 : CHr Z EL0 s.vm h0 s.vm h1 := CR0.trans (CHr.ext E1 CR0.1)
 have hk := Nat.le_trans hk E1.1
 have F1_2 : Fld Z h1 b1 "java/lang/String" "value" "[B" .null := D1 (Or.inr (ow hw 9 rfl)) (ty := (.array .byte)) (by decide)
 have F1_3 : Fld Z h1 b1 "java/lang/String" "coder" "B" (.int (0 : Int32)) := D1 (Or.inr (ow hw 10 rfl)) (ty := .byte) (by decide)
 obtain ⟨T4, h4, k4, X4, e4, E4, A4, B4, st4⟩ := newPE X1 hx hZ (ow hw 30 rfl) e1 (g := (mkF m 25 #[iv (1 : Int32), iv p1, iv p2, iv p3] [(.int (1 : Int32)), (.ref b1), (.ref b1)])) rfl (hb hby d4_25) rfl (by decide) (cap := 1) (by decide) (by decide) (by decide) (by decide) (ad := "[C") (by decide)
 obtain ⟨b4, g4⟩ : ∃ z, z = h1.size := ⟨_, rfl⟩
 rw [← g4] at A4 B4 st4
 have ne4_5 : b1 ≠ b4 := Nat.ne_of_lt (Nat.lt_of_lt_of_le (A1).lt (Nat.le_of_eq g4.symm))
 have gn4 : n0 ≤ b4 := Nat.le_trans (Nat.le_trans (Nat.le_of_eq O1.1.symm) O1.2.1) (Nat.le_of_eq g4.symm)
 have sz4 : h0.size ≤ b4 := Nat.le_trans K1.1 (Nat.le_of_eq g4.symm)
 have Sn4 : Safe Z EL0 s.vm h1 b4 := Safe.new (Nat.le_of_eq g4.symm)
 have E4_6 := A1.ext E4
 have F4_7 := F1_2.ext E4
 have F4_8 := F1_3.ext E4
 have K4 := K1.ext E4
 have O4 := O1.ext E4
 have Sf4_b1 := Safe.ext E4 CR1.1 Sf1_b1
 have Sf4_b4 := Safe.ext E4 CR1.1 Sn4
 have CR4 : CHr Z EL0 s.vm h0 s.vm h4 := CR1.trans (CHr.ext E4 CR1.1)
 have hk := Nat.le_trans hk E4.1
 have V4_9 : Arv Z h4 b4 k4 .char (1 : Int32) [(.int (0 : Int32))] (.int (0 : Int32)) := (Arv.new A4 (by decide)).pad (pad_rep [] (.int (0 : Int32)) 1)
 have I10 : TI p l e R4_1 s m #[(.int (1 : Int32)), (.int p1), (.int p2), (.int p3)] below meth c Z h0 n0 b1 b4 k4 (1 : Int32) 1 s.vm T4 h4 _ ((0 + 1) + 1) ((0 + 4) + 1) _ := ⟨X4, e4, ⟨_, hS, hk⟩, hZ, hown, CR4, N0, K4, O4, E4_6, F4_7, F4_8, V4_9, B4, Sf4_b1, Sf4_b4, rfl⟩
 obtain ⟨r11, vm11, T11, h11, L11, u11, X11, I11, st11⟩ := turn hw hx hml hEL HW hcb hk4 ne4_5 gn4 sz4 (by decide) (by decide) I10 (i := (0 : Int32)) ⟨by decide, by decide⟩ 0 rfl (by decide) (1 : Int32) (P := 33) (hb hby d4_33) (hb hby d4_36) (by decide) (by decide)
 obtain ⟨-, e12, ⟨kk12, hS, hk⟩, hZ, hown, CR12, N12, K12, O12, i12_0, i12_1, i12_2, i12_3, i12_4, i12_5, i12_6, -⟩ := I11
 have V12_13 : Arv Z h11 b4 k4 .char (1 : Int32) [(.int (nar .char r11))] (.int (0 : Int32)) := i12_3
 obtain ⟨_, _, ⟨T14, L14, k14, n14⟩, -, X14, ⟨Lc14, hQ14, l14, y14, z14⟩, st14⟩ := X11.specialBack hx (y := y11) rfl hown (mvT hZ (ow hw 56 rfl)) (mvT hZ (ow hw 57 rfl)) (mvT hZ (ow hw 58 rfl)) (by decide) (StrChars.Road.backV (W := 1) hZ (own_ws hw) (ow hw 7 rfl) (cs := [(nar .char r11)]) (bs := [((nar .char r11).toInt8.toInt32)]) (n := 1) gn1 (Nat.le_trans (Nat.le_of_eq O12.1.symm) O12.2.1) i12_0 i12_1 i12_2 V12_13 (S_q0.ext O12.2) hz_w_z0 rfl (by decide) (by decide) (by decide) (own_cc ⟨own_0 (own_ncr u11), own_255 (own_ncr u11)⟩ own_cn) rfl (by decide) (by decide)) (g := (mkF m 37 #[iv (1 : Int32), iv p1, iv p2, iv p3] [(.ref b4), (.ref b1), (.ref b1)])) rfl (by rw [hml]; rfl) (Steps.refl _) (a := b1) (argsL := [(.ref b4)]) (rest := [(.ref b1)]) (lenOf pd_10 rfl) rfl (by show 2 * 0 + _ ≤ _; exact Nat.le_of_eq rfl) (hb hby d4_37) (fun _ _ => ⟨rfl, e12, (by decide : 4 + 1 ≤ _), (by decide : 45 + 1 ≤ _)⟩)
 dsimp only [Pt.U, Pt.locs, Pt.cells, Pt.slots] at X14 l14 y14 z14 st14 hQ14
 subst l14 y14 z14
 obtain ⟨rfl, N14q, Kq14, uE14, uC14, t14, kt14, -, tg14, tn14, uF14, uV14⟩ := hQ14
 have N14 := Fr.app N12 N14q
 have ne15 : b1 ≠ t14 := Nat.ne_of_lt (Nat.lt_of_lt_of_le (i12_0).lt tg14)
 have ne16 : b4 ≠ t14 := Nat.ne_of_lt (Nat.lt_of_lt_of_le (V12_13).lt tg14)
 have E14_17 := i12_0.keep Kq14
 have V14_18 := V12_13.keep Kq14 (ninS (Ne.symm ne4_5) nin0)
 have E14_19 := i12_4.keep Kq14
 have K14 := K12.trans Kq14 (allS (Or.inr sz1) all0)
 have O14 := O12.keep Kq14 (allS gn1 all0)
 have Sf14_b1 := Safe.keep Kq14 (allS i12_5 all0) CR12.1 i12_5
 have Sf14_b4 := Safe.keep Kq14 (allS i12_5 all0) CR12.1 i12_6
 have CR14 : CHr Z EL0 s.vm h0 vm11 T14.heap := CR12.trans (CHr.keep Kq14 (allS i12_5 all0) CR12.1)
 have hk := Nat.le_trans hk Kq14.1
 have sz14 : h0.size ≤ t14 := Nat.le_trans K12.1 tg14
 have gn14 : n0 ≤ t14 := Nat.le_trans (Nat.le_trans (Nat.le_of_eq O12.1.symm) O12.2.1) tg14
 have Sn14 : Safe Z EL0 vm11 T14.heap t14 := Safe.keep Kq14 (allS i12_5 all0) CR12.1 (Safe.new tg14)
 have uC14' : Fld Z T14.heap b1 "java/lang/String" "coder" "B" (.int (0 : Int32)) := uC14
 have uF14' : Fld Z T14.heap b1 "java/lang/String" "value" "[B" (.ref t14) := uF14
 have uV14' : Arv Z T14.heap t14 kt14 .byte (1 : Int32) [(.int ((nar .char r11).toInt8.toInt32))] (.int (0 : Int32)) := uV14
 obtain ⟨fs, hr, hrun, hended, hRE⟩ := X14.leaveW hS hk (v := some (.ref b1)) (fun h => by rw [Bd.returns] at h; cases h)
 have CRf : CHr Z EL0 s.vm s.heap (T14.setFrames fs).vm (T14.setFrames fs).heap := by
   show CHr Z EL0 s.vm s.heap T14.vm T14.heap
   rw [hh]
   exact CR14.trans (CHv.at X14 hZ hEL CR14.1)
 subst hS0
 refine ⟨_, _, pre0 _ ?_, hrun, hended, _, _, rfl, ?_, CRf, hRE.1, hRE.2.1, hRE.2.2.1, hRE.2.2.2.mono (by decide) (by decide)⟩
 ·
  refine XS.iloadN X0.here hx rfl (hb hby d4_0) rfl ?_
  show AT p e below s₁ m 1 #[iv (1 : Int32), iv p1, iv p2, iv p3] [(.int (1 : Int32))] _
  refine XS.ifYes X0.here hx rfl (pc0 := 1) (pc' := 15) rfl (hb hby d4_1) rfl (XT.i0_ne_t ((by decide) : ¬ ((1 : Int32) = (0 : Int32)))) (by decide) (by decide) ?_
  refine XS.iloadN X0.here hx rfl (hb hby d4_15) rfl ?_
  refine XS.iconst X0.here hx rfl (hb hby d4_16) ?_
  show AT p e below s₁ m 17 #[iv (1 : Int32), iv p1, iv p2, iv p3] [(.int (1 : Int32)), (.int (1 : Int32))] _
  refine XS.icmpNo X0.here hx rfl (hb hby d4_17) rfl (XT.ii_ne_f ((by decide) : (1 : Int32) = (1 : Int32))) ?_
  refine st1 _ ?_
  refine XS.dup X1.here hx rfl (hb hby d4_23) rfl rfl ?_
  refine XS.iconst X1.here hx rfl (hb hby d4_24) ?_
  refine st4 _ ?_
  refine XS.dup X4.here hx rfl (hb hby d4_27) rfl rfl ?_
  refine XS.iconst X4.here hx rfl (hb hby d4_28) ?_
  refine XS.iloadN X4.here hx rfl (hb hby d4_29) rfl ?_
  refine XS.iconst X4.here hx rfl (hb hby d4_30) ?_
  refine XS.iloadN X4.here hx rfl (hb hby d4_31) rfl ?_
  refine XS.iloadN X4.here hx rfl (hb hby d4_32) rfl ?_
  refine st11 _ ?_
  refine st14.trans ?_
  exact retOut X14 hx (t := (.object "java/lang/String")) (i := .areturn) Bd.returns rfl (Or.inr (Or.inr (Or.inr (Or.inr ⟨rfl, rfl, rfl⟩)))) (hb hby d4_40) hr
 ·
  show Q4_1 Z p1 p2 p3 h0 n0 _ T14.heap _
  exact ⟨b1, t14, kt14, ((nar .char r11).toInt8.toInt32), rfl, N14, K14, E14_17, uC14', uF14', uV14', gn1⟩

theorem d4_41 : decode method_5_code 41 = .ok (.iload_n 0, 1) := by decide +kernel
theorem d4_42 : decode method_5_code 42 = .ok (.iconst 2, 1) := by decide +kernel
theorem d4_43 : decode method_5_code 43 = .ok (.if_icmp .ne 34, 3) := by decide +kernel
theorem d4_77 : decode method_5_code 77 = .ok (.iload_n 0, 1) := by decide +kernel
theorem d4_78 : decode method_5_code 78 = .ok (.iconst 3, 1) := by decide +kernel
theorem d4_79 : decode method_5_code 79 = .ok (.if_icmp .ne 44, 3) := by decide +kernel
theorem d4_123 : decode method_5_code 123 = .ok (.iload_n 0, 1) := by decide +kernel
theorem d4_124 : decode method_5_code 124 = .ok (.iconst 4, 1) := by decide +kernel
theorem d4_125 : decode method_5_code 125 = .ok (.if_icmp .ne 54, 3) := by decide +kernel
theorem d4_128 : decode method_5_code 128 = .ok (.new 15, 3) := by decide +kernel
theorem d4_131 : decode method_5_code 131 = .ok (.dup, 1) := by decide +kernel
theorem d4_132 : decode method_5_code 132 = .ok (.iconst 4, 1) := by decide +kernel
theorem d4_133 : decode method_5_code 133 = .ok (.newarray .char, 2) := by decide +kernel
theorem d4_135 : decode method_5_code 135 = .ok (.dup, 1) := by decide +kernel
theorem d4_136 : decode method_5_code 136 = .ok (.iconst 0, 1) := by decide +kernel
theorem d4_137 : decode method_5_code 137 = .ok (.iload_n 1, 1) := by decide +kernel
theorem d4_138 : decode method_5_code 138 = .ok (.iconst 0, 1) := by decide +kernel
theorem d4_139 : decode method_5_code 139 = .ok (.iload_n 2, 1) := by decide +kernel
theorem d4_140 : decode method_5_code 140 = .ok (.iload_n 3, 1) := by decide +kernel
theorem d4_141 : decode method_5_code 141 = .ok (.invokestatic 65, 3) := by decide +kernel
theorem d4_144 : decode method_5_code 144 = .ok (.castore, 1) := by decide +kernel
theorem d4_145 : decode method_5_code 145 = .ok (.dup, 1) := by decide +kernel
theorem d4_146 : decode method_5_code 146 = .ok (.iconst 1, 1) := by decide +kernel
theorem d4_147 : decode method_5_code 147 = .ok (.iload_n 1, 1) := by decide +kernel
theorem d4_148 : decode method_5_code 148 = .ok (.iconst 1, 1) := by decide +kernel
theorem d4_149 : decode method_5_code 149 = .ok (.iload_n 2, 1) := by decide +kernel
theorem d4_150 : decode method_5_code 150 = .ok (.iload_n 3, 1) := by decide +kernel
theorem d4_151 : decode method_5_code 151 = .ok (.invokestatic 65, 3) := by decide +kernel
theorem d4_154 : decode method_5_code 154 = .ok (.castore, 1) := by decide +kernel
theorem d4_155 : decode method_5_code 155 = .ok (.dup, 1) := by decide +kernel
theorem d4_156 : decode method_5_code 156 = .ok (.iconst 2, 1) := by decide +kernel
theorem d4_157 : decode method_5_code 157 = .ok (.iload_n 1, 1) := by decide +kernel
theorem d4_158 : decode method_5_code 158 = .ok (.iconst 2, 1) := by decide +kernel
theorem d4_159 : decode method_5_code 159 = .ok (.iload_n 2, 1) := by decide +kernel
theorem d4_160 : decode method_5_code 160 = .ok (.iload_n 3, 1) := by decide +kernel
theorem d4_161 : decode method_5_code 161 = .ok (.invokestatic 65, 3) := by decide +kernel
theorem d4_164 : decode method_5_code 164 = .ok (.castore, 1) := by decide +kernel
theorem d4_165 : decode method_5_code 165 = .ok (.dup, 1) := by decide +kernel
theorem d4_166 : decode method_5_code 166 = .ok (.iconst 3, 1) := by decide +kernel
theorem d4_167 : decode method_5_code 167 = .ok (.iload_n 1, 1) := by decide +kernel
theorem d4_168 : decode method_5_code 168 = .ok (.iconst 3, 1) := by decide +kernel
theorem d4_169 : decode method_5_code 169 = .ok (.iload_n 2, 1) := by decide +kernel
theorem d4_170 : decode method_5_code 170 = .ok (.iload_n 3, 1) := by decide +kernel
theorem d4_171 : decode method_5_code 171 = .ok (.invokestatic 65, 3) := by decide +kernel
theorem d4_174 : decode method_5_code 174 = .ok (.castore, 1) := by decide +kernel
theorem d4_175 : decode method_5_code 175 = .ok (.invokespecial 62, 3) := by decide +kernel
theorem d4_178 : decode method_5_code 178 = .ok (.areturn, 1) := by decide +kernel
theorem ef_4_4 (m : MethodId) (p1 : Int32) (p2 : Int32) (p3 : Int32) : entryFrame m #[(.int (4 : Int32)), (.int p1), (.int p2), (.int p3)] 4 = mkF m 0 #[iv (4 : Int32), iv p1, iv p2, iv p3] [] := by first | (simp [entryFrame, mkF, argsToLocals, Value.category]; done) | rfl
def Q4_4 (Z : State) (p1 : Int32) (p2 : Int32) (p3 : Int32) (h0 : Heap) (n0 : Nat) (v : Option Value) (h : Heap) (L : List Loc) : Prop := ∃ (t : Addr) (tb : Addr) (kb : ClassId) (y0 : Int32) (y1 : Int32) (y2 : Int32) (y3 : Int32), v = some (.ref t) ∧ Fr n0 L ∧ Keep h0 h [] ∧ Exa Z h t "java/lang/String" ∧ Fld Z h t "java/lang/String" "coder" "B" (.int (0 : Int32)) ∧ Fld Z h t "java/lang/String" "value" "[B" (.ref tb) ∧ Arv Z h tb kb .byte (4 : Int32) [(.int y0), (.int y1), (.int y2), (.int y3)] (.int (0 : Int32)) ∧ n0 ≤ t
abbrev R4_4 : Room := ({ frames := 5, cells := 11, slots := 172, locals := 74 } : Room)
set_option maxRecDepth 65536 in
set_option maxHeartbeats 40000000 in
theorem rm4_4 (l : Launch) (Z : State) (ar : Array Value) (hw : ∀ d ∈ tables_1, d.before ar Z = true) (ws : List Jvm.Cond) (p1 : Int32) (p2 : Int32) (p3 : Int32) (h0 : Heap) (n0 : Nat) (O0 : Old Z n0 h0) (hEL : EW Z ar EL0) (HW : Wd Z w_z0 w_z1 w_z2 w_z3 w_z4 w_z5 w_z6 w_z7 w_z8 w_z9 w_z10 w_z11 k_z3 k_z7 k_z9 k_z11) (hcb : 0 ≤ p3.toInt ∧ p3.toInt ≤ 255) (hk4 : p1 = (0 : Int32) ∨ p1 = (1 : Int32) ∨ p1 = (2 : Int32) ∨ p1 = (3 : Int32)) :
    MetFree l y4 (head1 (Jvm.Cond.code y4 method_5_code 4 (some (.object "java/lang/String")) :: ws) R4_4) (fun a U => a = #[(.int (4 : Int32)), (.int p1), (.int p2), (.int p3)] ∧ Z.Warmed39 U.vm ∧ U.heap = h0 ∧ CHv Z EL0 U.vm h0) (fun _ _ _ _ _ => True) (fun _ U o U' => ∃ v L, o = .returned v ∧ Q4_4 Z p1 p2 p3 h0 n0 v U'.heap L ∧ CHr Z EL0 U.vm U.heap U'.vm U'.heap ∧ ReturnedEndW U o U' L R4_4.cells R4_4.slots) := by
 refine MetFree.of_bodySF (plainFor_of_name pn_3) hisR ?_
 intro p e s m args below meth c s₁ Bd hml0 hP hK
 obtain ⟨rfl, hZ, hh, hCH⟩ := hP
 have hx := Bd.exec
 have hby := Bd.bytes
 have hml : c.maxLocals = 4 := hml0
 have hown : s.vm.findClass "com/example/lease/lease/WorkerStateNamedPinLaw" = some m.cls := findClass_of_methodNamed Bd.named
 have hnm := (name_of_methodNamed Bd.named Bd.method).1
 have hlk : meth.locks = false := by first | assumption | exact BodyLoose.notSynchronized (by assumption) | exact Body.notSynchronized (by assumption)
 have X0 : Stand p l e R4_4 (s.setVm s.vm) m #[(.int (4 : Int32)), (.int p1), (.int p2), (.int p3)] below meth c s₁ [] 0 0 := Stand.of_body Bd
 have e0 : s₁.heap = h0 := by rw [← hh, Bd.state]; rfl
 have N0 := Fr.nil n0
 have Z0 : n0 ≤ h0.size := Nat.le_trans (Nat.le_of_eq O0.1.symm) O0.2.1
 obtain ⟨S0, hS0⟩ : ∃ z, z = s₁.setTop (entryFrame m #[(.int (4 : Int32)), (.int p1), (.int p2), (.int p3)] 4) := ⟨_, rfl⟩
 have pre0 : ∀ tg, AT p e below s₁ m 0 #[iv (4 : Int32), iv p1, iv p2, iv p3] [] tg → Steps p.tables e below S0 tg := fun tg kg => by rw [hS0]; exact castTop (ef_4_4 m p1 p2 p3) kg
 have hS : s.Since s.vm 0 := (State.WarmedH.refl s).since 0
 have hk : 0 ≤ h0.size := Nat.zero_le _
 have CR0 : CHr Z EL0 s.vm h0 s.vm h0 := CHr.refl hCH
 obtain ⟨S_q0, hz_w_z0, -, -, -, -, -, -, -, -, -, -, -, -, -, -, -, -, -, -, -, -, -, -, -, -, -, -⟩ := id HW
 obtain ⟨T1, h1, X1, e1, E1, A1, D1, -, st1⟩ := newO X0 hx hZ hown (ow hw 29 rfl) (ow hw 7 rfl) (ow hw 6 rfl) e0 (g := (mkF m 128 #[iv (4 : Int32), iv p1, iv p2, iv p3] [])) rfl (hb hby d4_128) (by decide) (by decide)
 obtain ⟨b1, g1⟩ : ∃ z, z = h0.size := ⟨_, rfl⟩
 rw [← g1] at A1 D1 st1
 have gn1 : n0 ≤ b1 := Nat.le_trans (Nat.le_trans (Nat.le_of_eq O0.1.symm) O0.2.1) (Nat.le_of_eq g1.symm)
 have sz1 : h0.size ≤ b1 := Nat.le_trans (Keep.refl h0 []).1 (Nat.le_of_eq g1.symm)
 have Sn1 : Safe Z EL0 s.vm h0 b1 := Safe.new (Nat.le_of_eq g1.symm)
 have K1 := (Keep.refl h0 []).ext E1
 have O1 := O0.ext E1
 have Sf1_b1 := Safe.ext E1 CR0.1 Sn1
 have CR1 : CHr Z EL0 s.vm h0 s.vm h1 := CR0.trans (CHr.ext E1 CR0.1)
 have hk := Nat.le_trans hk E1.1
 have F1_2 : Fld Z h1 b1 "java/lang/String" "value" "[B" .null := D1 (Or.inr (ow hw 9 rfl)) (ty := (.array .byte)) (by decide)
 have F1_3 : Fld Z h1 b1 "java/lang/String" "coder" "B" (.int (0 : Int32)) := D1 (Or.inr (ow hw 10 rfl)) (ty := .byte) (by decide)
 obtain ⟨T4, h4, k4, X4, e4, E4, A4, B4, st4⟩ := newPE X1 hx hZ (ow hw 30 rfl) e1 (g := (mkF m 133 #[iv (4 : Int32), iv p1, iv p2, iv p3] [(.int (4 : Int32)), (.ref b1), (.ref b1)])) rfl (hb hby d4_133) rfl (by decide) (cap := 4) (by decide) (by decide) (by decide) (by decide) (ad := "[C") (by decide)
 obtain ⟨b4, g4⟩ : ∃ z, z = h1.size := ⟨_, rfl⟩
 rw [← g4] at A4 B4 st4
 have ne4_5 : b1 ≠ b4 := Nat.ne_of_lt (Nat.lt_of_lt_of_le (A1).lt (Nat.le_of_eq g4.symm))
 have gn4 : n0 ≤ b4 := Nat.le_trans (Nat.le_trans (Nat.le_of_eq O1.1.symm) O1.2.1) (Nat.le_of_eq g4.symm)
 have sz4 : h0.size ≤ b4 := Nat.le_trans K1.1 (Nat.le_of_eq g4.symm)
 have Sn4 : Safe Z EL0 s.vm h1 b4 := Safe.new (Nat.le_of_eq g4.symm)
 have E4_6 := A1.ext E4
 have F4_7 := F1_2.ext E4
 have F4_8 := F1_3.ext E4
 have K4 := K1.ext E4
 have O4 := O1.ext E4
 have Sf4_b1 := Safe.ext E4 CR1.1 Sf1_b1
 have Sf4_b4 := Safe.ext E4 CR1.1 Sn4
 have CR4 : CHr Z EL0 s.vm h0 s.vm h4 := CR1.trans (CHr.ext E4 CR1.1)
 have hk := Nat.le_trans hk E4.1
 have V4_9 : Arv Z h4 b4 k4 .char (4 : Int32) [(.int (0 : Int32)), (.int (0 : Int32)), (.int (0 : Int32)), (.int (0 : Int32))] (.int (0 : Int32)) := (Arv.new A4 (by decide)).pad (pad_rep [] (.int (0 : Int32)) 4)
 have I10 : TI p l e R4_4 s m #[(.int (4 : Int32)), (.int p1), (.int p2), (.int p3)] below meth c Z h0 n0 b1 b4 k4 (4 : Int32) 4 s.vm T4 h4 _ ((0 + 1) + 1) ((0 + 4) + 4) _ := ⟨X4, e4, ⟨_, hS, hk⟩, hZ, hown, CR4, N0, K4, O4, E4_6, F4_7, F4_8, V4_9, B4, Sf4_b1, Sf4_b4, rfl⟩
 obtain ⟨r11, vm11, T11, h11, L11, u11, X11, I11, st11⟩ := turn hw hx hml hEL HW hcb hk4 ne4_5 gn4 sz4 (by decide) (by decide) I10 (i := (0 : Int32)) ⟨by decide, by decide⟩ 0 rfl (by decide) (4 : Int32) (P := 141) (hb hby d4_141) (hb hby d4_144) (by decide) (by decide)
 obtain ⟨r12, vm12, T12, h12, L12, u12, X12, I12, st12⟩ := turn hw hx hml hEL HW hcb hk4 ne4_5 gn4 sz4 (by decide) (by decide) I11 (i := (1 : Int32)) ⟨by decide, by decide⟩ 1 rfl (by decide) (4 : Int32) (P := 151) (hb hby d4_151) (hb hby d4_154) (by decide) (by decide)
 obtain ⟨r13, vm13, T13, h13, L13, u13, X13, I13, st13⟩ := turn hw hx hml hEL HW hcb hk4 ne4_5 gn4 sz4 (by decide) (by decide) I12 (i := (2 : Int32)) ⟨by decide, by decide⟩ 2 rfl (by decide) (4 : Int32) (P := 161) (hb hby d4_161) (hb hby d4_164) (by decide) (by decide)
 obtain ⟨r14, vm14, T14, h14, L14, u14, X14, I14, st14⟩ := turn hw hx hml hEL HW hcb hk4 ne4_5 gn4 sz4 (by decide) (by decide) I13 (i := (3 : Int32)) ⟨by decide, by decide⟩ 3 rfl (by decide) (4 : Int32) (P := 171) (hb hby d4_171) (hb hby d4_174) (by decide) (by decide)
 obtain ⟨-, e15, ⟨kk15, hS, hk⟩, hZ, hown, CR15, N15, K15, O15, i15_0, i15_1, i15_2, i15_3, i15_4, i15_5, i15_6, -⟩ := I14
 have V15_16 : Arv Z h14 b4 k4 .char (4 : Int32) [(.int (nar .char r11)), (.int (nar .char r12)), (.int (nar .char r13)), (.int (nar .char r14))] (.int (0 : Int32)) := i15_3
 obtain ⟨_, _, ⟨T17, L17, k17, n17⟩, -, X17, ⟨Lc17, hQ17, l17, y17, z17⟩, st17⟩ := X14.specialBack hx (y := y11) rfl hown (mvT hZ (ow hw 56 rfl)) (mvT hZ (ow hw 57 rfl)) (mvT hZ (ow hw 58 rfl)) (by decide) (StrChars.Road.backV (W := 1) hZ (own_ws hw) (ow hw 7 rfl) (cs := [(nar .char r11), (nar .char r12), (nar .char r13), (nar .char r14)]) (bs := [((nar .char r11).toInt8.toInt32), ((nar .char r12).toInt8.toInt32), ((nar .char r13).toInt8.toInt32), ((nar .char r14).toInt8.toInt32)]) (n := 4) gn1 (Nat.le_trans (Nat.le_of_eq O15.1.symm) O15.2.1) i15_0 i15_1 i15_2 V15_16 (S_q0.ext O15.2) hz_w_z0 rfl (by decide) (by decide) (by decide) (own_cc ⟨own_0 (own_ncr u11), own_255 (own_ncr u11)⟩ (own_cc ⟨own_0 (own_ncr u12), own_255 (own_ncr u12)⟩ (own_cc ⟨own_0 (own_ncr u13), own_255 (own_ncr u13)⟩ (own_cc ⟨own_0 (own_ncr u14), own_255 (own_ncr u14)⟩ own_cn)))) rfl (by decide) (by decide)) (g := (mkF m 175 #[iv (4 : Int32), iv p1, iv p2, iv p3] [(.ref b4), (.ref b1), (.ref b1)])) rfl (by rw [hml]; rfl) (Steps.refl _) (a := b1) (argsL := [(.ref b4)]) (rest := [(.ref b1)]) (lenOf pd_10 rfl) rfl (by show 2 * 0 + _ ≤ _; exact Nat.le_of_eq rfl) (hb hby d4_175) (fun _ _ => ⟨rfl, e15, (by decide : 10 + 1 ≤ _), (by decide : 168 + 4 ≤ _)⟩)
 dsimp only [Pt.U, Pt.locs, Pt.cells, Pt.slots] at X17 l17 y17 z17 st17 hQ17
 subst l17 y17 z17
 obtain ⟨rfl, N17q, Kq17, uE17, uC17, t17, kt17, -, tg17, tn17, uF17, uV17⟩ := hQ17
 have N17 := Fr.app N15 N17q
 have ne18 : b1 ≠ t17 := Nat.ne_of_lt (Nat.lt_of_lt_of_le (i15_0).lt tg17)
 have ne19 : b4 ≠ t17 := Nat.ne_of_lt (Nat.lt_of_lt_of_le (V15_16).lt tg17)
 have E17_20 := i15_0.keep Kq17
 have V17_21 := V15_16.keep Kq17 (ninS (Ne.symm ne4_5) nin0)
 have E17_22 := i15_4.keep Kq17
 have K17 := K15.trans Kq17 (allS (Or.inr sz1) all0)
 have O17 := O15.keep Kq17 (allS gn1 all0)
 have Sf17_b1 := Safe.keep Kq17 (allS i15_5 all0) CR15.1 i15_5
 have Sf17_b4 := Safe.keep Kq17 (allS i15_5 all0) CR15.1 i15_6
 have CR17 : CHr Z EL0 s.vm h0 vm14 T17.heap := CR15.trans (CHr.keep Kq17 (allS i15_5 all0) CR15.1)
 have hk := Nat.le_trans hk Kq17.1
 have sz17 : h0.size ≤ t17 := Nat.le_trans K15.1 tg17
 have gn17 : n0 ≤ t17 := Nat.le_trans (Nat.le_trans (Nat.le_of_eq O15.1.symm) O15.2.1) tg17
 have Sn17 : Safe Z EL0 vm14 T17.heap t17 := Safe.keep Kq17 (allS i15_5 all0) CR15.1 (Safe.new tg17)
 have uC17' : Fld Z T17.heap b1 "java/lang/String" "coder" "B" (.int (0 : Int32)) := uC17
 have uF17' : Fld Z T17.heap b1 "java/lang/String" "value" "[B" (.ref t17) := uF17
 have uV17' : Arv Z T17.heap t17 kt17 .byte (4 : Int32) [(.int ((nar .char r11).toInt8.toInt32)), (.int ((nar .char r12).toInt8.toInt32)), (.int ((nar .char r13).toInt8.toInt32)), (.int ((nar .char r14).toInt8.toInt32))] (.int (0 : Int32)) := uV17
 obtain ⟨fs, hr, hrun, hended, hRE⟩ := X17.leaveW hS hk (v := some (.ref b1)) (fun h => by rw [Bd.returns] at h; cases h)
 have CRf : CHr Z EL0 s.vm s.heap (T17.setFrames fs).vm (T17.setFrames fs).heap := by
   show CHr Z EL0 s.vm s.heap T17.vm T17.heap
   rw [hh]
   exact CR17.trans (CHv.at X17 hZ hEL CR17.1)
 subst hS0
 refine ⟨_, _, pre0 _ ?_, hrun, hended, _, _, rfl, ?_, CRf, hRE.1, hRE.2.1, hRE.2.2.1, hRE.2.2.2.mono (by decide) (by decide)⟩
 ·
  refine XS.iloadN X0.here hx rfl (hb hby d4_0) rfl ?_
  show AT p e below s₁ m 1 #[iv (4 : Int32), iv p1, iv p2, iv p3] [(.int (4 : Int32))] _
  refine XS.ifYes X0.here hx rfl (pc0 := 1) (pc' := 15) rfl (hb hby d4_1) rfl (XT.i0_ne_t ((by decide) : ¬ ((4 : Int32) = (0 : Int32)))) (by decide) (by decide) ?_
  refine XS.iloadN X0.here hx rfl (hb hby d4_15) rfl ?_
  refine XS.iconst X0.here hx rfl (hb hby d4_16) ?_
  show AT p e below s₁ m 17 #[iv (4 : Int32), iv p1, iv p2, iv p3] [(.int (1 : Int32)), (.int (4 : Int32))] _
  refine XS.icmpYes X0.here hx rfl (pc0 := 17) (pc' := 41) rfl (hb hby d4_17) rfl (XT.ii_ne_t ((by decide) : ¬ ((4 : Int32) = (1 : Int32)))) (by decide) (by decide) ?_
  refine XS.iloadN X0.here hx rfl (hb hby d4_41) rfl ?_
  refine XS.iconst X0.here hx rfl (hb hby d4_42) ?_
  show AT p e below s₁ m 43 #[iv (4 : Int32), iv p1, iv p2, iv p3] [(.int (2 : Int32)), (.int (4 : Int32))] _
  refine XS.icmpYes X0.here hx rfl (pc0 := 43) (pc' := 77) rfl (hb hby d4_43) rfl (XT.ii_ne_t ((by decide) : ¬ ((4 : Int32) = (2 : Int32)))) (by decide) (by decide) ?_
  refine XS.iloadN X0.here hx rfl (hb hby d4_77) rfl ?_
  refine XS.iconst X0.here hx rfl (hb hby d4_78) ?_
  show AT p e below s₁ m 79 #[iv (4 : Int32), iv p1, iv p2, iv p3] [(.int (3 : Int32)), (.int (4 : Int32))] _
  refine XS.icmpYes X0.here hx rfl (pc0 := 79) (pc' := 123) rfl (hb hby d4_79) rfl (XT.ii_ne_t ((by decide) : ¬ ((4 : Int32) = (3 : Int32)))) (by decide) (by decide) ?_
  refine XS.iloadN X0.here hx rfl (hb hby d4_123) rfl ?_
  refine XS.iconst X0.here hx rfl (hb hby d4_124) ?_
  show AT p e below s₁ m 125 #[iv (4 : Int32), iv p1, iv p2, iv p3] [(.int (4 : Int32)), (.int (4 : Int32))] _
  refine XS.icmpNo X0.here hx rfl (hb hby d4_125) rfl (XT.ii_ne_f ((by decide) : (4 : Int32) = (4 : Int32))) ?_
  refine st1 _ ?_
  refine XS.dup X1.here hx rfl (hb hby d4_131) rfl rfl ?_
  refine XS.iconst X1.here hx rfl (hb hby d4_132) ?_
  refine st4 _ ?_
  refine XS.dup X4.here hx rfl (hb hby d4_135) rfl rfl ?_
  refine XS.iconst X4.here hx rfl (hb hby d4_136) ?_
  refine XS.iloadN X4.here hx rfl (hb hby d4_137) rfl ?_
  refine XS.iconst X4.here hx rfl (hb hby d4_138) ?_
  refine XS.iloadN X4.here hx rfl (hb hby d4_139) rfl ?_
  refine XS.iloadN X4.here hx rfl (hb hby d4_140) rfl ?_
  refine st11 _ ?_
  refine XS.dup X11.here hx rfl (hb hby d4_145) rfl rfl ?_
  refine XS.iconst X11.here hx rfl (hb hby d4_146) ?_
  refine XS.iloadN X11.here hx rfl (hb hby d4_147) rfl ?_
  refine XS.iconst X11.here hx rfl (hb hby d4_148) ?_
  refine XS.iloadN X11.here hx rfl (hb hby d4_149) rfl ?_
  refine XS.iloadN X11.here hx rfl (hb hby d4_150) rfl ?_
  refine st12 _ ?_
  refine XS.dup X12.here hx rfl (hb hby d4_155) rfl rfl ?_
  refine XS.iconst X12.here hx rfl (hb hby d4_156) ?_
  refine XS.iloadN X12.here hx rfl (hb hby d4_157) rfl ?_
  show AT p e below T12 m 158 #[iv (4 : Int32), iv p1, iv p2, iv p3] [(.int p1), (.int (2 : Int32)), (.ref b4), (.ref b4), (.ref b1), (.ref b1)] _
  refine XS.iconst X12.here hx rfl (hb hby d4_158) ?_
  refine XS.iloadN X12.here hx rfl (hb hby d4_159) rfl ?_
  refine XS.iloadN X12.here hx rfl (hb hby d4_160) rfl ?_
  refine st13 _ ?_
  refine XS.dup X13.here hx rfl (hb hby d4_165) rfl rfl ?_
  refine XS.iconst X13.here hx rfl (hb hby d4_166) ?_
  refine XS.iloadN X13.here hx rfl (hb hby d4_167) rfl ?_
  refine XS.iconst X13.here hx rfl (hb hby d4_168) ?_
  refine XS.iloadN X13.here hx rfl (hb hby d4_169) rfl ?_
  refine XS.iloadN X13.here hx rfl (hb hby d4_170) rfl ?_
  refine st14 _ ?_
  refine st17.trans ?_
  exact retOut X17 hx (t := (.object "java/lang/String")) (i := .areturn) Bd.returns rfl (Or.inr (Or.inr (Or.inr (Or.inr ⟨rfl, rfl, rfl⟩)))) (hb hby d4_178) hr
 ·
  show Q4_4 Z p1 p2 p3 h0 n0 _ T17.heap _
  exact ⟨b1, t17, kt17, ((nar .char r11).toInt8.toInt32), ((nar .char r12).toInt8.toInt32), ((nar .char r13).toInt8.toInt32), ((nar .char r14).toInt8.toInt32), rfl, N17, K17, E17_20, uC17', uF17', uV17', gn1⟩

theorem d4_179 : decode method_5_code 179 = .ok (.iload_n 0, 1) := by decide +kernel
theorem d4_180 : decode method_5_code 180 = .ok (.iconst 5, 1) := by decide +kernel
theorem d4_181 : decode method_5_code 181 = .ok (.if_icmp .ne 64, 3) := by decide +kernel
theorem d4_184 : decode method_5_code 184 = .ok (.new 15, 3) := by decide +kernel
theorem d4_187 : decode method_5_code 187 = .ok (.dup, 1) := by decide +kernel
theorem d4_188 : decode method_5_code 188 = .ok (.iconst 5, 1) := by decide +kernel
theorem d4_189 : decode method_5_code 189 = .ok (.newarray .char, 2) := by decide +kernel
theorem d4_191 : decode method_5_code 191 = .ok (.dup, 1) := by decide +kernel
theorem d4_192 : decode method_5_code 192 = .ok (.iconst 0, 1) := by decide +kernel
theorem d4_193 : decode method_5_code 193 = .ok (.iload_n 1, 1) := by decide +kernel
theorem d4_194 : decode method_5_code 194 = .ok (.iconst 0, 1) := by decide +kernel
theorem d4_195 : decode method_5_code 195 = .ok (.iload_n 2, 1) := by decide +kernel
theorem d4_196 : decode method_5_code 196 = .ok (.iload_n 3, 1) := by decide +kernel
theorem d4_197 : decode method_5_code 197 = .ok (.invokestatic 65, 3) := by decide +kernel
theorem d4_200 : decode method_5_code 200 = .ok (.castore, 1) := by decide +kernel
theorem d4_201 : decode method_5_code 201 = .ok (.dup, 1) := by decide +kernel
theorem d4_202 : decode method_5_code 202 = .ok (.iconst 1, 1) := by decide +kernel
theorem d4_203 : decode method_5_code 203 = .ok (.iload_n 1, 1) := by decide +kernel
theorem d4_204 : decode method_5_code 204 = .ok (.iconst 1, 1) := by decide +kernel
theorem d4_205 : decode method_5_code 205 = .ok (.iload_n 2, 1) := by decide +kernel
theorem d4_206 : decode method_5_code 206 = .ok (.iload_n 3, 1) := by decide +kernel
theorem d4_207 : decode method_5_code 207 = .ok (.invokestatic 65, 3) := by decide +kernel
theorem d4_210 : decode method_5_code 210 = .ok (.castore, 1) := by decide +kernel
theorem d4_211 : decode method_5_code 211 = .ok (.dup, 1) := by decide +kernel
theorem d4_212 : decode method_5_code 212 = .ok (.iconst 2, 1) := by decide +kernel
theorem d4_213 : decode method_5_code 213 = .ok (.iload_n 1, 1) := by decide +kernel
theorem d4_214 : decode method_5_code 214 = .ok (.iconst 2, 1) := by decide +kernel
theorem d4_215 : decode method_5_code 215 = .ok (.iload_n 2, 1) := by decide +kernel
theorem d4_216 : decode method_5_code 216 = .ok (.iload_n 3, 1) := by decide +kernel
theorem d4_217 : decode method_5_code 217 = .ok (.invokestatic 65, 3) := by decide +kernel
theorem d4_220 : decode method_5_code 220 = .ok (.castore, 1) := by decide +kernel
theorem d4_221 : decode method_5_code 221 = .ok (.dup, 1) := by decide +kernel
theorem d4_222 : decode method_5_code 222 = .ok (.iconst 3, 1) := by decide +kernel
theorem d4_223 : decode method_5_code 223 = .ok (.iload_n 1, 1) := by decide +kernel
theorem d4_224 : decode method_5_code 224 = .ok (.iconst 3, 1) := by decide +kernel
theorem d4_225 : decode method_5_code 225 = .ok (.iload_n 2, 1) := by decide +kernel
theorem d4_226 : decode method_5_code 226 = .ok (.iload_n 3, 1) := by decide +kernel
theorem d4_227 : decode method_5_code 227 = .ok (.invokestatic 65, 3) := by decide +kernel
theorem d4_230 : decode method_5_code 230 = .ok (.castore, 1) := by decide +kernel
theorem d4_231 : decode method_5_code 231 = .ok (.dup, 1) := by decide +kernel
theorem d4_232 : decode method_5_code 232 = .ok (.iconst 4, 1) := by decide +kernel
theorem d4_233 : decode method_5_code 233 = .ok (.iload_n 1, 1) := by decide +kernel
theorem d4_234 : decode method_5_code 234 = .ok (.iconst 4, 1) := by decide +kernel
theorem d4_235 : decode method_5_code 235 = .ok (.iload_n 2, 1) := by decide +kernel
theorem d4_236 : decode method_5_code 236 = .ok (.iload_n 3, 1) := by decide +kernel
theorem d4_237 : decode method_5_code 237 = .ok (.invokestatic 65, 3) := by decide +kernel
theorem d4_240 : decode method_5_code 240 = .ok (.castore, 1) := by decide +kernel
theorem d4_241 : decode method_5_code 241 = .ok (.invokespecial 62, 3) := by decide +kernel
theorem d4_244 : decode method_5_code 244 = .ok (.areturn, 1) := by decide +kernel
theorem ef_4_5 (m : MethodId) (p1 : Int32) (p2 : Int32) (p3 : Int32) : entryFrame m #[(.int (5 : Int32)), (.int p1), (.int p2), (.int p3)] 4 = mkF m 0 #[iv (5 : Int32), iv p1, iv p2, iv p3] [] := by first | (simp [entryFrame, mkF, argsToLocals, Value.category]; done) | rfl
def Q4_5 (Z : State) (p1 : Int32) (p2 : Int32) (p3 : Int32) (h0 : Heap) (n0 : Nat) (v : Option Value) (h : Heap) (L : List Loc) : Prop := ∃ (t : Addr) (tb : Addr) (kb : ClassId) (y0 : Int32) (y1 : Int32) (y2 : Int32) (y3 : Int32) (y4 : Int32), v = some (.ref t) ∧ Fr n0 L ∧ Keep h0 h [] ∧ Exa Z h t "java/lang/String" ∧ Fld Z h t "java/lang/String" "coder" "B" (.int (0 : Int32)) ∧ Fld Z h t "java/lang/String" "value" "[B" (.ref tb) ∧ Arv Z h tb kb .byte (5 : Int32) [(.int y0), (.int y1), (.int y2), (.int y3), (.int y4)] (.int (0 : Int32)) ∧ n0 ≤ t
abbrev R4_5 : Room := ({ frames := 5, cells := 13, slots := 214, locals := 74 } : Room)
set_option maxRecDepth 65536 in
set_option maxHeartbeats 40000000 in
theorem rm4_5 (l : Launch) (Z : State) (ar : Array Value) (hw : ∀ d ∈ tables_1, d.before ar Z = true) (ws : List Jvm.Cond) (p1 : Int32) (p2 : Int32) (p3 : Int32) (h0 : Heap) (n0 : Nat) (O0 : Old Z n0 h0) (hEL : EW Z ar EL0) (HW : Wd Z w_z0 w_z1 w_z2 w_z3 w_z4 w_z5 w_z6 w_z7 w_z8 w_z9 w_z10 w_z11 k_z3 k_z7 k_z9 k_z11) (hcb : 0 ≤ p3.toInt ∧ p3.toInt ≤ 255) (hk4 : p1 = (0 : Int32) ∨ p1 = (1 : Int32) ∨ p1 = (2 : Int32) ∨ p1 = (3 : Int32)) :
    MetFree l y4 (head1 (Jvm.Cond.code y4 method_5_code 4 (some (.object "java/lang/String")) :: ws) R4_5) (fun a U => a = #[(.int (5 : Int32)), (.int p1), (.int p2), (.int p3)] ∧ Z.Warmed39 U.vm ∧ U.heap = h0 ∧ CHv Z EL0 U.vm h0) (fun _ _ _ _ _ => True) (fun _ U o U' => ∃ v L, o = .returned v ∧ Q4_5 Z p1 p2 p3 h0 n0 v U'.heap L ∧ CHr Z EL0 U.vm U.heap U'.vm U'.heap ∧ ReturnedEndW U o U' L R4_5.cells R4_5.slots) := by
 refine MetFree.of_bodySF (plainFor_of_name pn_3) hisR ?_
 intro p e s m args below meth c s₁ Bd hml0 hP hK
 obtain ⟨rfl, hZ, hh, hCH⟩ := hP
 have hx := Bd.exec
 have hby := Bd.bytes
 have hml : c.maxLocals = 4 := hml0
 have hown : s.vm.findClass "com/example/lease/lease/WorkerStateNamedPinLaw" = some m.cls := findClass_of_methodNamed Bd.named
 have hnm := (name_of_methodNamed Bd.named Bd.method).1
 have hlk : meth.locks = false := by first | assumption | exact BodyLoose.notSynchronized (by assumption) | exact Body.notSynchronized (by assumption)
 have X0 : Stand p l e R4_5 (s.setVm s.vm) m #[(.int (5 : Int32)), (.int p1), (.int p2), (.int p3)] below meth c s₁ [] 0 0 := Stand.of_body Bd
 have e0 : s₁.heap = h0 := by rw [← hh, Bd.state]; rfl
 have N0 := Fr.nil n0
 have Z0 : n0 ≤ h0.size := Nat.le_trans (Nat.le_of_eq O0.1.symm) O0.2.1
 obtain ⟨S0, hS0⟩ : ∃ z, z = s₁.setTop (entryFrame m #[(.int (5 : Int32)), (.int p1), (.int p2), (.int p3)] 4) := ⟨_, rfl⟩
 have pre0 : ∀ tg, AT p e below s₁ m 0 #[iv (5 : Int32), iv p1, iv p2, iv p3] [] tg → Steps p.tables e below S0 tg := fun tg kg => by rw [hS0]; exact castTop (ef_4_5 m p1 p2 p3) kg
 have hS : s.Since s.vm 0 := (State.WarmedH.refl s).since 0
 have hk : 0 ≤ h0.size := Nat.zero_le _
 have CR0 : CHr Z EL0 s.vm h0 s.vm h0 := CHr.refl hCH
 obtain ⟨S_q0, hz_w_z0, -, -, -, -, -, -, -, -, -, -, -, -, -, -, -, -, -, -, -, -, -, -, -, -, -, -⟩ := id HW
 obtain ⟨T1, h1, X1, e1, E1, A1, D1, -, st1⟩ := newO X0 hx hZ hown (ow hw 29 rfl) (ow hw 7 rfl) (ow hw 6 rfl) e0 (g := (mkF m 184 #[iv (5 : Int32), iv p1, iv p2, iv p3] [])) rfl (hb hby d4_184) (by decide) (by decide)
 obtain ⟨b1, g1⟩ : ∃ z, z = h0.size := ⟨_, rfl⟩
 rw [← g1] at A1 D1 st1
 have gn1 : n0 ≤ b1 := Nat.le_trans (Nat.le_trans (Nat.le_of_eq O0.1.symm) O0.2.1) (Nat.le_of_eq g1.symm)
 have sz1 : h0.size ≤ b1 := Nat.le_trans (Keep.refl h0 []).1 (Nat.le_of_eq g1.symm)
 have Sn1 : Safe Z EL0 s.vm h0 b1 := Safe.new (Nat.le_of_eq g1.symm)
 have K1 := (Keep.refl h0 []).ext E1
 have O1 := O0.ext E1
 have Sf1_b1 := Safe.ext E1 CR0.1 Sn1
 have CR1 : CHr Z EL0 s.vm h0 s.vm h1 := CR0.trans (CHr.ext E1 CR0.1)
 have hk := Nat.le_trans hk E1.1
 have F1_2 : Fld Z h1 b1 "java/lang/String" "value" "[B" .null := D1 (Or.inr (ow hw 9 rfl)) (ty := (.array .byte)) (by decide)
 have F1_3 : Fld Z h1 b1 "java/lang/String" "coder" "B" (.int (0 : Int32)) := D1 (Or.inr (ow hw 10 rfl)) (ty := .byte) (by decide)
 obtain ⟨T4, h4, k4, X4, e4, E4, A4, B4, st4⟩ := newPE X1 hx hZ (ow hw 30 rfl) e1 (g := (mkF m 189 #[iv (5 : Int32), iv p1, iv p2, iv p3] [(.int (5 : Int32)), (.ref b1), (.ref b1)])) rfl (hb hby d4_189) rfl (by decide) (cap := 5) (by decide) (by decide) (by decide) (by decide) (ad := "[C") (by decide)
 obtain ⟨b4, g4⟩ : ∃ z, z = h1.size := ⟨_, rfl⟩
 rw [← g4] at A4 B4 st4
 have ne4_5 : b1 ≠ b4 := Nat.ne_of_lt (Nat.lt_of_lt_of_le (A1).lt (Nat.le_of_eq g4.symm))
 have gn4 : n0 ≤ b4 := Nat.le_trans (Nat.le_trans (Nat.le_of_eq O1.1.symm) O1.2.1) (Nat.le_of_eq g4.symm)
 have sz4 : h0.size ≤ b4 := Nat.le_trans K1.1 (Nat.le_of_eq g4.symm)
 have Sn4 : Safe Z EL0 s.vm h1 b4 := Safe.new (Nat.le_of_eq g4.symm)
 have E4_6 := A1.ext E4
 have F4_7 := F1_2.ext E4
 have F4_8 := F1_3.ext E4
 have K4 := K1.ext E4
 have O4 := O1.ext E4
 have Sf4_b1 := Safe.ext E4 CR1.1 Sf1_b1
 have Sf4_b4 := Safe.ext E4 CR1.1 Sn4
 have CR4 : CHr Z EL0 s.vm h0 s.vm h4 := CR1.trans (CHr.ext E4 CR1.1)
 have hk := Nat.le_trans hk E4.1
 have V4_9 : Arv Z h4 b4 k4 .char (5 : Int32) [(.int (0 : Int32)), (.int (0 : Int32)), (.int (0 : Int32)), (.int (0 : Int32)), (.int (0 : Int32))] (.int (0 : Int32)) := (Arv.new A4 (by decide)).pad (pad_rep [] (.int (0 : Int32)) 5)
 have I10 : TI p l e R4_5 s m #[(.int (5 : Int32)), (.int p1), (.int p2), (.int p3)] below meth c Z h0 n0 b1 b4 k4 (5 : Int32) 5 s.vm T4 h4 _ ((0 + 1) + 1) ((0 + 4) + 5) _ := ⟨X4, e4, ⟨_, hS, hk⟩, hZ, hown, CR4, N0, K4, O4, E4_6, F4_7, F4_8, V4_9, B4, Sf4_b1, Sf4_b4, rfl⟩
 obtain ⟨r11, vm11, T11, h11, L11, u11, X11, I11, st11⟩ := turn hw hx hml hEL HW hcb hk4 ne4_5 gn4 sz4 (by decide) (by decide) I10 (i := (0 : Int32)) ⟨by decide, by decide⟩ 0 rfl (by decide) (5 : Int32) (P := 197) (hb hby d4_197) (hb hby d4_200) (by decide) (by decide)
 obtain ⟨r12, vm12, T12, h12, L12, u12, X12, I12, st12⟩ := turn hw hx hml hEL HW hcb hk4 ne4_5 gn4 sz4 (by decide) (by decide) I11 (i := (1 : Int32)) ⟨by decide, by decide⟩ 1 rfl (by decide) (5 : Int32) (P := 207) (hb hby d4_207) (hb hby d4_210) (by decide) (by decide)
 obtain ⟨r13, vm13, T13, h13, L13, u13, X13, I13, st13⟩ := turn hw hx hml hEL HW hcb hk4 ne4_5 gn4 sz4 (by decide) (by decide) I12 (i := (2 : Int32)) ⟨by decide, by decide⟩ 2 rfl (by decide) (5 : Int32) (P := 217) (hb hby d4_217) (hb hby d4_220) (by decide) (by decide)
 obtain ⟨r14, vm14, T14, h14, L14, u14, X14, I14, st14⟩ := turn hw hx hml hEL HW hcb hk4 ne4_5 gn4 sz4 (by decide) (by decide) I13 (i := (3 : Int32)) ⟨by decide, by decide⟩ 3 rfl (by decide) (5 : Int32) (P := 227) (hb hby d4_227) (hb hby d4_230) (by decide) (by decide)
 obtain ⟨r15, vm15, T15, h15, L15, u15, X15, I15, st15⟩ := turn hw hx hml hEL HW hcb hk4 ne4_5 gn4 sz4 (by decide) (by decide) I14 (i := (4 : Int32)) ⟨by decide, by decide⟩ 4 rfl (by decide) (5 : Int32) (P := 237) (hb hby d4_237) (hb hby d4_240) (by decide) (by decide)
 obtain ⟨-, e16, ⟨kk16, hS, hk⟩, hZ, hown, CR16, N16, K16, O16, i16_0, i16_1, i16_2, i16_3, i16_4, i16_5, i16_6, -⟩ := I15
 have V16_17 : Arv Z h15 b4 k4 .char (5 : Int32) [(.int (nar .char r11)), (.int (nar .char r12)), (.int (nar .char r13)), (.int (nar .char r14)), (.int (nar .char r15))] (.int (0 : Int32)) := i16_3
 obtain ⟨_, _, ⟨T18, L18, k18, n18⟩, -, X18, ⟨Lc18, hQ18, l18, y18, z18⟩, st18⟩ := X15.specialBack hx (y := y11) rfl hown (mvT hZ (ow hw 56 rfl)) (mvT hZ (ow hw 57 rfl)) (mvT hZ (ow hw 58 rfl)) (by decide) (StrChars.Road.backV (W := 1) hZ (own_ws hw) (ow hw 7 rfl) (cs := [(nar .char r11), (nar .char r12), (nar .char r13), (nar .char r14), (nar .char r15)]) (bs := [((nar .char r11).toInt8.toInt32), ((nar .char r12).toInt8.toInt32), ((nar .char r13).toInt8.toInt32), ((nar .char r14).toInt8.toInt32), ((nar .char r15).toInt8.toInt32)]) (n := 5) gn1 (Nat.le_trans (Nat.le_of_eq O16.1.symm) O16.2.1) i16_0 i16_1 i16_2 V16_17 (S_q0.ext O16.2) hz_w_z0 rfl (by decide) (by decide) (by decide) (own_cc ⟨own_0 (own_ncr u11), own_255 (own_ncr u11)⟩ (own_cc ⟨own_0 (own_ncr u12), own_255 (own_ncr u12)⟩ (own_cc ⟨own_0 (own_ncr u13), own_255 (own_ncr u13)⟩ (own_cc ⟨own_0 (own_ncr u14), own_255 (own_ncr u14)⟩ (own_cc ⟨own_0 (own_ncr u15), own_255 (own_ncr u15)⟩ own_cn))))) rfl (by decide) (by decide)) (g := (mkF m 241 #[iv (5 : Int32), iv p1, iv p2, iv p3] [(.ref b4), (.ref b1), (.ref b1)])) rfl (by rw [hml]; rfl) (Steps.refl _) (a := b1) (argsL := [(.ref b4)]) (rest := [(.ref b1)]) (lenOf pd_10 rfl) rfl (by show 2 * 0 + _ ≤ _; exact Nat.le_of_eq rfl) (hb hby d4_241) (fun _ _ => ⟨rfl, e16, (by decide : 12 + 1 ≤ _), (by decide : 209 + 5 ≤ _)⟩)
 dsimp only [Pt.U, Pt.locs, Pt.cells, Pt.slots] at X18 l18 y18 z18 st18 hQ18
 subst l18 y18 z18
 obtain ⟨rfl, N18q, Kq18, uE18, uC18, t18, kt18, -, tg18, tn18, uF18, uV18⟩ := hQ18
 have N18 := Fr.app N16 N18q
 have ne19 : b1 ≠ t18 := Nat.ne_of_lt (Nat.lt_of_lt_of_le (i16_0).lt tg18)
 have ne20 : b4 ≠ t18 := Nat.ne_of_lt (Nat.lt_of_lt_of_le (V16_17).lt tg18)
 have E18_21 := i16_0.keep Kq18
 have V18_22 := V16_17.keep Kq18 (ninS (Ne.symm ne4_5) nin0)
 have E18_23 := i16_4.keep Kq18
 have K18 := K16.trans Kq18 (allS (Or.inr sz1) all0)
 have O18 := O16.keep Kq18 (allS gn1 all0)
 have Sf18_b1 := Safe.keep Kq18 (allS i16_5 all0) CR16.1 i16_5
 have Sf18_b4 := Safe.keep Kq18 (allS i16_5 all0) CR16.1 i16_6
 have CR18 : CHr Z EL0 s.vm h0 vm15 T18.heap := CR16.trans (CHr.keep Kq18 (allS i16_5 all0) CR16.1)
 have hk := Nat.le_trans hk Kq18.1
 have sz18 : h0.size ≤ t18 := Nat.le_trans K16.1 tg18
 have gn18 : n0 ≤ t18 := Nat.le_trans (Nat.le_trans (Nat.le_of_eq O16.1.symm) O16.2.1) tg18
 have Sn18 : Safe Z EL0 vm15 T18.heap t18 := Safe.keep Kq18 (allS i16_5 all0) CR16.1 (Safe.new tg18)
 have uC18' : Fld Z T18.heap b1 "java/lang/String" "coder" "B" (.int (0 : Int32)) := uC18
 have uF18' : Fld Z T18.heap b1 "java/lang/String" "value" "[B" (.ref t18) := uF18
 have uV18' : Arv Z T18.heap t18 kt18 .byte (5 : Int32) [(.int ((nar .char r11).toInt8.toInt32)), (.int ((nar .char r12).toInt8.toInt32)), (.int ((nar .char r13).toInt8.toInt32)), (.int ((nar .char r14).toInt8.toInt32)), (.int ((nar .char r15).toInt8.toInt32))] (.int (0 : Int32)) := uV18
 obtain ⟨fs, hr, hrun, hended, hRE⟩ := X18.leaveW hS hk (v := some (.ref b1)) (fun h => by rw [Bd.returns] at h; cases h)
 have CRf : CHr Z EL0 s.vm s.heap (T18.setFrames fs).vm (T18.setFrames fs).heap := by
   show CHr Z EL0 s.vm s.heap T18.vm T18.heap
   rw [hh]
   exact CR18.trans (CHv.at X18 hZ hEL CR18.1)
 subst hS0
 refine ⟨_, _, pre0 _ ?_, hrun, hended, _, _, rfl, ?_, CRf, hRE.1, hRE.2.1, hRE.2.2.1, hRE.2.2.2.mono (by decide) (by decide)⟩
 ·
  refine XS.iloadN X0.here hx rfl (hb hby d4_0) rfl ?_
  show AT p e below s₁ m 1 #[iv (5 : Int32), iv p1, iv p2, iv p3] [(.int (5 : Int32))] _
  refine XS.ifYes X0.here hx rfl (pc0 := 1) (pc' := 15) rfl (hb hby d4_1) rfl (XT.i0_ne_t ((by decide) : ¬ ((5 : Int32) = (0 : Int32)))) (by decide) (by decide) ?_
  refine XS.iloadN X0.here hx rfl (hb hby d4_15) rfl ?_
  refine XS.iconst X0.here hx rfl (hb hby d4_16) ?_
  show AT p e below s₁ m 17 #[iv (5 : Int32), iv p1, iv p2, iv p3] [(.int (1 : Int32)), (.int (5 : Int32))] _
  refine XS.icmpYes X0.here hx rfl (pc0 := 17) (pc' := 41) rfl (hb hby d4_17) rfl (XT.ii_ne_t ((by decide) : ¬ ((5 : Int32) = (1 : Int32)))) (by decide) (by decide) ?_
  refine XS.iloadN X0.here hx rfl (hb hby d4_41) rfl ?_
  refine XS.iconst X0.here hx rfl (hb hby d4_42) ?_
  show AT p e below s₁ m 43 #[iv (5 : Int32), iv p1, iv p2, iv p3] [(.int (2 : Int32)), (.int (5 : Int32))] _
  refine XS.icmpYes X0.here hx rfl (pc0 := 43) (pc' := 77) rfl (hb hby d4_43) rfl (XT.ii_ne_t ((by decide) : ¬ ((5 : Int32) = (2 : Int32)))) (by decide) (by decide) ?_
  refine XS.iloadN X0.here hx rfl (hb hby d4_77) rfl ?_
  refine XS.iconst X0.here hx rfl (hb hby d4_78) ?_
  show AT p e below s₁ m 79 #[iv (5 : Int32), iv p1, iv p2, iv p3] [(.int (3 : Int32)), (.int (5 : Int32))] _
  refine XS.icmpYes X0.here hx rfl (pc0 := 79) (pc' := 123) rfl (hb hby d4_79) rfl (XT.ii_ne_t ((by decide) : ¬ ((5 : Int32) = (3 : Int32)))) (by decide) (by decide) ?_
  refine XS.iloadN X0.here hx rfl (hb hby d4_123) rfl ?_
  refine XS.iconst X0.here hx rfl (hb hby d4_124) ?_
  show AT p e below s₁ m 125 #[iv (5 : Int32), iv p1, iv p2, iv p3] [(.int (4 : Int32)), (.int (5 : Int32))] _
  refine XS.icmpYes X0.here hx rfl (pc0 := 125) (pc' := 179) rfl (hb hby d4_125) rfl (XT.ii_ne_t ((by decide) : ¬ ((5 : Int32) = (4 : Int32)))) (by decide) (by decide) ?_
  refine XS.iloadN X0.here hx rfl (hb hby d4_179) rfl ?_
  refine XS.iconst X0.here hx rfl (hb hby d4_180) ?_
  show AT p e below s₁ m 181 #[iv (5 : Int32), iv p1, iv p2, iv p3] [(.int (5 : Int32)), (.int (5 : Int32))] _
  refine XS.icmpNo X0.here hx rfl (hb hby d4_181) rfl (XT.ii_ne_f ((by decide) : (5 : Int32) = (5 : Int32))) ?_
  refine st1 _ ?_
  refine XS.dup X1.here hx rfl (hb hby d4_187) rfl rfl ?_
  refine XS.iconst X1.here hx rfl (hb hby d4_188) ?_
  refine st4 _ ?_
  refine XS.dup X4.here hx rfl (hb hby d4_191) rfl rfl ?_
  refine XS.iconst X4.here hx rfl (hb hby d4_192) ?_
  refine XS.iloadN X4.here hx rfl (hb hby d4_193) rfl ?_
  refine XS.iconst X4.here hx rfl (hb hby d4_194) ?_
  refine XS.iloadN X4.here hx rfl (hb hby d4_195) rfl ?_
  refine XS.iloadN X4.here hx rfl (hb hby d4_196) rfl ?_
  refine st11 _ ?_
  refine XS.dup X11.here hx rfl (hb hby d4_201) rfl rfl ?_
  refine XS.iconst X11.here hx rfl (hb hby d4_202) ?_
  refine XS.iloadN X11.here hx rfl (hb hby d4_203) rfl ?_
  refine XS.iconst X11.here hx rfl (hb hby d4_204) ?_
  refine XS.iloadN X11.here hx rfl (hb hby d4_205) rfl ?_
  refine XS.iloadN X11.here hx rfl (hb hby d4_206) rfl ?_
  refine st12 _ ?_
  refine XS.dup X12.here hx rfl (hb hby d4_211) rfl rfl ?_
  show AT p e below T12 m 212 #[iv (5 : Int32), iv p1, iv p2, iv p3] [(.ref b4), (.ref b4), (.ref b1), (.ref b1)] _
  refine XS.iconst X12.here hx rfl (hb hby d4_212) ?_
  refine XS.iloadN X12.here hx rfl (hb hby d4_213) rfl ?_
  refine XS.iconst X12.here hx rfl (hb hby d4_214) ?_
  refine XS.iloadN X12.here hx rfl (hb hby d4_215) rfl ?_
  refine XS.iloadN X12.here hx rfl (hb hby d4_216) rfl ?_
  refine st13 _ ?_
  refine XS.dup X13.here hx rfl (hb hby d4_221) rfl rfl ?_
  refine XS.iconst X13.here hx rfl (hb hby d4_222) ?_
  refine XS.iloadN X13.here hx rfl (hb hby d4_223) rfl ?_
  refine XS.iconst X13.here hx rfl (hb hby d4_224) ?_
  refine XS.iloadN X13.here hx rfl (hb hby d4_225) rfl ?_
  refine XS.iloadN X13.here hx rfl (hb hby d4_226) rfl ?_
  refine st14 _ ?_
  refine XS.dup X14.here hx rfl (hb hby d4_231) rfl rfl ?_
  refine XS.iconst X14.here hx rfl (hb hby d4_232) ?_
  refine XS.iloadN X14.here hx rfl (hb hby d4_233) rfl ?_
  refine XS.iconst X14.here hx rfl (hb hby d4_234) ?_
  refine XS.iloadN X14.here hx rfl (hb hby d4_235) rfl ?_
  refine XS.iloadN X14.here hx rfl (hb hby d4_236) rfl ?_
  refine st15 _ ?_
  refine st18.trans ?_
  exact retOut X18 hx (t := (.object "java/lang/String")) (i := .areturn) Bd.returns rfl (Or.inr (Or.inr (Or.inr (Or.inr ⟨rfl, rfl, rfl⟩)))) (hb hby d4_244) hr
 ·
  show Q4_5 Z p1 p2 p3 h0 n0 _ T18.heap _
  exact ⟨b1, t18, kt18, ((nar .char r11).toInt8.toInt32), ((nar .char r12).toInt8.toInt32), ((nar .char r13).toInt8.toInt32), ((nar .char r14).toInt8.toInt32), ((nar .char r15).toInt8.toInt32), rfl, N18, K18, E18_21, uC18', uF18', uV18', gn1⟩

theorem d4_245 : decode method_5_code 245 = .ok (.iload_n 0, 1) := by decide +kernel
theorem d4_246 : decode method_5_code 246 = .ok (.bipush 6, 2) := by decide +kernel
theorem d4_248 : decode method_5_code 248 = .ok (.if_icmp .ne 75, 3) := by decide +kernel
theorem d4_251 : decode method_5_code 251 = .ok (.new 15, 3) := by decide +kernel
theorem d4_254 : decode method_5_code 254 = .ok (.dup, 1) := by decide +kernel
theorem d4_255 : decode method_5_code 255 = .ok (.bipush 6, 2) := by decide +kernel
theorem d4_257 : decode method_5_code 257 = .ok (.newarray .char, 2) := by decide +kernel
theorem d4_259 : decode method_5_code 259 = .ok (.dup, 1) := by decide +kernel
theorem d4_260 : decode method_5_code 260 = .ok (.iconst 0, 1) := by decide +kernel
theorem d4_261 : decode method_5_code 261 = .ok (.iload_n 1, 1) := by decide +kernel
theorem d4_262 : decode method_5_code 262 = .ok (.iconst 0, 1) := by decide +kernel
theorem d4_263 : decode method_5_code 263 = .ok (.iload_n 2, 1) := by decide +kernel
theorem d4_264 : decode method_5_code 264 = .ok (.iload_n 3, 1) := by decide +kernel
theorem d4_265 : decode method_5_code 265 = .ok (.invokestatic 65, 3) := by decide +kernel
theorem d4_268 : decode method_5_code 268 = .ok (.castore, 1) := by decide +kernel
theorem d4_269 : decode method_5_code 269 = .ok (.dup, 1) := by decide +kernel
theorem d4_270 : decode method_5_code 270 = .ok (.iconst 1, 1) := by decide +kernel
theorem d4_271 : decode method_5_code 271 = .ok (.iload_n 1, 1) := by decide +kernel
theorem d4_272 : decode method_5_code 272 = .ok (.iconst 1, 1) := by decide +kernel
theorem d4_273 : decode method_5_code 273 = .ok (.iload_n 2, 1) := by decide +kernel
theorem d4_274 : decode method_5_code 274 = .ok (.iload_n 3, 1) := by decide +kernel
theorem d4_275 : decode method_5_code 275 = .ok (.invokestatic 65, 3) := by decide +kernel
theorem d4_278 : decode method_5_code 278 = .ok (.castore, 1) := by decide +kernel
theorem d4_279 : decode method_5_code 279 = .ok (.dup, 1) := by decide +kernel
theorem d4_280 : decode method_5_code 280 = .ok (.iconst 2, 1) := by decide +kernel
theorem d4_281 : decode method_5_code 281 = .ok (.iload_n 1, 1) := by decide +kernel
theorem d4_282 : decode method_5_code 282 = .ok (.iconst 2, 1) := by decide +kernel
theorem d4_283 : decode method_5_code 283 = .ok (.iload_n 2, 1) := by decide +kernel
theorem d4_284 : decode method_5_code 284 = .ok (.iload_n 3, 1) := by decide +kernel
theorem d4_285 : decode method_5_code 285 = .ok (.invokestatic 65, 3) := by decide +kernel
theorem d4_288 : decode method_5_code 288 = .ok (.castore, 1) := by decide +kernel
theorem d4_289 : decode method_5_code 289 = .ok (.dup, 1) := by decide +kernel
theorem d4_290 : decode method_5_code 290 = .ok (.iconst 3, 1) := by decide +kernel
theorem d4_291 : decode method_5_code 291 = .ok (.iload_n 1, 1) := by decide +kernel
theorem d4_292 : decode method_5_code 292 = .ok (.iconst 3, 1) := by decide +kernel
theorem d4_293 : decode method_5_code 293 = .ok (.iload_n 2, 1) := by decide +kernel
theorem d4_294 : decode method_5_code 294 = .ok (.iload_n 3, 1) := by decide +kernel
theorem d4_295 : decode method_5_code 295 = .ok (.invokestatic 65, 3) := by decide +kernel
theorem d4_298 : decode method_5_code 298 = .ok (.castore, 1) := by decide +kernel
theorem d4_299 : decode method_5_code 299 = .ok (.dup, 1) := by decide +kernel
theorem d4_300 : decode method_5_code 300 = .ok (.iconst 4, 1) := by decide +kernel
theorem d4_301 : decode method_5_code 301 = .ok (.iload_n 1, 1) := by decide +kernel
theorem d4_302 : decode method_5_code 302 = .ok (.iconst 4, 1) := by decide +kernel
theorem d4_303 : decode method_5_code 303 = .ok (.iload_n 2, 1) := by decide +kernel
theorem d4_304 : decode method_5_code 304 = .ok (.iload_n 3, 1) := by decide +kernel
theorem d4_305 : decode method_5_code 305 = .ok (.invokestatic 65, 3) := by decide +kernel
theorem d4_308 : decode method_5_code 308 = .ok (.castore, 1) := by decide +kernel
theorem d4_309 : decode method_5_code 309 = .ok (.dup, 1) := by decide +kernel
theorem d4_310 : decode method_5_code 310 = .ok (.iconst 5, 1) := by decide +kernel
theorem d4_311 : decode method_5_code 311 = .ok (.iload_n 1, 1) := by decide +kernel
theorem d4_312 : decode method_5_code 312 = .ok (.iconst 5, 1) := by decide +kernel
theorem d4_313 : decode method_5_code 313 = .ok (.iload_n 2, 1) := by decide +kernel
theorem d4_314 : decode method_5_code 314 = .ok (.iload_n 3, 1) := by decide +kernel
theorem d4_315 : decode method_5_code 315 = .ok (.invokestatic 65, 3) := by decide +kernel
theorem d4_318 : decode method_5_code 318 = .ok (.castore, 1) := by decide +kernel
theorem d4_319 : decode method_5_code 319 = .ok (.invokespecial 62, 3) := by decide +kernel
theorem d4_322 : decode method_5_code 322 = .ok (.areturn, 1) := by decide +kernel
theorem ef_4_6 (m : MethodId) (p1 : Int32) (p2 : Int32) (p3 : Int32) : entryFrame m #[(.int (6 : Int32)), (.int p1), (.int p2), (.int p3)] 4 = mkF m 0 #[iv (6 : Int32), iv p1, iv p2, iv p3] [] := by first | (simp [entryFrame, mkF, argsToLocals, Value.category]; done) | rfl
def Q4_6 (Z : State) (p1 : Int32) (p2 : Int32) (p3 : Int32) (h0 : Heap) (n0 : Nat) (v : Option Value) (h : Heap) (L : List Loc) : Prop := ∃ (t : Addr) (tb : Addr) (kb : ClassId) (y0 : Int32) (y1 : Int32) (y2 : Int32) (y3 : Int32) (y4 : Int32) (y5 : Int32), v = some (.ref t) ∧ Fr n0 L ∧ Keep h0 h [] ∧ Exa Z h t "java/lang/String" ∧ Fld Z h t "java/lang/String" "coder" "B" (.int (0 : Int32)) ∧ Fld Z h t "java/lang/String" "value" "[B" (.ref tb) ∧ Arv Z h tb kb .byte (6 : Int32) [(.int y0), (.int y1), (.int y2), (.int y3), (.int y4), (.int y5)] (.int (0 : Int32)) ∧ n0 ≤ t
abbrev R4_6 : Room := ({ frames := 5, cells := 15, slots := 256, locals := 74 } : Room)
set_option maxRecDepth 65536 in
set_option maxHeartbeats 40000000 in
theorem rm4_6 (l : Launch) (Z : State) (ar : Array Value) (hw : ∀ d ∈ tables_1, d.before ar Z = true) (ws : List Jvm.Cond) (p1 : Int32) (p2 : Int32) (p3 : Int32) (h0 : Heap) (n0 : Nat) (O0 : Old Z n0 h0) (hEL : EW Z ar EL0) (HW : Wd Z w_z0 w_z1 w_z2 w_z3 w_z4 w_z5 w_z6 w_z7 w_z8 w_z9 w_z10 w_z11 k_z3 k_z7 k_z9 k_z11) (hcb : 0 ≤ p3.toInt ∧ p3.toInt ≤ 255) (hk4 : p1 = (0 : Int32) ∨ p1 = (1 : Int32) ∨ p1 = (2 : Int32) ∨ p1 = (3 : Int32)) :
    MetFree l y4 (head1 (Jvm.Cond.code y4 method_5_code 4 (some (.object "java/lang/String")) :: ws) R4_6) (fun a U => a = #[(.int (6 : Int32)), (.int p1), (.int p2), (.int p3)] ∧ Z.Warmed39 U.vm ∧ U.heap = h0 ∧ CHv Z EL0 U.vm h0) (fun _ _ _ _ _ => True) (fun _ U o U' => ∃ v L, o = .returned v ∧ Q4_6 Z p1 p2 p3 h0 n0 v U'.heap L ∧ CHr Z EL0 U.vm U.heap U'.vm U'.heap ∧ ReturnedEndW U o U' L R4_6.cells R4_6.slots) := by
 refine MetFree.of_bodySF (plainFor_of_name pn_3) hisR ?_
 intro p e s m args below meth c s₁ Bd hml0 hP hK
 obtain ⟨rfl, hZ, hh, hCH⟩ := hP
 have hx := Bd.exec
 have hby := Bd.bytes
 have hml : c.maxLocals = 4 := hml0
 have hown : s.vm.findClass "com/example/lease/lease/WorkerStateNamedPinLaw" = some m.cls := findClass_of_methodNamed Bd.named
 have hnm := (name_of_methodNamed Bd.named Bd.method).1
 have hlk : meth.locks = false := by first | assumption | exact BodyLoose.notSynchronized (by assumption) | exact Body.notSynchronized (by assumption)
 have X0 : Stand p l e R4_6 (s.setVm s.vm) m #[(.int (6 : Int32)), (.int p1), (.int p2), (.int p3)] below meth c s₁ [] 0 0 := Stand.of_body Bd
 have e0 : s₁.heap = h0 := by rw [← hh, Bd.state]; rfl
 have N0 := Fr.nil n0
 have Z0 : n0 ≤ h0.size := Nat.le_trans (Nat.le_of_eq O0.1.symm) O0.2.1
 obtain ⟨S0, hS0⟩ : ∃ z, z = s₁.setTop (entryFrame m #[(.int (6 : Int32)), (.int p1), (.int p2), (.int p3)] 4) := ⟨_, rfl⟩
 have pre0 : ∀ tg, AT p e below s₁ m 0 #[iv (6 : Int32), iv p1, iv p2, iv p3] [] tg → Steps p.tables e below S0 tg := fun tg kg => by rw [hS0]; exact castTop (ef_4_6 m p1 p2 p3) kg
 have hS : s.Since s.vm 0 := (State.WarmedH.refl s).since 0
 have hk : 0 ≤ h0.size := Nat.zero_le _
 have CR0 : CHr Z EL0 s.vm h0 s.vm h0 := CHr.refl hCH
 obtain ⟨S_q0, hz_w_z0, -, -, -, -, -, -, -, -, -, -, -, -, -, -, -, -, -, -, -, -, -, -, -, -, -, -⟩ := id HW
 obtain ⟨T1, h1, X1, e1, E1, A1, D1, -, st1⟩ := newO X0 hx hZ hown (ow hw 29 rfl) (ow hw 7 rfl) (ow hw 6 rfl) e0 (g := (mkF m 251 #[iv (6 : Int32), iv p1, iv p2, iv p3] [])) rfl (hb hby d4_251) (by decide) (by decide)
 obtain ⟨b1, g1⟩ : ∃ z, z = h0.size := ⟨_, rfl⟩
 rw [← g1] at A1 D1 st1
 have gn1 : n0 ≤ b1 := Nat.le_trans (Nat.le_trans (Nat.le_of_eq O0.1.symm) O0.2.1) (Nat.le_of_eq g1.symm)
 have sz1 : h0.size ≤ b1 := Nat.le_trans (Keep.refl h0 []).1 (Nat.le_of_eq g1.symm)
 have Sn1 : Safe Z EL0 s.vm h0 b1 := Safe.new (Nat.le_of_eq g1.symm)
 have K1 := (Keep.refl h0 []).ext E1
 have O1 := O0.ext E1
 have Sf1_b1 := Safe.ext E1 CR0.1 Sn1
 have CR1 : CHr Z EL0 s.vm h0 s.vm h1 := CR0.trans (CHr.ext E1 CR0.1)
 have hk := Nat.le_trans hk E1.1
 have F1_2 : Fld Z h1 b1 "java/lang/String" "value" "[B" .null := D1 (Or.inr (ow hw 9 rfl)) (ty := (.array .byte)) (by decide)
 have F1_3 : Fld Z h1 b1 "java/lang/String" "coder" "B" (.int (0 : Int32)) := D1 (Or.inr (ow hw 10 rfl)) (ty := .byte) (by decide)
 obtain ⟨T4, h4, k4, X4, e4, E4, A4, B4, st4⟩ := newPE X1 hx hZ (ow hw 30 rfl) e1 (g := (mkF m 257 #[iv (6 : Int32), iv p1, iv p2, iv p3] [(.int (6 : Int32)), (.ref b1), (.ref b1)])) rfl (hb hby d4_257) rfl (by decide) (cap := 6) (by decide) (by decide) (by decide) (by decide) (ad := "[C") (by decide)
 obtain ⟨b4, g4⟩ : ∃ z, z = h1.size := ⟨_, rfl⟩
 rw [← g4] at A4 B4 st4
 have ne4_5 : b1 ≠ b4 := Nat.ne_of_lt (Nat.lt_of_lt_of_le (A1).lt (Nat.le_of_eq g4.symm))
 have gn4 : n0 ≤ b4 := Nat.le_trans (Nat.le_trans (Nat.le_of_eq O1.1.symm) O1.2.1) (Nat.le_of_eq g4.symm)
 have sz4 : h0.size ≤ b4 := Nat.le_trans K1.1 (Nat.le_of_eq g4.symm)
 have Sn4 : Safe Z EL0 s.vm h1 b4 := Safe.new (Nat.le_of_eq g4.symm)
 have E4_6 := A1.ext E4
 have F4_7 := F1_2.ext E4
 have F4_8 := F1_3.ext E4
 have K4 := K1.ext E4
 have O4 := O1.ext E4
 have Sf4_b1 := Safe.ext E4 CR1.1 Sf1_b1
 have Sf4_b4 := Safe.ext E4 CR1.1 Sn4
 have CR4 : CHr Z EL0 s.vm h0 s.vm h4 := CR1.trans (CHr.ext E4 CR1.1)
 have hk := Nat.le_trans hk E4.1
 have V4_9 : Arv Z h4 b4 k4 .char (6 : Int32) [(.int (0 : Int32)), (.int (0 : Int32)), (.int (0 : Int32)), (.int (0 : Int32)), (.int (0 : Int32)), (.int (0 : Int32))] (.int (0 : Int32)) := (Arv.new A4 (by decide)).pad (pad_rep [] (.int (0 : Int32)) 6)
 have I10 : TI p l e R4_6 s m #[(.int (6 : Int32)), (.int p1), (.int p2), (.int p3)] below meth c Z h0 n0 b1 b4 k4 (6 : Int32) 6 s.vm T4 h4 _ ((0 + 1) + 1) ((0 + 4) + 6) _ := ⟨X4, e4, ⟨_, hS, hk⟩, hZ, hown, CR4, N0, K4, O4, E4_6, F4_7, F4_8, V4_9, B4, Sf4_b1, Sf4_b4, rfl⟩
 obtain ⟨r11, vm11, T11, h11, L11, u11, X11, I11, st11⟩ := turn hw hx hml hEL HW hcb hk4 ne4_5 gn4 sz4 (by decide) (by decide) I10 (i := (0 : Int32)) ⟨by decide, by decide⟩ 0 rfl (by decide) (6 : Int32) (P := 265) (hb hby d4_265) (hb hby d4_268) (by decide) (by decide)
 obtain ⟨r12, vm12, T12, h12, L12, u12, X12, I12, st12⟩ := turn hw hx hml hEL HW hcb hk4 ne4_5 gn4 sz4 (by decide) (by decide) I11 (i := (1 : Int32)) ⟨by decide, by decide⟩ 1 rfl (by decide) (6 : Int32) (P := 275) (hb hby d4_275) (hb hby d4_278) (by decide) (by decide)
 obtain ⟨r13, vm13, T13, h13, L13, u13, X13, I13, st13⟩ := turn hw hx hml hEL HW hcb hk4 ne4_5 gn4 sz4 (by decide) (by decide) I12 (i := (2 : Int32)) ⟨by decide, by decide⟩ 2 rfl (by decide) (6 : Int32) (P := 285) (hb hby d4_285) (hb hby d4_288) (by decide) (by decide)
 obtain ⟨r14, vm14, T14, h14, L14, u14, X14, I14, st14⟩ := turn hw hx hml hEL HW hcb hk4 ne4_5 gn4 sz4 (by decide) (by decide) I13 (i := (3 : Int32)) ⟨by decide, by decide⟩ 3 rfl (by decide) (6 : Int32) (P := 295) (hb hby d4_295) (hb hby d4_298) (by decide) (by decide)
 obtain ⟨r15, vm15, T15, h15, L15, u15, X15, I15, st15⟩ := turn hw hx hml hEL HW hcb hk4 ne4_5 gn4 sz4 (by decide) (by decide) I14 (i := (4 : Int32)) ⟨by decide, by decide⟩ 4 rfl (by decide) (6 : Int32) (P := 305) (hb hby d4_305) (hb hby d4_308) (by decide) (by decide)
 obtain ⟨r16, vm16, T16, h16, L16, u16, X16, I16, st16⟩ := turn hw hx hml hEL HW hcb hk4 ne4_5 gn4 sz4 (by decide) (by decide) I15 (i := (5 : Int32)) ⟨by decide, by decide⟩ 5 rfl (by decide) (6 : Int32) (P := 315) (hb hby d4_315) (hb hby d4_318) (by decide) (by decide)
 obtain ⟨-, e17, ⟨kk17, hS, hk⟩, hZ, hown, CR17, N17, K17, O17, i17_0, i17_1, i17_2, i17_3, i17_4, i17_5, i17_6, -⟩ := I16
 have V17_18 : Arv Z h16 b4 k4 .char (6 : Int32) [(.int (nar .char r11)), (.int (nar .char r12)), (.int (nar .char r13)), (.int (nar .char r14)), (.int (nar .char r15)), (.int (nar .char r16))] (.int (0 : Int32)) := i17_3
 obtain ⟨_, _, ⟨T19, L19, k19, n19⟩, -, X19, ⟨Lc19, hQ19, l19, y19, z19⟩, st19⟩ := X16.specialBack hx (y := y11) rfl hown (mvT hZ (ow hw 56 rfl)) (mvT hZ (ow hw 57 rfl)) (mvT hZ (ow hw 58 rfl)) (by decide) (StrChars.Road.backV (W := 1) hZ (own_ws hw) (ow hw 7 rfl) (cs := [(nar .char r11), (nar .char r12), (nar .char r13), (nar .char r14), (nar .char r15), (nar .char r16)]) (bs := [((nar .char r11).toInt8.toInt32), ((nar .char r12).toInt8.toInt32), ((nar .char r13).toInt8.toInt32), ((nar .char r14).toInt8.toInt32), ((nar .char r15).toInt8.toInt32), ((nar .char r16).toInt8.toInt32)]) (n := 6) gn1 (Nat.le_trans (Nat.le_of_eq O17.1.symm) O17.2.1) i17_0 i17_1 i17_2 V17_18 (S_q0.ext O17.2) hz_w_z0 rfl (by decide) (by decide) (by decide) (own_cc ⟨own_0 (own_ncr u11), own_255 (own_ncr u11)⟩ (own_cc ⟨own_0 (own_ncr u12), own_255 (own_ncr u12)⟩ (own_cc ⟨own_0 (own_ncr u13), own_255 (own_ncr u13)⟩ (own_cc ⟨own_0 (own_ncr u14), own_255 (own_ncr u14)⟩ (own_cc ⟨own_0 (own_ncr u15), own_255 (own_ncr u15)⟩ (own_cc ⟨own_0 (own_ncr u16), own_255 (own_ncr u16)⟩ own_cn)))))) rfl (by decide) (by decide)) (g := (mkF m 319 #[iv (6 : Int32), iv p1, iv p2, iv p3] [(.ref b4), (.ref b1), (.ref b1)])) rfl (by rw [hml]; rfl) (Steps.refl _) (a := b1) (argsL := [(.ref b4)]) (rest := [(.ref b1)]) (lenOf pd_10 rfl) rfl (by show 2 * 0 + _ ≤ _; exact Nat.le_of_eq rfl) (hb hby d4_319) (fun _ _ => ⟨rfl, e17, (by decide : 14 + 1 ≤ _), (by decide : 250 + 6 ≤ _)⟩)
 dsimp only [Pt.U, Pt.locs, Pt.cells, Pt.slots] at X19 l19 y19 z19 st19 hQ19
 subst l19 y19 z19
 obtain ⟨rfl, N19q, Kq19, uE19, uC19, t19, kt19, -, tg19, tn19, uF19, uV19⟩ := hQ19
 have N19 := Fr.app N17 N19q
 have ne20 : b1 ≠ t19 := Nat.ne_of_lt (Nat.lt_of_lt_of_le (i17_0).lt tg19)
 have ne21 : b4 ≠ t19 := Nat.ne_of_lt (Nat.lt_of_lt_of_le (V17_18).lt tg19)
 have E19_22 := i17_0.keep Kq19
 have V19_23 := V17_18.keep Kq19 (ninS (Ne.symm ne4_5) nin0)
 have E19_24 := i17_4.keep Kq19
 have K19 := K17.trans Kq19 (allS (Or.inr sz1) all0)
 have O19 := O17.keep Kq19 (allS gn1 all0)
 have Sf19_b1 := Safe.keep Kq19 (allS i17_5 all0) CR17.1 i17_5
 have Sf19_b4 := Safe.keep Kq19 (allS i17_5 all0) CR17.1 i17_6
 have CR19 : CHr Z EL0 s.vm h0 vm16 T19.heap := CR17.trans (CHr.keep Kq19 (allS i17_5 all0) CR17.1)
 have hk := Nat.le_trans hk Kq19.1
 have sz19 : h0.size ≤ t19 := Nat.le_trans K17.1 tg19
 have gn19 : n0 ≤ t19 := Nat.le_trans (Nat.le_trans (Nat.le_of_eq O17.1.symm) O17.2.1) tg19
 have Sn19 : Safe Z EL0 vm16 T19.heap t19 := Safe.keep Kq19 (allS i17_5 all0) CR17.1 (Safe.new tg19)
 have uC19' : Fld Z T19.heap b1 "java/lang/String" "coder" "B" (.int (0 : Int32)) := uC19
 have uF19' : Fld Z T19.heap b1 "java/lang/String" "value" "[B" (.ref t19) := uF19
 have uV19' : Arv Z T19.heap t19 kt19 .byte (6 : Int32) [(.int ((nar .char r11).toInt8.toInt32)), (.int ((nar .char r12).toInt8.toInt32)), (.int ((nar .char r13).toInt8.toInt32)), (.int ((nar .char r14).toInt8.toInt32)), (.int ((nar .char r15).toInt8.toInt32)), (.int ((nar .char r16).toInt8.toInt32))] (.int (0 : Int32)) := uV19
 obtain ⟨fs, hr, hrun, hended, hRE⟩ := X19.leaveW hS hk (v := some (.ref b1)) (fun h => by rw [Bd.returns] at h; cases h)
 have CRf : CHr Z EL0 s.vm s.heap (T19.setFrames fs).vm (T19.setFrames fs).heap := by
   show CHr Z EL0 s.vm s.heap T19.vm T19.heap
   rw [hh]
   exact CR19.trans (CHv.at X19 hZ hEL CR19.1)
 subst hS0
 refine ⟨_, _, pre0 _ ?_, hrun, hended, _, _, rfl, ?_, CRf, hRE.1, hRE.2.1, hRE.2.2.1, hRE.2.2.2.mono (by decide) (by decide)⟩
 ·
  refine XS.iloadN X0.here hx rfl (hb hby d4_0) rfl ?_
  show AT p e below s₁ m 1 #[iv (6 : Int32), iv p1, iv p2, iv p3] [(.int (6 : Int32))] _
  refine XS.ifYes X0.here hx rfl (pc0 := 1) (pc' := 15) rfl (hb hby d4_1) rfl (XT.i0_ne_t ((by decide) : ¬ ((6 : Int32) = (0 : Int32)))) (by decide) (by decide) ?_
  refine XS.iloadN X0.here hx rfl (hb hby d4_15) rfl ?_
  refine XS.iconst X0.here hx rfl (hb hby d4_16) ?_
  show AT p e below s₁ m 17 #[iv (6 : Int32), iv p1, iv p2, iv p3] [(.int (1 : Int32)), (.int (6 : Int32))] _
  refine XS.icmpYes X0.here hx rfl (pc0 := 17) (pc' := 41) rfl (hb hby d4_17) rfl (XT.ii_ne_t ((by decide) : ¬ ((6 : Int32) = (1 : Int32)))) (by decide) (by decide) ?_
  refine XS.iloadN X0.here hx rfl (hb hby d4_41) rfl ?_
  refine XS.iconst X0.here hx rfl (hb hby d4_42) ?_
  show AT p e below s₁ m 43 #[iv (6 : Int32), iv p1, iv p2, iv p3] [(.int (2 : Int32)), (.int (6 : Int32))] _
  refine XS.icmpYes X0.here hx rfl (pc0 := 43) (pc' := 77) rfl (hb hby d4_43) rfl (XT.ii_ne_t ((by decide) : ¬ ((6 : Int32) = (2 : Int32)))) (by decide) (by decide) ?_
  refine XS.iloadN X0.here hx rfl (hb hby d4_77) rfl ?_
  refine XS.iconst X0.here hx rfl (hb hby d4_78) ?_
  show AT p e below s₁ m 79 #[iv (6 : Int32), iv p1, iv p2, iv p3] [(.int (3 : Int32)), (.int (6 : Int32))] _
  refine XS.icmpYes X0.here hx rfl (pc0 := 79) (pc' := 123) rfl (hb hby d4_79) rfl (XT.ii_ne_t ((by decide) : ¬ ((6 : Int32) = (3 : Int32)))) (by decide) (by decide) ?_
  refine XS.iloadN X0.here hx rfl (hb hby d4_123) rfl ?_
  refine XS.iconst X0.here hx rfl (hb hby d4_124) ?_
  show AT p e below s₁ m 125 #[iv (6 : Int32), iv p1, iv p2, iv p3] [(.int (4 : Int32)), (.int (6 : Int32))] _
  refine XS.icmpYes X0.here hx rfl (pc0 := 125) (pc' := 179) rfl (hb hby d4_125) rfl (XT.ii_ne_t ((by decide) : ¬ ((6 : Int32) = (4 : Int32)))) (by decide) (by decide) ?_
  refine XS.iloadN X0.here hx rfl (hb hby d4_179) rfl ?_
  refine XS.iconst X0.here hx rfl (hb hby d4_180) ?_
  show AT p e below s₁ m 181 #[iv (6 : Int32), iv p1, iv p2, iv p3] [(.int (5 : Int32)), (.int (6 : Int32))] _
  refine XS.icmpYes X0.here hx rfl (pc0 := 181) (pc' := 245) rfl (hb hby d4_181) rfl (XT.ii_ne_t ((by decide) : ¬ ((6 : Int32) = (5 : Int32)))) (by decide) (by decide) ?_
  refine XS.iloadN X0.here hx rfl (hb hby d4_245) rfl ?_
  refine XS.bipush X0.here hx rfl (hb hby d4_246) ?_
  show AT p e below s₁ m 248 #[iv (6 : Int32), iv p1, iv p2, iv p3] [(.int (6 : Int32)), (.int (6 : Int32))] _
  refine XS.icmpNo X0.here hx rfl (hb hby d4_248) rfl (XT.ii_ne_f ((by decide) : (6 : Int32) = (6 : Int32))) ?_
  refine st1 _ ?_
  refine XS.dup X1.here hx rfl (hb hby d4_254) rfl rfl ?_
  refine XS.bipush X1.here hx rfl (hb hby d4_255) ?_
  refine st4 _ ?_
  refine XS.dup X4.here hx rfl (hb hby d4_259) rfl rfl ?_
  refine XS.iconst X4.here hx rfl (hb hby d4_260) ?_
  refine XS.iloadN X4.here hx rfl (hb hby d4_261) rfl ?_
  refine XS.iconst X4.here hx rfl (hb hby d4_262) ?_
  refine XS.iloadN X4.here hx rfl (hb hby d4_263) rfl ?_
  refine XS.iloadN X4.here hx rfl (hb hby d4_264) rfl ?_
  refine st11 _ ?_
  refine XS.dup X11.here hx rfl (hb hby d4_269) rfl rfl ?_
  refine XS.iconst X11.here hx rfl (hb hby d4_270) ?_
  refine XS.iloadN X11.here hx rfl (hb hby d4_271) rfl ?_
  refine XS.iconst X11.here hx rfl (hb hby d4_272) ?_
  refine XS.iloadN X11.here hx rfl (hb hby d4_273) rfl ?_
  refine XS.iloadN X11.here hx rfl (hb hby d4_274) rfl ?_
  show AT p e below T11 m 275 #[iv (6 : Int32), iv p1, iv p2, iv p3] [(.int p3), (.int p2), (.int (1 : Int32)), (.int p1), (.int (1 : Int32)), (.ref b4), (.ref b4), (.ref b1), (.ref b1)] _
  refine st12 _ ?_
  refine XS.dup X12.here hx rfl (hb hby d4_279) rfl rfl ?_
  refine XS.iconst X12.here hx rfl (hb hby d4_280) ?_
  refine XS.iloadN X12.here hx rfl (hb hby d4_281) rfl ?_
  refine XS.iconst X12.here hx rfl (hb hby d4_282) ?_
  refine XS.iloadN X12.here hx rfl (hb hby d4_283) rfl ?_
  refine XS.iloadN X12.here hx rfl (hb hby d4_284) rfl ?_
  refine st13 _ ?_
  refine XS.dup X13.here hx rfl (hb hby d4_289) rfl rfl ?_
  refine XS.iconst X13.here hx rfl (hb hby d4_290) ?_
  refine XS.iloadN X13.here hx rfl (hb hby d4_291) rfl ?_
  refine XS.iconst X13.here hx rfl (hb hby d4_292) ?_
  refine XS.iloadN X13.here hx rfl (hb hby d4_293) rfl ?_
  refine XS.iloadN X13.here hx rfl (hb hby d4_294) rfl ?_
  refine st14 _ ?_
  refine XS.dup X14.here hx rfl (hb hby d4_299) rfl rfl ?_
  refine XS.iconst X14.here hx rfl (hb hby d4_300) ?_
  refine XS.iloadN X14.here hx rfl (hb hby d4_301) rfl ?_
  refine XS.iconst X14.here hx rfl (hb hby d4_302) ?_
  refine XS.iloadN X14.here hx rfl (hb hby d4_303) rfl ?_
  refine XS.iloadN X14.here hx rfl (hb hby d4_304) rfl ?_
  refine st15 _ ?_
  refine XS.dup X15.here hx rfl (hb hby d4_309) rfl rfl ?_
  refine XS.iconst X15.here hx rfl (hb hby d4_310) ?_
  refine XS.iloadN X15.here hx rfl (hb hby d4_311) rfl ?_
  refine XS.iconst X15.here hx rfl (hb hby d4_312) ?_
  refine XS.iloadN X15.here hx rfl (hb hby d4_313) rfl ?_
  refine XS.iloadN X15.here hx rfl (hb hby d4_314) rfl ?_
  refine st16 _ ?_
  refine st19.trans ?_
  show AT p e below T19 m 322 #[iv (6 : Int32), iv p1, iv p2, iv p3] [(.ref b1)] _
  exact retOut X19 hx (t := (.object "java/lang/String")) (i := .areturn) Bd.returns rfl (Or.inr (Or.inr (Or.inr (Or.inr ⟨rfl, rfl, rfl⟩)))) (hb hby d4_322) hr
 ·
  show Q4_6 Z p1 p2 p3 h0 n0 _ T19.heap _
  exact ⟨b1, t19, kt19, ((nar .char r11).toInt8.toInt32), ((nar .char r12).toInt8.toInt32), ((nar .char r13).toInt8.toInt32), ((nar .char r14).toInt8.toInt32), ((nar .char r15).toInt8.toInt32), ((nar .char r16).toInt8.toInt32), rfl, N19, K19, E19_22, uC19', uF19', uV19', gn1⟩

theorem d4_323 : decode method_5_code 323 = .ok (.iload_n 0, 1) := by decide +kernel
theorem d4_324 : decode method_5_code 324 = .ok (.bipush 7, 2) := by decide +kernel
theorem d4_326 : decode method_5_code 326 = .ok (.if_icmp .ne 87, 3) := by decide +kernel
theorem d4_329 : decode method_5_code 329 = .ok (.new 15, 3) := by decide +kernel
theorem d4_332 : decode method_5_code 332 = .ok (.dup, 1) := by decide +kernel
theorem d4_333 : decode method_5_code 333 = .ok (.bipush 7, 2) := by decide +kernel
theorem d4_335 : decode method_5_code 335 = .ok (.newarray .char, 2) := by decide +kernel
theorem d4_337 : decode method_5_code 337 = .ok (.dup, 1) := by decide +kernel
theorem d4_338 : decode method_5_code 338 = .ok (.iconst 0, 1) := by decide +kernel
theorem d4_339 : decode method_5_code 339 = .ok (.iload_n 1, 1) := by decide +kernel
theorem d4_340 : decode method_5_code 340 = .ok (.iconst 0, 1) := by decide +kernel
theorem d4_341 : decode method_5_code 341 = .ok (.iload_n 2, 1) := by decide +kernel
theorem d4_342 : decode method_5_code 342 = .ok (.iload_n 3, 1) := by decide +kernel
theorem d4_343 : decode method_5_code 343 = .ok (.invokestatic 65, 3) := by decide +kernel
theorem d4_346 : decode method_5_code 346 = .ok (.castore, 1) := by decide +kernel
theorem d4_347 : decode method_5_code 347 = .ok (.dup, 1) := by decide +kernel
theorem d4_348 : decode method_5_code 348 = .ok (.iconst 1, 1) := by decide +kernel
theorem d4_349 : decode method_5_code 349 = .ok (.iload_n 1, 1) := by decide +kernel
theorem d4_350 : decode method_5_code 350 = .ok (.iconst 1, 1) := by decide +kernel
theorem d4_351 : decode method_5_code 351 = .ok (.iload_n 2, 1) := by decide +kernel
theorem d4_352 : decode method_5_code 352 = .ok (.iload_n 3, 1) := by decide +kernel
theorem d4_353 : decode method_5_code 353 = .ok (.invokestatic 65, 3) := by decide +kernel
theorem d4_356 : decode method_5_code 356 = .ok (.castore, 1) := by decide +kernel
theorem d4_357 : decode method_5_code 357 = .ok (.dup, 1) := by decide +kernel
theorem d4_358 : decode method_5_code 358 = .ok (.iconst 2, 1) := by decide +kernel
theorem d4_359 : decode method_5_code 359 = .ok (.iload_n 1, 1) := by decide +kernel
theorem d4_360 : decode method_5_code 360 = .ok (.iconst 2, 1) := by decide +kernel
theorem d4_361 : decode method_5_code 361 = .ok (.iload_n 2, 1) := by decide +kernel
theorem d4_362 : decode method_5_code 362 = .ok (.iload_n 3, 1) := by decide +kernel
theorem d4_363 : decode method_5_code 363 = .ok (.invokestatic 65, 3) := by decide +kernel
theorem d4_366 : decode method_5_code 366 = .ok (.castore, 1) := by decide +kernel
theorem d4_367 : decode method_5_code 367 = .ok (.dup, 1) := by decide +kernel
theorem d4_368 : decode method_5_code 368 = .ok (.iconst 3, 1) := by decide +kernel
theorem d4_369 : decode method_5_code 369 = .ok (.iload_n 1, 1) := by decide +kernel
theorem d4_370 : decode method_5_code 370 = .ok (.iconst 3, 1) := by decide +kernel
theorem d4_371 : decode method_5_code 371 = .ok (.iload_n 2, 1) := by decide +kernel
theorem d4_372 : decode method_5_code 372 = .ok (.iload_n 3, 1) := by decide +kernel
theorem d4_373 : decode method_5_code 373 = .ok (.invokestatic 65, 3) := by decide +kernel
theorem d4_376 : decode method_5_code 376 = .ok (.castore, 1) := by decide +kernel
theorem d4_377 : decode method_5_code 377 = .ok (.dup, 1) := by decide +kernel
theorem d4_378 : decode method_5_code 378 = .ok (.iconst 4, 1) := by decide +kernel
theorem d4_379 : decode method_5_code 379 = .ok (.iload_n 1, 1) := by decide +kernel
theorem d4_380 : decode method_5_code 380 = .ok (.iconst 4, 1) := by decide +kernel
theorem d4_381 : decode method_5_code 381 = .ok (.iload_n 2, 1) := by decide +kernel
theorem d4_382 : decode method_5_code 382 = .ok (.iload_n 3, 1) := by decide +kernel
theorem d4_383 : decode method_5_code 383 = .ok (.invokestatic 65, 3) := by decide +kernel
theorem d4_386 : decode method_5_code 386 = .ok (.castore, 1) := by decide +kernel
theorem d4_387 : decode method_5_code 387 = .ok (.dup, 1) := by decide +kernel
theorem d4_388 : decode method_5_code 388 = .ok (.iconst 5, 1) := by decide +kernel
theorem d4_389 : decode method_5_code 389 = .ok (.iload_n 1, 1) := by decide +kernel
theorem d4_390 : decode method_5_code 390 = .ok (.iconst 5, 1) := by decide +kernel
theorem d4_391 : decode method_5_code 391 = .ok (.iload_n 2, 1) := by decide +kernel
theorem d4_392 : decode method_5_code 392 = .ok (.iload_n 3, 1) := by decide +kernel
theorem d4_393 : decode method_5_code 393 = .ok (.invokestatic 65, 3) := by decide +kernel
theorem d4_396 : decode method_5_code 396 = .ok (.castore, 1) := by decide +kernel
theorem d4_397 : decode method_5_code 397 = .ok (.dup, 1) := by decide +kernel
theorem d4_398 : decode method_5_code 398 = .ok (.bipush 6, 2) := by decide +kernel
theorem d4_400 : decode method_5_code 400 = .ok (.iload_n 1, 1) := by decide +kernel
theorem d4_401 : decode method_5_code 401 = .ok (.bipush 6, 2) := by decide +kernel
theorem d4_403 : decode method_5_code 403 = .ok (.iload_n 2, 1) := by decide +kernel
theorem d4_404 : decode method_5_code 404 = .ok (.iload_n 3, 1) := by decide +kernel
theorem d4_405 : decode method_5_code 405 = .ok (.invokestatic 65, 3) := by decide +kernel
theorem d4_408 : decode method_5_code 408 = .ok (.castore, 1) := by decide +kernel
theorem d4_409 : decode method_5_code 409 = .ok (.invokespecial 62, 3) := by decide +kernel
theorem d4_412 : decode method_5_code 412 = .ok (.areturn, 1) := by decide +kernel
theorem ef_4_7 (m : MethodId) (p1 : Int32) (p2 : Int32) (p3 : Int32) : entryFrame m #[(.int (7 : Int32)), (.int p1), (.int p2), (.int p3)] 4 = mkF m 0 #[iv (7 : Int32), iv p1, iv p2, iv p3] [] := by first | (simp [entryFrame, mkF, argsToLocals, Value.category]; done) | rfl
def Q4_7 (Z : State) (p1 : Int32) (p2 : Int32) (p3 : Int32) (h0 : Heap) (n0 : Nat) (v : Option Value) (h : Heap) (L : List Loc) : Prop := ∃ (t : Addr) (tb : Addr) (kb : ClassId) (y0 : Int32) (y1 : Int32) (y2 : Int32) (y3 : Int32) (y4 : Int32) (y5 : Int32) (y6 : Int32), v = some (.ref t) ∧ Fr n0 L ∧ Keep h0 h [] ∧ Exa Z h t "java/lang/String" ∧ Fld Z h t "java/lang/String" "coder" "B" (.int (0 : Int32)) ∧ Fld Z h t "java/lang/String" "value" "[B" (.ref tb) ∧ Arv Z h tb kb .byte (7 : Int32) [(.int y0), (.int y1), (.int y2), (.int y3), (.int y4), (.int y5), (.int y6)] (.int (0 : Int32)) ∧ n0 ≤ t
abbrev R4_7 : Room := ({ frames := 5, cells := 17, slots := 298, locals := 74 } : Room)
set_option maxRecDepth 65536 in
set_option maxHeartbeats 40000000 in
theorem rm4_7 (l : Launch) (Z : State) (ar : Array Value) (hw : ∀ d ∈ tables_1, d.before ar Z = true) (ws : List Jvm.Cond) (p1 : Int32) (p2 : Int32) (p3 : Int32) (h0 : Heap) (n0 : Nat) (O0 : Old Z n0 h0) (hEL : EW Z ar EL0) (HW : Wd Z w_z0 w_z1 w_z2 w_z3 w_z4 w_z5 w_z6 w_z7 w_z8 w_z9 w_z10 w_z11 k_z3 k_z7 k_z9 k_z11) (hcb : 0 ≤ p3.toInt ∧ p3.toInt ≤ 255) (hk4 : p1 = (0 : Int32) ∨ p1 = (1 : Int32) ∨ p1 = (2 : Int32) ∨ p1 = (3 : Int32)) :
    MetFree l y4 (head1 (Jvm.Cond.code y4 method_5_code 4 (some (.object "java/lang/String")) :: ws) R4_7) (fun a U => a = #[(.int (7 : Int32)), (.int p1), (.int p2), (.int p3)] ∧ Z.Warmed39 U.vm ∧ U.heap = h0 ∧ CHv Z EL0 U.vm h0) (fun _ _ _ _ _ => True) (fun _ U o U' => ∃ v L, o = .returned v ∧ Q4_7 Z p1 p2 p3 h0 n0 v U'.heap L ∧ CHr Z EL0 U.vm U.heap U'.vm U'.heap ∧ ReturnedEndW U o U' L R4_7.cells R4_7.slots) := by
 refine MetFree.of_bodySF (plainFor_of_name pn_3) hisR ?_
 intro p e s m args below meth c s₁ Bd hml0 hP hK
 obtain ⟨rfl, hZ, hh, hCH⟩ := hP
 have hx := Bd.exec
 have hby := Bd.bytes
 have hml : c.maxLocals = 4 := hml0
 have hown : s.vm.findClass "com/example/lease/lease/WorkerStateNamedPinLaw" = some m.cls := findClass_of_methodNamed Bd.named
 have hnm := (name_of_methodNamed Bd.named Bd.method).1
 have hlk : meth.locks = false := by first | assumption | exact BodyLoose.notSynchronized (by assumption) | exact Body.notSynchronized (by assumption)
 have X0 : Stand p l e R4_7 (s.setVm s.vm) m #[(.int (7 : Int32)), (.int p1), (.int p2), (.int p3)] below meth c s₁ [] 0 0 := Stand.of_body Bd
 have e0 : s₁.heap = h0 := by rw [← hh, Bd.state]; rfl
 have N0 := Fr.nil n0
 have Z0 : n0 ≤ h0.size := Nat.le_trans (Nat.le_of_eq O0.1.symm) O0.2.1
 obtain ⟨S0, hS0⟩ : ∃ z, z = s₁.setTop (entryFrame m #[(.int (7 : Int32)), (.int p1), (.int p2), (.int p3)] 4) := ⟨_, rfl⟩
 have pre0 : ∀ tg, AT p e below s₁ m 0 #[iv (7 : Int32), iv p1, iv p2, iv p3] [] tg → Steps p.tables e below S0 tg := fun tg kg => by rw [hS0]; exact castTop (ef_4_7 m p1 p2 p3) kg
 have hS : s.Since s.vm 0 := (State.WarmedH.refl s).since 0
 have hk : 0 ≤ h0.size := Nat.zero_le _
 have CR0 : CHr Z EL0 s.vm h0 s.vm h0 := CHr.refl hCH
 obtain ⟨S_q0, hz_w_z0, -, -, -, -, -, -, -, -, -, -, -, -, -, -, -, -, -, -, -, -, -, -, -, -, -, -⟩ := id HW
 obtain ⟨T1, h1, X1, e1, E1, A1, D1, -, st1⟩ := newO X0 hx hZ hown (ow hw 29 rfl) (ow hw 7 rfl) (ow hw 6 rfl) e0 (g := (mkF m 329 #[iv (7 : Int32), iv p1, iv p2, iv p3] [])) rfl (hb hby d4_329) (by decide) (by decide)
 obtain ⟨b1, g1⟩ : ∃ z, z = h0.size := ⟨_, rfl⟩
 rw [← g1] at A1 D1 st1
 have gn1 : n0 ≤ b1 := Nat.le_trans (Nat.le_trans (Nat.le_of_eq O0.1.symm) O0.2.1) (Nat.le_of_eq g1.symm)
 have sz1 : h0.size ≤ b1 := Nat.le_trans (Keep.refl h0 []).1 (Nat.le_of_eq g1.symm)
 have Sn1 : Safe Z EL0 s.vm h0 b1 := Safe.new (Nat.le_of_eq g1.symm)
 have K1 := (Keep.refl h0 []).ext E1
 have O1 := O0.ext E1
 have Sf1_b1 := Safe.ext E1 CR0.1 Sn1
 have CR1 : CHr Z EL0 s.vm h0 s.vm h1 := CR0.trans (CHr.ext E1 CR0.1)
 have hk := Nat.le_trans hk E1.1
 have F1_2 : Fld Z h1 b1 "java/lang/String" "value" "[B" .null := D1 (Or.inr (ow hw 9 rfl)) (ty := (.array .byte)) (by decide)
 have F1_3 : Fld Z h1 b1 "java/lang/String" "coder" "B" (.int (0 : Int32)) := D1 (Or.inr (ow hw 10 rfl)) (ty := .byte) (by decide)
 obtain ⟨T4, h4, k4, X4, e4, E4, A4, B4, st4⟩ := newPE X1 hx hZ (ow hw 30 rfl) e1 (g := (mkF m 335 #[iv (7 : Int32), iv p1, iv p2, iv p3] [(.int (7 : Int32)), (.ref b1), (.ref b1)])) rfl (hb hby d4_335) rfl (by decide) (cap := 7) (by decide) (by decide) (by decide) (by decide) (ad := "[C") (by decide)
 obtain ⟨b4, g4⟩ : ∃ z, z = h1.size := ⟨_, rfl⟩
 rw [← g4] at A4 B4 st4
 have ne4_5 : b1 ≠ b4 := Nat.ne_of_lt (Nat.lt_of_lt_of_le (A1).lt (Nat.le_of_eq g4.symm))
 have gn4 : n0 ≤ b4 := Nat.le_trans (Nat.le_trans (Nat.le_of_eq O1.1.symm) O1.2.1) (Nat.le_of_eq g4.symm)
 have sz4 : h0.size ≤ b4 := Nat.le_trans K1.1 (Nat.le_of_eq g4.symm)
 have Sn4 : Safe Z EL0 s.vm h1 b4 := Safe.new (Nat.le_of_eq g4.symm)
 have E4_6 := A1.ext E4
 have F4_7 := F1_2.ext E4
 have F4_8 := F1_3.ext E4
 have K4 := K1.ext E4
 have O4 := O1.ext E4
 have Sf4_b1 := Safe.ext E4 CR1.1 Sf1_b1
 have Sf4_b4 := Safe.ext E4 CR1.1 Sn4
 have CR4 : CHr Z EL0 s.vm h0 s.vm h4 := CR1.trans (CHr.ext E4 CR1.1)
 have hk := Nat.le_trans hk E4.1
 have V4_9 : Arv Z h4 b4 k4 .char (7 : Int32) [(.int (0 : Int32)), (.int (0 : Int32)), (.int (0 : Int32)), (.int (0 : Int32)), (.int (0 : Int32)), (.int (0 : Int32)), (.int (0 : Int32))] (.int (0 : Int32)) := (Arv.new A4 (by decide)).pad (pad_rep [] (.int (0 : Int32)) 7)
 have I10 : TI p l e R4_7 s m #[(.int (7 : Int32)), (.int p1), (.int p2), (.int p3)] below meth c Z h0 n0 b1 b4 k4 (7 : Int32) 7 s.vm T4 h4 _ ((0 + 1) + 1) ((0 + 4) + 7) _ := ⟨X4, e4, ⟨_, hS, hk⟩, hZ, hown, CR4, N0, K4, O4, E4_6, F4_7, F4_8, V4_9, B4, Sf4_b1, Sf4_b4, rfl⟩
 obtain ⟨r11, vm11, T11, h11, L11, u11, X11, I11, st11⟩ := turn hw hx hml hEL HW hcb hk4 ne4_5 gn4 sz4 (by decide) (by decide) I10 (i := (0 : Int32)) ⟨by decide, by decide⟩ 0 rfl (by decide) (7 : Int32) (P := 343) (hb hby d4_343) (hb hby d4_346) (by decide) (by decide)
 obtain ⟨r12, vm12, T12, h12, L12, u12, X12, I12, st12⟩ := turn hw hx hml hEL HW hcb hk4 ne4_5 gn4 sz4 (by decide) (by decide) I11 (i := (1 : Int32)) ⟨by decide, by decide⟩ 1 rfl (by decide) (7 : Int32) (P := 353) (hb hby d4_353) (hb hby d4_356) (by decide) (by decide)
 obtain ⟨r13, vm13, T13, h13, L13, u13, X13, I13, st13⟩ := turn hw hx hml hEL HW hcb hk4 ne4_5 gn4 sz4 (by decide) (by decide) I12 (i := (2 : Int32)) ⟨by decide, by decide⟩ 2 rfl (by decide) (7 : Int32) (P := 363) (hb hby d4_363) (hb hby d4_366) (by decide) (by decide)
 obtain ⟨r14, vm14, T14, h14, L14, u14, X14, I14, st14⟩ := turn hw hx hml hEL HW hcb hk4 ne4_5 gn4 sz4 (by decide) (by decide) I13 (i := (3 : Int32)) ⟨by decide, by decide⟩ 3 rfl (by decide) (7 : Int32) (P := 373) (hb hby d4_373) (hb hby d4_376) (by decide) (by decide)
 obtain ⟨r15, vm15, T15, h15, L15, u15, X15, I15, st15⟩ := turn hw hx hml hEL HW hcb hk4 ne4_5 gn4 sz4 (by decide) (by decide) I14 (i := (4 : Int32)) ⟨by decide, by decide⟩ 4 rfl (by decide) (7 : Int32) (P := 383) (hb hby d4_383) (hb hby d4_386) (by decide) (by decide)
 obtain ⟨r16, vm16, T16, h16, L16, u16, X16, I16, st16⟩ := turn hw hx hml hEL HW hcb hk4 ne4_5 gn4 sz4 (by decide) (by decide) I15 (i := (5 : Int32)) ⟨by decide, by decide⟩ 5 rfl (by decide) (7 : Int32) (P := 393) (hb hby d4_393) (hb hby d4_396) (by decide) (by decide)
 obtain ⟨r17, vm17, T17, h17, L17, u17, X17, I17, st17⟩ := turn hw hx hml hEL HW hcb hk4 ne4_5 gn4 sz4 (by decide) (by decide) I16 (i := (6 : Int32)) ⟨by decide, by decide⟩ 6 rfl (by decide) (7 : Int32) (P := 405) (hb hby d4_405) (hb hby d4_408) (by decide) (by decide)
 obtain ⟨-, e18, ⟨kk18, hS, hk⟩, hZ, hown, CR18, N18, K18, O18, i18_0, i18_1, i18_2, i18_3, i18_4, i18_5, i18_6, -⟩ := I17
 have V18_19 : Arv Z h17 b4 k4 .char (7 : Int32) [(.int (nar .char r11)), (.int (nar .char r12)), (.int (nar .char r13)), (.int (nar .char r14)), (.int (nar .char r15)), (.int (nar .char r16)), (.int (nar .char r17))] (.int (0 : Int32)) := i18_3
 obtain ⟨_, _, ⟨T20, L20, k20, n20⟩, -, X20, ⟨Lc20, hQ20, l20, y20, z20⟩, st20⟩ := X17.specialBack hx (y := y11) rfl hown (mvT hZ (ow hw 56 rfl)) (mvT hZ (ow hw 57 rfl)) (mvT hZ (ow hw 58 rfl)) (by decide) (StrChars.Road.backV (W := 1) hZ (own_ws hw) (ow hw 7 rfl) (cs := [(nar .char r11), (nar .char r12), (nar .char r13), (nar .char r14), (nar .char r15), (nar .char r16), (nar .char r17)]) (bs := [((nar .char r11).toInt8.toInt32), ((nar .char r12).toInt8.toInt32), ((nar .char r13).toInt8.toInt32), ((nar .char r14).toInt8.toInt32), ((nar .char r15).toInt8.toInt32), ((nar .char r16).toInt8.toInt32), ((nar .char r17).toInt8.toInt32)]) (n := 7) gn1 (Nat.le_trans (Nat.le_of_eq O18.1.symm) O18.2.1) i18_0 i18_1 i18_2 V18_19 (S_q0.ext O18.2) hz_w_z0 rfl (by decide) (by decide) (by decide) (own_cc ⟨own_0 (own_ncr u11), own_255 (own_ncr u11)⟩ (own_cc ⟨own_0 (own_ncr u12), own_255 (own_ncr u12)⟩ (own_cc ⟨own_0 (own_ncr u13), own_255 (own_ncr u13)⟩ (own_cc ⟨own_0 (own_ncr u14), own_255 (own_ncr u14)⟩ (own_cc ⟨own_0 (own_ncr u15), own_255 (own_ncr u15)⟩ (own_cc ⟨own_0 (own_ncr u16), own_255 (own_ncr u16)⟩ (own_cc ⟨own_0 (own_ncr u17), own_255 (own_ncr u17)⟩ own_cn))))))) rfl (by decide) (by decide)) (g := (mkF m 409 #[iv (7 : Int32), iv p1, iv p2, iv p3] [(.ref b4), (.ref b1), (.ref b1)])) rfl (by rw [hml]; rfl) (Steps.refl _) (a := b1) (argsL := [(.ref b4)]) (rest := [(.ref b1)]) (lenOf pd_10 rfl) rfl (by show 2 * 0 + _ ≤ _; exact Nat.le_of_eq rfl) (hb hby d4_409) (fun _ _ => ⟨rfl, e18, (by decide : 16 + 1 ≤ _), (by decide : 291 + 7 ≤ _)⟩)
 dsimp only [Pt.U, Pt.locs, Pt.cells, Pt.slots] at X20 l20 y20 z20 st20 hQ20
 subst l20 y20 z20
 obtain ⟨rfl, N20q, Kq20, uE20, uC20, t20, kt20, -, tg20, tn20, uF20, uV20⟩ := hQ20
 have N20 := Fr.app N18 N20q
 have ne21 : b1 ≠ t20 := Nat.ne_of_lt (Nat.lt_of_lt_of_le (i18_0).lt tg20)
 have ne22 : b4 ≠ t20 := Nat.ne_of_lt (Nat.lt_of_lt_of_le (V18_19).lt tg20)
 have E20_23 := i18_0.keep Kq20
 have V20_24 := V18_19.keep Kq20 (ninS (Ne.symm ne4_5) nin0)
 have E20_25 := i18_4.keep Kq20
 have K20 := K18.trans Kq20 (allS (Or.inr sz1) all0)
 have O20 := O18.keep Kq20 (allS gn1 all0)
 have Sf20_b1 := Safe.keep Kq20 (allS i18_5 all0) CR18.1 i18_5
 have Sf20_b4 := Safe.keep Kq20 (allS i18_5 all0) CR18.1 i18_6
 have CR20 : CHr Z EL0 s.vm h0 vm17 T20.heap := CR18.trans (CHr.keep Kq20 (allS i18_5 all0) CR18.1)
 have hk := Nat.le_trans hk Kq20.1
 have sz20 : h0.size ≤ t20 := Nat.le_trans K18.1 tg20
 have gn20 : n0 ≤ t20 := Nat.le_trans (Nat.le_trans (Nat.le_of_eq O18.1.symm) O18.2.1) tg20
 have Sn20 : Safe Z EL0 vm17 T20.heap t20 := Safe.keep Kq20 (allS i18_5 all0) CR18.1 (Safe.new tg20)
 have uC20' : Fld Z T20.heap b1 "java/lang/String" "coder" "B" (.int (0 : Int32)) := uC20
 have uF20' : Fld Z T20.heap b1 "java/lang/String" "value" "[B" (.ref t20) := uF20
 have uV20' : Arv Z T20.heap t20 kt20 .byte (7 : Int32) [(.int ((nar .char r11).toInt8.toInt32)), (.int ((nar .char r12).toInt8.toInt32)), (.int ((nar .char r13).toInt8.toInt32)), (.int ((nar .char r14).toInt8.toInt32)), (.int ((nar .char r15).toInt8.toInt32)), (.int ((nar .char r16).toInt8.toInt32)), (.int ((nar .char r17).toInt8.toInt32))] (.int (0 : Int32)) := uV20
 obtain ⟨fs, hr, hrun, hended, hRE⟩ := X20.leaveW hS hk (v := some (.ref b1)) (fun h => by rw [Bd.returns] at h; cases h)
 have CRf : CHr Z EL0 s.vm s.heap (T20.setFrames fs).vm (T20.setFrames fs).heap := by
   show CHr Z EL0 s.vm s.heap T20.vm T20.heap
   rw [hh]
   exact CR20.trans (CHv.at X20 hZ hEL CR20.1)
 subst hS0
 refine ⟨_, _, pre0 _ ?_, hrun, hended, _, _, rfl, ?_, CRf, hRE.1, hRE.2.1, hRE.2.2.1, hRE.2.2.2.mono (by decide) (by decide)⟩
 ·
  refine XS.iloadN X0.here hx rfl (hb hby d4_0) rfl ?_
  show AT p e below s₁ m 1 #[iv (7 : Int32), iv p1, iv p2, iv p3] [(.int (7 : Int32))] _
  refine XS.ifYes X0.here hx rfl (pc0 := 1) (pc' := 15) rfl (hb hby d4_1) rfl (XT.i0_ne_t ((by decide) : ¬ ((7 : Int32) = (0 : Int32)))) (by decide) (by decide) ?_
  refine XS.iloadN X0.here hx rfl (hb hby d4_15) rfl ?_
  refine XS.iconst X0.here hx rfl (hb hby d4_16) ?_
  show AT p e below s₁ m 17 #[iv (7 : Int32), iv p1, iv p2, iv p3] [(.int (1 : Int32)), (.int (7 : Int32))] _
  refine XS.icmpYes X0.here hx rfl (pc0 := 17) (pc' := 41) rfl (hb hby d4_17) rfl (XT.ii_ne_t ((by decide) : ¬ ((7 : Int32) = (1 : Int32)))) (by decide) (by decide) ?_
  refine XS.iloadN X0.here hx rfl (hb hby d4_41) rfl ?_
  refine XS.iconst X0.here hx rfl (hb hby d4_42) ?_
  show AT p e below s₁ m 43 #[iv (7 : Int32), iv p1, iv p2, iv p3] [(.int (2 : Int32)), (.int (7 : Int32))] _
  refine XS.icmpYes X0.here hx rfl (pc0 := 43) (pc' := 77) rfl (hb hby d4_43) rfl (XT.ii_ne_t ((by decide) : ¬ ((7 : Int32) = (2 : Int32)))) (by decide) (by decide) ?_
  refine XS.iloadN X0.here hx rfl (hb hby d4_77) rfl ?_
  refine XS.iconst X0.here hx rfl (hb hby d4_78) ?_
  show AT p e below s₁ m 79 #[iv (7 : Int32), iv p1, iv p2, iv p3] [(.int (3 : Int32)), (.int (7 : Int32))] _
  refine XS.icmpYes X0.here hx rfl (pc0 := 79) (pc' := 123) rfl (hb hby d4_79) rfl (XT.ii_ne_t ((by decide) : ¬ ((7 : Int32) = (3 : Int32)))) (by decide) (by decide) ?_
  refine XS.iloadN X0.here hx rfl (hb hby d4_123) rfl ?_
  refine XS.iconst X0.here hx rfl (hb hby d4_124) ?_
  show AT p e below s₁ m 125 #[iv (7 : Int32), iv p1, iv p2, iv p3] [(.int (4 : Int32)), (.int (7 : Int32))] _
  refine XS.icmpYes X0.here hx rfl (pc0 := 125) (pc' := 179) rfl (hb hby d4_125) rfl (XT.ii_ne_t ((by decide) : ¬ ((7 : Int32) = (4 : Int32)))) (by decide) (by decide) ?_
  refine XS.iloadN X0.here hx rfl (hb hby d4_179) rfl ?_
  refine XS.iconst X0.here hx rfl (hb hby d4_180) ?_
  show AT p e below s₁ m 181 #[iv (7 : Int32), iv p1, iv p2, iv p3] [(.int (5 : Int32)), (.int (7 : Int32))] _
  refine XS.icmpYes X0.here hx rfl (pc0 := 181) (pc' := 245) rfl (hb hby d4_181) rfl (XT.ii_ne_t ((by decide) : ¬ ((7 : Int32) = (5 : Int32)))) (by decide) (by decide) ?_
  refine XS.iloadN X0.here hx rfl (hb hby d4_245) rfl ?_
  refine XS.bipush X0.here hx rfl (hb hby d4_246) ?_
  show AT p e below s₁ m 248 #[iv (7 : Int32), iv p1, iv p2, iv p3] [(.int (6 : Int32)), (.int (7 : Int32))] _
  refine XS.icmpYes X0.here hx rfl (pc0 := 248) (pc' := 323) rfl (hb hby d4_248) rfl (XT.ii_ne_t ((by decide) : ¬ ((7 : Int32) = (6 : Int32)))) (by decide) (by decide) ?_
  refine XS.iloadN X0.here hx rfl (hb hby d4_323) rfl ?_
  refine XS.bipush X0.here hx rfl (hb hby d4_324) ?_
  show AT p e below s₁ m 326 #[iv (7 : Int32), iv p1, iv p2, iv p3] [(.int (7 : Int32)), (.int (7 : Int32))] _
  refine XS.icmpNo X0.here hx rfl (hb hby d4_326) rfl (XT.ii_ne_f ((by decide) : (7 : Int32) = (7 : Int32))) ?_
  refine st1 _ ?_
  refine XS.dup X1.here hx rfl (hb hby d4_332) rfl rfl ?_
  refine XS.bipush X1.here hx rfl (hb hby d4_333) ?_
  refine st4 _ ?_
  refine XS.dup X4.here hx rfl (hb hby d4_337) rfl rfl ?_
  refine XS.iconst X4.here hx rfl (hb hby d4_338) ?_
  refine XS.iloadN X4.here hx rfl (hb hby d4_339) rfl ?_
  refine XS.iconst X4.here hx rfl (hb hby d4_340) ?_
  refine XS.iloadN X4.here hx rfl (hb hby d4_341) rfl ?_
  refine XS.iloadN X4.here hx rfl (hb hby d4_342) rfl ?_
  refine st11 _ ?_
  refine XS.dup X11.here hx rfl (hb hby d4_347) rfl rfl ?_
  refine XS.iconst X11.here hx rfl (hb hby d4_348) ?_
  refine XS.iloadN X11.here hx rfl (hb hby d4_349) rfl ?_
  refine XS.iconst X11.here hx rfl (hb hby d4_350) ?_
  show AT p e below T11 m 351 #[iv (7 : Int32), iv p1, iv p2, iv p3] [(.int (1 : Int32)), (.int p1), (.int (1 : Int32)), (.ref b4), (.ref b4), (.ref b1), (.ref b1)] _
  refine XS.iloadN X11.here hx rfl (hb hby d4_351) rfl ?_
  refine XS.iloadN X11.here hx rfl (hb hby d4_352) rfl ?_
  refine st12 _ ?_
  refine XS.dup X12.here hx rfl (hb hby d4_357) rfl rfl ?_
  refine XS.iconst X12.here hx rfl (hb hby d4_358) ?_
  refine XS.iloadN X12.here hx rfl (hb hby d4_359) rfl ?_
  refine XS.iconst X12.here hx rfl (hb hby d4_360) ?_
  refine XS.iloadN X12.here hx rfl (hb hby d4_361) rfl ?_
  refine XS.iloadN X12.here hx rfl (hb hby d4_362) rfl ?_
  refine st13 _ ?_
  refine XS.dup X13.here hx rfl (hb hby d4_367) rfl rfl ?_
  refine XS.iconst X13.here hx rfl (hb hby d4_368) ?_
  refine XS.iloadN X13.here hx rfl (hb hby d4_369) rfl ?_
  refine XS.iconst X13.here hx rfl (hb hby d4_370) ?_
  refine XS.iloadN X13.here hx rfl (hb hby d4_371) rfl ?_
  refine XS.iloadN X13.here hx rfl (hb hby d4_372) rfl ?_
  refine st14 _ ?_
  refine XS.dup X14.here hx rfl (hb hby d4_377) rfl rfl ?_
  refine XS.iconst X14.here hx rfl (hb hby d4_378) ?_
  refine XS.iloadN X14.here hx rfl (hb hby d4_379) rfl ?_
  refine XS.iconst X14.here hx rfl (hb hby d4_380) ?_
  refine XS.iloadN X14.here hx rfl (hb hby d4_381) rfl ?_
  refine XS.iloadN X14.here hx rfl (hb hby d4_382) rfl ?_
  refine st15 _ ?_
  refine XS.dup X15.here hx rfl (hb hby d4_387) rfl rfl ?_
  refine XS.iconst X15.here hx rfl (hb hby d4_388) ?_
  refine XS.iloadN X15.here hx rfl (hb hby d4_389) rfl ?_
  refine XS.iconst X15.here hx rfl (hb hby d4_390) ?_
  refine XS.iloadN X15.here hx rfl (hb hby d4_391) rfl ?_
  refine XS.iloadN X15.here hx rfl (hb hby d4_392) rfl ?_
  show AT p e below T15 m 393 #[iv (7 : Int32), iv p1, iv p2, iv p3] [(.int p3), (.int p2), (.int (5 : Int32)), (.int p1), (.int (5 : Int32)), (.ref b4), (.ref b4), (.ref b1), (.ref b1)] _
  refine st16 _ ?_
  refine XS.dup X16.here hx rfl (hb hby d4_397) rfl rfl ?_
  refine XS.bipush X16.here hx rfl (hb hby d4_398) ?_
  refine XS.iloadN X16.here hx rfl (hb hby d4_400) rfl ?_
  refine XS.bipush X16.here hx rfl (hb hby d4_401) ?_
  refine XS.iloadN X16.here hx rfl (hb hby d4_403) rfl ?_
  refine XS.iloadN X16.here hx rfl (hb hby d4_404) rfl ?_
  refine st17 _ ?_
  refine st20.trans ?_
  exact retOut X20 hx (t := (.object "java/lang/String")) (i := .areturn) Bd.returns rfl (Or.inr (Or.inr (Or.inr (Or.inr ⟨rfl, rfl, rfl⟩)))) (hb hby d4_412) hr
 ·
  show Q4_7 Z p1 p2 p3 h0 n0 _ T20.heap _
  exact ⟨b1, t20, kt20, ((nar .char r11).toInt8.toInt32), ((nar .char r12).toInt8.toInt32), ((nar .char r13).toInt8.toInt32), ((nar .char r14).toInt8.toInt32), ((nar .char r15).toInt8.toInt32), ((nar .char r16).toInt8.toInt32), ((nar .char r17).toInt8.toInt32), rfl, N20, K20, E20_23, uC20', uF20', uV20', gn1⟩

theorem d4_413 : decode method_5_code 413 = .ok (.iload_n 0, 1) := by decide +kernel
theorem d4_414 : decode method_5_code 414 = .ok (.bipush 8, 2) := by decide +kernel
theorem d4_416 : decode method_5_code 416 = .ok (.if_icmp .ne 99, 3) := by decide +kernel
theorem d4_419 : decode method_5_code 419 = .ok (.new 15, 3) := by decide +kernel
theorem d4_422 : decode method_5_code 422 = .ok (.dup, 1) := by decide +kernel
theorem d4_423 : decode method_5_code 423 = .ok (.bipush 8, 2) := by decide +kernel
theorem d4_425 : decode method_5_code 425 = .ok (.newarray .char, 2) := by decide +kernel
theorem d4_427 : decode method_5_code 427 = .ok (.dup, 1) := by decide +kernel
theorem d4_428 : decode method_5_code 428 = .ok (.iconst 0, 1) := by decide +kernel
theorem d4_429 : decode method_5_code 429 = .ok (.iload_n 1, 1) := by decide +kernel
theorem d4_430 : decode method_5_code 430 = .ok (.iconst 0, 1) := by decide +kernel
theorem d4_431 : decode method_5_code 431 = .ok (.iload_n 2, 1) := by decide +kernel
theorem d4_432 : decode method_5_code 432 = .ok (.iload_n 3, 1) := by decide +kernel
theorem d4_433 : decode method_5_code 433 = .ok (.invokestatic 65, 3) := by decide +kernel
theorem d4_436 : decode method_5_code 436 = .ok (.castore, 1) := by decide +kernel
theorem d4_437 : decode method_5_code 437 = .ok (.dup, 1) := by decide +kernel
theorem d4_438 : decode method_5_code 438 = .ok (.iconst 1, 1) := by decide +kernel
theorem d4_439 : decode method_5_code 439 = .ok (.iload_n 1, 1) := by decide +kernel
theorem d4_440 : decode method_5_code 440 = .ok (.iconst 1, 1) := by decide +kernel
theorem d4_441 : decode method_5_code 441 = .ok (.iload_n 2, 1) := by decide +kernel
theorem d4_442 : decode method_5_code 442 = .ok (.iload_n 3, 1) := by decide +kernel
theorem d4_443 : decode method_5_code 443 = .ok (.invokestatic 65, 3) := by decide +kernel
theorem d4_446 : decode method_5_code 446 = .ok (.castore, 1) := by decide +kernel
theorem d4_447 : decode method_5_code 447 = .ok (.dup, 1) := by decide +kernel
theorem d4_448 : decode method_5_code 448 = .ok (.iconst 2, 1) := by decide +kernel
theorem d4_449 : decode method_5_code 449 = .ok (.iload_n 1, 1) := by decide +kernel
theorem d4_450 : decode method_5_code 450 = .ok (.iconst 2, 1) := by decide +kernel
theorem d4_451 : decode method_5_code 451 = .ok (.iload_n 2, 1) := by decide +kernel
theorem d4_452 : decode method_5_code 452 = .ok (.iload_n 3, 1) := by decide +kernel
theorem d4_453 : decode method_5_code 453 = .ok (.invokestatic 65, 3) := by decide +kernel
theorem d4_456 : decode method_5_code 456 = .ok (.castore, 1) := by decide +kernel
theorem d4_457 : decode method_5_code 457 = .ok (.dup, 1) := by decide +kernel
theorem d4_458 : decode method_5_code 458 = .ok (.iconst 3, 1) := by decide +kernel
theorem d4_459 : decode method_5_code 459 = .ok (.iload_n 1, 1) := by decide +kernel
theorem d4_460 : decode method_5_code 460 = .ok (.iconst 3, 1) := by decide +kernel
theorem d4_461 : decode method_5_code 461 = .ok (.iload_n 2, 1) := by decide +kernel
theorem d4_462 : decode method_5_code 462 = .ok (.iload_n 3, 1) := by decide +kernel
theorem d4_463 : decode method_5_code 463 = .ok (.invokestatic 65, 3) := by decide +kernel
theorem d4_466 : decode method_5_code 466 = .ok (.castore, 1) := by decide +kernel
theorem d4_467 : decode method_5_code 467 = .ok (.dup, 1) := by decide +kernel
theorem d4_468 : decode method_5_code 468 = .ok (.iconst 4, 1) := by decide +kernel
theorem d4_469 : decode method_5_code 469 = .ok (.iload_n 1, 1) := by decide +kernel
theorem d4_470 : decode method_5_code 470 = .ok (.iconst 4, 1) := by decide +kernel
theorem d4_471 : decode method_5_code 471 = .ok (.iload_n 2, 1) := by decide +kernel
theorem d4_472 : decode method_5_code 472 = .ok (.iload_n 3, 1) := by decide +kernel
theorem d4_473 : decode method_5_code 473 = .ok (.invokestatic 65, 3) := by decide +kernel
theorem d4_476 : decode method_5_code 476 = .ok (.castore, 1) := by decide +kernel
theorem d4_477 : decode method_5_code 477 = .ok (.dup, 1) := by decide +kernel
theorem d4_478 : decode method_5_code 478 = .ok (.iconst 5, 1) := by decide +kernel
theorem d4_479 : decode method_5_code 479 = .ok (.iload_n 1, 1) := by decide +kernel
theorem d4_480 : decode method_5_code 480 = .ok (.iconst 5, 1) := by decide +kernel
theorem d4_481 : decode method_5_code 481 = .ok (.iload_n 2, 1) := by decide +kernel
theorem d4_482 : decode method_5_code 482 = .ok (.iload_n 3, 1) := by decide +kernel
theorem d4_483 : decode method_5_code 483 = .ok (.invokestatic 65, 3) := by decide +kernel
theorem d4_486 : decode method_5_code 486 = .ok (.castore, 1) := by decide +kernel
theorem d4_487 : decode method_5_code 487 = .ok (.dup, 1) := by decide +kernel
theorem d4_488 : decode method_5_code 488 = .ok (.bipush 6, 2) := by decide +kernel
theorem d4_490 : decode method_5_code 490 = .ok (.iload_n 1, 1) := by decide +kernel
theorem d4_491 : decode method_5_code 491 = .ok (.bipush 6, 2) := by decide +kernel
theorem d4_493 : decode method_5_code 493 = .ok (.iload_n 2, 1) := by decide +kernel
theorem d4_494 : decode method_5_code 494 = .ok (.iload_n 3, 1) := by decide +kernel
theorem d4_495 : decode method_5_code 495 = .ok (.invokestatic 65, 3) := by decide +kernel
theorem d4_498 : decode method_5_code 498 = .ok (.castore, 1) := by decide +kernel
theorem d4_499 : decode method_5_code 499 = .ok (.dup, 1) := by decide +kernel
theorem d4_500 : decode method_5_code 500 = .ok (.bipush 7, 2) := by decide +kernel
theorem d4_502 : decode method_5_code 502 = .ok (.iload_n 1, 1) := by decide +kernel
theorem d4_503 : decode method_5_code 503 = .ok (.bipush 7, 2) := by decide +kernel
theorem d4_505 : decode method_5_code 505 = .ok (.iload_n 2, 1) := by decide +kernel
theorem d4_506 : decode method_5_code 506 = .ok (.iload_n 3, 1) := by decide +kernel
theorem d4_507 : decode method_5_code 507 = .ok (.invokestatic 65, 3) := by decide +kernel
theorem d4_510 : decode method_5_code 510 = .ok (.castore, 1) := by decide +kernel
theorem d4_511 : decode method_5_code 511 = .ok (.invokespecial 62, 3) := by decide +kernel
theorem d4_514 : decode method_5_code 514 = .ok (.areturn, 1) := by decide +kernel
theorem ef_4_8 (m : MethodId) (p1 : Int32) (p2 : Int32) (p3 : Int32) : entryFrame m #[(.int (8 : Int32)), (.int p1), (.int p2), (.int p3)] 4 = mkF m 0 #[iv (8 : Int32), iv p1, iv p2, iv p3] [] := by first | (simp [entryFrame, mkF, argsToLocals, Value.category]; done) | rfl
def Q4_8 (Z : State) (p1 : Int32) (p2 : Int32) (p3 : Int32) (h0 : Heap) (n0 : Nat) (v : Option Value) (h : Heap) (L : List Loc) : Prop := ∃ (t : Addr) (tb : Addr) (kb : ClassId) (y0 : Int32) (y1 : Int32) (y2 : Int32) (y3 : Int32) (y4 : Int32) (y5 : Int32) (y6 : Int32) (y7 : Int32), v = some (.ref t) ∧ Fr n0 L ∧ Keep h0 h [] ∧ Exa Z h t "java/lang/String" ∧ Fld Z h t "java/lang/String" "coder" "B" (.int (0 : Int32)) ∧ Fld Z h t "java/lang/String" "value" "[B" (.ref tb) ∧ Arv Z h tb kb .byte (8 : Int32) [(.int y0), (.int y1), (.int y2), (.int y3), (.int y4), (.int y5), (.int y6), (.int y7)] (.int (0 : Int32)) ∧ n0 ≤ t
abbrev R4_8 : Room := ({ frames := 5, cells := 19, slots := 340, locals := 74 } : Room)
set_option maxRecDepth 65536 in
set_option maxHeartbeats 40000000 in
theorem rm4_8 (l : Launch) (Z : State) (ar : Array Value) (hw : ∀ d ∈ tables_1, d.before ar Z = true) (ws : List Jvm.Cond) (p1 : Int32) (p2 : Int32) (p3 : Int32) (h0 : Heap) (n0 : Nat) (O0 : Old Z n0 h0) (hEL : EW Z ar EL0) (HW : Wd Z w_z0 w_z1 w_z2 w_z3 w_z4 w_z5 w_z6 w_z7 w_z8 w_z9 w_z10 w_z11 k_z3 k_z7 k_z9 k_z11) (hcb : 0 ≤ p3.toInt ∧ p3.toInt ≤ 255) (hk4 : p1 = (0 : Int32) ∨ p1 = (1 : Int32) ∨ p1 = (2 : Int32) ∨ p1 = (3 : Int32)) :
    MetFree l y4 (head1 (Jvm.Cond.code y4 method_5_code 4 (some (.object "java/lang/String")) :: ws) R4_8) (fun a U => a = #[(.int (8 : Int32)), (.int p1), (.int p2), (.int p3)] ∧ Z.Warmed39 U.vm ∧ U.heap = h0 ∧ CHv Z EL0 U.vm h0) (fun _ _ _ _ _ => True) (fun _ U o U' => ∃ v L, o = .returned v ∧ Q4_8 Z p1 p2 p3 h0 n0 v U'.heap L ∧ CHr Z EL0 U.vm U.heap U'.vm U'.heap ∧ ReturnedEndW U o U' L R4_8.cells R4_8.slots) := by
 refine MetFree.of_bodySF (plainFor_of_name pn_3) hisR ?_
 intro p e s m args below meth c s₁ Bd hml0 hP hK
 obtain ⟨rfl, hZ, hh, hCH⟩ := hP
 have hx := Bd.exec
 have hby := Bd.bytes
 have hml : c.maxLocals = 4 := hml0
 have hown : s.vm.findClass "com/example/lease/lease/WorkerStateNamedPinLaw" = some m.cls := findClass_of_methodNamed Bd.named
 have hnm := (name_of_methodNamed Bd.named Bd.method).1
 have hlk : meth.locks = false := by first | assumption | exact BodyLoose.notSynchronized (by assumption) | exact Body.notSynchronized (by assumption)
 have X0 : Stand p l e R4_8 (s.setVm s.vm) m #[(.int (8 : Int32)), (.int p1), (.int p2), (.int p3)] below meth c s₁ [] 0 0 := Stand.of_body Bd
 have e0 : s₁.heap = h0 := by rw [← hh, Bd.state]; rfl
 have N0 := Fr.nil n0
 have Z0 : n0 ≤ h0.size := Nat.le_trans (Nat.le_of_eq O0.1.symm) O0.2.1
 obtain ⟨S0, hS0⟩ : ∃ z, z = s₁.setTop (entryFrame m #[(.int (8 : Int32)), (.int p1), (.int p2), (.int p3)] 4) := ⟨_, rfl⟩
 have pre0 : ∀ tg, AT p e below s₁ m 0 #[iv (8 : Int32), iv p1, iv p2, iv p3] [] tg → Steps p.tables e below S0 tg := fun tg kg => by rw [hS0]; exact castTop (ef_4_8 m p1 p2 p3) kg
 have hS : s.Since s.vm 0 := (State.WarmedH.refl s).since 0
 have hk : 0 ≤ h0.size := Nat.zero_le _
 have CR0 : CHr Z EL0 s.vm h0 s.vm h0 := CHr.refl hCH
 obtain ⟨S_q0, hz_w_z0, -, -, -, -, -, -, -, -, -, -, -, -, -, -, -, -, -, -, -, -, -, -, -, -, -, -⟩ := id HW
 obtain ⟨T1, h1, X1, e1, E1, A1, D1, -, st1⟩ := newO X0 hx hZ hown (ow hw 29 rfl) (ow hw 7 rfl) (ow hw 6 rfl) e0 (g := (mkF m 419 #[iv (8 : Int32), iv p1, iv p2, iv p3] [])) rfl (hb hby d4_419) (by decide) (by decide)
 obtain ⟨b1, g1⟩ : ∃ z, z = h0.size := ⟨_, rfl⟩
 rw [← g1] at A1 D1 st1
 have gn1 : n0 ≤ b1 := Nat.le_trans (Nat.le_trans (Nat.le_of_eq O0.1.symm) O0.2.1) (Nat.le_of_eq g1.symm)
 have sz1 : h0.size ≤ b1 := Nat.le_trans (Keep.refl h0 []).1 (Nat.le_of_eq g1.symm)
 have Sn1 : Safe Z EL0 s.vm h0 b1 := Safe.new (Nat.le_of_eq g1.symm)
 have K1 := (Keep.refl h0 []).ext E1
 have O1 := O0.ext E1
 have Sf1_b1 := Safe.ext E1 CR0.1 Sn1
 have CR1 : CHr Z EL0 s.vm h0 s.vm h1 := CR0.trans (CHr.ext E1 CR0.1)
 have hk := Nat.le_trans hk E1.1
 have F1_2 : Fld Z h1 b1 "java/lang/String" "value" "[B" .null := D1 (Or.inr (ow hw 9 rfl)) (ty := (.array .byte)) (by decide)
 have F1_3 : Fld Z h1 b1 "java/lang/String" "coder" "B" (.int (0 : Int32)) := D1 (Or.inr (ow hw 10 rfl)) (ty := .byte) (by decide)
 obtain ⟨T4, h4, k4, X4, e4, E4, A4, B4, st4⟩ := newPE X1 hx hZ (ow hw 30 rfl) e1 (g := (mkF m 425 #[iv (8 : Int32), iv p1, iv p2, iv p3] [(.int (8 : Int32)), (.ref b1), (.ref b1)])) rfl (hb hby d4_425) rfl (by decide) (cap := 8) (by decide) (by decide) (by decide) (by decide) (ad := "[C") (by decide)
 obtain ⟨b4, g4⟩ : ∃ z, z = h1.size := ⟨_, rfl⟩
 rw [← g4] at A4 B4 st4
 have ne4_5 : b1 ≠ b4 := Nat.ne_of_lt (Nat.lt_of_lt_of_le (A1).lt (Nat.le_of_eq g4.symm))
 have gn4 : n0 ≤ b4 := Nat.le_trans (Nat.le_trans (Nat.le_of_eq O1.1.symm) O1.2.1) (Nat.le_of_eq g4.symm)
 have sz4 : h0.size ≤ b4 := Nat.le_trans K1.1 (Nat.le_of_eq g4.symm)
 have Sn4 : Safe Z EL0 s.vm h1 b4 := Safe.new (Nat.le_of_eq g4.symm)
 have E4_6 := A1.ext E4
 have F4_7 := F1_2.ext E4
 have F4_8 := F1_3.ext E4
 have K4 := K1.ext E4
 have O4 := O1.ext E4
 have Sf4_b1 := Safe.ext E4 CR1.1 Sf1_b1
 have Sf4_b4 := Safe.ext E4 CR1.1 Sn4
 have CR4 : CHr Z EL0 s.vm h0 s.vm h4 := CR1.trans (CHr.ext E4 CR1.1)
 have hk := Nat.le_trans hk E4.1
 have V4_9 : Arv Z h4 b4 k4 .char (8 : Int32) [(.int (0 : Int32)), (.int (0 : Int32)), (.int (0 : Int32)), (.int (0 : Int32)), (.int (0 : Int32)), (.int (0 : Int32)), (.int (0 : Int32)), (.int (0 : Int32))] (.int (0 : Int32)) := (Arv.new A4 (by decide)).pad (pad_rep [] (.int (0 : Int32)) 8)
 have I10 : TI p l e R4_8 s m #[(.int (8 : Int32)), (.int p1), (.int p2), (.int p3)] below meth c Z h0 n0 b1 b4 k4 (8 : Int32) 8 s.vm T4 h4 _ ((0 + 1) + 1) ((0 + 4) + 8) _ := ⟨X4, e4, ⟨_, hS, hk⟩, hZ, hown, CR4, N0, K4, O4, E4_6, F4_7, F4_8, V4_9, B4, Sf4_b1, Sf4_b4, rfl⟩
 obtain ⟨r11, vm11, T11, h11, L11, u11, X11, I11, st11⟩ := turn hw hx hml hEL HW hcb hk4 ne4_5 gn4 sz4 (by decide) (by decide) I10 (i := (0 : Int32)) ⟨by decide, by decide⟩ 0 rfl (by decide) (8 : Int32) (P := 433) (hb hby d4_433) (hb hby d4_436) (by decide) (by decide)
 obtain ⟨r12, vm12, T12, h12, L12, u12, X12, I12, st12⟩ := turn hw hx hml hEL HW hcb hk4 ne4_5 gn4 sz4 (by decide) (by decide) I11 (i := (1 : Int32)) ⟨by decide, by decide⟩ 1 rfl (by decide) (8 : Int32) (P := 443) (hb hby d4_443) (hb hby d4_446) (by decide) (by decide)
 obtain ⟨r13, vm13, T13, h13, L13, u13, X13, I13, st13⟩ := turn hw hx hml hEL HW hcb hk4 ne4_5 gn4 sz4 (by decide) (by decide) I12 (i := (2 : Int32)) ⟨by decide, by decide⟩ 2 rfl (by decide) (8 : Int32) (P := 453) (hb hby d4_453) (hb hby d4_456) (by decide) (by decide)
 obtain ⟨r14, vm14, T14, h14, L14, u14, X14, I14, st14⟩ := turn hw hx hml hEL HW hcb hk4 ne4_5 gn4 sz4 (by decide) (by decide) I13 (i := (3 : Int32)) ⟨by decide, by decide⟩ 3 rfl (by decide) (8 : Int32) (P := 463) (hb hby d4_463) (hb hby d4_466) (by decide) (by decide)
 obtain ⟨r15, vm15, T15, h15, L15, u15, X15, I15, st15⟩ := turn hw hx hml hEL HW hcb hk4 ne4_5 gn4 sz4 (by decide) (by decide) I14 (i := (4 : Int32)) ⟨by decide, by decide⟩ 4 rfl (by decide) (8 : Int32) (P := 473) (hb hby d4_473) (hb hby d4_476) (by decide) (by decide)
 obtain ⟨r16, vm16, T16, h16, L16, u16, X16, I16, st16⟩ := turn hw hx hml hEL HW hcb hk4 ne4_5 gn4 sz4 (by decide) (by decide) I15 (i := (5 : Int32)) ⟨by decide, by decide⟩ 5 rfl (by decide) (8 : Int32) (P := 483) (hb hby d4_483) (hb hby d4_486) (by decide) (by decide)
 obtain ⟨r17, vm17, T17, h17, L17, u17, X17, I17, st17⟩ := turn hw hx hml hEL HW hcb hk4 ne4_5 gn4 sz4 (by decide) (by decide) I16 (i := (6 : Int32)) ⟨by decide, by decide⟩ 6 rfl (by decide) (8 : Int32) (P := 495) (hb hby d4_495) (hb hby d4_498) (by decide) (by decide)
 obtain ⟨r18, vm18, T18, h18, L18, u18, X18, I18, st18⟩ := turn hw hx hml hEL HW hcb hk4 ne4_5 gn4 sz4 (by decide) (by decide) I17 (i := (7 : Int32)) ⟨by decide, by decide⟩ 7 rfl (by decide) (8 : Int32) (P := 507) (hb hby d4_507) (hb hby d4_510) (by decide) (by decide)
 obtain ⟨-, e19, ⟨kk19, hS, hk⟩, hZ, hown, CR19, N19, K19, O19, i19_0, i19_1, i19_2, i19_3, i19_4, i19_5, i19_6, -⟩ := I18
 have V19_20 : Arv Z h18 b4 k4 .char (8 : Int32) [(.int (nar .char r11)), (.int (nar .char r12)), (.int (nar .char r13)), (.int (nar .char r14)), (.int (nar .char r15)), (.int (nar .char r16)), (.int (nar .char r17)), (.int (nar .char r18))] (.int (0 : Int32)) := i19_3
 obtain ⟨_, _, ⟨T21, L21, k21, n21⟩, -, X21, ⟨Lc21, hQ21, l21, y21, z21⟩, st21⟩ := X18.specialBack hx (y := y11) rfl hown (mvT hZ (ow hw 56 rfl)) (mvT hZ (ow hw 57 rfl)) (mvT hZ (ow hw 58 rfl)) (by decide) (StrChars.Road.backV (W := 1) hZ (own_ws hw) (ow hw 7 rfl) (cs := [(nar .char r11), (nar .char r12), (nar .char r13), (nar .char r14), (nar .char r15), (nar .char r16), (nar .char r17), (nar .char r18)]) (bs := [((nar .char r11).toInt8.toInt32), ((nar .char r12).toInt8.toInt32), ((nar .char r13).toInt8.toInt32), ((nar .char r14).toInt8.toInt32), ((nar .char r15).toInt8.toInt32), ((nar .char r16).toInt8.toInt32), ((nar .char r17).toInt8.toInt32), ((nar .char r18).toInt8.toInt32)]) (n := 8) gn1 (Nat.le_trans (Nat.le_of_eq O19.1.symm) O19.2.1) i19_0 i19_1 i19_2 V19_20 (S_q0.ext O19.2) hz_w_z0 rfl (by decide) (by decide) (by decide) (own_cc ⟨own_0 (own_ncr u11), own_255 (own_ncr u11)⟩ (own_cc ⟨own_0 (own_ncr u12), own_255 (own_ncr u12)⟩ (own_cc ⟨own_0 (own_ncr u13), own_255 (own_ncr u13)⟩ (own_cc ⟨own_0 (own_ncr u14), own_255 (own_ncr u14)⟩ (own_cc ⟨own_0 (own_ncr u15), own_255 (own_ncr u15)⟩ (own_cc ⟨own_0 (own_ncr u16), own_255 (own_ncr u16)⟩ (own_cc ⟨own_0 (own_ncr u17), own_255 (own_ncr u17)⟩ (own_cc ⟨own_0 (own_ncr u18), own_255 (own_ncr u18)⟩ own_cn)))))))) rfl (by decide) (by decide)) (g := (mkF m 511 #[iv (8 : Int32), iv p1, iv p2, iv p3] [(.ref b4), (.ref b1), (.ref b1)])) rfl (by rw [hml]; rfl) (Steps.refl _) (a := b1) (argsL := [(.ref b4)]) (rest := [(.ref b1)]) (lenOf pd_10 rfl) rfl (by show 2 * 0 + _ ≤ _; exact Nat.le_of_eq rfl) (hb hby d4_511) (fun _ _ => ⟨rfl, e19, (by decide : 18 + 1 ≤ _), (by decide : 332 + 8 ≤ _)⟩)
 dsimp only [Pt.U, Pt.locs, Pt.cells, Pt.slots] at X21 l21 y21 z21 st21 hQ21
 subst l21 y21 z21
 obtain ⟨rfl, N21q, Kq21, uE21, uC21, t21, kt21, -, tg21, tn21, uF21, uV21⟩ := hQ21
 have N21 := Fr.app N19 N21q
 have ne22 : b1 ≠ t21 := Nat.ne_of_lt (Nat.lt_of_lt_of_le (i19_0).lt tg21)
 have ne23 : b4 ≠ t21 := Nat.ne_of_lt (Nat.lt_of_lt_of_le (V19_20).lt tg21)
 have E21_24 := i19_0.keep Kq21
 have V21_25 := V19_20.keep Kq21 (ninS (Ne.symm ne4_5) nin0)
 have E21_26 := i19_4.keep Kq21
 have K21 := K19.trans Kq21 (allS (Or.inr sz1) all0)
 have O21 := O19.keep Kq21 (allS gn1 all0)
 have Sf21_b1 := Safe.keep Kq21 (allS i19_5 all0) CR19.1 i19_5
 have Sf21_b4 := Safe.keep Kq21 (allS i19_5 all0) CR19.1 i19_6
 have CR21 : CHr Z EL0 s.vm h0 vm18 T21.heap := CR19.trans (CHr.keep Kq21 (allS i19_5 all0) CR19.1)
 have hk := Nat.le_trans hk Kq21.1
 have sz21 : h0.size ≤ t21 := Nat.le_trans K19.1 tg21
 have gn21 : n0 ≤ t21 := Nat.le_trans (Nat.le_trans (Nat.le_of_eq O19.1.symm) O19.2.1) tg21
 have Sn21 : Safe Z EL0 vm18 T21.heap t21 := Safe.keep Kq21 (allS i19_5 all0) CR19.1 (Safe.new tg21)
 have uC21' : Fld Z T21.heap b1 "java/lang/String" "coder" "B" (.int (0 : Int32)) := uC21
 have uF21' : Fld Z T21.heap b1 "java/lang/String" "value" "[B" (.ref t21) := uF21
 have uV21' : Arv Z T21.heap t21 kt21 .byte (8 : Int32) [(.int ((nar .char r11).toInt8.toInt32)), (.int ((nar .char r12).toInt8.toInt32)), (.int ((nar .char r13).toInt8.toInt32)), (.int ((nar .char r14).toInt8.toInt32)), (.int ((nar .char r15).toInt8.toInt32)), (.int ((nar .char r16).toInt8.toInt32)), (.int ((nar .char r17).toInt8.toInt32)), (.int ((nar .char r18).toInt8.toInt32))] (.int (0 : Int32)) := uV21
 obtain ⟨fs, hr, hrun, hended, hRE⟩ := X21.leaveW hS hk (v := some (.ref b1)) (fun h => by rw [Bd.returns] at h; cases h)
 have CRf : CHr Z EL0 s.vm s.heap (T21.setFrames fs).vm (T21.setFrames fs).heap := by
   show CHr Z EL0 s.vm s.heap T21.vm T21.heap
   rw [hh]
   exact CR21.trans (CHv.at X21 hZ hEL CR21.1)
 subst hS0
 refine ⟨_, _, pre0 _ ?_, hrun, hended, _, _, rfl, ?_, CRf, hRE.1, hRE.2.1, hRE.2.2.1, hRE.2.2.2.mono (by decide) (by decide)⟩
 ·
  refine XS.iloadN X0.here hx rfl (hb hby d4_0) rfl ?_
  show AT p e below s₁ m 1 #[iv (8 : Int32), iv p1, iv p2, iv p3] [(.int (8 : Int32))] _
  refine XS.ifYes X0.here hx rfl (pc0 := 1) (pc' := 15) rfl (hb hby d4_1) rfl (XT.i0_ne_t ((by decide) : ¬ ((8 : Int32) = (0 : Int32)))) (by decide) (by decide) ?_
  refine XS.iloadN X0.here hx rfl (hb hby d4_15) rfl ?_
  refine XS.iconst X0.here hx rfl (hb hby d4_16) ?_
  show AT p e below s₁ m 17 #[iv (8 : Int32), iv p1, iv p2, iv p3] [(.int (1 : Int32)), (.int (8 : Int32))] _
  refine XS.icmpYes X0.here hx rfl (pc0 := 17) (pc' := 41) rfl (hb hby d4_17) rfl (XT.ii_ne_t ((by decide) : ¬ ((8 : Int32) = (1 : Int32)))) (by decide) (by decide) ?_
  refine XS.iloadN X0.here hx rfl (hb hby d4_41) rfl ?_
  refine XS.iconst X0.here hx rfl (hb hby d4_42) ?_
  show AT p e below s₁ m 43 #[iv (8 : Int32), iv p1, iv p2, iv p3] [(.int (2 : Int32)), (.int (8 : Int32))] _
  refine XS.icmpYes X0.here hx rfl (pc0 := 43) (pc' := 77) rfl (hb hby d4_43) rfl (XT.ii_ne_t ((by decide) : ¬ ((8 : Int32) = (2 : Int32)))) (by decide) (by decide) ?_
  refine XS.iloadN X0.here hx rfl (hb hby d4_77) rfl ?_
  refine XS.iconst X0.here hx rfl (hb hby d4_78) ?_
  show AT p e below s₁ m 79 #[iv (8 : Int32), iv p1, iv p2, iv p3] [(.int (3 : Int32)), (.int (8 : Int32))] _
  refine XS.icmpYes X0.here hx rfl (pc0 := 79) (pc' := 123) rfl (hb hby d4_79) rfl (XT.ii_ne_t ((by decide) : ¬ ((8 : Int32) = (3 : Int32)))) (by decide) (by decide) ?_
  refine XS.iloadN X0.here hx rfl (hb hby d4_123) rfl ?_
  refine XS.iconst X0.here hx rfl (hb hby d4_124) ?_
  show AT p e below s₁ m 125 #[iv (8 : Int32), iv p1, iv p2, iv p3] [(.int (4 : Int32)), (.int (8 : Int32))] _
  refine XS.icmpYes X0.here hx rfl (pc0 := 125) (pc' := 179) rfl (hb hby d4_125) rfl (XT.ii_ne_t ((by decide) : ¬ ((8 : Int32) = (4 : Int32)))) (by decide) (by decide) ?_
  refine XS.iloadN X0.here hx rfl (hb hby d4_179) rfl ?_
  refine XS.iconst X0.here hx rfl (hb hby d4_180) ?_
  show AT p e below s₁ m 181 #[iv (8 : Int32), iv p1, iv p2, iv p3] [(.int (5 : Int32)), (.int (8 : Int32))] _
  refine XS.icmpYes X0.here hx rfl (pc0 := 181) (pc' := 245) rfl (hb hby d4_181) rfl (XT.ii_ne_t ((by decide) : ¬ ((8 : Int32) = (5 : Int32)))) (by decide) (by decide) ?_
  refine XS.iloadN X0.here hx rfl (hb hby d4_245) rfl ?_
  refine XS.bipush X0.here hx rfl (hb hby d4_246) ?_
  show AT p e below s₁ m 248 #[iv (8 : Int32), iv p1, iv p2, iv p3] [(.int (6 : Int32)), (.int (8 : Int32))] _
  refine XS.icmpYes X0.here hx rfl (pc0 := 248) (pc' := 323) rfl (hb hby d4_248) rfl (XT.ii_ne_t ((by decide) : ¬ ((8 : Int32) = (6 : Int32)))) (by decide) (by decide) ?_
  refine XS.iloadN X0.here hx rfl (hb hby d4_323) rfl ?_
  refine XS.bipush X0.here hx rfl (hb hby d4_324) ?_
  show AT p e below s₁ m 326 #[iv (8 : Int32), iv p1, iv p2, iv p3] [(.int (7 : Int32)), (.int (8 : Int32))] _
  refine XS.icmpYes X0.here hx rfl (pc0 := 326) (pc' := 413) rfl (hb hby d4_326) rfl (XT.ii_ne_t ((by decide) : ¬ ((8 : Int32) = (7 : Int32)))) (by decide) (by decide) ?_
  refine XS.iloadN X0.here hx rfl (hb hby d4_413) rfl ?_
  refine XS.bipush X0.here hx rfl (hb hby d4_414) ?_
  show AT p e below s₁ m 416 #[iv (8 : Int32), iv p1, iv p2, iv p3] [(.int (8 : Int32)), (.int (8 : Int32))] _
  refine XS.icmpNo X0.here hx rfl (hb hby d4_416) rfl (XT.ii_ne_f ((by decide) : (8 : Int32) = (8 : Int32))) ?_
  refine st1 _ ?_
  refine XS.dup X1.here hx rfl (hb hby d4_422) rfl rfl ?_
  refine XS.bipush X1.here hx rfl (hb hby d4_423) ?_
  refine st4 _ ?_
  refine XS.dup X4.here hx rfl (hb hby d4_427) rfl rfl ?_
  refine XS.iconst X4.here hx rfl (hb hby d4_428) ?_
  refine XS.iloadN X4.here hx rfl (hb hby d4_429) rfl ?_
  refine XS.iconst X4.here hx rfl (hb hby d4_430) ?_
  refine XS.iloadN X4.here hx rfl (hb hby d4_431) rfl ?_
  refine XS.iloadN X4.here hx rfl (hb hby d4_432) rfl ?_
  refine st11 _ ?_
  refine XS.dup X11.here hx rfl (hb hby d4_437) rfl rfl ?_
  refine XS.iconst X11.here hx rfl (hb hby d4_438) ?_
  show AT p e below T11 m 439 #[iv (8 : Int32), iv p1, iv p2, iv p3] [(.int (1 : Int32)), (.ref b4), (.ref b4), (.ref b1), (.ref b1)] _
  refine XS.iloadN X11.here hx rfl (hb hby d4_439) rfl ?_
  refine XS.iconst X11.here hx rfl (hb hby d4_440) ?_
  refine XS.iloadN X11.here hx rfl (hb hby d4_441) rfl ?_
  refine XS.iloadN X11.here hx rfl (hb hby d4_442) rfl ?_
  refine st12 _ ?_
  refine XS.dup X12.here hx rfl (hb hby d4_447) rfl rfl ?_
  refine XS.iconst X12.here hx rfl (hb hby d4_448) ?_
  refine XS.iloadN X12.here hx rfl (hb hby d4_449) rfl ?_
  refine XS.iconst X12.here hx rfl (hb hby d4_450) ?_
  refine XS.iloadN X12.here hx rfl (hb hby d4_451) rfl ?_
  refine XS.iloadN X12.here hx rfl (hb hby d4_452) rfl ?_
  refine st13 _ ?_
  refine XS.dup X13.here hx rfl (hb hby d4_457) rfl rfl ?_
  refine XS.iconst X13.here hx rfl (hb hby d4_458) ?_
  refine XS.iloadN X13.here hx rfl (hb hby d4_459) rfl ?_
  refine XS.iconst X13.here hx rfl (hb hby d4_460) ?_
  refine XS.iloadN X13.here hx rfl (hb hby d4_461) rfl ?_
  refine XS.iloadN X13.here hx rfl (hb hby d4_462) rfl ?_
  refine st14 _ ?_
  refine XS.dup X14.here hx rfl (hb hby d4_467) rfl rfl ?_
  refine XS.iconst X14.here hx rfl (hb hby d4_468) ?_
  refine XS.iloadN X14.here hx rfl (hb hby d4_469) rfl ?_
  refine XS.iconst X14.here hx rfl (hb hby d4_470) ?_
  refine XS.iloadN X14.here hx rfl (hb hby d4_471) rfl ?_
  refine XS.iloadN X14.here hx rfl (hb hby d4_472) rfl ?_
  refine st15 _ ?_
  refine XS.dup X15.here hx rfl (hb hby d4_477) rfl rfl ?_
  refine XS.iconst X15.here hx rfl (hb hby d4_478) ?_
  refine XS.iloadN X15.here hx rfl (hb hby d4_479) rfl ?_
  refine XS.iconst X15.here hx rfl (hb hby d4_480) ?_
  show AT p e below T15 m 481 #[iv (8 : Int32), iv p1, iv p2, iv p3] [(.int (5 : Int32)), (.int p1), (.int (5 : Int32)), (.ref b4), (.ref b4), (.ref b1), (.ref b1)] _
  refine XS.iloadN X15.here hx rfl (hb hby d4_481) rfl ?_
  refine XS.iloadN X15.here hx rfl (hb hby d4_482) rfl ?_
  refine st16 _ ?_
  refine XS.dup X16.here hx rfl (hb hby d4_487) rfl rfl ?_
  refine XS.bipush X16.here hx rfl (hb hby d4_488) ?_
  refine XS.iloadN X16.here hx rfl (hb hby d4_490) rfl ?_
  refine XS.bipush X16.here hx rfl (hb hby d4_491) ?_
  refine XS.iloadN X16.here hx rfl (hb hby d4_493) rfl ?_
  refine XS.iloadN X16.here hx rfl (hb hby d4_494) rfl ?_
  refine st17 _ ?_
  refine XS.dup X17.here hx rfl (hb hby d4_499) rfl rfl ?_
  refine XS.bipush X17.here hx rfl (hb hby d4_500) ?_
  refine XS.iloadN X17.here hx rfl (hb hby d4_502) rfl ?_
  refine XS.bipush X17.here hx rfl (hb hby d4_503) ?_
  refine XS.iloadN X17.here hx rfl (hb hby d4_505) rfl ?_
  refine XS.iloadN X17.here hx rfl (hb hby d4_506) rfl ?_
  refine st18 _ ?_
  refine st21.trans ?_
  exact retOut X21 hx (t := (.object "java/lang/String")) (i := .areturn) Bd.returns rfl (Or.inr (Or.inr (Or.inr (Or.inr ⟨rfl, rfl, rfl⟩)))) (hb hby d4_514) hr
 ·
  show Q4_8 Z p1 p2 p3 h0 n0 _ T21.heap _
  exact ⟨b1, t21, kt21, ((nar .char r11).toInt8.toInt32), ((nar .char r12).toInt8.toInt32), ((nar .char r13).toInt8.toInt32), ((nar .char r14).toInt8.toInt32), ((nar .char r15).toInt8.toInt32), ((nar .char r16).toInt8.toInt32), ((nar .char r17).toInt8.toInt32), ((nar .char r18).toInt8.toInt32), rfl, N21, K21, E21_24, uC21', uF21', uV21', gn1⟩

theorem d4_515 : decode method_5_code 515 = .ok (.iload_n 0, 1) := by decide +kernel
theorem d4_516 : decode method_5_code 516 = .ok (.bipush 9, 2) := by decide +kernel
theorem d4_518 : decode method_5_code 518 = .ok (.if_icmp .ne 111, 3) := by decide +kernel
theorem d4_521 : decode method_5_code 521 = .ok (.new 15, 3) := by decide +kernel
theorem d4_524 : decode method_5_code 524 = .ok (.dup, 1) := by decide +kernel
theorem d4_525 : decode method_5_code 525 = .ok (.bipush 9, 2) := by decide +kernel
theorem d4_527 : decode method_5_code 527 = .ok (.newarray .char, 2) := by decide +kernel
theorem d4_529 : decode method_5_code 529 = .ok (.dup, 1) := by decide +kernel
theorem d4_530 : decode method_5_code 530 = .ok (.iconst 0, 1) := by decide +kernel
theorem d4_531 : decode method_5_code 531 = .ok (.iload_n 1, 1) := by decide +kernel
theorem d4_532 : decode method_5_code 532 = .ok (.iconst 0, 1) := by decide +kernel
theorem d4_533 : decode method_5_code 533 = .ok (.iload_n 2, 1) := by decide +kernel
theorem d4_534 : decode method_5_code 534 = .ok (.iload_n 3, 1) := by decide +kernel
theorem d4_535 : decode method_5_code 535 = .ok (.invokestatic 65, 3) := by decide +kernel
theorem d4_538 : decode method_5_code 538 = .ok (.castore, 1) := by decide +kernel
theorem d4_539 : decode method_5_code 539 = .ok (.dup, 1) := by decide +kernel
theorem d4_540 : decode method_5_code 540 = .ok (.iconst 1, 1) := by decide +kernel
theorem d4_541 : decode method_5_code 541 = .ok (.iload_n 1, 1) := by decide +kernel
theorem d4_542 : decode method_5_code 542 = .ok (.iconst 1, 1) := by decide +kernel
theorem d4_543 : decode method_5_code 543 = .ok (.iload_n 2, 1) := by decide +kernel
theorem d4_544 : decode method_5_code 544 = .ok (.iload_n 3, 1) := by decide +kernel
theorem d4_545 : decode method_5_code 545 = .ok (.invokestatic 65, 3) := by decide +kernel
theorem d4_548 : decode method_5_code 548 = .ok (.castore, 1) := by decide +kernel
theorem d4_549 : decode method_5_code 549 = .ok (.dup, 1) := by decide +kernel
theorem d4_550 : decode method_5_code 550 = .ok (.iconst 2, 1) := by decide +kernel
theorem d4_551 : decode method_5_code 551 = .ok (.iload_n 1, 1) := by decide +kernel
theorem d4_552 : decode method_5_code 552 = .ok (.iconst 2, 1) := by decide +kernel
theorem d4_553 : decode method_5_code 553 = .ok (.iload_n 2, 1) := by decide +kernel
theorem d4_554 : decode method_5_code 554 = .ok (.iload_n 3, 1) := by decide +kernel
theorem d4_555 : decode method_5_code 555 = .ok (.invokestatic 65, 3) := by decide +kernel
theorem d4_558 : decode method_5_code 558 = .ok (.castore, 1) := by decide +kernel
theorem d4_559 : decode method_5_code 559 = .ok (.dup, 1) := by decide +kernel
theorem d4_560 : decode method_5_code 560 = .ok (.iconst 3, 1) := by decide +kernel
theorem d4_561 : decode method_5_code 561 = .ok (.iload_n 1, 1) := by decide +kernel
theorem d4_562 : decode method_5_code 562 = .ok (.iconst 3, 1) := by decide +kernel
theorem d4_563 : decode method_5_code 563 = .ok (.iload_n 2, 1) := by decide +kernel
theorem d4_564 : decode method_5_code 564 = .ok (.iload_n 3, 1) := by decide +kernel
theorem d4_565 : decode method_5_code 565 = .ok (.invokestatic 65, 3) := by decide +kernel
theorem d4_568 : decode method_5_code 568 = .ok (.castore, 1) := by decide +kernel
theorem d4_569 : decode method_5_code 569 = .ok (.dup, 1) := by decide +kernel
theorem d4_570 : decode method_5_code 570 = .ok (.iconst 4, 1) := by decide +kernel
theorem d4_571 : decode method_5_code 571 = .ok (.iload_n 1, 1) := by decide +kernel
theorem d4_572 : decode method_5_code 572 = .ok (.iconst 4, 1) := by decide +kernel
theorem d4_573 : decode method_5_code 573 = .ok (.iload_n 2, 1) := by decide +kernel
theorem d4_574 : decode method_5_code 574 = .ok (.iload_n 3, 1) := by decide +kernel
theorem d4_575 : decode method_5_code 575 = .ok (.invokestatic 65, 3) := by decide +kernel
theorem d4_578 : decode method_5_code 578 = .ok (.castore, 1) := by decide +kernel
theorem d4_579 : decode method_5_code 579 = .ok (.dup, 1) := by decide +kernel
theorem d4_580 : decode method_5_code 580 = .ok (.iconst 5, 1) := by decide +kernel
theorem d4_581 : decode method_5_code 581 = .ok (.iload_n 1, 1) := by decide +kernel
theorem d4_582 : decode method_5_code 582 = .ok (.iconst 5, 1) := by decide +kernel
theorem d4_583 : decode method_5_code 583 = .ok (.iload_n 2, 1) := by decide +kernel
theorem d4_584 : decode method_5_code 584 = .ok (.iload_n 3, 1) := by decide +kernel
theorem d4_585 : decode method_5_code 585 = .ok (.invokestatic 65, 3) := by decide +kernel
theorem d4_588 : decode method_5_code 588 = .ok (.castore, 1) := by decide +kernel
theorem d4_589 : decode method_5_code 589 = .ok (.dup, 1) := by decide +kernel
theorem d4_590 : decode method_5_code 590 = .ok (.bipush 6, 2) := by decide +kernel
theorem d4_592 : decode method_5_code 592 = .ok (.iload_n 1, 1) := by decide +kernel
theorem d4_593 : decode method_5_code 593 = .ok (.bipush 6, 2) := by decide +kernel
theorem d4_595 : decode method_5_code 595 = .ok (.iload_n 2, 1) := by decide +kernel
theorem d4_596 : decode method_5_code 596 = .ok (.iload_n 3, 1) := by decide +kernel
theorem d4_597 : decode method_5_code 597 = .ok (.invokestatic 65, 3) := by decide +kernel
theorem d4_600 : decode method_5_code 600 = .ok (.castore, 1) := by decide +kernel
theorem d4_601 : decode method_5_code 601 = .ok (.dup, 1) := by decide +kernel
theorem d4_602 : decode method_5_code 602 = .ok (.bipush 7, 2) := by decide +kernel
theorem d4_604 : decode method_5_code 604 = .ok (.iload_n 1, 1) := by decide +kernel
theorem d4_605 : decode method_5_code 605 = .ok (.bipush 7, 2) := by decide +kernel
theorem d4_607 : decode method_5_code 607 = .ok (.iload_n 2, 1) := by decide +kernel
theorem d4_608 : decode method_5_code 608 = .ok (.iload_n 3, 1) := by decide +kernel
theorem d4_609 : decode method_5_code 609 = .ok (.invokestatic 65, 3) := by decide +kernel
theorem d4_612 : decode method_5_code 612 = .ok (.castore, 1) := by decide +kernel
theorem d4_613 : decode method_5_code 613 = .ok (.dup, 1) := by decide +kernel
theorem d4_614 : decode method_5_code 614 = .ok (.bipush 8, 2) := by decide +kernel
theorem d4_616 : decode method_5_code 616 = .ok (.iload_n 1, 1) := by decide +kernel
theorem d4_617 : decode method_5_code 617 = .ok (.bipush 8, 2) := by decide +kernel
theorem d4_619 : decode method_5_code 619 = .ok (.iload_n 2, 1) := by decide +kernel
theorem d4_620 : decode method_5_code 620 = .ok (.iload_n 3, 1) := by decide +kernel
theorem d4_621 : decode method_5_code 621 = .ok (.invokestatic 65, 3) := by decide +kernel
theorem d4_624 : decode method_5_code 624 = .ok (.castore, 1) := by decide +kernel
theorem d4_625 : decode method_5_code 625 = .ok (.invokespecial 62, 3) := by decide +kernel
theorem d4_628 : decode method_5_code 628 = .ok (.areturn, 1) := by decide +kernel
theorem ef_4_9 (m : MethodId) (p1 : Int32) (p2 : Int32) (p3 : Int32) : entryFrame m #[(.int (9 : Int32)), (.int p1), (.int p2), (.int p3)] 4 = mkF m 0 #[iv (9 : Int32), iv p1, iv p2, iv p3] [] := by first | (simp [entryFrame, mkF, argsToLocals, Value.category]; done) | rfl
def Q4_9 (Z : State) (p1 : Int32) (p2 : Int32) (p3 : Int32) (h0 : Heap) (n0 : Nat) (v : Option Value) (h : Heap) (L : List Loc) : Prop := ∃ (t : Addr) (tb : Addr) (kb : ClassId) (y0 : Int32) (y1 : Int32) (y2 : Int32) (y3 : Int32) (y4 : Int32) (y5 : Int32) (y6 : Int32) (y7 : Int32) (y8 : Int32), v = some (.ref t) ∧ Fr n0 L ∧ Keep h0 h [] ∧ Exa Z h t "java/lang/String" ∧ Fld Z h t "java/lang/String" "coder" "B" (.int (0 : Int32)) ∧ Fld Z h t "java/lang/String" "value" "[B" (.ref tb) ∧ Arv Z h tb kb .byte (9 : Int32) [(.int y0), (.int y1), (.int y2), (.int y3), (.int y4), (.int y5), (.int y6), (.int y7), (.int y8)] (.int (0 : Int32)) ∧ n0 ≤ t
abbrev R4_9 : Room := ({ frames := 5, cells := 21, slots := 382, locals := 74 } : Room)
set_option maxRecDepth 65536 in
set_option maxHeartbeats 40000000 in
theorem rm4_9 (l : Launch) (Z : State) (ar : Array Value) (hw : ∀ d ∈ tables_1, d.before ar Z = true) (ws : List Jvm.Cond) (p1 : Int32) (p2 : Int32) (p3 : Int32) (h0 : Heap) (n0 : Nat) (O0 : Old Z n0 h0) (hEL : EW Z ar EL0) (HW : Wd Z w_z0 w_z1 w_z2 w_z3 w_z4 w_z5 w_z6 w_z7 w_z8 w_z9 w_z10 w_z11 k_z3 k_z7 k_z9 k_z11) (hcb : 0 ≤ p3.toInt ∧ p3.toInt ≤ 255) (hk4 : p1 = (0 : Int32) ∨ p1 = (1 : Int32) ∨ p1 = (2 : Int32) ∨ p1 = (3 : Int32)) :
    MetFree l y4 (head1 (Jvm.Cond.code y4 method_5_code 4 (some (.object "java/lang/String")) :: ws) R4_9) (fun a U => a = #[(.int (9 : Int32)), (.int p1), (.int p2), (.int p3)] ∧ Z.Warmed39 U.vm ∧ U.heap = h0 ∧ CHv Z EL0 U.vm h0) (fun _ _ _ _ _ => True) (fun _ U o U' => ∃ v L, o = .returned v ∧ Q4_9 Z p1 p2 p3 h0 n0 v U'.heap L ∧ CHr Z EL0 U.vm U.heap U'.vm U'.heap ∧ ReturnedEndW U o U' L R4_9.cells R4_9.slots) := by
 refine MetFree.of_bodySF (plainFor_of_name pn_3) hisR ?_
 intro p e s m args below meth c s₁ Bd hml0 hP hK
 obtain ⟨rfl, hZ, hh, hCH⟩ := hP
 have hx := Bd.exec
 have hby := Bd.bytes
 have hml : c.maxLocals = 4 := hml0
 have hown : s.vm.findClass "com/example/lease/lease/WorkerStateNamedPinLaw" = some m.cls := findClass_of_methodNamed Bd.named
 have hnm := (name_of_methodNamed Bd.named Bd.method).1
 have hlk : meth.locks = false := by first | assumption | exact BodyLoose.notSynchronized (by assumption) | exact Body.notSynchronized (by assumption)
 have X0 : Stand p l e R4_9 (s.setVm s.vm) m #[(.int (9 : Int32)), (.int p1), (.int p2), (.int p3)] below meth c s₁ [] 0 0 := Stand.of_body Bd
 have e0 : s₁.heap = h0 := by rw [← hh, Bd.state]; rfl
 have N0 := Fr.nil n0
 have Z0 : n0 ≤ h0.size := Nat.le_trans (Nat.le_of_eq O0.1.symm) O0.2.1
 obtain ⟨S0, hS0⟩ : ∃ z, z = s₁.setTop (entryFrame m #[(.int (9 : Int32)), (.int p1), (.int p2), (.int p3)] 4) := ⟨_, rfl⟩
 have pre0 : ∀ tg, AT p e below s₁ m 0 #[iv (9 : Int32), iv p1, iv p2, iv p3] [] tg → Steps p.tables e below S0 tg := fun tg kg => by rw [hS0]; exact castTop (ef_4_9 m p1 p2 p3) kg
 have hS : s.Since s.vm 0 := (State.WarmedH.refl s).since 0
 have hk : 0 ≤ h0.size := Nat.zero_le _
 have CR0 : CHr Z EL0 s.vm h0 s.vm h0 := CHr.refl hCH
 obtain ⟨S_q0, hz_w_z0, -, -, -, -, -, -, -, -, -, -, -, -, -, -, -, -, -, -, -, -, -, -, -, -, -, -⟩ := id HW
 obtain ⟨T1, h1, X1, e1, E1, A1, D1, -, st1⟩ := newO X0 hx hZ hown (ow hw 29 rfl) (ow hw 7 rfl) (ow hw 6 rfl) e0 (g := (mkF m 521 #[iv (9 : Int32), iv p1, iv p2, iv p3] [])) rfl (hb hby d4_521) (by decide) (by decide)
 obtain ⟨b1, g1⟩ : ∃ z, z = h0.size := ⟨_, rfl⟩
 rw [← g1] at A1 D1 st1
 have gn1 : n0 ≤ b1 := Nat.le_trans (Nat.le_trans (Nat.le_of_eq O0.1.symm) O0.2.1) (Nat.le_of_eq g1.symm)
 have sz1 : h0.size ≤ b1 := Nat.le_trans (Keep.refl h0 []).1 (Nat.le_of_eq g1.symm)
 have Sn1 : Safe Z EL0 s.vm h0 b1 := Safe.new (Nat.le_of_eq g1.symm)
 have K1 := (Keep.refl h0 []).ext E1
 have O1 := O0.ext E1
 have Sf1_b1 := Safe.ext E1 CR0.1 Sn1
 have CR1 : CHr Z EL0 s.vm h0 s.vm h1 := CR0.trans (CHr.ext E1 CR0.1)
 have hk := Nat.le_trans hk E1.1
 have F1_2 : Fld Z h1 b1 "java/lang/String" "value" "[B" .null := D1 (Or.inr (ow hw 9 rfl)) (ty := (.array .byte)) (by decide)
 have F1_3 : Fld Z h1 b1 "java/lang/String" "coder" "B" (.int (0 : Int32)) := D1 (Or.inr (ow hw 10 rfl)) (ty := .byte) (by decide)
 obtain ⟨T4, h4, k4, X4, e4, E4, A4, B4, st4⟩ := newPE X1 hx hZ (ow hw 30 rfl) e1 (g := (mkF m 527 #[iv (9 : Int32), iv p1, iv p2, iv p3] [(.int (9 : Int32)), (.ref b1), (.ref b1)])) rfl (hb hby d4_527) rfl (by decide) (cap := 9) (by decide) (by decide) (by decide) (by decide) (ad := "[C") (by decide)
 obtain ⟨b4, g4⟩ : ∃ z, z = h1.size := ⟨_, rfl⟩
 rw [← g4] at A4 B4 st4
 have ne4_5 : b1 ≠ b4 := Nat.ne_of_lt (Nat.lt_of_lt_of_le (A1).lt (Nat.le_of_eq g4.symm))
 have gn4 : n0 ≤ b4 := Nat.le_trans (Nat.le_trans (Nat.le_of_eq O1.1.symm) O1.2.1) (Nat.le_of_eq g4.symm)
 have sz4 : h0.size ≤ b4 := Nat.le_trans K1.1 (Nat.le_of_eq g4.symm)
 have Sn4 : Safe Z EL0 s.vm h1 b4 := Safe.new (Nat.le_of_eq g4.symm)
 have E4_6 := A1.ext E4
 have F4_7 := F1_2.ext E4
 have F4_8 := F1_3.ext E4
 have K4 := K1.ext E4
 have O4 := O1.ext E4
 have Sf4_b1 := Safe.ext E4 CR1.1 Sf1_b1
 have Sf4_b4 := Safe.ext E4 CR1.1 Sn4
 have CR4 : CHr Z EL0 s.vm h0 s.vm h4 := CR1.trans (CHr.ext E4 CR1.1)
 have hk := Nat.le_trans hk E4.1
 have V4_9 : Arv Z h4 b4 k4 .char (9 : Int32) [(.int (0 : Int32)), (.int (0 : Int32)), (.int (0 : Int32)), (.int (0 : Int32)), (.int (0 : Int32)), (.int (0 : Int32)), (.int (0 : Int32)), (.int (0 : Int32)), (.int (0 : Int32))] (.int (0 : Int32)) := (Arv.new A4 (by decide)).pad (pad_rep [] (.int (0 : Int32)) 9)
 have I10 : TI p l e R4_9 s m #[(.int (9 : Int32)), (.int p1), (.int p2), (.int p3)] below meth c Z h0 n0 b1 b4 k4 (9 : Int32) 9 s.vm T4 h4 _ ((0 + 1) + 1) ((0 + 4) + 9) _ := ⟨X4, e4, ⟨_, hS, hk⟩, hZ, hown, CR4, N0, K4, O4, E4_6, F4_7, F4_8, V4_9, B4, Sf4_b1, Sf4_b4, rfl⟩
 obtain ⟨r11, vm11, T11, h11, L11, u11, X11, I11, st11⟩ := turn hw hx hml hEL HW hcb hk4 ne4_5 gn4 sz4 (by decide) (by decide) I10 (i := (0 : Int32)) ⟨by decide, by decide⟩ 0 rfl (by decide) (9 : Int32) (P := 535) (hb hby d4_535) (hb hby d4_538) (by decide) (by decide)
 obtain ⟨r12, vm12, T12, h12, L12, u12, X12, I12, st12⟩ := turn hw hx hml hEL HW hcb hk4 ne4_5 gn4 sz4 (by decide) (by decide) I11 (i := (1 : Int32)) ⟨by decide, by decide⟩ 1 rfl (by decide) (9 : Int32) (P := 545) (hb hby d4_545) (hb hby d4_548) (by decide) (by decide)
 obtain ⟨r13, vm13, T13, h13, L13, u13, X13, I13, st13⟩ := turn hw hx hml hEL HW hcb hk4 ne4_5 gn4 sz4 (by decide) (by decide) I12 (i := (2 : Int32)) ⟨by decide, by decide⟩ 2 rfl (by decide) (9 : Int32) (P := 555) (hb hby d4_555) (hb hby d4_558) (by decide) (by decide)
 obtain ⟨r14, vm14, T14, h14, L14, u14, X14, I14, st14⟩ := turn hw hx hml hEL HW hcb hk4 ne4_5 gn4 sz4 (by decide) (by decide) I13 (i := (3 : Int32)) ⟨by decide, by decide⟩ 3 rfl (by decide) (9 : Int32) (P := 565) (hb hby d4_565) (hb hby d4_568) (by decide) (by decide)
 obtain ⟨r15, vm15, T15, h15, L15, u15, X15, I15, st15⟩ := turn hw hx hml hEL HW hcb hk4 ne4_5 gn4 sz4 (by decide) (by decide) I14 (i := (4 : Int32)) ⟨by decide, by decide⟩ 4 rfl (by decide) (9 : Int32) (P := 575) (hb hby d4_575) (hb hby d4_578) (by decide) (by decide)
 obtain ⟨r16, vm16, T16, h16, L16, u16, X16, I16, st16⟩ := turn hw hx hml hEL HW hcb hk4 ne4_5 gn4 sz4 (by decide) (by decide) I15 (i := (5 : Int32)) ⟨by decide, by decide⟩ 5 rfl (by decide) (9 : Int32) (P := 585) (hb hby d4_585) (hb hby d4_588) (by decide) (by decide)
 obtain ⟨r17, vm17, T17, h17, L17, u17, X17, I17, st17⟩ := turn hw hx hml hEL HW hcb hk4 ne4_5 gn4 sz4 (by decide) (by decide) I16 (i := (6 : Int32)) ⟨by decide, by decide⟩ 6 rfl (by decide) (9 : Int32) (P := 597) (hb hby d4_597) (hb hby d4_600) (by decide) (by decide)
 obtain ⟨r18, vm18, T18, h18, L18, u18, X18, I18, st18⟩ := turn hw hx hml hEL HW hcb hk4 ne4_5 gn4 sz4 (by decide) (by decide) I17 (i := (7 : Int32)) ⟨by decide, by decide⟩ 7 rfl (by decide) (9 : Int32) (P := 609) (hb hby d4_609) (hb hby d4_612) (by decide) (by decide)
 obtain ⟨r19, vm19, T19, h19, L19, u19, X19, I19, st19⟩ := turn hw hx hml hEL HW hcb hk4 ne4_5 gn4 sz4 (by decide) (by decide) I18 (i := (8 : Int32)) ⟨by decide, by decide⟩ 8 rfl (by decide) (9 : Int32) (P := 621) (hb hby d4_621) (hb hby d4_624) (by decide) (by decide)
 obtain ⟨-, e20, ⟨kk20, hS, hk⟩, hZ, hown, CR20, N20, K20, O20, i20_0, i20_1, i20_2, i20_3, i20_4, i20_5, i20_6, -⟩ := I19
 have V20_21 : Arv Z h19 b4 k4 .char (9 : Int32) [(.int (nar .char r11)), (.int (nar .char r12)), (.int (nar .char r13)), (.int (nar .char r14)), (.int (nar .char r15)), (.int (nar .char r16)), (.int (nar .char r17)), (.int (nar .char r18)), (.int (nar .char r19))] (.int (0 : Int32)) := i20_3
 obtain ⟨_, _, ⟨T22, L22, k22, n22⟩, -, X22, ⟨Lc22, hQ22, l22, y22, z22⟩, st22⟩ := X19.specialBack hx (y := y11) rfl hown (mvT hZ (ow hw 56 rfl)) (mvT hZ (ow hw 57 rfl)) (mvT hZ (ow hw 58 rfl)) (by decide) (StrChars.Road.backV (W := 1) hZ (own_ws hw) (ow hw 7 rfl) (cs := [(nar .char r11), (nar .char r12), (nar .char r13), (nar .char r14), (nar .char r15), (nar .char r16), (nar .char r17), (nar .char r18), (nar .char r19)]) (bs := [((nar .char r11).toInt8.toInt32), ((nar .char r12).toInt8.toInt32), ((nar .char r13).toInt8.toInt32), ((nar .char r14).toInt8.toInt32), ((nar .char r15).toInt8.toInt32), ((nar .char r16).toInt8.toInt32), ((nar .char r17).toInt8.toInt32), ((nar .char r18).toInt8.toInt32), ((nar .char r19).toInt8.toInt32)]) (n := 9) gn1 (Nat.le_trans (Nat.le_of_eq O20.1.symm) O20.2.1) i20_0 i20_1 i20_2 V20_21 (S_q0.ext O20.2) hz_w_z0 rfl (by decide) (by decide) (by decide) (own_cc ⟨own_0 (own_ncr u11), own_255 (own_ncr u11)⟩ (own_cc ⟨own_0 (own_ncr u12), own_255 (own_ncr u12)⟩ (own_cc ⟨own_0 (own_ncr u13), own_255 (own_ncr u13)⟩ (own_cc ⟨own_0 (own_ncr u14), own_255 (own_ncr u14)⟩ (own_cc ⟨own_0 (own_ncr u15), own_255 (own_ncr u15)⟩ (own_cc ⟨own_0 (own_ncr u16), own_255 (own_ncr u16)⟩ (own_cc ⟨own_0 (own_ncr u17), own_255 (own_ncr u17)⟩ (own_cc ⟨own_0 (own_ncr u18), own_255 (own_ncr u18)⟩ (own_cc ⟨own_0 (own_ncr u19), own_255 (own_ncr u19)⟩ own_cn))))))))) rfl (by decide) (by decide)) (g := (mkF m 625 #[iv (9 : Int32), iv p1, iv p2, iv p3] [(.ref b4), (.ref b1), (.ref b1)])) rfl (by rw [hml]; rfl) (Steps.refl _) (a := b1) (argsL := [(.ref b4)]) (rest := [(.ref b1)]) (lenOf pd_10 rfl) rfl (by show 2 * 0 + _ ≤ _; exact Nat.le_of_eq rfl) (hb hby d4_625) (fun _ _ => ⟨rfl, e20, (by decide : 20 + 1 ≤ _), (by decide : 373 + 9 ≤ _)⟩)
 dsimp only [Pt.U, Pt.locs, Pt.cells, Pt.slots] at X22 l22 y22 z22 st22 hQ22
 subst l22 y22 z22
 obtain ⟨rfl, N22q, Kq22, uE22, uC22, t22, kt22, -, tg22, tn22, uF22, uV22⟩ := hQ22
 have N22 := Fr.app N20 N22q
 have ne23 : b1 ≠ t22 := Nat.ne_of_lt (Nat.lt_of_lt_of_le (i20_0).lt tg22)
 have ne24 : b4 ≠ t22 := Nat.ne_of_lt (Nat.lt_of_lt_of_le (V20_21).lt tg22)
 have E22_25 := i20_0.keep Kq22
 have V22_26 := V20_21.keep Kq22 (ninS (Ne.symm ne4_5) nin0)
 have E22_27 := i20_4.keep Kq22
 have K22 := K20.trans Kq22 (allS (Or.inr sz1) all0)
 have O22 := O20.keep Kq22 (allS gn1 all0)
 have Sf22_b1 := Safe.keep Kq22 (allS i20_5 all0) CR20.1 i20_5
 have Sf22_b4 := Safe.keep Kq22 (allS i20_5 all0) CR20.1 i20_6
 have CR22 : CHr Z EL0 s.vm h0 vm19 T22.heap := CR20.trans (CHr.keep Kq22 (allS i20_5 all0) CR20.1)
 have hk := Nat.le_trans hk Kq22.1
 have sz22 : h0.size ≤ t22 := Nat.le_trans K20.1 tg22
 have gn22 : n0 ≤ t22 := Nat.le_trans (Nat.le_trans (Nat.le_of_eq O20.1.symm) O20.2.1) tg22
 have Sn22 : Safe Z EL0 vm19 T22.heap t22 := Safe.keep Kq22 (allS i20_5 all0) CR20.1 (Safe.new tg22)
 have uC22' : Fld Z T22.heap b1 "java/lang/String" "coder" "B" (.int (0 : Int32)) := uC22
 have uF22' : Fld Z T22.heap b1 "java/lang/String" "value" "[B" (.ref t22) := uF22
 have uV22' : Arv Z T22.heap t22 kt22 .byte (9 : Int32) [(.int ((nar .char r11).toInt8.toInt32)), (.int ((nar .char r12).toInt8.toInt32)), (.int ((nar .char r13).toInt8.toInt32)), (.int ((nar .char r14).toInt8.toInt32)), (.int ((nar .char r15).toInt8.toInt32)), (.int ((nar .char r16).toInt8.toInt32)), (.int ((nar .char r17).toInt8.toInt32)), (.int ((nar .char r18).toInt8.toInt32)), (.int ((nar .char r19).toInt8.toInt32))] (.int (0 : Int32)) := uV22
 obtain ⟨fs, hr, hrun, hended, hRE⟩ := X22.leaveW hS hk (v := some (.ref b1)) (fun h => by rw [Bd.returns] at h; cases h)
 have CRf : CHr Z EL0 s.vm s.heap (T22.setFrames fs).vm (T22.setFrames fs).heap := by
   show CHr Z EL0 s.vm s.heap T22.vm T22.heap
   rw [hh]
   exact CR22.trans (CHv.at X22 hZ hEL CR22.1)
 subst hS0
 refine ⟨_, _, pre0 _ ?_, hrun, hended, _, _, rfl, ?_, CRf, hRE.1, hRE.2.1, hRE.2.2.1, hRE.2.2.2.mono (by decide) (by decide)⟩
 ·
  refine XS.iloadN X0.here hx rfl (hb hby d4_0) rfl ?_
  show AT p e below s₁ m 1 #[iv (9 : Int32), iv p1, iv p2, iv p3] [(.int (9 : Int32))] _
  refine XS.ifYes X0.here hx rfl (pc0 := 1) (pc' := 15) rfl (hb hby d4_1) rfl (XT.i0_ne_t ((by decide) : ¬ ((9 : Int32) = (0 : Int32)))) (by decide) (by decide) ?_
  refine XS.iloadN X0.here hx rfl (hb hby d4_15) rfl ?_
  refine XS.iconst X0.here hx rfl (hb hby d4_16) ?_
  show AT p e below s₁ m 17 #[iv (9 : Int32), iv p1, iv p2, iv p3] [(.int (1 : Int32)), (.int (9 : Int32))] _
  refine XS.icmpYes X0.here hx rfl (pc0 := 17) (pc' := 41) rfl (hb hby d4_17) rfl (XT.ii_ne_t ((by decide) : ¬ ((9 : Int32) = (1 : Int32)))) (by decide) (by decide) ?_
  refine XS.iloadN X0.here hx rfl (hb hby d4_41) rfl ?_
  refine XS.iconst X0.here hx rfl (hb hby d4_42) ?_
  show AT p e below s₁ m 43 #[iv (9 : Int32), iv p1, iv p2, iv p3] [(.int (2 : Int32)), (.int (9 : Int32))] _
  refine XS.icmpYes X0.here hx rfl (pc0 := 43) (pc' := 77) rfl (hb hby d4_43) rfl (XT.ii_ne_t ((by decide) : ¬ ((9 : Int32) = (2 : Int32)))) (by decide) (by decide) ?_
  refine XS.iloadN X0.here hx rfl (hb hby d4_77) rfl ?_
  refine XS.iconst X0.here hx rfl (hb hby d4_78) ?_
  show AT p e below s₁ m 79 #[iv (9 : Int32), iv p1, iv p2, iv p3] [(.int (3 : Int32)), (.int (9 : Int32))] _
  refine XS.icmpYes X0.here hx rfl (pc0 := 79) (pc' := 123) rfl (hb hby d4_79) rfl (XT.ii_ne_t ((by decide) : ¬ ((9 : Int32) = (3 : Int32)))) (by decide) (by decide) ?_
  refine XS.iloadN X0.here hx rfl (hb hby d4_123) rfl ?_
  refine XS.iconst X0.here hx rfl (hb hby d4_124) ?_
  show AT p e below s₁ m 125 #[iv (9 : Int32), iv p1, iv p2, iv p3] [(.int (4 : Int32)), (.int (9 : Int32))] _
  refine XS.icmpYes X0.here hx rfl (pc0 := 125) (pc' := 179) rfl (hb hby d4_125) rfl (XT.ii_ne_t ((by decide) : ¬ ((9 : Int32) = (4 : Int32)))) (by decide) (by decide) ?_
  refine XS.iloadN X0.here hx rfl (hb hby d4_179) rfl ?_
  refine XS.iconst X0.here hx rfl (hb hby d4_180) ?_
  show AT p e below s₁ m 181 #[iv (9 : Int32), iv p1, iv p2, iv p3] [(.int (5 : Int32)), (.int (9 : Int32))] _
  refine XS.icmpYes X0.here hx rfl (pc0 := 181) (pc' := 245) rfl (hb hby d4_181) rfl (XT.ii_ne_t ((by decide) : ¬ ((9 : Int32) = (5 : Int32)))) (by decide) (by decide) ?_
  refine XS.iloadN X0.here hx rfl (hb hby d4_245) rfl ?_
  refine XS.bipush X0.here hx rfl (hb hby d4_246) ?_
  show AT p e below s₁ m 248 #[iv (9 : Int32), iv p1, iv p2, iv p3] [(.int (6 : Int32)), (.int (9 : Int32))] _
  refine XS.icmpYes X0.here hx rfl (pc0 := 248) (pc' := 323) rfl (hb hby d4_248) rfl (XT.ii_ne_t ((by decide) : ¬ ((9 : Int32) = (6 : Int32)))) (by decide) (by decide) ?_
  refine XS.iloadN X0.here hx rfl (hb hby d4_323) rfl ?_
  refine XS.bipush X0.here hx rfl (hb hby d4_324) ?_
  show AT p e below s₁ m 326 #[iv (9 : Int32), iv p1, iv p2, iv p3] [(.int (7 : Int32)), (.int (9 : Int32))] _
  refine XS.icmpYes X0.here hx rfl (pc0 := 326) (pc' := 413) rfl (hb hby d4_326) rfl (XT.ii_ne_t ((by decide) : ¬ ((9 : Int32) = (7 : Int32)))) (by decide) (by decide) ?_
  refine XS.iloadN X0.here hx rfl (hb hby d4_413) rfl ?_
  refine XS.bipush X0.here hx rfl (hb hby d4_414) ?_
  show AT p e below s₁ m 416 #[iv (9 : Int32), iv p1, iv p2, iv p3] [(.int (8 : Int32)), (.int (9 : Int32))] _
  refine XS.icmpYes X0.here hx rfl (pc0 := 416) (pc' := 515) rfl (hb hby d4_416) rfl (XT.ii_ne_t ((by decide) : ¬ ((9 : Int32) = (8 : Int32)))) (by decide) (by decide) ?_
  refine XS.iloadN X0.here hx rfl (hb hby d4_515) rfl ?_
  refine XS.bipush X0.here hx rfl (hb hby d4_516) ?_
  show AT p e below s₁ m 518 #[iv (9 : Int32), iv p1, iv p2, iv p3] [(.int (9 : Int32)), (.int (9 : Int32))] _
  refine XS.icmpNo X0.here hx rfl (hb hby d4_518) rfl (XT.ii_ne_f ((by decide) : (9 : Int32) = (9 : Int32))) ?_
  refine st1 _ ?_
  refine XS.dup X1.here hx rfl (hb hby d4_524) rfl rfl ?_
  refine XS.bipush X1.here hx rfl (hb hby d4_525) ?_
  refine st4 _ ?_
  refine XS.dup X4.here hx rfl (hb hby d4_529) rfl rfl ?_
  refine XS.iconst X4.here hx rfl (hb hby d4_530) ?_
  refine XS.iloadN X4.here hx rfl (hb hby d4_531) rfl ?_
  refine XS.iconst X4.here hx rfl (hb hby d4_532) ?_
  refine XS.iloadN X4.here hx rfl (hb hby d4_533) rfl ?_
  refine XS.iloadN X4.here hx rfl (hb hby d4_534) rfl ?_
  refine st11 _ ?_
  show AT p e below T11 m 539 #[iv (9 : Int32), iv p1, iv p2, iv p3] [(.ref b4), (.ref b1), (.ref b1)] _
  refine XS.dup X11.here hx rfl (hb hby d4_539) rfl rfl ?_
  refine XS.iconst X11.here hx rfl (hb hby d4_540) ?_
  refine XS.iloadN X11.here hx rfl (hb hby d4_541) rfl ?_
  refine XS.iconst X11.here hx rfl (hb hby d4_542) ?_
  refine XS.iloadN X11.here hx rfl (hb hby d4_543) rfl ?_
  refine XS.iloadN X11.here hx rfl (hb hby d4_544) rfl ?_
  refine st12 _ ?_
  refine XS.dup X12.here hx rfl (hb hby d4_549) rfl rfl ?_
  refine XS.iconst X12.here hx rfl (hb hby d4_550) ?_
  refine XS.iloadN X12.here hx rfl (hb hby d4_551) rfl ?_
  refine XS.iconst X12.here hx rfl (hb hby d4_552) ?_
  refine XS.iloadN X12.here hx rfl (hb hby d4_553) rfl ?_
  refine XS.iloadN X12.here hx rfl (hb hby d4_554) rfl ?_
  refine st13 _ ?_
  refine XS.dup X13.here hx rfl (hb hby d4_559) rfl rfl ?_
  refine XS.iconst X13.here hx rfl (hb hby d4_560) ?_
  refine XS.iloadN X13.here hx rfl (hb hby d4_561) rfl ?_
  refine XS.iconst X13.here hx rfl (hb hby d4_562) ?_
  refine XS.iloadN X13.here hx rfl (hb hby d4_563) rfl ?_
  refine XS.iloadN X13.here hx rfl (hb hby d4_564) rfl ?_
  refine st14 _ ?_
  refine XS.dup X14.here hx rfl (hb hby d4_569) rfl rfl ?_
  refine XS.iconst X14.here hx rfl (hb hby d4_570) ?_
  refine XS.iloadN X14.here hx rfl (hb hby d4_571) rfl ?_
  refine XS.iconst X14.here hx rfl (hb hby d4_572) ?_
  refine XS.iloadN X14.here hx rfl (hb hby d4_573) rfl ?_
  refine XS.iloadN X14.here hx rfl (hb hby d4_574) rfl ?_
  refine st15 _ ?_
  refine XS.dup X15.here hx rfl (hb hby d4_579) rfl rfl ?_
  refine XS.iconst X15.here hx rfl (hb hby d4_580) ?_
  show AT p e below T15 m 581 #[iv (9 : Int32), iv p1, iv p2, iv p3] [(.int (5 : Int32)), (.ref b4), (.ref b4), (.ref b1), (.ref b1)] _
  refine XS.iloadN X15.here hx rfl (hb hby d4_581) rfl ?_
  refine XS.iconst X15.here hx rfl (hb hby d4_582) ?_
  refine XS.iloadN X15.here hx rfl (hb hby d4_583) rfl ?_
  refine XS.iloadN X15.here hx rfl (hb hby d4_584) rfl ?_
  refine st16 _ ?_
  refine XS.dup X16.here hx rfl (hb hby d4_589) rfl rfl ?_
  refine XS.bipush X16.here hx rfl (hb hby d4_590) ?_
  refine XS.iloadN X16.here hx rfl (hb hby d4_592) rfl ?_
  refine XS.bipush X16.here hx rfl (hb hby d4_593) ?_
  refine XS.iloadN X16.here hx rfl (hb hby d4_595) rfl ?_
  refine XS.iloadN X16.here hx rfl (hb hby d4_596) rfl ?_
  refine st17 _ ?_
  refine XS.dup X17.here hx rfl (hb hby d4_601) rfl rfl ?_
  refine XS.bipush X17.here hx rfl (hb hby d4_602) ?_
  refine XS.iloadN X17.here hx rfl (hb hby d4_604) rfl ?_
  refine XS.bipush X17.here hx rfl (hb hby d4_605) ?_
  refine XS.iloadN X17.here hx rfl (hb hby d4_607) rfl ?_
  refine XS.iloadN X17.here hx rfl (hb hby d4_608) rfl ?_
  refine st18 _ ?_
  refine XS.dup X18.here hx rfl (hb hby d4_613) rfl rfl ?_
  refine XS.bipush X18.here hx rfl (hb hby d4_614) ?_
  refine XS.iloadN X18.here hx rfl (hb hby d4_616) rfl ?_
  refine XS.bipush X18.here hx rfl (hb hby d4_617) ?_
  refine XS.iloadN X18.here hx rfl (hb hby d4_619) rfl ?_
  refine XS.iloadN X18.here hx rfl (hb hby d4_620) rfl ?_
  refine st19 _ ?_
  refine st22.trans ?_
  exact retOut X22 hx (t := (.object "java/lang/String")) (i := .areturn) Bd.returns rfl (Or.inr (Or.inr (Or.inr (Or.inr ⟨rfl, rfl, rfl⟩)))) (hb hby d4_628) hr
 ·
  show Q4_9 Z p1 p2 p3 h0 n0 _ T22.heap _
  exact ⟨b1, t22, kt22, ((nar .char r11).toInt8.toInt32), ((nar .char r12).toInt8.toInt32), ((nar .char r13).toInt8.toInt32), ((nar .char r14).toInt8.toInt32), ((nar .char r15).toInt8.toInt32), ((nar .char r16).toInt8.toInt32), ((nar .char r17).toInt8.toInt32), ((nar .char r18).toInt8.toInt32), ((nar .char r19).toInt8.toInt32), rfl, N22, K22, E22_25, uC22', uF22', uV22', gn1⟩

theorem d4_629 : decode method_5_code 629 = .ok (.new 15, 3) := by decide +kernel
theorem d4_632 : decode method_5_code 632 = .ok (.dup, 1) := by decide +kernel
theorem d4_633 : decode method_5_code 633 = .ok (.bipush 10, 2) := by decide +kernel
theorem d4_635 : decode method_5_code 635 = .ok (.newarray .char, 2) := by decide +kernel
theorem d4_637 : decode method_5_code 637 = .ok (.dup, 1) := by decide +kernel
theorem d4_638 : decode method_5_code 638 = .ok (.iconst 0, 1) := by decide +kernel
theorem d4_639 : decode method_5_code 639 = .ok (.iload_n 1, 1) := by decide +kernel
theorem d4_640 : decode method_5_code 640 = .ok (.iconst 0, 1) := by decide +kernel
theorem d4_641 : decode method_5_code 641 = .ok (.iload_n 2, 1) := by decide +kernel
theorem d4_642 : decode method_5_code 642 = .ok (.iload_n 3, 1) := by decide +kernel
theorem d4_643 : decode method_5_code 643 = .ok (.invokestatic 65, 3) := by decide +kernel
theorem d4_646 : decode method_5_code 646 = .ok (.castore, 1) := by decide +kernel
theorem d4_647 : decode method_5_code 647 = .ok (.dup, 1) := by decide +kernel
theorem d4_648 : decode method_5_code 648 = .ok (.iconst 1, 1) := by decide +kernel
theorem d4_649 : decode method_5_code 649 = .ok (.iload_n 1, 1) := by decide +kernel
theorem d4_650 : decode method_5_code 650 = .ok (.iconst 1, 1) := by decide +kernel
theorem d4_651 : decode method_5_code 651 = .ok (.iload_n 2, 1) := by decide +kernel
theorem d4_652 : decode method_5_code 652 = .ok (.iload_n 3, 1) := by decide +kernel
theorem d4_653 : decode method_5_code 653 = .ok (.invokestatic 65, 3) := by decide +kernel
theorem d4_656 : decode method_5_code 656 = .ok (.castore, 1) := by decide +kernel
theorem d4_657 : decode method_5_code 657 = .ok (.dup, 1) := by decide +kernel
theorem d4_658 : decode method_5_code 658 = .ok (.iconst 2, 1) := by decide +kernel
theorem d4_659 : decode method_5_code 659 = .ok (.iload_n 1, 1) := by decide +kernel
theorem d4_660 : decode method_5_code 660 = .ok (.iconst 2, 1) := by decide +kernel
theorem d4_661 : decode method_5_code 661 = .ok (.iload_n 2, 1) := by decide +kernel
theorem d4_662 : decode method_5_code 662 = .ok (.iload_n 3, 1) := by decide +kernel
theorem d4_663 : decode method_5_code 663 = .ok (.invokestatic 65, 3) := by decide +kernel
theorem d4_666 : decode method_5_code 666 = .ok (.castore, 1) := by decide +kernel
theorem d4_667 : decode method_5_code 667 = .ok (.dup, 1) := by decide +kernel
theorem d4_668 : decode method_5_code 668 = .ok (.iconst 3, 1) := by decide +kernel
theorem d4_669 : decode method_5_code 669 = .ok (.iload_n 1, 1) := by decide +kernel
theorem d4_670 : decode method_5_code 670 = .ok (.iconst 3, 1) := by decide +kernel
theorem d4_671 : decode method_5_code 671 = .ok (.iload_n 2, 1) := by decide +kernel
theorem d4_672 : decode method_5_code 672 = .ok (.iload_n 3, 1) := by decide +kernel
theorem d4_673 : decode method_5_code 673 = .ok (.invokestatic 65, 3) := by decide +kernel
theorem d4_676 : decode method_5_code 676 = .ok (.castore, 1) := by decide +kernel
theorem d4_677 : decode method_5_code 677 = .ok (.dup, 1) := by decide +kernel
theorem d4_678 : decode method_5_code 678 = .ok (.iconst 4, 1) := by decide +kernel
theorem d4_679 : decode method_5_code 679 = .ok (.iload_n 1, 1) := by decide +kernel
theorem d4_680 : decode method_5_code 680 = .ok (.iconst 4, 1) := by decide +kernel
theorem d4_681 : decode method_5_code 681 = .ok (.iload_n 2, 1) := by decide +kernel
theorem d4_682 : decode method_5_code 682 = .ok (.iload_n 3, 1) := by decide +kernel
theorem d4_683 : decode method_5_code 683 = .ok (.invokestatic 65, 3) := by decide +kernel
theorem d4_686 : decode method_5_code 686 = .ok (.castore, 1) := by decide +kernel
theorem d4_687 : decode method_5_code 687 = .ok (.dup, 1) := by decide +kernel
theorem d4_688 : decode method_5_code 688 = .ok (.iconst 5, 1) := by decide +kernel
theorem d4_689 : decode method_5_code 689 = .ok (.iload_n 1, 1) := by decide +kernel
theorem d4_690 : decode method_5_code 690 = .ok (.iconst 5, 1) := by decide +kernel
theorem d4_691 : decode method_5_code 691 = .ok (.iload_n 2, 1) := by decide +kernel
theorem d4_692 : decode method_5_code 692 = .ok (.iload_n 3, 1) := by decide +kernel
theorem d4_693 : decode method_5_code 693 = .ok (.invokestatic 65, 3) := by decide +kernel
theorem d4_696 : decode method_5_code 696 = .ok (.castore, 1) := by decide +kernel
theorem d4_697 : decode method_5_code 697 = .ok (.dup, 1) := by decide +kernel
theorem d4_698 : decode method_5_code 698 = .ok (.bipush 6, 2) := by decide +kernel
theorem d4_700 : decode method_5_code 700 = .ok (.iload_n 1, 1) := by decide +kernel
theorem d4_701 : decode method_5_code 701 = .ok (.bipush 6, 2) := by decide +kernel
theorem d4_703 : decode method_5_code 703 = .ok (.iload_n 2, 1) := by decide +kernel
theorem d4_704 : decode method_5_code 704 = .ok (.iload_n 3, 1) := by decide +kernel
theorem d4_705 : decode method_5_code 705 = .ok (.invokestatic 65, 3) := by decide +kernel
theorem d4_708 : decode method_5_code 708 = .ok (.castore, 1) := by decide +kernel
theorem d4_709 : decode method_5_code 709 = .ok (.dup, 1) := by decide +kernel
theorem d4_710 : decode method_5_code 710 = .ok (.bipush 7, 2) := by decide +kernel
theorem d4_712 : decode method_5_code 712 = .ok (.iload_n 1, 1) := by decide +kernel
theorem d4_713 : decode method_5_code 713 = .ok (.bipush 7, 2) := by decide +kernel
theorem d4_715 : decode method_5_code 715 = .ok (.iload_n 2, 1) := by decide +kernel
theorem d4_716 : decode method_5_code 716 = .ok (.iload_n 3, 1) := by decide +kernel
theorem d4_717 : decode method_5_code 717 = .ok (.invokestatic 65, 3) := by decide +kernel
theorem d4_720 : decode method_5_code 720 = .ok (.castore, 1) := by decide +kernel
theorem d4_721 : decode method_5_code 721 = .ok (.dup, 1) := by decide +kernel
theorem d4_722 : decode method_5_code 722 = .ok (.bipush 8, 2) := by decide +kernel
theorem d4_724 : decode method_5_code 724 = .ok (.iload_n 1, 1) := by decide +kernel
theorem d4_725 : decode method_5_code 725 = .ok (.bipush 8, 2) := by decide +kernel
theorem d4_727 : decode method_5_code 727 = .ok (.iload_n 2, 1) := by decide +kernel
theorem d4_728 : decode method_5_code 728 = .ok (.iload_n 3, 1) := by decide +kernel
theorem d4_729 : decode method_5_code 729 = .ok (.invokestatic 65, 3) := by decide +kernel
theorem d4_732 : decode method_5_code 732 = .ok (.castore, 1) := by decide +kernel
theorem d4_733 : decode method_5_code 733 = .ok (.dup, 1) := by decide +kernel
theorem d4_734 : decode method_5_code 734 = .ok (.bipush 9, 2) := by decide +kernel
theorem d4_736 : decode method_5_code 736 = .ok (.iload_n 1, 1) := by decide +kernel
theorem d4_737 : decode method_5_code 737 = .ok (.bipush 9, 2) := by decide +kernel
theorem d4_739 : decode method_5_code 739 = .ok (.iload_n 2, 1) := by decide +kernel
theorem d4_740 : decode method_5_code 740 = .ok (.iload_n 3, 1) := by decide +kernel
theorem d4_741 : decode method_5_code 741 = .ok (.invokestatic 65, 3) := by decide +kernel
theorem d4_744 : decode method_5_code 744 = .ok (.castore, 1) := by decide +kernel
theorem d4_745 : decode method_5_code 745 = .ok (.invokespecial 62, 3) := by decide +kernel
theorem d4_748 : decode method_5_code 748 = .ok (.areturn, 1) := by decide +kernel
theorem ef_4_10 (m : MethodId) (p1 : Int32) (p2 : Int32) (p3 : Int32) : entryFrame m #[(.int (10 : Int32)), (.int p1), (.int p2), (.int p3)] 4 = mkF m 0 #[iv (10 : Int32), iv p1, iv p2, iv p3] [] := by first | (simp [entryFrame, mkF, argsToLocals, Value.category]; done) | rfl
def Q4_10 (Z : State) (p1 : Int32) (p2 : Int32) (p3 : Int32) (h0 : Heap) (n0 : Nat) (v : Option Value) (h : Heap) (L : List Loc) : Prop := ∃ (t : Addr) (tb : Addr) (kb : ClassId) (y0 : Int32) (y1 : Int32) (y2 : Int32) (y3 : Int32) (y4 : Int32) (y5 : Int32) (y6 : Int32) (y7 : Int32) (y8 : Int32) (y9 : Int32), v = some (.ref t) ∧ Fr n0 L ∧ Keep h0 h [] ∧ Exa Z h t "java/lang/String" ∧ Fld Z h t "java/lang/String" "coder" "B" (.int (0 : Int32)) ∧ Fld Z h t "java/lang/String" "value" "[B" (.ref tb) ∧ Arv Z h tb kb .byte (10 : Int32) [(.int y0), (.int y1), (.int y2), (.int y3), (.int y4), (.int y5), (.int y6), (.int y7), (.int y8), (.int y9)] (.int (0 : Int32)) ∧ n0 ≤ t
abbrev R4_10 : Room := ({ frames := 5, cells := 23, slots := 424, locals := 74 } : Room)
set_option maxRecDepth 65536 in
set_option maxHeartbeats 40000000 in
theorem rm4_10 (l : Launch) (Z : State) (ar : Array Value) (hw : ∀ d ∈ tables_1, d.before ar Z = true) (ws : List Jvm.Cond) (p1 : Int32) (p2 : Int32) (p3 : Int32) (h0 : Heap) (n0 : Nat) (O0 : Old Z n0 h0) (hEL : EW Z ar EL0) (HW : Wd Z w_z0 w_z1 w_z2 w_z3 w_z4 w_z5 w_z6 w_z7 w_z8 w_z9 w_z10 w_z11 k_z3 k_z7 k_z9 k_z11) (hcb : 0 ≤ p3.toInt ∧ p3.toInt ≤ 255) (hk4 : p1 = (0 : Int32) ∨ p1 = (1 : Int32) ∨ p1 = (2 : Int32) ∨ p1 = (3 : Int32)) :
    MetFree l y4 (head1 (Jvm.Cond.code y4 method_5_code 4 (some (.object "java/lang/String")) :: ws) R4_10) (fun a U => a = #[(.int (10 : Int32)), (.int p1), (.int p2), (.int p3)] ∧ Z.Warmed39 U.vm ∧ U.heap = h0 ∧ CHv Z EL0 U.vm h0) (fun _ _ _ _ _ => True) (fun _ U o U' => ∃ v L, o = .returned v ∧ Q4_10 Z p1 p2 p3 h0 n0 v U'.heap L ∧ CHr Z EL0 U.vm U.heap U'.vm U'.heap ∧ ReturnedEndW U o U' L R4_10.cells R4_10.slots) := by
 refine MetFree.of_bodySF (plainFor_of_name pn_3) hisR ?_
 intro p e s m args below meth c s₁ Bd hml0 hP hK
 obtain ⟨rfl, hZ, hh, hCH⟩ := hP
 have hx := Bd.exec
 have hby := Bd.bytes
 have hml : c.maxLocals = 4 := hml0
 have hown : s.vm.findClass "com/example/lease/lease/WorkerStateNamedPinLaw" = some m.cls := findClass_of_methodNamed Bd.named
 have hnm := (name_of_methodNamed Bd.named Bd.method).1
 have hlk : meth.locks = false := by first | assumption | exact BodyLoose.notSynchronized (by assumption) | exact Body.notSynchronized (by assumption)
 have X0 : Stand p l e R4_10 (s.setVm s.vm) m #[(.int (10 : Int32)), (.int p1), (.int p2), (.int p3)] below meth c s₁ [] 0 0 := Stand.of_body Bd
 have e0 : s₁.heap = h0 := by rw [← hh, Bd.state]; rfl
 have N0 := Fr.nil n0
 have Z0 : n0 ≤ h0.size := Nat.le_trans (Nat.le_of_eq O0.1.symm) O0.2.1
 obtain ⟨S0, hS0⟩ : ∃ z, z = s₁.setTop (entryFrame m #[(.int (10 : Int32)), (.int p1), (.int p2), (.int p3)] 4) := ⟨_, rfl⟩
 have pre0 : ∀ tg, AT p e below s₁ m 0 #[iv (10 : Int32), iv p1, iv p2, iv p3] [] tg → Steps p.tables e below S0 tg := fun tg kg => by rw [hS0]; exact castTop (ef_4_10 m p1 p2 p3) kg
 have hS : s.Since s.vm 0 := (State.WarmedH.refl s).since 0
 have hk : 0 ≤ h0.size := Nat.zero_le _
 have CR0 : CHr Z EL0 s.vm h0 s.vm h0 := CHr.refl hCH
 obtain ⟨S_q0, hz_w_z0, -, -, -, -, -, -, -, -, -, -, -, -, -, -, -, -, -, -, -, -, -, -, -, -, -, -⟩ := id HW
 obtain ⟨T1, h1, X1, e1, E1, A1, D1, -, st1⟩ := newO X0 hx hZ hown (ow hw 29 rfl) (ow hw 7 rfl) (ow hw 6 rfl) e0 (g := (mkF m 629 #[iv (10 : Int32), iv p1, iv p2, iv p3] [])) rfl (hb hby d4_629) (by decide) (by decide)
 obtain ⟨b1, g1⟩ : ∃ z, z = h0.size := ⟨_, rfl⟩
 rw [← g1] at A1 D1 st1
 have gn1 : n0 ≤ b1 := Nat.le_trans (Nat.le_trans (Nat.le_of_eq O0.1.symm) O0.2.1) (Nat.le_of_eq g1.symm)
 have sz1 : h0.size ≤ b1 := Nat.le_trans (Keep.refl h0 []).1 (Nat.le_of_eq g1.symm)
 have Sn1 : Safe Z EL0 s.vm h0 b1 := Safe.new (Nat.le_of_eq g1.symm)
 have K1 := (Keep.refl h0 []).ext E1
 have O1 := O0.ext E1
 have Sf1_b1 := Safe.ext E1 CR0.1 Sn1
 have CR1 : CHr Z EL0 s.vm h0 s.vm h1 := CR0.trans (CHr.ext E1 CR0.1)
 have hk := Nat.le_trans hk E1.1
 have F1_2 : Fld Z h1 b1 "java/lang/String" "value" "[B" .null := D1 (Or.inr (ow hw 9 rfl)) (ty := (.array .byte)) (by decide)
 have F1_3 : Fld Z h1 b1 "java/lang/String" "coder" "B" (.int (0 : Int32)) := D1 (Or.inr (ow hw 10 rfl)) (ty := .byte) (by decide)
 obtain ⟨T4, h4, k4, X4, e4, E4, A4, B4, st4⟩ := newPE X1 hx hZ (ow hw 30 rfl) e1 (g := (mkF m 635 #[iv (10 : Int32), iv p1, iv p2, iv p3] [(.int (10 : Int32)), (.ref b1), (.ref b1)])) rfl (hb hby d4_635) rfl (by decide) (cap := 10) (by decide) (by decide) (by decide) (by decide) (ad := "[C") (by decide)
 obtain ⟨b4, g4⟩ : ∃ z, z = h1.size := ⟨_, rfl⟩
 rw [← g4] at A4 B4 st4
 have ne4_5 : b1 ≠ b4 := Nat.ne_of_lt (Nat.lt_of_lt_of_le (A1).lt (Nat.le_of_eq g4.symm))
 have gn4 : n0 ≤ b4 := Nat.le_trans (Nat.le_trans (Nat.le_of_eq O1.1.symm) O1.2.1) (Nat.le_of_eq g4.symm)
 have sz4 : h0.size ≤ b4 := Nat.le_trans K1.1 (Nat.le_of_eq g4.symm)
 have Sn4 : Safe Z EL0 s.vm h1 b4 := Safe.new (Nat.le_of_eq g4.symm)
 have E4_6 := A1.ext E4
 have F4_7 := F1_2.ext E4
 have F4_8 := F1_3.ext E4
 have K4 := K1.ext E4
 have O4 := O1.ext E4
 have Sf4_b1 := Safe.ext E4 CR1.1 Sf1_b1
 have Sf4_b4 := Safe.ext E4 CR1.1 Sn4
 have CR4 : CHr Z EL0 s.vm h0 s.vm h4 := CR1.trans (CHr.ext E4 CR1.1)
 have hk := Nat.le_trans hk E4.1
 have V4_9 : Arv Z h4 b4 k4 .char (10 : Int32) [(.int (0 : Int32)), (.int (0 : Int32)), (.int (0 : Int32)), (.int (0 : Int32)), (.int (0 : Int32)), (.int (0 : Int32)), (.int (0 : Int32)), (.int (0 : Int32)), (.int (0 : Int32)), (.int (0 : Int32))] (.int (0 : Int32)) := (Arv.new A4 (by decide)).pad (pad_rep [] (.int (0 : Int32)) 10)
 have I10 : TI p l e R4_10 s m #[(.int (10 : Int32)), (.int p1), (.int p2), (.int p3)] below meth c Z h0 n0 b1 b4 k4 (10 : Int32) 10 s.vm T4 h4 _ ((0 + 1) + 1) ((0 + 4) + 10) _ := ⟨X4, e4, ⟨_, hS, hk⟩, hZ, hown, CR4, N0, K4, O4, E4_6, F4_7, F4_8, V4_9, B4, Sf4_b1, Sf4_b4, rfl⟩
 obtain ⟨r11, vm11, T11, h11, L11, u11, X11, I11, st11⟩ := turn hw hx hml hEL HW hcb hk4 ne4_5 gn4 sz4 (by decide) (by decide) I10 (i := (0 : Int32)) ⟨by decide, by decide⟩ 0 rfl (by decide) (10 : Int32) (P := 643) (hb hby d4_643) (hb hby d4_646) (by decide) (by decide)
 obtain ⟨r12, vm12, T12, h12, L12, u12, X12, I12, st12⟩ := turn hw hx hml hEL HW hcb hk4 ne4_5 gn4 sz4 (by decide) (by decide) I11 (i := (1 : Int32)) ⟨by decide, by decide⟩ 1 rfl (by decide) (10 : Int32) (P := 653) (hb hby d4_653) (hb hby d4_656) (by decide) (by decide)
 obtain ⟨r13, vm13, T13, h13, L13, u13, X13, I13, st13⟩ := turn hw hx hml hEL HW hcb hk4 ne4_5 gn4 sz4 (by decide) (by decide) I12 (i := (2 : Int32)) ⟨by decide, by decide⟩ 2 rfl (by decide) (10 : Int32) (P := 663) (hb hby d4_663) (hb hby d4_666) (by decide) (by decide)
 obtain ⟨r14, vm14, T14, h14, L14, u14, X14, I14, st14⟩ := turn hw hx hml hEL HW hcb hk4 ne4_5 gn4 sz4 (by decide) (by decide) I13 (i := (3 : Int32)) ⟨by decide, by decide⟩ 3 rfl (by decide) (10 : Int32) (P := 673) (hb hby d4_673) (hb hby d4_676) (by decide) (by decide)
 obtain ⟨r15, vm15, T15, h15, L15, u15, X15, I15, st15⟩ := turn hw hx hml hEL HW hcb hk4 ne4_5 gn4 sz4 (by decide) (by decide) I14 (i := (4 : Int32)) ⟨by decide, by decide⟩ 4 rfl (by decide) (10 : Int32) (P := 683) (hb hby d4_683) (hb hby d4_686) (by decide) (by decide)
 obtain ⟨r16, vm16, T16, h16, L16, u16, X16, I16, st16⟩ := turn hw hx hml hEL HW hcb hk4 ne4_5 gn4 sz4 (by decide) (by decide) I15 (i := (5 : Int32)) ⟨by decide, by decide⟩ 5 rfl (by decide) (10 : Int32) (P := 693) (hb hby d4_693) (hb hby d4_696) (by decide) (by decide)
 obtain ⟨r17, vm17, T17, h17, L17, u17, X17, I17, st17⟩ := turn hw hx hml hEL HW hcb hk4 ne4_5 gn4 sz4 (by decide) (by decide) I16 (i := (6 : Int32)) ⟨by decide, by decide⟩ 6 rfl (by decide) (10 : Int32) (P := 705) (hb hby d4_705) (hb hby d4_708) (by decide) (by decide)
 obtain ⟨r18, vm18, T18, h18, L18, u18, X18, I18, st18⟩ := turn hw hx hml hEL HW hcb hk4 ne4_5 gn4 sz4 (by decide) (by decide) I17 (i := (7 : Int32)) ⟨by decide, by decide⟩ 7 rfl (by decide) (10 : Int32) (P := 717) (hb hby d4_717) (hb hby d4_720) (by decide) (by decide)
 obtain ⟨r19, vm19, T19, h19, L19, u19, X19, I19, st19⟩ := turn hw hx hml hEL HW hcb hk4 ne4_5 gn4 sz4 (by decide) (by decide) I18 (i := (8 : Int32)) ⟨by decide, by decide⟩ 8 rfl (by decide) (10 : Int32) (P := 729) (hb hby d4_729) (hb hby d4_732) (by decide) (by decide)
 obtain ⟨r20, vm20, T20, h20, L20, u20, X20, I20, st20⟩ := turn hw hx hml hEL HW hcb hk4 ne4_5 gn4 sz4 (by decide) (by decide) I19 (i := (9 : Int32)) ⟨by decide, by decide⟩ 9 rfl (by decide) (10 : Int32) (P := 741) (hb hby d4_741) (hb hby d4_744) (by decide) (by decide)
 obtain ⟨-, e21, ⟨kk21, hS, hk⟩, hZ, hown, CR21, N21, K21, O21, i21_0, i21_1, i21_2, i21_3, i21_4, i21_5, i21_6, -⟩ := I20
 have V21_22 : Arv Z h20 b4 k4 .char (10 : Int32) [(.int (nar .char r11)), (.int (nar .char r12)), (.int (nar .char r13)), (.int (nar .char r14)), (.int (nar .char r15)), (.int (nar .char r16)), (.int (nar .char r17)), (.int (nar .char r18)), (.int (nar .char r19)), (.int (nar .char r20))] (.int (0 : Int32)) := i21_3
 obtain ⟨_, _, ⟨T23, L23, k23, n23⟩, -, X23, ⟨Lc23, hQ23, l23, y23, z23⟩, st23⟩ := X20.specialBack hx (y := y11) rfl hown (mvT hZ (ow hw 56 rfl)) (mvT hZ (ow hw 57 rfl)) (mvT hZ (ow hw 58 rfl)) (by decide) (StrChars.Road.backV (W := 1) hZ (own_ws hw) (ow hw 7 rfl) (cs := [(nar .char r11), (nar .char r12), (nar .char r13), (nar .char r14), (nar .char r15), (nar .char r16), (nar .char r17), (nar .char r18), (nar .char r19), (nar .char r20)]) (bs := [((nar .char r11).toInt8.toInt32), ((nar .char r12).toInt8.toInt32), ((nar .char r13).toInt8.toInt32), ((nar .char r14).toInt8.toInt32), ((nar .char r15).toInt8.toInt32), ((nar .char r16).toInt8.toInt32), ((nar .char r17).toInt8.toInt32), ((nar .char r18).toInt8.toInt32), ((nar .char r19).toInt8.toInt32), ((nar .char r20).toInt8.toInt32)]) (n := 10) gn1 (Nat.le_trans (Nat.le_of_eq O21.1.symm) O21.2.1) i21_0 i21_1 i21_2 V21_22 (S_q0.ext O21.2) hz_w_z0 rfl (by decide) (by decide) (by decide) (own_cc ⟨own_0 (own_ncr u11), own_255 (own_ncr u11)⟩ (own_cc ⟨own_0 (own_ncr u12), own_255 (own_ncr u12)⟩ (own_cc ⟨own_0 (own_ncr u13), own_255 (own_ncr u13)⟩ (own_cc ⟨own_0 (own_ncr u14), own_255 (own_ncr u14)⟩ (own_cc ⟨own_0 (own_ncr u15), own_255 (own_ncr u15)⟩ (own_cc ⟨own_0 (own_ncr u16), own_255 (own_ncr u16)⟩ (own_cc ⟨own_0 (own_ncr u17), own_255 (own_ncr u17)⟩ (own_cc ⟨own_0 (own_ncr u18), own_255 (own_ncr u18)⟩ (own_cc ⟨own_0 (own_ncr u19), own_255 (own_ncr u19)⟩ (own_cc ⟨own_0 (own_ncr u20), own_255 (own_ncr u20)⟩ own_cn)))))))))) rfl (by decide) (by decide)) (g := (mkF m 745 #[iv (10 : Int32), iv p1, iv p2, iv p3] [(.ref b4), (.ref b1), (.ref b1)])) rfl (by rw [hml]; rfl) (Steps.refl _) (a := b1) (argsL := [(.ref b4)]) (rest := [(.ref b1)]) (lenOf pd_10 rfl) rfl (by show 2 * 0 + _ ≤ _; exact Nat.le_of_eq rfl) (hb hby d4_745) (fun _ _ => ⟨rfl, e21, (by decide : 22 + 1 ≤ _), (by decide : 414 + 10 ≤ _)⟩)
 dsimp only [Pt.U, Pt.locs, Pt.cells, Pt.slots] at X23 l23 y23 z23 st23 hQ23
 subst l23 y23 z23
 obtain ⟨rfl, N23q, Kq23, uE23, uC23, t23, kt23, -, tg23, tn23, uF23, uV23⟩ := hQ23
 have N23 := Fr.app N21 N23q
 have ne24 : b1 ≠ t23 := Nat.ne_of_lt (Nat.lt_of_lt_of_le (i21_0).lt tg23)
 have ne25 : b4 ≠ t23 := Nat.ne_of_lt (Nat.lt_of_lt_of_le (V21_22).lt tg23)
 have E23_26 := i21_0.keep Kq23
 have V23_27 := V21_22.keep Kq23 (ninS (Ne.symm ne4_5) nin0)
 have E23_28 := i21_4.keep Kq23
 have K23 := K21.trans Kq23 (allS (Or.inr sz1) all0)
 have O23 := O21.keep Kq23 (allS gn1 all0)
 have Sf23_b1 := Safe.keep Kq23 (allS i21_5 all0) CR21.1 i21_5
 have Sf23_b4 := Safe.keep Kq23 (allS i21_5 all0) CR21.1 i21_6
 have CR23 : CHr Z EL0 s.vm h0 vm20 T23.heap := CR21.trans (CHr.keep Kq23 (allS i21_5 all0) CR21.1)
 have hk := Nat.le_trans hk Kq23.1
 have sz23 : h0.size ≤ t23 := Nat.le_trans K21.1 tg23
 have gn23 : n0 ≤ t23 := Nat.le_trans (Nat.le_trans (Nat.le_of_eq O21.1.symm) O21.2.1) tg23
 have Sn23 : Safe Z EL0 vm20 T23.heap t23 := Safe.keep Kq23 (allS i21_5 all0) CR21.1 (Safe.new tg23)
 have uC23' : Fld Z T23.heap b1 "java/lang/String" "coder" "B" (.int (0 : Int32)) := uC23
 have uF23' : Fld Z T23.heap b1 "java/lang/String" "value" "[B" (.ref t23) := uF23
 have uV23' : Arv Z T23.heap t23 kt23 .byte (10 : Int32) [(.int ((nar .char r11).toInt8.toInt32)), (.int ((nar .char r12).toInt8.toInt32)), (.int ((nar .char r13).toInt8.toInt32)), (.int ((nar .char r14).toInt8.toInt32)), (.int ((nar .char r15).toInt8.toInt32)), (.int ((nar .char r16).toInt8.toInt32)), (.int ((nar .char r17).toInt8.toInt32)), (.int ((nar .char r18).toInt8.toInt32)), (.int ((nar .char r19).toInt8.toInt32)), (.int ((nar .char r20).toInt8.toInt32))] (.int (0 : Int32)) := uV23
 obtain ⟨fs, hr, hrun, hended, hRE⟩ := X23.leaveW hS hk (v := some (.ref b1)) (fun h => by rw [Bd.returns] at h; cases h)
 have CRf : CHr Z EL0 s.vm s.heap (T23.setFrames fs).vm (T23.setFrames fs).heap := by
   show CHr Z EL0 s.vm s.heap T23.vm T23.heap
   rw [hh]
   exact CR23.trans (CHv.at X23 hZ hEL CR23.1)
 subst hS0
 refine ⟨_, _, pre0 _ ?_, hrun, hended, _, _, rfl, ?_, CRf, hRE.1, hRE.2.1, hRE.2.2.1, hRE.2.2.2.mono (by decide) (by decide)⟩
 ·
  refine XS.iloadN X0.here hx rfl (hb hby d4_0) rfl ?_
  show AT p e below s₁ m 1 #[iv (10 : Int32), iv p1, iv p2, iv p3] [(.int (10 : Int32))] _
  refine XS.ifYes X0.here hx rfl (pc0 := 1) (pc' := 15) rfl (hb hby d4_1) rfl (XT.i0_ne_t ((by decide) : ¬ ((10 : Int32) = (0 : Int32)))) (by decide) (by decide) ?_
  refine XS.iloadN X0.here hx rfl (hb hby d4_15) rfl ?_
  refine XS.iconst X0.here hx rfl (hb hby d4_16) ?_
  show AT p e below s₁ m 17 #[iv (10 : Int32), iv p1, iv p2, iv p3] [(.int (1 : Int32)), (.int (10 : Int32))] _
  refine XS.icmpYes X0.here hx rfl (pc0 := 17) (pc' := 41) rfl (hb hby d4_17) rfl (XT.ii_ne_t ((by decide) : ¬ ((10 : Int32) = (1 : Int32)))) (by decide) (by decide) ?_
  refine XS.iloadN X0.here hx rfl (hb hby d4_41) rfl ?_
  refine XS.iconst X0.here hx rfl (hb hby d4_42) ?_
  show AT p e below s₁ m 43 #[iv (10 : Int32), iv p1, iv p2, iv p3] [(.int (2 : Int32)), (.int (10 : Int32))] _
  refine XS.icmpYes X0.here hx rfl (pc0 := 43) (pc' := 77) rfl (hb hby d4_43) rfl (XT.ii_ne_t ((by decide) : ¬ ((10 : Int32) = (2 : Int32)))) (by decide) (by decide) ?_
  refine XS.iloadN X0.here hx rfl (hb hby d4_77) rfl ?_
  refine XS.iconst X0.here hx rfl (hb hby d4_78) ?_
  show AT p e below s₁ m 79 #[iv (10 : Int32), iv p1, iv p2, iv p3] [(.int (3 : Int32)), (.int (10 : Int32))] _
  refine XS.icmpYes X0.here hx rfl (pc0 := 79) (pc' := 123) rfl (hb hby d4_79) rfl (XT.ii_ne_t ((by decide) : ¬ ((10 : Int32) = (3 : Int32)))) (by decide) (by decide) ?_
  refine XS.iloadN X0.here hx rfl (hb hby d4_123) rfl ?_
  refine XS.iconst X0.here hx rfl (hb hby d4_124) ?_
  show AT p e below s₁ m 125 #[iv (10 : Int32), iv p1, iv p2, iv p3] [(.int (4 : Int32)), (.int (10 : Int32))] _
  refine XS.icmpYes X0.here hx rfl (pc0 := 125) (pc' := 179) rfl (hb hby d4_125) rfl (XT.ii_ne_t ((by decide) : ¬ ((10 : Int32) = (4 : Int32)))) (by decide) (by decide) ?_
  refine XS.iloadN X0.here hx rfl (hb hby d4_179) rfl ?_
  refine XS.iconst X0.here hx rfl (hb hby d4_180) ?_
  show AT p e below s₁ m 181 #[iv (10 : Int32), iv p1, iv p2, iv p3] [(.int (5 : Int32)), (.int (10 : Int32))] _
  refine XS.icmpYes X0.here hx rfl (pc0 := 181) (pc' := 245) rfl (hb hby d4_181) rfl (XT.ii_ne_t ((by decide) : ¬ ((10 : Int32) = (5 : Int32)))) (by decide) (by decide) ?_
  refine XS.iloadN X0.here hx rfl (hb hby d4_245) rfl ?_
  refine XS.bipush X0.here hx rfl (hb hby d4_246) ?_
  show AT p e below s₁ m 248 #[iv (10 : Int32), iv p1, iv p2, iv p3] [(.int (6 : Int32)), (.int (10 : Int32))] _
  refine XS.icmpYes X0.here hx rfl (pc0 := 248) (pc' := 323) rfl (hb hby d4_248) rfl (XT.ii_ne_t ((by decide) : ¬ ((10 : Int32) = (6 : Int32)))) (by decide) (by decide) ?_
  refine XS.iloadN X0.here hx rfl (hb hby d4_323) rfl ?_
  refine XS.bipush X0.here hx rfl (hb hby d4_324) ?_
  show AT p e below s₁ m 326 #[iv (10 : Int32), iv p1, iv p2, iv p3] [(.int (7 : Int32)), (.int (10 : Int32))] _
  refine XS.icmpYes X0.here hx rfl (pc0 := 326) (pc' := 413) rfl (hb hby d4_326) rfl (XT.ii_ne_t ((by decide) : ¬ ((10 : Int32) = (7 : Int32)))) (by decide) (by decide) ?_
  refine XS.iloadN X0.here hx rfl (hb hby d4_413) rfl ?_
  refine XS.bipush X0.here hx rfl (hb hby d4_414) ?_
  show AT p e below s₁ m 416 #[iv (10 : Int32), iv p1, iv p2, iv p3] [(.int (8 : Int32)), (.int (10 : Int32))] _
  refine XS.icmpYes X0.here hx rfl (pc0 := 416) (pc' := 515) rfl (hb hby d4_416) rfl (XT.ii_ne_t ((by decide) : ¬ ((10 : Int32) = (8 : Int32)))) (by decide) (by decide) ?_
  refine XS.iloadN X0.here hx rfl (hb hby d4_515) rfl ?_
  refine XS.bipush X0.here hx rfl (hb hby d4_516) ?_
  show AT p e below s₁ m 518 #[iv (10 : Int32), iv p1, iv p2, iv p3] [(.int (9 : Int32)), (.int (10 : Int32))] _
  refine XS.icmpYes X0.here hx rfl (pc0 := 518) (pc' := 629) rfl (hb hby d4_518) rfl (XT.ii_ne_t ((by decide) : ¬ ((10 : Int32) = (9 : Int32)))) (by decide) (by decide) ?_
  refine st1 _ ?_
  refine XS.dup X1.here hx rfl (hb hby d4_632) rfl rfl ?_
  refine XS.bipush X1.here hx rfl (hb hby d4_633) ?_
  refine st4 _ ?_
  refine XS.dup X4.here hx rfl (hb hby d4_637) rfl rfl ?_
  refine XS.iconst X4.here hx rfl (hb hby d4_638) ?_
  refine XS.iloadN X4.here hx rfl (hb hby d4_639) rfl ?_
  refine XS.iconst X4.here hx rfl (hb hby d4_640) ?_
  refine XS.iloadN X4.here hx rfl (hb hby d4_641) rfl ?_
  refine XS.iloadN X4.here hx rfl (hb hby d4_642) rfl ?_
  refine st11 _ ?_
  show AT p e below T11 m 647 #[iv (10 : Int32), iv p1, iv p2, iv p3] [(.ref b4), (.ref b1), (.ref b1)] _
  refine XS.dup X11.here hx rfl (hb hby d4_647) rfl rfl ?_
  refine XS.iconst X11.here hx rfl (hb hby d4_648) ?_
  refine XS.iloadN X11.here hx rfl (hb hby d4_649) rfl ?_
  refine XS.iconst X11.here hx rfl (hb hby d4_650) ?_
  refine XS.iloadN X11.here hx rfl (hb hby d4_651) rfl ?_
  refine XS.iloadN X11.here hx rfl (hb hby d4_652) rfl ?_
  refine st12 _ ?_
  refine XS.dup X12.here hx rfl (hb hby d4_657) rfl rfl ?_
  refine XS.iconst X12.here hx rfl (hb hby d4_658) ?_
  refine XS.iloadN X12.here hx rfl (hb hby d4_659) rfl ?_
  refine XS.iconst X12.here hx rfl (hb hby d4_660) ?_
  refine XS.iloadN X12.here hx rfl (hb hby d4_661) rfl ?_
  refine XS.iloadN X12.here hx rfl (hb hby d4_662) rfl ?_
  refine st13 _ ?_
  refine XS.dup X13.here hx rfl (hb hby d4_667) rfl rfl ?_
  refine XS.iconst X13.here hx rfl (hb hby d4_668) ?_
  refine XS.iloadN X13.here hx rfl (hb hby d4_669) rfl ?_
  refine XS.iconst X13.here hx rfl (hb hby d4_670) ?_
  refine XS.iloadN X13.here hx rfl (hb hby d4_671) rfl ?_
  refine XS.iloadN X13.here hx rfl (hb hby d4_672) rfl ?_
  refine st14 _ ?_
  refine XS.dup X14.here hx rfl (hb hby d4_677) rfl rfl ?_
  refine XS.iconst X14.here hx rfl (hb hby d4_678) ?_
  refine XS.iloadN X14.here hx rfl (hb hby d4_679) rfl ?_
  refine XS.iconst X14.here hx rfl (hb hby d4_680) ?_
  refine XS.iloadN X14.here hx rfl (hb hby d4_681) rfl ?_
  refine XS.iloadN X14.here hx rfl (hb hby d4_682) rfl ?_
  refine st15 _ ?_
  refine XS.dup X15.here hx rfl (hb hby d4_687) rfl rfl ?_
  refine XS.iconst X15.here hx rfl (hb hby d4_688) ?_
  show AT p e below T15 m 689 #[iv (10 : Int32), iv p1, iv p2, iv p3] [(.int (5 : Int32)), (.ref b4), (.ref b4), (.ref b1), (.ref b1)] _
  refine XS.iloadN X15.here hx rfl (hb hby d4_689) rfl ?_
  refine XS.iconst X15.here hx rfl (hb hby d4_690) ?_
  refine XS.iloadN X15.here hx rfl (hb hby d4_691) rfl ?_
  refine XS.iloadN X15.here hx rfl (hb hby d4_692) rfl ?_
  refine st16 _ ?_
  refine XS.dup X16.here hx rfl (hb hby d4_697) rfl rfl ?_
  refine XS.bipush X16.here hx rfl (hb hby d4_698) ?_
  refine XS.iloadN X16.here hx rfl (hb hby d4_700) rfl ?_
  refine XS.bipush X16.here hx rfl (hb hby d4_701) ?_
  refine XS.iloadN X16.here hx rfl (hb hby d4_703) rfl ?_
  refine XS.iloadN X16.here hx rfl (hb hby d4_704) rfl ?_
  refine st17 _ ?_
  refine XS.dup X17.here hx rfl (hb hby d4_709) rfl rfl ?_
  refine XS.bipush X17.here hx rfl (hb hby d4_710) ?_
  refine XS.iloadN X17.here hx rfl (hb hby d4_712) rfl ?_
  refine XS.bipush X17.here hx rfl (hb hby d4_713) ?_
  refine XS.iloadN X17.here hx rfl (hb hby d4_715) rfl ?_
  refine XS.iloadN X17.here hx rfl (hb hby d4_716) rfl ?_
  refine st18 _ ?_
  refine XS.dup X18.here hx rfl (hb hby d4_721) rfl rfl ?_
  refine XS.bipush X18.here hx rfl (hb hby d4_722) ?_
  refine XS.iloadN X18.here hx rfl (hb hby d4_724) rfl ?_
  refine XS.bipush X18.here hx rfl (hb hby d4_725) ?_
  refine XS.iloadN X18.here hx rfl (hb hby d4_727) rfl ?_
  refine XS.iloadN X18.here hx rfl (hb hby d4_728) rfl ?_
  refine st19 _ ?_
  refine XS.dup X19.here hx rfl (hb hby d4_733) rfl rfl ?_
  refine XS.bipush X19.here hx rfl (hb hby d4_734) ?_
  refine XS.iloadN X19.here hx rfl (hb hby d4_736) rfl ?_
  refine XS.bipush X19.here hx rfl (hb hby d4_737) ?_
  show AT p e below T19 m 739 #[iv (10 : Int32), iv p1, iv p2, iv p3] [(.int (9 : Int32)), (.int p1), (.int (9 : Int32)), (.ref b4), (.ref b4), (.ref b1), (.ref b1)] _
  refine XS.iloadN X19.here hx rfl (hb hby d4_739) rfl ?_
  refine XS.iloadN X19.here hx rfl (hb hby d4_740) rfl ?_
  refine st20 _ ?_
  refine st23.trans ?_
  exact retOut X23 hx (t := (.object "java/lang/String")) (i := .areturn) Bd.returns rfl (Or.inr (Or.inr (Or.inr (Or.inr ⟨rfl, rfl, rfl⟩)))) (hb hby d4_748) hr
 ·
  show Q4_10 Z p1 p2 p3 h0 n0 _ T23.heap _
  exact ⟨b1, t23, kt23, ((nar .char r11).toInt8.toInt32), ((nar .char r12).toInt8.toInt32), ((nar .char r13).toInt8.toInt32), ((nar .char r14).toInt8.toInt32), ((nar .char r15).toInt8.toInt32), ((nar .char r16).toInt8.toInt32), ((nar .char r17).toInt8.toInt32), ((nar .char r18).toInt8.toInt32), ((nar .char r19).toInt8.toInt32), ((nar .char r20).toInt8.toInt32), rfl, N23, K23, E23_26, uC23', uF23', uV23', gn1⟩

theorem d18_0 : decode jdk_43_method_13_code 0 = .ok (.aload_n 0, 1) := by decide +kernel
theorem d18_1 : decode jdk_43_method_13_code 1 = .ok (.arraylength, 1) := by decide +kernel
theorem d18_2 : decode jdk_43_method_13_code 2 = .ok (.aload_n 1, 1) := by decide +kernel
theorem d18_3 : decode jdk_43_method_13_code 3 = .ok (.arraylength, 1) := by decide +kernel
theorem d18_4 : decode jdk_43_method_13_code 4 = .ok (.if_icmp .ne 30, 3) := by decide +kernel
theorem d18_34 : decode jdk_43_method_13_code 34 = .ok (.iconst 0, 1) := by decide +kernel
theorem d18_35 : decode jdk_43_method_13_code 35 = .ok (.ireturn, 1) := by decide +kernel
theorem ef_18_z (m : MethodId) (a0 : Addr) (a1 : Addr) : entryFrame m #[(.ref a0), (.ref a1)] 3 = mkF m 0 #[rv a0, rv a1, un] [] := by first | (simp [entryFrame, mkF, argsToLocals, Value.category]; done) | rfl
def Q18_z (Z : State) (a0 : Addr) (a1 : Addr) (ka : ClassId) (kb : ClassId) (zn : Int32) (zm : Int32) (vs : List Value) (us : List Value) (h0 : Heap) (n0 : Nat) (v : Option Value) (h : Heap) (L : List Loc) : Prop := v = some (.int (0 : Int32)) ∧ Fr n0 L ∧ h = h0
abbrev R18_z : Room := ({ frames := 0, cells := 0, slots := 0, locals := 0 } : Room)
set_option maxRecDepth 65536 in
set_option maxHeartbeats 40000000 in
theorem rm18_z (l : Launch) (Z : State) (ar : Array Value) (hw : ∀ d ∈ tables_1, d.before ar Z = true) (ws : List Jvm.Cond) (a0 : Addr) (a1 : Addr) (ka : ClassId) (kb : ClassId) (zn : Int32) (zm : Int32) (vs : List Value) (us : List Value) (h0 : Heap) (n0 : Nat) (O0 : Old Z n0 h0) (pf0 : Arv Z h0 a0 ka .byte zn vs (.int (0 : Int32))) (pf1 : Arv Z h0 a1 kb .byte zm us (.int (0 : Int32))) (hzn : ¬ zn = zm) :
    MetFree l y18 (head1 (Jvm.Cond.code y18 jdk_43_method_13_code 3 (some .boolean) :: ws) R18_z) (fun a U => a = #[(.ref a0), (.ref a1)] ∧ Z.Warmed39 U.vm ∧ U.heap = h0) (fun _ _ _ _ _ => True) (fun _ U o U' => ∃ v L, o = .returned v ∧ Q18_z Z a0 a1 ka kb zn zm vs us h0 n0 v U'.heap L ∧ FrameEnd U o U' L R18_z.cells R18_z.slots) := by
 refine MetFree.of_bodySF (plainFor_of_name pn_2) hisR ?_
 intro p e s m args below meth c s₁ Bd hml0 hP hK
 obtain ⟨rfl, hZ, hh⟩ := hP
 have hx := Bd.exec
 have hby := Bd.bytes
 have hml : c.maxLocals = 3 := hml0
 have hown : s.vm.findClass "java/lang/StringLatin1" = some m.cls := findClass_of_methodNamed Bd.named
 have hnm := (name_of_methodNamed Bd.named Bd.method).1
 have hlk : meth.locks = false := by first | assumption | exact BodyLoose.notSynchronized (by assumption) | exact Body.notSynchronized (by assumption)
 have X0 : Stand p l e R18_z s m #[(.ref a0), (.ref a1)] below meth c s₁ [] 0 0 := Stand.of_body Bd
 have e0 : s₁.heap = h0 := by rw [← hh, Bd.state]; rfl
 have N0 := Fr.nil n0
 have Z0 : n0 ≤ h0.size := Nat.le_trans (Nat.le_of_eq O0.1.symm) O0.2.1
 obtain ⟨S0, hS0⟩ : ∃ z, z = s₁.setTop (entryFrame m #[(.ref a0), (.ref a1)] 3) := ⟨_, rfl⟩
 have pre0 : ∀ tg, AT p e below s₁ m 0 #[rv a0, rv a1, un] [] tg → Steps p.tables e below S0 tg := fun tg kg => by rw [hS0]; exact castTop (ef_18_z m a0 a1) kg
 obtain ⟨cl1, Ar1, q1, S1, N1, H1, G1⟩ := id pf0
 obtain ⟨cl2, Ar2, q2, S2, N2, H2, G2⟩ := id pf1
 obtain ⟨fs, hr, hrun, hended, hW, hsame⟩ := X0.leave (v := some (.int (0 : Int32))) (fun h => by rw [Bd.returns] at h; cases h) hlk
 subst hS0
 refine ⟨_, _, pre0 _ ?_, hrun, hended, _, _, rfl, ?_, ⟨_, rfl⟩, hW, hsame.mono (by decide) (by decide)⟩
 ·
  refine XS.aloadN X0.here hx rfl (hb hby d18_0) rfl rfl ?_
  refine X0.arraylength hx (by rw [e0]; exact Ar1.1) (State.isArrayOf_alike hZ.alike Ar1.2.1) (g := (mkF m 1 #[rv a0, rv a1, un] [(.ref a0)])) rfl rfl (hb hby d18_1) _ ?_
  rw [len_of S1 N1]
  refine XS.aloadN X0.here hx rfl (hb hby d18_2) rfl rfl ?_
  refine X0.arraylength hx (by rw [e0]; exact Ar2.1) (State.isArrayOf_alike hZ.alike Ar2.2.1) (g := (mkF m 3 #[rv a0, rv a1, un] [(.ref a1), (.int zn)])) rfl rfl (hb hby d18_3) _ ?_
  rw [len_of S2 N2]
  show AT p e below s₁ m 4 #[rv a0, rv a1, un] [(.int zm), (.int zn)] _
  refine XS.icmpYes X0.here hx rfl (pc0 := 4) (pc' := 34) rfl (hb hby d18_4) rfl (XT.ii_ne_t (hzn : ¬ (zn = zm))) (by decide) (by decide) ?_
  refine XS.iconst X0.here hx rfl (hb hby d18_34) ?_
  exact retN X0 hx (t := .boolean) Bd.returns (by simp) (hb hby d18_35) hr
 ·
  show Q18_z Z a0 a1 ka kb zn zm vs us h0 n0 _ s₁.heap _
  rw [e0]
  exact ⟨rfl, N0, rfl⟩

theorem d17_0 : decode jdk_42_method_66_code 0 = .ok (.aload_n 0, 1) := by decide +kernel
theorem d17_1 : decode jdk_42_method_66_code 1 = .ok (.aload_n 1, 1) := by decide +kernel
theorem d17_2 : decode jdk_42_method_66_code 2 = .ok (.if_acmp .ne 5, 3) := by decide +kernel
theorem d17_7 : decode jdk_42_method_66_code 7 = .ok (.aload_n 1, 1) := by decide +kernel
theorem d17_8 : decode jdk_42_method_66_code 8 = .ok (.instanceof 10, 3) := by decide +kernel
theorem d17_11 : decode jdk_42_method_66_code 11 = .ok (.ifCond .eq 43, 3) := by decide +kernel
theorem d17_14 : decode jdk_42_method_66_code 14 = .ok (.aload_n 1, 1) := by decide +kernel
theorem d17_15 : decode jdk_42_method_66_code 15 = .ok (.checkcast 10, 3) := by decide +kernel
theorem d17_18 : decode jdk_42_method_66_code 18 = .ok (.astore_n 2, 1) := by decide +kernel
theorem d17_19 : decode jdk_42_method_66_code 19 = .ok (.getstatic 38, 3) := by decide +kernel
theorem d17_22 : decode jdk_42_method_66_code 22 = .ok (.ifCond .eq 14, 3) := by decide +kernel
theorem d17_25 : decode jdk_42_method_66_code 25 = .ok (.aload_n 0, 1) := by decide +kernel
theorem d17_26 : decode jdk_42_method_66_code 26 = .ok (.getfield 15, 3) := by decide +kernel
theorem d17_29 : decode jdk_42_method_66_code 29 = .ok (.aload_n 2, 1) := by decide +kernel
theorem d17_30 : decode jdk_42_method_66_code 30 = .ok (.getfield 15, 3) := by decide +kernel
theorem d17_33 : decode jdk_42_method_66_code 33 = .ok (.if_icmp .ne 21, 3) := by decide +kernel
theorem d17_36 : decode jdk_42_method_66_code 36 = .ok (.aload_n 0, 1) := by decide +kernel
theorem d17_37 : decode jdk_42_method_66_code 37 = .ok (.getfield 9, 3) := by decide +kernel
theorem d17_40 : decode jdk_42_method_66_code 40 = .ok (.aload_n 2, 1) := by decide +kernel
theorem d17_41 : decode jdk_42_method_66_code 41 = .ok (.getfield 9, 3) := by decide +kernel
theorem d17_44 : decode jdk_42_method_66_code 44 = .ok (.invokestatic 541, 3) := by decide +kernel
theorem d17_47 : decode jdk_42_method_66_code 47 = .ok (.ifCond .eq 7, 3) := by decide +kernel
theorem d17_54 : decode jdk_42_method_66_code 54 = .ok (.iconst 0, 1) := by decide +kernel
theorem d17_55 : decode jdk_42_method_66_code 55 = .ok (.ireturn, 1) := by decide +kernel
theorem ef_17_z (m : MethodId) (a0 : Addr) (a1 : Addr) : entryFrame m #[(.ref a0), (.ref a1)] 3 = mkF m 0 #[rv a0, rv a1, un] [] := by first | (simp [entryFrame, mkF, argsToLocals, Value.category]; done) | rfl
def Q17_z (Z : State) (a0 : Addr) (a1 : Addr) (u : Addr) (w : Addr) (ka : ClassId) (kb : ClassId) (zn : Int32) (zm : Int32) (vs : List Value) (us : List Value) (h0 : Heap) (n0 : Nat) (v : Option Value) (h : Heap) (L : List Loc) : Prop := v = some (.int (0 : Int32)) ∧ Fr n0 L ∧ h = h0
abbrev R17_z : Room := ({ frames := 1, cells := 0, slots := 0, locals := 14 } : Room)
set_option maxRecDepth 65536 in
set_option maxHeartbeats 40000000 in
theorem rm17_z (l : Launch) (Z : State) (ar : Array Value) (hw : ∀ d ∈ tables_1, d.before ar Z = true) (ws : List Jvm.Cond) (a0 : Addr) (a1 : Addr) (u : Addr) (w : Addr) (ka : ClassId) (kb : ClassId) (zn : Int32) (zm : Int32) (vs : List Value) (us : List Value) (h0 : Heap) (n0 : Nat) (O0 : Old Z n0 h0) (HW : Wd Z w_z0 w_z1 w_z2 w_z3 w_z4 w_z5 w_z6 w_z7 w_z8 w_z9 w_z10 w_z11 k_z3 k_z7 k_z9 k_z11) (pf0 : Exa Z h0 a0 "java/lang/String") (pf1 : Exa Z h0 a1 "java/lang/String") (pf2 : Fld Z h0 a0 "java/lang/String" "coder" "B" (.int (0 : Int32))) (pf3 : Fld Z h0 a1 "java/lang/String" "coder" "B" (.int (0 : Int32))) (pf4 : Fld Z h0 a0 "java/lang/String" "value" "[B" (.ref u)) (pf5 : Fld Z h0 a1 "java/lang/String" "value" "[B" (.ref w)) (pf6 : Arv Z h0 u ka .byte zn vs (.int (0 : Int32))) (pf7 : Arv Z h0 w kb .byte zm us (.int (0 : Int32))) (pf8 : a0 ≠ a1) (hzn : ¬ zn = zm) :
    MetFree l y17 (head1 (Jvm.Cond.code y17 jdk_42_method_66_code 3 (some .boolean) :: ws) R17_z) (fun a U => a = #[(.ref a0), (.ref a1)] ∧ Z.Warmed39 U.vm ∧ U.heap = h0) (fun _ _ _ _ _ => True) (fun _ U o U' => ∃ v L, o = .returned v ∧ Q17_z Z a0 a1 u w ka kb zn zm vs us h0 n0 v U'.heap L ∧ FrameEnd U o U' L R17_z.cells R17_z.slots) := by
 refine MetFree.of_bodySF (plainFor_of_name pn_0) hisR ?_
 intro p e s m args below meth c s₁ Bd hml0 hP hK
 obtain ⟨rfl, hZ, hh⟩ := hP
 have hx := Bd.exec
 have hby := Bd.bytes
 have hml : c.maxLocals = 3 := hml0
 have hown : s.vm.findClass "java/lang/String" = some m.cls := findClass_of_methodNamed Bd.named
 have hnm := (name_of_methodNamed Bd.named Bd.method).1
 have hlk : meth.locks = false := by first | assumption | exact BodyLoose.notSynchronized (by assumption) | exact Body.notSynchronized (by assumption)
 have X0 : Stand p l e R17_z s m #[(.ref a0), (.ref a1)] below meth c s₁ [] 0 0 := Stand.of_body Bd
 have e0 : s₁.heap = h0 := by rw [← hh, Bd.state]; rfl
 have N0 := Fr.nil n0
 have Z0 : n0 ≤ h0.size := Nat.le_trans (Nat.le_of_eq O0.1.symm) O0.2.1
 obtain ⟨S0, hS0⟩ : ∃ z, z = s₁.setTop (entryFrame m #[(.ref a0), (.ref a1)] 3) := ⟨_, rfl⟩
 have pre0 : ∀ tg, AT p e below s₁ m 0 #[rv a0, rv a1, un] [] tg → Steps p.tables e below S0 tg := fun tg kg => by rw [hS0]; exact castTop (ef_17_z m a0 a1) kg
 obtain ⟨S_q0, hz_w_z0, -, -, -, -, -, -, -, -, -, -, -, -, -, -, -, -, -, -, -, -, -, -, -, -, -, -⟩ := id HW
 obtain ⟨T1, X1, e1, st1⟩ := instY X0 hx hZ hown (ow hw 81 rfl) e0 (Ins.self pf1) (g := (mkF m 8 #[rv a0, rv a1, un] [(.ref a1)])) rfl rfl (hb hby d17_8)
 obtain ⟨T2, X2, e2, st2⟩ := castY X1 hx hZ hown (ow hw 81 rfl) e1 (Ins.self pf1) (g := (mkF m 15 #[rv a0, rv a1, un] [(.ref a1)])) rfl rfl (hb hby d17_15)
 obtain ⟨T3, X3, e3, st3⟩ := getS2 X2 hx hZ hown (host := "") (Or.inl (ow hw 24 rfl)) Via.refl e2 (S_q0.ext O0.2) (g := (mkF m 19 #[rv a0, rv a1, rv a1] [])) rfl (hb hby d17_19)
 obtain ⟨T4, X4, e4, st4⟩ := getF X3 hx hZ hown (host := "") (Or.inl (ow hw 25 rfl)) Via.refl e3 pf2 (g := (mkF m 26 #[rv a0, rv a1, rv a1] [(.ref a0)])) rfl rfl (hb hby d17_26)
 obtain ⟨T5, X5, e5, st5⟩ := getF X4 hx hZ hown (host := "") (Or.inl (ow hw 25 rfl)) Via.refl e4 pf3 (g := (mkF m 30 #[rv a0, rv a1, rv a1] [(.ref a1), (.int (0 : Int32))])) rfl rfl (hb hby d17_30)
 obtain ⟨T6, X6, e6, st6⟩ := getF X5 hx hZ hown (host := "") (Or.inl (ow hw 18 rfl)) Via.refl e5 pf4 (g := (mkF m 37 #[rv a0, rv a1, rv a1] [(.ref a0)])) rfl rfl (hb hby d17_37)
 obtain ⟨T7, X7, e7, st7⟩ := getF X6 hx hZ hown (host := "") (Or.inl (ow hw 18 rfl)) Via.refl e6 pf5 (g := (mkF m 41 #[rv a0, rv a1, rv a1] [(.ref a1), (.ref u)])) rfl rfl (hb hby d17_41)
 obtain ⟨_, _, ⟨T8, L8, k8, n8⟩, -, X8, ⟨Lc8, hQ8, l8, y8, z8⟩, st8⟩ := Jvm.LawKit.callS X7 hx (y := y18) hown (mvT hZ (ow hw 82 rfl)) (mvT hZ (ow hw 83 rfl)) (mvT hZ (ow hw 46 rfl)) (mvT hZ (ow hw 84 rfl)) (by decide) (backOf (W := 0) (rm18_z l Z ar hw [] u w _ _ _ _ _ _ h0 n0 O0 pf6 pf7 hzn) hZ (ow hw 84 rfl) (ow hw 46 rfl) (by decide) (by decide)) (g := (mkF m 44 #[rv a0, rv a1, rv a1] [(.ref w), (.ref u)])) rfl (by rw [hml]; rfl) (argsL := [(.ref u), (.ref w)]) (rest := []) (lenOf pd_11 rfl) rfl (by show 2 * 0 + _ ≤ _; exact Nat.le_of_eq rfl) (hb hby d17_44) (fun _ _ => ⟨rfl, e7, (by decide : 0 + 0 ≤ _), (by decide : 0 + 0 ≤ _)⟩)
 dsimp only [Pt.U, Pt.locs, Pt.cells, Pt.slots] at X8 l8 y8 z8 st8 hQ8
 subst l8 y8 z8
 obtain ⟨rfl, N8q, e8⟩ := hQ8
 have N8 := Fr.app N0 N8q
 obtain ⟨fs, hr, hrun, hended, hW, hsame⟩ := X8.leave (v := some (.int (0 : Int32))) (fun h => by rw [Bd.returns] at h; cases h) hlk
 subst hS0
 refine ⟨_, _, pre0 _ ?_, hrun, hended, _, _, rfl, ?_, ⟨_, rfl⟩, hW, hsame.mono (by decide) (by decide)⟩
 ·
  refine XS.aloadN X0.here hx rfl (hb hby d17_0) rfl rfl ?_
  refine XS.aloadN X0.here hx rfl (hb hby d17_1) rfl rfl ?_
  show AT p e below s₁ m 2 #[rv a0, rv a1, un] [(.ref a1), (.ref a0)] _
  refine Jvm.RoadKit.acmp (g := (mkF m 2 #[rv a0, rv a1, un] [(.ref a1), (.ref a0)])) X0 hx rfl rfl rfl (pc0 := 2) (pc' := 7) (same := false) rfl (hb hby d17_2) rfl (decide_eq_false fun q => (pf8 : ¬ (a0 = a1)) (Value.ref.inj q)) (by decide) (by decide) ?_
  refine XS.aloadN X0.here hx rfl (hb hby d17_7) rfl rfl ?_
  refine st1 _ ?_
  show AT p e below T1 m 11 #[rv a0, rv a1, un] [(.int (1 : Int32))] _
  refine XS.ifNo X1.here hx rfl (hb hby d17_11) rfl (XT.i0_eq_f ((by decide) : ¬ ((1 : Int32) = (0 : Int32)))) ?_
  refine XS.aloadN X1.here hx rfl (hb hby d17_14) rfl rfl ?_
  refine st2 _ ?_
  refine XS.astoreN X2.here hx rfl (hb hby d17_18) rfl rfl (l' := #[rv a0, rv a1, rv a1]) rfl ?_
  refine st3 _ ?_
  show AT p e below T3 m 22 #[rv a0, rv a1, rv a1] [(.int w_z0)] _
  refine XS.ifNo X3.here hx rfl (hb hby d17_22) rfl (XT.i0_eq_f (hz_w_z0 : ¬ (w_z0 = (0 : Int32)))) ?_
  refine XS.aloadN X3.here hx rfl (hb hby d17_25) rfl rfl ?_
  refine st4 _ ?_
  refine XS.aloadN X4.here hx rfl (hb hby d17_29) rfl rfl ?_
  refine st5 _ ?_
  show AT p e below T5 m 33 #[rv a0, rv a1, rv a1] [(.int (0 : Int32)), (.int (0 : Int32))] _
  refine XS.icmpNo X5.here hx rfl (hb hby d17_33) rfl (XT.ii_ne_f ((by decide) : (0 : Int32) = (0 : Int32))) ?_
  refine XS.aloadN X5.here hx rfl (hb hby d17_36) rfl rfl ?_
  refine st6 _ ?_
  refine XS.aloadN X6.here hx rfl (hb hby d17_40) rfl rfl ?_
  refine st7 _ ?_
  refine st8 _ ?_
  show AT p e below T8 m 47 #[rv a0, rv a1, rv a1] [(.int (0 : Int32))] _
  refine XS.ifYes X8.here hx rfl (pc0 := 47) (pc' := 54) rfl (hb hby d17_47) rfl (XT.i0_eq_t ((by decide) : (0 : Int32) = (0 : Int32))) (by decide) (by decide) ?_
  refine XS.iconst X8.here hx rfl (hb hby d17_54) ?_
  exact retN X8 hx (t := .boolean) Bd.returns (by simp) (hb hby d17_55) hr
 ·
  show Q17_z Z a0 a1 u w ka kb zn zm vs us h0 n0 _ T8.heap _
  rw [e8]
  exact ⟨rfl, N8, rfl⟩

theorem d20_0 : decode prog_10_method_1_code 0 = .ok (.getstatic 13, 3) := by decide +kernel
theorem d20_3 : decode prog_10_method_1_code 3 = .ok (.invokevirtual 17, 3) := by decide +kernel
theorem d20_6 : decode prog_10_method_1_code 6 = .ok (.checkcast 18, 3) := by decide +kernel
theorem d20_9 : decode prog_10_method_1_code 9 = .ok (.areturn, 1) := by decide +kernel
theorem ef_20 (m : MethodId)  : entryFrame m #[] 0 = mkF m 0 #[] [] := by first | (simp [entryFrame, mkF, argsToLocals, Value.category]; done) | rfl
def Q20 (Z : State)  (w_z2 : Addr) (w_z4 : Addr) (w_z5 : Addr) (h0 : Heap) (n0 : Nat) (v : Option Value) (h : Heap) (L : List Loc) : Prop := ∃ (b : Addr) (kb : ClassId), v = some (.ref b) ∧ Fr n0 L ∧ Keep h0 h [] ∧ Arv Z h b kb (.object "com/example/lease/lease/WorkerState") (3 : Int32) [(.ref w_z2), (.ref w_z4), (.ref w_z5)] .null ∧ h0.size ≤ b ∧ Exa Z h b "[Lcom/example/lease/lease/WorkerState;"
abbrev R20 : Room := ({ frames := 1, cells := 1, slots := 3, locals := 14 } : Room)
set_option maxRecDepth 65536 in
set_option maxHeartbeats 40000000 in
theorem rm20 (l : Launch) (Z : State) (ar : Array Value) (hw : ∀ d ∈ tables_1, d.before ar Z = true) (ws : List Jvm.Cond)  (h0 : Heap) (n0 : Nat) (O0 : Old Z n0 h0) (HW : Wd Z w_z0 w_z1 w_z2 w_z3 w_z4 w_z5 w_z6 w_z7 w_z8 w_z9 w_z10 w_z11 k_z3 k_z7 k_z9 k_z11) :
    MetFree l y20 (head1 (Jvm.Cond.code y20 prog_10_method_1_code 0 (some (.array (.object "com/example/lease/lease/WorkerState"))) :: ws) R20) (fun a U => a = #[] ∧ Z.Warmed39 U.vm ∧ U.heap = h0) (fun _ _ _ _ _ => True) (fun _ U o U' => ∃ v L, o = .returned v ∧ Q20 Z  w_z2 w_z4 w_z5 h0 n0 v U'.heap L ∧ FrameEnd U o U' L R20.cells R20.slots) := by
 refine MetFree.of_bodySF (plainFor_of_name pn_4) hisR ?_
 intro p e s m args below meth c s₁ Bd hml0 hP hK
 obtain ⟨rfl, hZ, hh⟩ := hP
 have hx := Bd.exec
 have hby := Bd.bytes
 have hml : c.maxLocals = 0 := hml0
 have hown : s.vm.findClass "com/example/lease/lease/WorkerState" = some m.cls := findClass_of_methodNamed Bd.named
 have hnm := (name_of_methodNamed Bd.named Bd.method).1
 have hlk : meth.locks = false := by first | assumption | exact BodyLoose.notSynchronized (by assumption) | exact Body.notSynchronized (by assumption)
 have X0 : Stand p l e R20 s m #[] below meth c s₁ [] 0 0 := Stand.of_body Bd
 have e0 : s₁.heap = h0 := by rw [← hh, Bd.state]; rfl
 have N0 := Fr.nil n0
 have Z0 : n0 ≤ h0.size := Nat.le_trans (Nat.le_of_eq O0.1.symm) O0.2.1
 obtain ⟨S0, hS0⟩ : ∃ z, z = s₁.setTop (entryFrame m #[] 0) := ⟨_, rfl⟩
 have pre0 : ∀ tg, AT p e below s₁ m 0 #[] [] tg → Steps p.tables e below S0 tg := fun tg kg => by rw [hS0]; exact castTop (ef_20 m ) kg
 obtain ⟨-, -, -, -, -, -, S_q6, E_z3, -, -, -, -, -, -, -, -, -, -, -, -, -, -, -, -, V_z3, -, -, -⟩ := id HW
 obtain ⟨T1, X1, e1, st1⟩ := getS2 X0 hx hZ hown (host := "") (Or.inl (ow hw 94 rfl)) Via.refl e0 (S_q6.ext O0.2) (g := (mkF m 0 #[] [])) rfl (hb hby d20_0)
 obtain ⟨T2, h2, X2, e2, E2, V2, A2, st2⟩ := cloneH X1 hx hZ hown (ow hw 96 rfl) (ow hw 97 rfl) (ow hw 101 rfl) (ow hw 99 rfl) (ow hw 100 rfl) (ow hw 102 rfl) e1 ((V_z3.ext O0.2)).arh (E_z3.ext O0.2) (g := (mkF m 3 #[] [(.ref w_z3)])) rfl (by rw [hml]; rfl) rfl (hb hby d20_3) (by decide) (W := 0) (cap := 3) (by show 2 * 0 + _ ≤ _; exact Nat.le_of_eq rfl) (by decide) (by decide) (by decide) (by decide)
 obtain ⟨b2, g2⟩ : ∃ z, z = h0.size := ⟨_, rfl⟩
 rw [← g2] at V2 A2 st2
 have gn2 : n0 ≤ b2 := Nat.le_trans (Nat.le_trans (Nat.le_of_eq O0.1.symm) O0.2.1) (Nat.le_of_eq g2.symm)
 have sz2 : h0.size ≤ b2 := Nat.le_trans (Keep.refl h0 []).1 (Nat.le_of_eq g2.symm)
 have K2 := (Keep.refl h0 []).ext E2
 have O2 := O0.ext E2
 have V2_3 : Arv Z h2 b2 k_z3 (.object "com/example/lease/lease/WorkerState") (3 : Int32) [(.ref w_z2), (.ref w_z4), (.ref w_z5)] .null := V2
 obtain ⟨T4, X4, e4, st4⟩ := castY X2 hx hZ hown (ow hw 106 rfl) e2 (Ins.self A2) (g := (mkF m 6 #[] [(.ref b2)])) rfl rfl (hb hby d20_6)
 obtain ⟨fs, hr, hrun, hended, hW, hsame⟩ := X4.leave (v := some (.ref b2)) (fun h => by rw [Bd.returns] at h; cases h) hlk
 subst hS0
 refine ⟨_, _, pre0 _ ?_, hrun, hended, _, _, rfl, ?_, ⟨_, rfl⟩, hW, hsame.mono (by decide) (by decide)⟩
 ·
  refine st1 _ ?_
  refine st2 _ ?_
  refine st4 _ ?_
  exact retOut X4 hx (t := (.array (.object "com/example/lease/lease/WorkerState"))) (i := .areturn) Bd.returns rfl (Or.inr (Or.inr (Or.inr (Or.inr ⟨rfl, rfl, rfl⟩)))) (hb hby d20_9) hr
 ·
  show Q20 Z  w_z2 w_z4 w_z5 h0 n0 _ T4.heap _
  rw [e4]
  exact ⟨b2, k_z3, rfl, N0, K2, V2_3, sz2, A2⟩

theorem ef_17n (m : MethodId) (a0 : Addr) : entryFrame m #[(.ref a0), .null] 3 = mkF m 0 #[rv a0, .val .null, un] [] := by first | (simp [entryFrame, mkF, argsToLocals, Value.category]; done) | rfl
def Q17n (Z : State) (a0 : Addr) (h0 : Heap) (n0 : Nat) (v : Option Value) (h : Heap) (L : List Loc) : Prop := v = some (.int (0 : Int32)) ∧ Fr n0 L ∧ h = h0
abbrev R17n : Room := ({ frames := 0, cells := 0, slots := 0, locals := 0 } : Room)
set_option maxRecDepth 65536 in
set_option maxHeartbeats 40000000 in
theorem rm17n (l : Launch) (Z : State) (ar : Array Value) (hw : ∀ d ∈ tables_1, d.before ar Z = true) (ws : List Jvm.Cond) (a0 : Addr) (h0 : Heap) (n0 : Nat) (O0 : Old Z n0 h0) (pf0 : Exa Z h0 a0 "java/lang/String") :
    MetFree l y17 (head1 (Jvm.Cond.code y17 jdk_42_method_66_code 3 (some .boolean) :: ws) R17n) (fun a U => a = #[(.ref a0), .null] ∧ Z.Warmed39 U.vm ∧ U.heap = h0) (fun _ _ _ _ _ => True) (fun _ U o U' => ∃ v L, o = .returned v ∧ Q17n Z a0 h0 n0 v U'.heap L ∧ FrameEnd U o U' L R17n.cells R17n.slots) := by
 refine MetFree.of_bodySF (plainFor_of_name pn_0) hisR ?_
 intro p e s m args below meth c s₁ Bd hml0 hP hK
 obtain ⟨rfl, hZ, hh⟩ := hP
 have hx := Bd.exec
 have hby := Bd.bytes
 have hml : c.maxLocals = 3 := hml0
 have hown : s.vm.findClass "java/lang/String" = some m.cls := findClass_of_methodNamed Bd.named
 have hnm := (name_of_methodNamed Bd.named Bd.method).1
 have hlk : meth.locks = false := by first | assumption | exact BodyLoose.notSynchronized (by assumption) | exact Body.notSynchronized (by assumption)
 have X0 : Stand p l e R17n s m #[(.ref a0), .null] below meth c s₁ [] 0 0 := Stand.of_body Bd
 have e0 : s₁.heap = h0 := by rw [← hh, Bd.state]; rfl
 have N0 := Fr.nil n0
 have Z0 : n0 ≤ h0.size := Nat.le_trans (Nat.le_of_eq O0.1.symm) O0.2.1
 obtain ⟨S0, hS0⟩ : ∃ z, z = s₁.setTop (entryFrame m #[(.ref a0), .null] 3) := ⟨_, rfl⟩
 have pre0 : ∀ tg, AT p e below s₁ m 0 #[rv a0, .val .null, un] [] tg → Steps p.tables e below S0 tg := fun tg kg => by rw [hS0]; exact castTop (ef_17n m a0) kg
 obtain ⟨fs, hr, hrun, hended, hW, hsame⟩ := X0.leave (v := some (.int (0 : Int32))) (fun h => by rw [Bd.returns] at h; cases h) hlk
 subst hS0
 refine ⟨_, _, pre0 _ ?_, hrun, hended, _, _, rfl, ?_, ⟨_, rfl⟩, hW, hsame.mono (by decide) (by decide)⟩
 ·
  refine XS.aloadN X0.here hx rfl (hb hby d17_0) rfl rfl ?_
  refine XS.aloadN X0.here hx rfl (hb hby d17_1) rfl rfl ?_
  show AT p e below s₁ m 2 #[rv a0, .val .null, un] [.null, (.ref a0)] _
  refine Jvm.RoadKit.acmp (g := (mkF m 2 #[rv a0, .val .null, un] [.null, (.ref a0)])) X0 hx rfl rfl rfl (pc0 := 2) (pc' := 7) (same := false) rfl (hb hby d17_2) rfl (decide_eq_false nofun) (by decide) (by decide) ?_
  refine XS.aloadN X0.here hx rfl (hb hby d17_7) rfl rfl ?_
  refine X0.instanceofNull hx (g := (mkF m 8 #[rv a0, .val .null, un] [.null])) rfl rfl (hb hby d17_8) _ ?_
  show AT p e below s₁ m 11 #[rv a0, .val .null, un] [(.int (0 : Int32))] _
  refine XS.ifYes X0.here hx rfl (pc0 := 11) (pc' := 54) rfl (hb hby d17_11) rfl (XT.i0_eq_t ((by decide) : (0 : Int32) = (0 : Int32))) (by decide) (by decide) ?_
  refine XS.iconst X0.here hx rfl (hb hby d17_54) ?_
  exact retN X0 hx (t := .boolean) Bd.returns (by simp) (hb hby d17_55) hr
 ·
  show Q17n Z a0 h0 n0 _ s₁.heap _
  rw [e0]
  exact ⟨rfl, N0, rfl⟩

theorem d19_0 : decode prog_10_method_6_code 0 = .ok (.aconst_null, 1) := by decide +kernel
theorem d19_1 : decode prog_10_method_6_code 1 = .ok (.astore_n 1, 1) := by decide +kernel
theorem d19_2 : decode prog_10_method_6_code 2 = .ok (.invokestatic 56, 3) := by decide +kernel
theorem d19_5 : decode prog_10_method_6_code 5 = .ok (.astore_n 2, 1) := by decide +kernel
theorem d19_6 : decode prog_10_method_6_code 6 = .ok (.aload_n 2, 1) := by decide +kernel
theorem d19_7 : decode prog_10_method_6_code 7 = .ok (.arraylength, 1) := by decide +kernel
theorem d19_8 : decode prog_10_method_6_code 8 = .ok (.istore_n 3, 1) := by decide +kernel
theorem d19_9 : decode prog_10_method_6_code 9 = .ok (.iconst 0, 1) := by decide +kernel
theorem d19_10 : decode prog_10_method_6_code 10 = .ok (.istore 4, 2) := by decide +kernel
theorem d19_12 : decode prog_10_method_6_code 12 = .ok (.iload 4, 2) := by decide +kernel
theorem d19_14 : decode prog_10_method_6_code 14 = .ok (.iload_n 3, 1) := by decide +kernel
theorem d19_15 : decode prog_10_method_6_code 15 = .ok (.if_icmp .ge 30, 3) := by decide +kernel
theorem d19_18 : decode prog_10_method_6_code 18 = .ok (.aload_n 2, 1) := by decide +kernel
theorem d19_19 : decode prog_10_method_6_code 19 = .ok (.iload 4, 2) := by decide +kernel
theorem d19_21 : decode prog_10_method_6_code 21 = .ok (.aaload, 1) := by decide +kernel
theorem d19_22 : decode prog_10_method_6_code 22 = .ok (.astore 5, 2) := by decide +kernel
theorem d19_24 : decode prog_10_method_6_code 24 = .ok (.aload 5, 2) := by decide +kernel
theorem d19_26 : decode prog_10_method_6_code 26 = .ok (.getfield 48, 3) := by decide +kernel
theorem d19_29 : decode prog_10_method_6_code 29 = .ok (.aload_n 0, 1) := by decide +kernel
theorem d19_30 : decode prog_10_method_6_code 30 = .ok (.invokevirtual 60, 3) := by decide +kernel
theorem d19_33 : decode prog_10_method_6_code 33 = .ok (.ifCond .eq 6, 3) := by decide +kernel
theorem d19_39 : decode prog_10_method_6_code 39 = .ok (.iinc 4 1, 3) := by decide +kernel
theorem d19_42 : decode prog_10_method_6_code 42 = .ok (.goto (-30), 3) := by decide +kernel
theorem d19_45 : decode prog_10_method_6_code 45 = .ok (.aload_n 1, 1) := by decide +kernel
theorem d19_46 : decode prog_10_method_6_code 46 = .ok (.areturn, 1) := by decide +kernel
theorem ef_19n (m : MethodId)  : entryFrame m #[.null] 6 = mkF m 0 #[.val .null, un, un, un, un, un] [] := by first | (simp [entryFrame, mkF, argsToLocals, Value.category]; done) | rfl
def Q19n (Z : State)  (h0 : Heap) (n0 : Nat) (v : Option Value) (h : Heap) (L : List Loc) : Prop := v = some .null ∧ Fr n0 L ∧ Keep h0 h []
abbrev R19n : Room := ({ frames := 2, cells := 1, slots := 3, locals := 25 } : Room)
set_option maxRecDepth 65536 in
set_option maxHeartbeats 40000000 in
theorem rm19n (l : Launch) (Z : State) (ar : Array Value) (hw : ∀ d ∈ tables_1, d.before ar Z = true) (ws : List Jvm.Cond)  (h0 : Heap) (n0 : Nat) (O0 : Old Z n0 h0) (HW : Wd Z w_z0 w_z1 w_z2 w_z3 w_z4 w_z5 w_z6 w_z7 w_z8 w_z9 w_z10 w_z11 k_z3 k_z7 k_z9 k_z11) :
    MetFree l y19 (head1 (Jvm.Cond.code y19 prog_10_method_6_code 6 (some (.object "com/example/lease/lease/WorkerState")) :: ws) R19n) (fun a U => a = #[.null] ∧ Z.Warmed39 U.vm ∧ U.heap = h0) (fun _ _ _ _ _ => True) (fun _ U o U' => ∃ v L, o = .returned v ∧ Q19n Z  h0 n0 v U'.heap L ∧ FrameEnd U o U' L R19n.cells R19n.slots) := by
 refine MetFree.of_bodySF (plainFor_of_name pn_4) hisR ?_
 intro p e s m args below meth c s₁ Bd hml0 hP hK
 obtain ⟨rfl, hZ, hh⟩ := hP
 have hx := Bd.exec
 have hby := Bd.bytes
 have hml : c.maxLocals = 6 := hml0
 have hown : s.vm.findClass "com/example/lease/lease/WorkerState" = some m.cls := findClass_of_methodNamed Bd.named
 have hnm := (name_of_methodNamed Bd.named Bd.method).1
 have hlk : meth.locks = false := by first | assumption | exact BodyLoose.notSynchronized (by assumption) | exact Body.notSynchronized (by assumption)
 have X0 : Stand p l e R19n s m #[.null] below meth c s₁ [] 0 0 := Stand.of_body Bd
 have e0 : s₁.heap = h0 := by rw [← hh, Bd.state]; rfl
 have N0 := Fr.nil n0
 have Z0 : n0 ≤ h0.size := Nat.le_trans (Nat.le_of_eq O0.1.symm) O0.2.1
 obtain ⟨S0, hS0⟩ : ∃ z, z = s₁.setTop (entryFrame m #[.null] 6) := ⟨_, rfl⟩
 have pre0 : ∀ tg, AT p e below s₁ m 0 #[.val .null, un, un, un, un, un] [] tg → Steps p.tables e below S0 tg := fun tg kg => by rw [hS0]; exact castTop (ef_19n m ) kg
 obtain ⟨-, -, -, -, -, -, -, -, -, -, -, -, F_shown_z2, E_z6, -, -, F_shown_z4, E_z8, -, -, F_shown_z5, E_z10, -, -, -, -, -, -⟩ := id HW
 obtain ⟨_, _, ⟨T1, L1, k1, n1⟩, -, X1, ⟨Lc1, hQ1, l1, y1, z1⟩, st1⟩ := Jvm.LawKit.callS X0 hx (y := y20) hown (mvT hZ (ow hw 91 rfl)) (mvT hZ (ow hw 92 rfl)) (mvT hZ (ow hw 86 rfl)) (mvT hZ (ow hw 93 rfl)) (by decide) (backOf (W := 0) (rm20 l Z ar hw []  h0 n0 O0 HW) hZ (ow hw 93 rfl) (ow hw 86 rfl) (by decide) (by decide)) (g := (mkF m 2 #[.val .null, .val .null, un, un, un, un] [])) rfl (by rw [hml]; rfl) (argsL := []) (rest := []) (lenOf pd_12 rfl) rfl (by show 2 * 0 + _ ≤ _; exact Nat.le_of_eq rfl) (hb hby d19_2) (fun _ _ => ⟨rfl, e0, (by decide : 0 + 1 ≤ _), (by decide : 0 + 3 ≤ _)⟩)
 dsimp only [Pt.U, Pt.locs, Pt.cells, Pt.slots] at X1 l1 y1 z1 st1 hQ1
 subst l1 y1 z1
 obtain ⟨b_1, kb_1, rfl, N1q, Kq1, u1_0, u1_1, u1_2⟩ := hQ1
 have N1 := Fr.app N0 N1q
 have K1 := (Keep.refl h0 []).trans Kq1 all0
 have O1 := O0.keep Kq1 all0
 have sz2 : h0.size ≤ b_1 := Nat.le_trans (Keep.refl h0 []).1 u1_1
 have gn2 : n0 ≤ b_1 := Nat.le_trans (Nat.le_trans (Nat.le_of_eq O0.1.symm) O0.2.1) u1_1
 obtain ⟨cl3, Ar3, q3, S3, N3, H3, G3⟩ := id u1_0
 obtain ⟨cl4, Ar4, q4, S4, N4, H4, G4⟩ := id u1_0
 have hin4 := own_in (0 : Int32) S4 ⟨by decide, by decide⟩
 have hat4 : cl4.slots[((0 : Int32)).toNatClampNeg]? = some (.ref w_z2) := Has.at H4 hin4 rfl
 obtain ⟨T5, X5, e5, st5⟩ := getF X1 hx hZ hown (host := "") (Or.inl (ow hw 108 rfl)) Via.refl rfl (F_shown_z2.ext O1.2) (g := (mkF m 26 #[.val .null, .val .null, rv b_1, iv (3 : Int32), iv (0 : Int32), rv w_z2] [(.ref w_z2)])) rfl rfl (hb hby d19_26)
 obtain ⟨cq6, kq6, q6a, q6b, q6c⟩ := isOf hZ e5 (E_z6.ext O1.2)
 obtain ⟨_, _, ⟨T6, L6, k6, n6⟩, -, X6, ⟨Lc6, hQ6, l6, y6, z6⟩, st6⟩ := X5.virtualBack hx (y := y17) (z := y17) hown (mvT hZ (ow hw 110 rfl)) (mvT hZ (ow hw 77 rfl)) (notFace_of_selects (args := #[]) (mvT hZ (ow hw 79 rfl))) (mvT hZ (ow hw 79 rfl)) (mvT hZ (ow hw 78 rfl)) (by decide) (backOf (W := 0) (rm17n l Z ar hw [] w_z6 T1.heap n0 O1 (E_z6.ext O1.2)) hZ (ow hw 80 rfl) (ow hw 6 rfl) (by decide) (by decide)) q6a q6c (g := (mkF m 30 #[.val .null, .val .null, rv b_1, iv (3 : Int32), iv (0 : Int32), rv w_z2] [.null, (.ref w_z6)])) rfl (by rw [hml]; rfl) (Steps.refl _) (argsL := [.null]) (rest := []) (lenOf pd_13 rfl) rfl (by show 2 * 0 + _ ≤ _; exact Nat.le_of_eq rfl) (hb hby d19_30) (fun _ _ => ⟨rfl, e5, (by decide : 1 + 0 ≤ _), (by decide : 3 + 0 ≤ _)⟩)
 dsimp only [Pt.U, Pt.locs, Pt.cells, Pt.slots] at X6 l6 y6 z6 st6 hQ6
 subst l6 y6 z6
 obtain ⟨rfl, N6q, e6⟩ := hQ6
 have N6 := Fr.app N1 N6q
 obtain ⟨cl7, Ar7, q7, S7, N7, H7, G7⟩ := id u1_0
 have hin7 := own_in (1 : Int32) S7 ⟨by decide, by decide⟩
 have hat7 : cl7.slots[((1 : Int32)).toNatClampNeg]? = some (.ref w_z4) := Has.at H7 hin7 rfl
 obtain ⟨T8, X8, e8, st8⟩ := getF X6 hx hZ hown (host := "") (Or.inl (ow hw 108 rfl)) Via.refl e6 (F_shown_z4.ext O1.2) (g := (mkF m 26 #[.val .null, .val .null, rv b_1, iv (3 : Int32), iv (1 : Int32), rv w_z4] [(.ref w_z4)])) rfl rfl (hb hby d19_26)
 obtain ⟨cq9, kq9, q9a, q9b, q9c⟩ := isOf hZ e8 (E_z8.ext O1.2)
 obtain ⟨_, _, ⟨T9, L9, k9, n9⟩, -, X9, ⟨Lc9, hQ9, l9, y9, z9⟩, st9⟩ := X8.virtualBack hx (y := y17) (z := y17) hown (mvT hZ (ow hw 110 rfl)) (mvT hZ (ow hw 77 rfl)) (notFace_of_selects (args := #[]) (mvT hZ (ow hw 79 rfl))) (mvT hZ (ow hw 79 rfl)) (mvT hZ (ow hw 78 rfl)) (by decide) (backOf (W := 0) (rm17n l Z ar hw [] w_z8 T1.heap n0 O1 (E_z8.ext O1.2)) hZ (ow hw 80 rfl) (ow hw 6 rfl) (by decide) (by decide)) q9a q9c (g := (mkF m 30 #[.val .null, .val .null, rv b_1, iv (3 : Int32), iv (1 : Int32), rv w_z4] [.null, (.ref w_z8)])) rfl (by rw [hml]; rfl) (Steps.refl _) (argsL := [.null]) (rest := []) (lenOf pd_13 rfl) rfl (by show 2 * 0 + _ ≤ _; exact Nat.le_of_eq rfl) (hb hby d19_30) (fun _ _ => ⟨rfl, e8, (by decide : 1 + 0 ≤ _), (by decide : 3 + 0 ≤ _)⟩)
 dsimp only [Pt.U, Pt.locs, Pt.cells, Pt.slots] at X9 l9 y9 z9 st9 hQ9
 subst l9 y9 z9
 obtain ⟨rfl, N9q, e9⟩ := hQ9
 have N9 := Fr.app N6 N9q
 obtain ⟨cl10, Ar10, q10, S10, N10, H10, G10⟩ := id u1_0
 have hin10 := own_in (2 : Int32) S10 ⟨by decide, by decide⟩
 have hat10 : cl10.slots[((2 : Int32)).toNatClampNeg]? = some (.ref w_z5) := Has.at H10 hin10 rfl
 obtain ⟨T11, X11, e11, st11⟩ := getF X9 hx hZ hown (host := "") (Or.inl (ow hw 108 rfl)) Via.refl e9 (F_shown_z5.ext O1.2) (g := (mkF m 26 #[.val .null, .val .null, rv b_1, iv (3 : Int32), iv (2 : Int32), rv w_z5] [(.ref w_z5)])) rfl rfl (hb hby d19_26)
 obtain ⟨cq12, kq12, q12a, q12b, q12c⟩ := isOf hZ e11 (E_z10.ext O1.2)
 obtain ⟨_, _, ⟨T12, L12, k12, n12⟩, -, X12, ⟨Lc12, hQ12, l12, y12, z12⟩, st12⟩ := X11.virtualBack hx (y := y17) (z := y17) hown (mvT hZ (ow hw 110 rfl)) (mvT hZ (ow hw 77 rfl)) (notFace_of_selects (args := #[]) (mvT hZ (ow hw 79 rfl))) (mvT hZ (ow hw 79 rfl)) (mvT hZ (ow hw 78 rfl)) (by decide) (backOf (W := 0) (rm17n l Z ar hw [] w_z10 T1.heap n0 O1 (E_z10.ext O1.2)) hZ (ow hw 80 rfl) (ow hw 6 rfl) (by decide) (by decide)) q12a q12c (g := (mkF m 30 #[.val .null, .val .null, rv b_1, iv (3 : Int32), iv (2 : Int32), rv w_z5] [.null, (.ref w_z10)])) rfl (by rw [hml]; rfl) (Steps.refl _) (argsL := [.null]) (rest := []) (lenOf pd_13 rfl) rfl (by show 2 * 0 + _ ≤ _; exact Nat.le_of_eq rfl) (hb hby d19_30) (fun _ _ => ⟨rfl, e11, (by decide : 1 + 0 ≤ _), (by decide : 3 + 0 ≤ _)⟩)
 dsimp only [Pt.U, Pt.locs, Pt.cells, Pt.slots] at X12 l12 y12 z12 st12 hQ12
 subst l12 y12 z12
 obtain ⟨rfl, N12q, e12⟩ := hQ12
 have N12 := Fr.app N9 N12q
 obtain ⟨fs, hr, hrun, hended, hW, hsame⟩ := X12.leave (v := some .null) (fun h => by rw [Bd.returns] at h; cases h) hlk
 subst hS0
 refine ⟨_, _, pre0 _ ?_, hrun, hended, _, _, rfl, ?_, ⟨_, rfl⟩, hW, hsame.mono (by decide) (by decide)⟩
 ·
  refine XS.aconstNull X0.here hx rfl (hb hby d19_0) ?_
  refine XS.astoreN X0.here hx rfl (hb hby d19_1) rfl rfl (l' := #[.val .null, .val .null, un, un, un, un]) rfl ?_
  refine st1 _ ?_
  refine XS.astoreN X1.here hx rfl (hb hby d19_5) rfl rfl (l' := #[.val .null, .val .null, rv b_1, un, un, un]) rfl ?_
  refine XS.aloadN X1.here hx rfl (hb hby d19_6) rfl rfl ?_
  refine X1.arraylength hx Ar3.1 (State.isArrayOf_alike hZ.alike Ar3.2.1) (g := (mkF m 7 #[.val .null, .val .null, rv b_1, un, un, un] [(.ref b_1)])) rfl rfl (hb hby d19_7) _ ?_
  rw [len_of S3 N3]
  refine XS.istoreN X1.here hx rfl (hb hby d19_8) rfl (l' := #[.val .null, .val .null, rv b_1, iv (3 : Int32), un, un]) rfl ?_
  refine XS.iconst X1.here hx rfl (hb hby d19_9) ?_
  refine XS.istore X1.here hx rfl (hb hby d19_10) rfl (l' := #[.val .null, .val .null, rv b_1, iv (3 : Int32), iv (0 : Int32), un]) rfl ?_
  refine XS.iload X1.here hx rfl (hb hby d19_12) rfl ?_
  refine XS.iloadN X1.here hx rfl (hb hby d19_14) rfl ?_
  show AT p e below T1 m 15 #[.val .null, .val .null, rv b_1, iv (3 : Int32), iv (0 : Int32), un] [(.int (3 : Int32)), (.int (0 : Int32))] _
  refine XS.icmpNo X1.here hx rfl (hb hby d19_15) rfl (XT.ii_ge_f ((by decide) : (0 : Int32) < (3 : Int32))) ?_
  refine XS.aloadN X1.here hx rfl (hb hby d19_18) rfl rfl ?_
  refine XS.iload X1.here hx rfl (hb hby d19_19) rfl ?_
  refine X1.aaload hx (j := (0 : Int32)) (v := (.ref w_z2)) Ar4.1 (State.isArrayOf_alike hZ.alike Ar4.2.1) rfl Ar4.2.2 hin4 hat4 (g := (mkF m 21 #[.val .null, .val .null, rv b_1, iv (3 : Int32), iv (0 : Int32), un] [(.int (0 : Int32)), (.ref b_1)])) rfl rfl (hb hby d19_21) _ ?_
  refine XS.astore X1.here hx rfl (hb hby d19_22) rfl rfl (l' := #[.val .null, .val .null, rv b_1, iv (3 : Int32), iv (0 : Int32), rv w_z2]) rfl ?_
  refine XS.aload X1.here hx rfl (hb hby d19_24) rfl rfl ?_
  refine st5 _ ?_
  refine XS.aloadN X5.here hx rfl (hb hby d19_29) rfl rfl ?_
  refine st6.trans ?_
  show AT p e below T6 m 33 #[.val .null, .val .null, rv b_1, iv (3 : Int32), iv (0 : Int32), rv w_z2] [(.int (0 : Int32))] _
  refine XS.ifYes X6.here hx rfl (pc0 := 33) (pc' := 39) rfl (hb hby d19_33) rfl (XT.i0_eq_t ((by decide) : (0 : Int32) = (0 : Int32))) (by decide) (by decide) ?_
  refine XS.iinc X6.here hx rfl (hb hby d19_39) rfl (l' := #[.val .null, .val .null, rv b_1, iv (3 : Int32), iv (1 : Int32), rv w_z2]) rfl ?_
  refine XS.goto X6.here hx rfl (pc0 := 42) (pc' := 12) rfl (hb hby d19_42) (by decide) (by decide) ?_
  refine XS.iload X6.here hx rfl (hb hby d19_12) rfl ?_
  refine XS.iloadN X6.here hx rfl (hb hby d19_14) rfl ?_
  show AT p e below T6 m 15 #[.val .null, .val .null, rv b_1, iv (3 : Int32), iv (1 : Int32), rv w_z2] [(.int (3 : Int32)), (.int (1 : Int32))] _
  refine XS.icmpNo X6.here hx rfl (hb hby d19_15) rfl (XT.ii_ge_f ((by decide) : (1 : Int32) < (3 : Int32))) ?_
  refine XS.aloadN X6.here hx rfl (hb hby d19_18) rfl rfl ?_
  refine XS.iload X6.here hx rfl (hb hby d19_19) rfl ?_
  refine X6.aaload hx (j := (1 : Int32)) (v := (.ref w_z4)) (by rw [e6]; exact Ar7.1) (State.isArrayOf_alike hZ.alike Ar7.2.1) rfl Ar7.2.2 hin7 hat7 (g := (mkF m 21 #[.val .null, .val .null, rv b_1, iv (3 : Int32), iv (1 : Int32), rv w_z2] [(.int (1 : Int32)), (.ref b_1)])) rfl rfl (hb hby d19_21) _ ?_
  refine XS.astore X6.here hx rfl (hb hby d19_22) rfl rfl (l' := #[.val .null, .val .null, rv b_1, iv (3 : Int32), iv (1 : Int32), rv w_z4]) rfl ?_
  refine XS.aload X6.here hx rfl (hb hby d19_24) rfl rfl ?_
  refine st8 _ ?_
  refine XS.aloadN X8.here hx rfl (hb hby d19_29) rfl rfl ?_
  show AT p e below T8 m 30 #[.val .null, .val .null, rv b_1, iv (3 : Int32), iv (1 : Int32), rv w_z4] [.null, (.ref w_z8)] _
  refine st9.trans ?_
  show AT p e below T9 m 33 #[.val .null, .val .null, rv b_1, iv (3 : Int32), iv (1 : Int32), rv w_z4] [(.int (0 : Int32))] _
  refine XS.ifYes X9.here hx rfl (pc0 := 33) (pc' := 39) rfl (hb hby d19_33) rfl (XT.i0_eq_t ((by decide) : (0 : Int32) = (0 : Int32))) (by decide) (by decide) ?_
  refine XS.iinc X9.here hx rfl (hb hby d19_39) rfl (l' := #[.val .null, .val .null, rv b_1, iv (3 : Int32), iv (2 : Int32), rv w_z4]) rfl ?_
  refine XS.goto X9.here hx rfl (pc0 := 42) (pc' := 12) rfl (hb hby d19_42) (by decide) (by decide) ?_
  refine XS.iload X9.here hx rfl (hb hby d19_12) rfl ?_
  refine XS.iloadN X9.here hx rfl (hb hby d19_14) rfl ?_
  show AT p e below T9 m 15 #[.val .null, .val .null, rv b_1, iv (3 : Int32), iv (2 : Int32), rv w_z4] [(.int (3 : Int32)), (.int (2 : Int32))] _
  refine XS.icmpNo X9.here hx rfl (hb hby d19_15) rfl (XT.ii_ge_f ((by decide) : (2 : Int32) < (3 : Int32))) ?_
  refine XS.aloadN X9.here hx rfl (hb hby d19_18) rfl rfl ?_
  refine XS.iload X9.here hx rfl (hb hby d19_19) rfl ?_
  refine X9.aaload hx (j := (2 : Int32)) (v := (.ref w_z5)) (by rw [e9]; exact Ar10.1) (State.isArrayOf_alike hZ.alike Ar10.2.1) rfl Ar10.2.2 hin10 hat10 (g := (mkF m 21 #[.val .null, .val .null, rv b_1, iv (3 : Int32), iv (2 : Int32), rv w_z4] [(.int (2 : Int32)), (.ref b_1)])) rfl rfl (hb hby d19_21) _ ?_
  refine XS.astore X9.here hx rfl (hb hby d19_22) rfl rfl (l' := #[.val .null, .val .null, rv b_1, iv (3 : Int32), iv (2 : Int32), rv w_z5]) rfl ?_
  refine XS.aload X9.here hx rfl (hb hby d19_24) rfl rfl ?_
  refine st11 _ ?_
  refine XS.aloadN X11.here hx rfl (hb hby d19_29) rfl rfl ?_
  refine st12.trans ?_
  show AT p e below T12 m 33 #[.val .null, .val .null, rv b_1, iv (3 : Int32), iv (2 : Int32), rv w_z5] [(.int (0 : Int32))] _
  refine XS.ifYes X12.here hx rfl (pc0 := 33) (pc' := 39) rfl (hb hby d19_33) rfl (XT.i0_eq_t ((by decide) : (0 : Int32) = (0 : Int32))) (by decide) (by decide) ?_
  refine XS.iinc X12.here hx rfl (hb hby d19_39) rfl (l' := #[.val .null, .val .null, rv b_1, iv (3 : Int32), iv (3 : Int32), rv w_z5]) rfl ?_
  refine XS.goto X12.here hx rfl (pc0 := 42) (pc' := 12) rfl (hb hby d19_42) (by decide) (by decide) ?_
  refine XS.iload X12.here hx rfl (hb hby d19_12) rfl ?_
  refine XS.iloadN X12.here hx rfl (hb hby d19_14) rfl ?_
  show AT p e below T12 m 15 #[.val .null, .val .null, rv b_1, iv (3 : Int32), iv (3 : Int32), rv w_z5] [(.int (3 : Int32)), (.int (3 : Int32))] _
  refine XS.icmpYes X12.here hx rfl (pc0 := 15) (pc' := 45) rfl (hb hby d19_15) rfl (XT.ii_ge_t ((by decide) : ¬ ((3 : Int32) < (3 : Int32)))) (by decide) (by decide) ?_
  refine XS.aloadN X12.here hx rfl (hb hby d19_45) rfl rfl ?_
  exact retOut X12 hx (t := (.object "com/example/lease/lease/WorkerState")) (i := .areturn) Bd.returns rfl (Or.inr (Or.inr (Or.inr (Or.inr ⟨rfl, rfl, rfl⟩)))) (hb hby d19_46) hr
 ·
  show Q19n Z  h0 n0 _ T12.heap _
  rw [e12]
  exact ⟨rfl, N12, K1⟩

theorem ef_19x (m : MethodId) (a0 : Addr) : entryFrame m #[(.ref a0)] 6 = mkF m 0 #[rv a0, un, un, un, un, un] [] := by first | (simp [entryFrame, mkF, argsToLocals, Value.category]; done) | rfl
def Q19x (Z : State) (a0 : Addr) (u : Addr) (ku : ClassId) (zn : Int32) (vs : List Value) (h0 : Heap) (n0 : Nat) (v : Option Value) (h : Heap) (L : List Loc) : Prop := v = some .null ∧ Fr n0 L ∧ Keep h0 h []
abbrev R19x : Room := ({ frames := 2, cells := 1, slots := 3, locals := 28 } : Room)
set_option maxRecDepth 65536 in
set_option maxHeartbeats 40000000 in
theorem rm19x (l : Launch) (Z : State) (ar : Array Value) (hw : ∀ d ∈ tables_1, d.before ar Z = true) (ws : List Jvm.Cond) (a0 : Addr) (u : Addr) (ku : ClassId) (zn : Int32) (vs : List Value) (h0 : Heap) (n0 : Nat) (O0 : Old Z n0 h0) (HW : Wd Z w_z0 w_z1 w_z2 w_z3 w_z4 w_z5 w_z6 w_z7 w_z8 w_z9 w_z10 w_z11 k_z3 k_z7 k_z9 k_z11) (pf0 : Exa Z h0 a0 "java/lang/String") (pf1 : Fld Z h0 a0 "java/lang/String" "coder" "B" (.int (0 : Int32))) (pf2 : Fld Z h0 a0 "java/lang/String" "value" "[B" (.ref u)) (pf3 : Arv Z h0 u ku .byte zn vs (.int (0 : Int32))) (pf4 : n0 ≤ a0) (hn5 : ¬ (5 : Int32) = zn) (hn7 : ¬ (7 : Int32) = zn) (hn9 : ¬ (9 : Int32) = zn) :
    MetFree l y19 (head1 (Jvm.Cond.code y19 prog_10_method_6_code 6 (some (.object "com/example/lease/lease/WorkerState")) :: ws) R19x) (fun a U => a = #[(.ref a0)] ∧ Z.Warmed39 U.vm ∧ U.heap = h0) (fun _ _ _ _ _ => True) (fun _ U o U' => ∃ v L, o = .returned v ∧ Q19x Z a0 u ku zn vs h0 n0 v U'.heap L ∧ FrameEnd U o U' L R19x.cells R19x.slots) := by
 refine MetFree.of_bodySF (plainFor_of_name pn_4) hisR ?_
 intro p e s m args below meth c s₁ Bd hml0 hP hK
 obtain ⟨rfl, hZ, hh⟩ := hP
 have hx := Bd.exec
 have hby := Bd.bytes
 have hml : c.maxLocals = 6 := hml0
 have hown : s.vm.findClass "com/example/lease/lease/WorkerState" = some m.cls := findClass_of_methodNamed Bd.named
 have hnm := (name_of_methodNamed Bd.named Bd.method).1
 have hlk : meth.locks = false := by first | assumption | exact BodyLoose.notSynchronized (by assumption) | exact Body.notSynchronized (by assumption)
 have X0 : Stand p l e R19x s m #[(.ref a0)] below meth c s₁ [] 0 0 := Stand.of_body Bd
 have e0 : s₁.heap = h0 := by rw [← hh, Bd.state]; rfl
 have N0 := Fr.nil n0
 have Z0 : n0 ≤ h0.size := Nat.le_trans (Nat.le_of_eq O0.1.symm) O0.2.1
 obtain ⟨S0, hS0⟩ : ∃ z, z = s₁.setTop (entryFrame m #[(.ref a0)] 6) := ⟨_, rfl⟩
 have pre0 : ∀ tg, AT p e below s₁ m 0 #[rv a0, un, un, un, un, un] [] tg → Steps p.tables e below S0 tg := fun tg kg => by rw [hS0]; exact castTop (ef_19x m a0) kg
 obtain ⟨-, -, -, -, -, -, -, -, -, -, -, -, F_shown_z2, E_z6, F_coder_z6, F_value_z6, F_shown_z4, E_z8, F_coder_z8, F_value_z8, F_shown_z5, E_z10, F_coder_z10, F_value_z10, -, V_z7, V_z9, V_z11⟩ := id HW
 obtain ⟨_, _, ⟨T1, L1, k1, n1⟩, -, X1, ⟨Lc1, hQ1, l1, y1, z1⟩, st1⟩ := Jvm.LawKit.callS X0 hx (y := y20) hown (mvT hZ (ow hw 91 rfl)) (mvT hZ (ow hw 92 rfl)) (mvT hZ (ow hw 86 rfl)) (mvT hZ (ow hw 93 rfl)) (by decide) (backOf (W := 0) (rm20 l Z ar hw []  h0 n0 O0 HW) hZ (ow hw 93 rfl) (ow hw 86 rfl) (by decide) (by decide)) (g := (mkF m 2 #[rv a0, .val .null, un, un, un, un] [])) rfl (by rw [hml]; rfl) (argsL := []) (rest := []) (lenOf pd_12 rfl) rfl (by show 2 * 0 + _ ≤ _; exact Nat.le_of_eq rfl) (hb hby d19_2) (fun _ _ => ⟨rfl, e0, (by decide : 0 + 1 ≤ _), (by decide : 0 + 3 ≤ _)⟩)
 dsimp only [Pt.U, Pt.locs, Pt.cells, Pt.slots] at X1 l1 y1 z1 st1 hQ1
 subst l1 y1 z1
 obtain ⟨b_1, kb_1, rfl, N1q, Kq1, u1_0, u1_1, u1_2⟩ := hQ1
 have N1 := Fr.app N0 N1q
 have E1_2 := pf0.keep Kq1
 have F1_3 := pf1.keep Kq1 nin0
 have F1_4 := pf2.keep Kq1 nin0
 have V1_5 := pf3.keep Kq1 nin0
 have K1 := (Keep.refl h0 []).trans Kq1 all0
 have O1 := O0.keep Kq1 all0
 have sz6 : h0.size ≤ b_1 := Nat.le_trans (Keep.refl h0 []).1 u1_1
 have gn6 : n0 ≤ b_1 := Nat.le_trans (Nat.le_trans (Nat.le_of_eq O0.1.symm) O0.2.1) u1_1
 have ne7 : a0 ≠ b_1 := Nat.ne_of_lt (Nat.lt_of_lt_of_le (pf0).lt u1_1)
 have ne8 : u ≠ b_1 := Nat.ne_of_lt (Nat.lt_of_lt_of_le (pf3).lt u1_1)
 obtain ⟨cl9, Ar9, q9, S9, N9, H9, G9⟩ := id u1_0
 obtain ⟨cl10, Ar10, q10, S10, N10, H10, G10⟩ := id u1_0
 have hin10 := own_in (0 : Int32) S10 ⟨by decide, by decide⟩
 have hat10 : cl10.slots[((0 : Int32)).toNatClampNeg]? = some (.ref w_z2) := Has.at H10 hin10 rfl
 obtain ⟨T11, X11, e11, st11⟩ := getF X1 hx hZ hown (host := "") (Or.inl (ow hw 108 rfl)) Via.refl rfl (F_shown_z2.ext O1.2) (g := (mkF m 26 #[rv a0, .val .null, rv b_1, iv (3 : Int32), iv (0 : Int32), rv w_z2] [(.ref w_z2)])) rfl rfl (hb hby d19_26)
 obtain ⟨cq12, kq12, q12a, q12b, q12c⟩ := isOf hZ e11 (E_z6.ext O1.2)
 obtain ⟨_, _, ⟨T12, L12, k12, n12⟩, -, X12, ⟨Lc12, hQ12, l12, y12, z12⟩, st12⟩ := X11.virtualBack hx (y := y17) (z := y17) hown (mvT hZ (ow hw 110 rfl)) (mvT hZ (ow hw 77 rfl)) (notFace_of_selects (args := #[]) (mvT hZ (ow hw 79 rfl))) (mvT hZ (ow hw 79 rfl)) (mvT hZ (ow hw 78 rfl)) (by decide) (backOf (W := 0) (rm17_z l Z ar hw [] w_z6 a0 _ _ _ _ _ _ _ _ T1.heap n0 O1 HW (E_z6.ext O1.2) E1_2 (F_coder_z6.ext O1.2) F1_3 (F_value_z6.ext O1.2) F1_4 (V_z7.ext O1.2) V1_5 (Old.ne O1 E_z6.lt pf4) hn7) hZ (ow hw 80 rfl) (ow hw 6 rfl) (by decide) (by decide)) q12a q12c (g := (mkF m 30 #[rv a0, .val .null, rv b_1, iv (3 : Int32), iv (0 : Int32), rv w_z2] [(.ref a0), (.ref w_z6)])) rfl (by rw [hml]; rfl) (Steps.refl _) (argsL := [(.ref a0)]) (rest := []) (lenOf pd_13 rfl) rfl (by show 2 * 0 + _ ≤ _; exact Nat.le_of_eq rfl) (hb hby d19_30) (fun _ _ => ⟨rfl, e11, (by decide : 1 + 0 ≤ _), (by decide : 3 + 0 ≤ _)⟩)
 dsimp only [Pt.U, Pt.locs, Pt.cells, Pt.slots] at X12 l12 y12 z12 st12 hQ12
 subst l12 y12 z12
 obtain ⟨rfl, N12q, e12⟩ := hQ12
 have N12 := Fr.app N1 N12q
 obtain ⟨cl13, Ar13, q13, S13, N13, H13, G13⟩ := id u1_0
 have hin13 := own_in (1 : Int32) S13 ⟨by decide, by decide⟩
 have hat13 : cl13.slots[((1 : Int32)).toNatClampNeg]? = some (.ref w_z4) := Has.at H13 hin13 rfl
 obtain ⟨T14, X14, e14, st14⟩ := getF X12 hx hZ hown (host := "") (Or.inl (ow hw 108 rfl)) Via.refl e12 (F_shown_z4.ext O1.2) (g := (mkF m 26 #[rv a0, .val .null, rv b_1, iv (3 : Int32), iv (1 : Int32), rv w_z4] [(.ref w_z4)])) rfl rfl (hb hby d19_26)
 obtain ⟨cq15, kq15, q15a, q15b, q15c⟩ := isOf hZ e14 (E_z8.ext O1.2)
 obtain ⟨_, _, ⟨T15, L15, k15, n15⟩, -, X15, ⟨Lc15, hQ15, l15, y15, z15⟩, st15⟩ := X14.virtualBack hx (y := y17) (z := y17) hown (mvT hZ (ow hw 110 rfl)) (mvT hZ (ow hw 77 rfl)) (notFace_of_selects (args := #[]) (mvT hZ (ow hw 79 rfl))) (mvT hZ (ow hw 79 rfl)) (mvT hZ (ow hw 78 rfl)) (by decide) (backOf (W := 0) (rm17_z l Z ar hw [] w_z8 a0 _ _ _ _ _ _ _ _ T1.heap n0 O1 HW (E_z8.ext O1.2) E1_2 (F_coder_z8.ext O1.2) F1_3 (F_value_z8.ext O1.2) F1_4 (V_z9.ext O1.2) V1_5 (Old.ne O1 E_z8.lt pf4) hn5) hZ (ow hw 80 rfl) (ow hw 6 rfl) (by decide) (by decide)) q15a q15c (g := (mkF m 30 #[rv a0, .val .null, rv b_1, iv (3 : Int32), iv (1 : Int32), rv w_z4] [(.ref a0), (.ref w_z8)])) rfl (by rw [hml]; rfl) (Steps.refl _) (argsL := [(.ref a0)]) (rest := []) (lenOf pd_13 rfl) rfl (by show 2 * 0 + _ ≤ _; exact Nat.le_of_eq rfl) (hb hby d19_30) (fun _ _ => ⟨rfl, e14, (by decide : 1 + 0 ≤ _), (by decide : 3 + 0 ≤ _)⟩)
 dsimp only [Pt.U, Pt.locs, Pt.cells, Pt.slots] at X15 l15 y15 z15 st15 hQ15
 subst l15 y15 z15
 obtain ⟨rfl, N15q, e15⟩ := hQ15
 have N15 := Fr.app N12 N15q
 obtain ⟨cl16, Ar16, q16, S16, N16, H16, G16⟩ := id u1_0
 have hin16 := own_in (2 : Int32) S16 ⟨by decide, by decide⟩
 have hat16 : cl16.slots[((2 : Int32)).toNatClampNeg]? = some (.ref w_z5) := Has.at H16 hin16 rfl
 obtain ⟨T17, X17, e17, st17⟩ := getF X15 hx hZ hown (host := "") (Or.inl (ow hw 108 rfl)) Via.refl e15 (F_shown_z5.ext O1.2) (g := (mkF m 26 #[rv a0, .val .null, rv b_1, iv (3 : Int32), iv (2 : Int32), rv w_z5] [(.ref w_z5)])) rfl rfl (hb hby d19_26)
 obtain ⟨cq18, kq18, q18a, q18b, q18c⟩ := isOf hZ e17 (E_z10.ext O1.2)
 obtain ⟨_, _, ⟨T18, L18, k18, n18⟩, -, X18, ⟨Lc18, hQ18, l18, y18, z18⟩, st18⟩ := X17.virtualBack hx (y := y17) (z := y17) hown (mvT hZ (ow hw 110 rfl)) (mvT hZ (ow hw 77 rfl)) (notFace_of_selects (args := #[]) (mvT hZ (ow hw 79 rfl))) (mvT hZ (ow hw 79 rfl)) (mvT hZ (ow hw 78 rfl)) (by decide) (backOf (W := 0) (rm17_z l Z ar hw [] w_z10 a0 _ _ _ _ _ _ _ _ T1.heap n0 O1 HW (E_z10.ext O1.2) E1_2 (F_coder_z10.ext O1.2) F1_3 (F_value_z10.ext O1.2) F1_4 (V_z11.ext O1.2) V1_5 (Old.ne O1 E_z10.lt pf4) hn9) hZ (ow hw 80 rfl) (ow hw 6 rfl) (by decide) (by decide)) q18a q18c (g := (mkF m 30 #[rv a0, .val .null, rv b_1, iv (3 : Int32), iv (2 : Int32), rv w_z5] [(.ref a0), (.ref w_z10)])) rfl (by rw [hml]; rfl) (Steps.refl _) (argsL := [(.ref a0)]) (rest := []) (lenOf pd_13 rfl) rfl (by show 2 * 0 + _ ≤ _; exact Nat.le_of_eq rfl) (hb hby d19_30) (fun _ _ => ⟨rfl, e17, (by decide : 1 + 0 ≤ _), (by decide : 3 + 0 ≤ _)⟩)
 dsimp only [Pt.U, Pt.locs, Pt.cells, Pt.slots] at X18 l18 y18 z18 st18 hQ18
 subst l18 y18 z18
 obtain ⟨rfl, N18q, e18⟩ := hQ18
 have N18 := Fr.app N15 N18q
 obtain ⟨fs, hr, hrun, hended, hW, hsame⟩ := X18.leave (v := some .null) (fun h => by rw [Bd.returns] at h; cases h) hlk
 subst hS0
 refine ⟨_, _, pre0 _ ?_, hrun, hended, _, _, rfl, ?_, ⟨_, rfl⟩, hW, hsame.mono (by decide) (by decide)⟩
 ·
  refine XS.aconstNull X0.here hx rfl (hb hby d19_0) ?_
  refine XS.astoreN X0.here hx rfl (hb hby d19_1) rfl rfl (l' := #[rv a0, .val .null, un, un, un, un]) rfl ?_
  refine st1 _ ?_
  refine XS.astoreN X1.here hx rfl (hb hby d19_5) rfl rfl (l' := #[rv a0, .val .null, rv b_1, un, un, un]) rfl ?_
  refine XS.aloadN X1.here hx rfl (hb hby d19_6) rfl rfl ?_
  refine X1.arraylength hx Ar9.1 (State.isArrayOf_alike hZ.alike Ar9.2.1) (g := (mkF m 7 #[rv a0, .val .null, rv b_1, un, un, un] [(.ref b_1)])) rfl rfl (hb hby d19_7) _ ?_
  rw [len_of S9 N9]
  refine XS.istoreN X1.here hx rfl (hb hby d19_8) rfl (l' := #[rv a0, .val .null, rv b_1, iv (3 : Int32), un, un]) rfl ?_
  refine XS.iconst X1.here hx rfl (hb hby d19_9) ?_
  refine XS.istore X1.here hx rfl (hb hby d19_10) rfl (l' := #[rv a0, .val .null, rv b_1, iv (3 : Int32), iv (0 : Int32), un]) rfl ?_
  refine XS.iload X1.here hx rfl (hb hby d19_12) rfl ?_
  refine XS.iloadN X1.here hx rfl (hb hby d19_14) rfl ?_
  show AT p e below T1 m 15 #[rv a0, .val .null, rv b_1, iv (3 : Int32), iv (0 : Int32), un] [(.int (3 : Int32)), (.int (0 : Int32))] _
  refine XS.icmpNo X1.here hx rfl (hb hby d19_15) rfl (XT.ii_ge_f ((by decide) : (0 : Int32) < (3 : Int32))) ?_
  refine XS.aloadN X1.here hx rfl (hb hby d19_18) rfl rfl ?_
  refine XS.iload X1.here hx rfl (hb hby d19_19) rfl ?_
  refine X1.aaload hx (j := (0 : Int32)) (v := (.ref w_z2)) Ar10.1 (State.isArrayOf_alike hZ.alike Ar10.2.1) rfl Ar10.2.2 hin10 hat10 (g := (mkF m 21 #[rv a0, .val .null, rv b_1, iv (3 : Int32), iv (0 : Int32), un] [(.int (0 : Int32)), (.ref b_1)])) rfl rfl (hb hby d19_21) _ ?_
  refine XS.astore X1.here hx rfl (hb hby d19_22) rfl rfl (l' := #[rv a0, .val .null, rv b_1, iv (3 : Int32), iv (0 : Int32), rv w_z2]) rfl ?_
  refine XS.aload X1.here hx rfl (hb hby d19_24) rfl rfl ?_
  refine st11 _ ?_
  refine XS.aloadN X11.here hx rfl (hb hby d19_29) rfl rfl ?_
  refine st12.trans ?_
  show AT p e below T12 m 33 #[rv a0, .val .null, rv b_1, iv (3 : Int32), iv (0 : Int32), rv w_z2] [(.int (0 : Int32))] _
  refine XS.ifYes X12.here hx rfl (pc0 := 33) (pc' := 39) rfl (hb hby d19_33) rfl (XT.i0_eq_t ((by decide) : (0 : Int32) = (0 : Int32))) (by decide) (by decide) ?_
  refine XS.iinc X12.here hx rfl (hb hby d19_39) rfl (l' := #[rv a0, .val .null, rv b_1, iv (3 : Int32), iv (1 : Int32), rv w_z2]) rfl ?_
  refine XS.goto X12.here hx rfl (pc0 := 42) (pc' := 12) rfl (hb hby d19_42) (by decide) (by decide) ?_
  refine XS.iload X12.here hx rfl (hb hby d19_12) rfl ?_
  refine XS.iloadN X12.here hx rfl (hb hby d19_14) rfl ?_
  show AT p e below T12 m 15 #[rv a0, .val .null, rv b_1, iv (3 : Int32), iv (1 : Int32), rv w_z2] [(.int (3 : Int32)), (.int (1 : Int32))] _
  refine XS.icmpNo X12.here hx rfl (hb hby d19_15) rfl (XT.ii_ge_f ((by decide) : (1 : Int32) < (3 : Int32))) ?_
  refine XS.aloadN X12.here hx rfl (hb hby d19_18) rfl rfl ?_
  refine XS.iload X12.here hx rfl (hb hby d19_19) rfl ?_
  refine X12.aaload hx (j := (1 : Int32)) (v := (.ref w_z4)) (by rw [e12]; exact Ar13.1) (State.isArrayOf_alike hZ.alike Ar13.2.1) rfl Ar13.2.2 hin13 hat13 (g := (mkF m 21 #[rv a0, .val .null, rv b_1, iv (3 : Int32), iv (1 : Int32), rv w_z2] [(.int (1 : Int32)), (.ref b_1)])) rfl rfl (hb hby d19_21) _ ?_
  refine XS.astore X12.here hx rfl (hb hby d19_22) rfl rfl (l' := #[rv a0, .val .null, rv b_1, iv (3 : Int32), iv (1 : Int32), rv w_z4]) rfl ?_
  refine XS.aload X12.here hx rfl (hb hby d19_24) rfl rfl ?_
  refine st14 _ ?_
  refine XS.aloadN X14.here hx rfl (hb hby d19_29) rfl rfl ?_
  show AT p e below T14 m 30 #[rv a0, .val .null, rv b_1, iv (3 : Int32), iv (1 : Int32), rv w_z4] [(.ref a0), (.ref w_z8)] _
  refine st15.trans ?_
  show AT p e below T15 m 33 #[rv a0, .val .null, rv b_1, iv (3 : Int32), iv (1 : Int32), rv w_z4] [(.int (0 : Int32))] _
  refine XS.ifYes X15.here hx rfl (pc0 := 33) (pc' := 39) rfl (hb hby d19_33) rfl (XT.i0_eq_t ((by decide) : (0 : Int32) = (0 : Int32))) (by decide) (by decide) ?_
  refine XS.iinc X15.here hx rfl (hb hby d19_39) rfl (l' := #[rv a0, .val .null, rv b_1, iv (3 : Int32), iv (2 : Int32), rv w_z4]) rfl ?_
  refine XS.goto X15.here hx rfl (pc0 := 42) (pc' := 12) rfl (hb hby d19_42) (by decide) (by decide) ?_
  refine XS.iload X15.here hx rfl (hb hby d19_12) rfl ?_
  refine XS.iloadN X15.here hx rfl (hb hby d19_14) rfl ?_
  show AT p e below T15 m 15 #[rv a0, .val .null, rv b_1, iv (3 : Int32), iv (2 : Int32), rv w_z4] [(.int (3 : Int32)), (.int (2 : Int32))] _
  refine XS.icmpNo X15.here hx rfl (hb hby d19_15) rfl (XT.ii_ge_f ((by decide) : (2 : Int32) < (3 : Int32))) ?_
  refine XS.aloadN X15.here hx rfl (hb hby d19_18) rfl rfl ?_
  refine XS.iload X15.here hx rfl (hb hby d19_19) rfl ?_
  refine X15.aaload hx (j := (2 : Int32)) (v := (.ref w_z5)) (by rw [e15]; exact Ar16.1) (State.isArrayOf_alike hZ.alike Ar16.2.1) rfl Ar16.2.2 hin16 hat16 (g := (mkF m 21 #[rv a0, .val .null, rv b_1, iv (3 : Int32), iv (2 : Int32), rv w_z4] [(.int (2 : Int32)), (.ref b_1)])) rfl rfl (hb hby d19_21) _ ?_
  refine XS.astore X15.here hx rfl (hb hby d19_22) rfl rfl (l' := #[rv a0, .val .null, rv b_1, iv (3 : Int32), iv (2 : Int32), rv w_z5]) rfl ?_
  refine XS.aload X15.here hx rfl (hb hby d19_24) rfl rfl ?_
  refine st17 _ ?_
  refine XS.aloadN X17.here hx rfl (hb hby d19_29) rfl rfl ?_
  refine st18.trans ?_
  show AT p e below T18 m 33 #[rv a0, .val .null, rv b_1, iv (3 : Int32), iv (2 : Int32), rv w_z5] [(.int (0 : Int32))] _
  refine XS.ifYes X18.here hx rfl (pc0 := 33) (pc' := 39) rfl (hb hby d19_33) rfl (XT.i0_eq_t ((by decide) : (0 : Int32) = (0 : Int32))) (by decide) (by decide) ?_
  refine XS.iinc X18.here hx rfl (hb hby d19_39) rfl (l' := #[rv a0, .val .null, rv b_1, iv (3 : Int32), iv (3 : Int32), rv w_z5]) rfl ?_
  refine XS.goto X18.here hx rfl (pc0 := 42) (pc' := 12) rfl (hb hby d19_42) (by decide) (by decide) ?_
  refine XS.iload X18.here hx rfl (hb hby d19_12) rfl ?_
  refine XS.iloadN X18.here hx rfl (hb hby d19_14) rfl ?_
  show AT p e below T18 m 15 #[rv a0, .val .null, rv b_1, iv (3 : Int32), iv (3 : Int32), rv w_z5] [(.int (3 : Int32)), (.int (3 : Int32))] _
  refine XS.icmpYes X18.here hx rfl (pc0 := 15) (pc' := 45) rfl (hb hby d19_15) rfl (XT.ii_ge_t ((by decide) : ¬ ((3 : Int32) < (3 : Int32)))) (by decide) (by decide) ?_
  refine XS.aloadN X18.here hx rfl (hb hby d19_45) rfl rfl ?_
  exact retOut X18 hx (t := (.object "com/example/lease/lease/WorkerState")) (i := .areturn) Bd.returns rfl (Or.inr (Or.inr (Or.inr (Or.inr ⟨rfl, rfl, rfl⟩)))) (hb hby d19_46) hr
 ·
  show Q19x Z a0 u ku zn vs h0 n0 _ T18.heap _
  rw [e18]
  exact ⟨rfl, N18, K1⟩

theorem d18_7 : decode jdk_43_method_13_code 7 = .ok (.iconst 0, 1) := by decide +kernel
theorem d18_8 : decode jdk_43_method_13_code 8 = .ok (.istore_n 2, 1) := by decide +kernel
theorem d18_9 : decode jdk_43_method_13_code 9 = .ok (.iload_n 2, 1) := by decide +kernel
theorem d18_10 : decode jdk_43_method_13_code 10 = .ok (.aload_n 0, 1) := by decide +kernel
theorem d18_11 : decode jdk_43_method_13_code 11 = .ok (.arraylength, 1) := by decide +kernel
theorem d18_12 : decode jdk_43_method_13_code 12 = .ok (.if_icmp .ge 20, 3) := by decide +kernel
theorem d18_15 : decode jdk_43_method_13_code 15 = .ok (.aload_n 0, 1) := by decide +kernel
theorem d18_16 : decode jdk_43_method_13_code 16 = .ok (.iload_n 2, 1) := by decide +kernel
theorem d18_17 : decode jdk_43_method_13_code 17 = .ok (.baload, 1) := by decide +kernel
theorem d18_18 : decode jdk_43_method_13_code 18 = .ok (.aload_n 1, 1) := by decide +kernel
theorem d18_19 : decode jdk_43_method_13_code 19 = .ok (.iload_n 2, 1) := by decide +kernel
theorem d18_20 : decode jdk_43_method_13_code 20 = .ok (.baload, 1) := by decide +kernel
theorem d18_21 : decode jdk_43_method_13_code 21 = .ok (.if_icmp .eq 5, 3) := by decide +kernel
theorem d18_24 : decode jdk_43_method_13_code 24 = .ok (.iconst 0, 1) := by decide +kernel
theorem d18_25 : decode jdk_43_method_13_code 25 = .ok (.ireturn, 1) := by decide +kernel
theorem d18_26 : decode jdk_43_method_13_code 26 = .ok (.iinc 2 1, 3) := by decide +kernel
theorem d18_29 : decode jdk_43_method_13_code 29 = .ok (.goto (-20), 3) := by decide +kernel
theorem d18_32 : decode jdk_43_method_13_code 32 = .ok (.iconst 1, 1) := by decide +kernel
theorem d18_33 : decode jdk_43_method_13_code 33 = .ok (.ireturn, 1) := by decide +kernel
theorem ef_18_5_5 (m : MethodId) (a0 : Addr) (a1 : Addr) : entryFrame m #[(.ref a0), (.ref a1)] 3 = mkF m 0 #[rv a0, rv a1, un] [] := by first | (simp [entryFrame, mkF, argsToLocals, Value.category]; done) | rfl
def f18_5_5 (x0 : Int32) (x1 : Int32) (x2 : Int32) (x3 : Int32) (x4 : Int32) (y0 : Int32) (y1 : Int32) (y2 : Int32) (y3 : Int32) (y4 : Int32) : Int32 := if x0 = y0 then (if x1 = y1 then (if x2 = y2 then (if x3 = y3 then (if x4 = y4 then (1 : Int32) else (0 : Int32)) else ((0 : Int32))) else ((0 : Int32))) else ((0 : Int32))) else ((0 : Int32))
def Q18_5_5 (Z : State) (a0 : Addr) (a1 : Addr) (ka : ClassId) (kb : ClassId) (x0 : Int32) (x1 : Int32) (x2 : Int32) (x3 : Int32) (x4 : Int32) (y0 : Int32) (y1 : Int32) (y2 : Int32) (y3 : Int32) (y4 : Int32) (h0 : Heap) (n0 : Nat) (v : Option Value) (h : Heap) (L : List Loc) : Prop := v = some (.int (f18_5_5 x0 x1 x2 x3 x4 y0 y1 y2 y3 y4)) ∧ Fr n0 L ∧ h = h0
abbrev R18_5_5 : Room := ({ frames := 0, cells := 0, slots := 0, locals := 0 } : Room)
set_option maxRecDepth 65536 in
set_option maxHeartbeats 40000000 in
theorem rm18_5_5 (l : Launch) (Z : State) (ar : Array Value) (hw : ∀ d ∈ tables_1, d.before ar Z = true) (ws : List Jvm.Cond) (a0 : Addr) (a1 : Addr) (ka : ClassId) (kb : ClassId) (x0 : Int32) (x1 : Int32) (x2 : Int32) (x3 : Int32) (x4 : Int32) (y0 : Int32) (y1 : Int32) (y2 : Int32) (y3 : Int32) (y4 : Int32) (h0 : Heap) (n0 : Nat) (O0 : Old Z n0 h0) (pf0 : Arv Z h0 a0 ka .byte (5 : Int32) [(.int x0), (.int x1), (.int x2), (.int x3), (.int x4)] (.int (0 : Int32))) (pf1 : Arv Z h0 a1 kb .byte (5 : Int32) [(.int y0), (.int y1), (.int y2), (.int y3), (.int y4)] (.int (0 : Int32))) :
    MetFree l y18 (head1 (Jvm.Cond.code y18 jdk_43_method_13_code 3 (some .boolean) :: ws) R18_5_5) (fun a U => a = #[(.ref a0), (.ref a1)] ∧ Z.Warmed39 U.vm ∧ U.heap = h0) (fun _ _ _ _ _ => True) (fun _ U o U' => ∃ v L, o = .returned v ∧ Q18_5_5 Z a0 a1 ka kb x0 x1 x2 x3 x4 y0 y1 y2 y3 y4 h0 n0 v U'.heap L ∧ FrameEnd U o U' L R18_5_5.cells R18_5_5.slots) := by
 refine MetFree.of_bodySF (plainFor_of_name pn_2) hisR ?_
 intro p e s m args below meth c s₁ Bd hml0 hP hK
 obtain ⟨rfl, hZ, hh⟩ := hP
 have hx := Bd.exec
 have hby := Bd.bytes
 have hml : c.maxLocals = 3 := hml0
 have hown : s.vm.findClass "java/lang/StringLatin1" = some m.cls := findClass_of_methodNamed Bd.named
 have hnm := (name_of_methodNamed Bd.named Bd.method).1
 have hlk : meth.locks = false := by first | assumption | exact BodyLoose.notSynchronized (by assumption) | exact Body.notSynchronized (by assumption)
 have X0 : Stand p l e R18_5_5 s m #[(.ref a0), (.ref a1)] below meth c s₁ [] 0 0 := Stand.of_body Bd
 have e0 : s₁.heap = h0 := by rw [← hh, Bd.state]; rfl
 have N0 := Fr.nil n0
 have Z0 : n0 ≤ h0.size := Nat.le_trans (Nat.le_of_eq O0.1.symm) O0.2.1
 obtain ⟨S0, hS0⟩ : ∃ z, z = s₁.setTop (entryFrame m #[(.ref a0), (.ref a1)] 3) := ⟨_, rfl⟩
 have pre0 : ∀ tg, AT p e below s₁ m 0 #[rv a0, rv a1, un] [] tg → Steps p.tables e below S0 tg := fun tg kg => by rw [hS0]; exact castTop (ef_18_5_5 m a0 a1) kg
 obtain ⟨cl1, Ar1, q1, S1, N1, H1, G1⟩ := id pf0
 obtain ⟨cl2, Ar2, q2, S2, N2, H2, G2⟩ := id pf1
 obtain ⟨cl3, Ar3, q3, S3, N3, H3, G3⟩ := id pf0
 obtain ⟨cl4, Ar4, q4, S4, N4, H4, G4⟩ := id pf0
 have hin4 := own_in (0 : Int32) S4 ⟨by decide, by decide⟩
 have hat4 : cl4.slots[((0 : Int32)).toNatClampNeg]? = some (.int x0) := Has.at H4 hin4 rfl
 obtain ⟨cl5, Ar5, q5, S5, N5, H5, G5⟩ := id pf1
 have hin5 := own_in (0 : Int32) S5 ⟨by decide, by decide⟩
 have hat5 : cl5.slots[((0 : Int32)).toNatClampNeg]? = some (.int y0) := Has.at H5 hin5 rfl
 have pre6 : ∀ tg, AT p e below s₁ m 21 #[rv a0, rv a1, iv (0 : Int32)] [(.int y0), (.int x0)] tg → Steps p.tables e below S0 tg := fun tg kg => pre0 tg (by
  refine XS.aloadN X0.here hx rfl (hb hby d18_0) rfl rfl ?_
  refine X0.arraylength hx (by rw [e0]; exact Ar1.1) (State.isArrayOf_alike hZ.alike Ar1.2.1) (g := (mkF m 1 #[rv a0, rv a1, un] [(.ref a0)])) rfl rfl (hb hby d18_1) _ ?_
  rw [len_of S1 N1]
  refine XS.aloadN X0.here hx rfl (hb hby d18_2) rfl rfl ?_
  refine X0.arraylength hx (by rw [e0]; exact Ar2.1) (State.isArrayOf_alike hZ.alike Ar2.2.1) (g := (mkF m 3 #[rv a0, rv a1, un] [(.ref a1), (.int (5 : Int32))])) rfl rfl (hb hby d18_3) _ ?_
  rw [len_of S2 N2]
  show AT p e below s₁ m 4 #[rv a0, rv a1, un] [(.int (5 : Int32)), (.int (5 : Int32))] _
  refine XS.icmpNo X0.here hx rfl (hb hby d18_4) rfl (XT.ii_ne_f ((by decide) : (5 : Int32) = (5 : Int32))) ?_
  refine XS.iconst X0.here hx rfl (hb hby d18_7) ?_
  refine XS.istoreN X0.here hx rfl (hb hby d18_8) rfl (l' := #[rv a0, rv a1, iv (0 : Int32)]) rfl ?_
  refine XS.iloadN X0.here hx rfl (hb hby d18_9) rfl ?_
  refine XS.aloadN X0.here hx rfl (hb hby d18_10) rfl rfl ?_
  refine X0.arraylength hx (by rw [e0]; exact Ar3.1) (State.isArrayOf_alike hZ.alike Ar3.2.1) (g := (mkF m 11 #[rv a0, rv a1, iv (0 : Int32)] [(.ref a0), (.int (0 : Int32))])) rfl rfl (hb hby d18_11) _ ?_
  rw [len_of S3 N3]
  show AT p e below s₁ m 12 #[rv a0, rv a1, iv (0 : Int32)] [(.int (5 : Int32)), (.int (0 : Int32))] _
  refine XS.icmpNo X0.here hx rfl (hb hby d18_12) rfl (XT.ii_ge_f ((by decide) : (0 : Int32) < (5 : Int32))) ?_
  refine XS.aloadN X0.here hx rfl (hb hby d18_15) rfl rfl ?_
  refine XS.iloadN X0.here hx rfl (hb hby d18_16) rfl ?_
  refine X0.baloadBytes hx (j := (0 : Int32)) (v := (.int x0)) (by rw [e0]; exact Ar4.1) (State.isArrayOf_alike hZ.alike Ar4.2.1) Ar4.2.2 hin4 hat4 (g := (mkF m 17 #[rv a0, rv a1, iv (0 : Int32)] [(.int (0 : Int32)), (.ref a0)])) rfl rfl (hb hby d18_17) _ ?_
  refine XS.aloadN X0.here hx rfl (hb hby d18_18) rfl rfl ?_
  refine XS.iloadN X0.here hx rfl (hb hby d18_19) rfl ?_
  refine X0.baloadBytes hx (j := (0 : Int32)) (v := (.int y0)) (by rw [e0]; exact Ar5.1) (State.isArrayOf_alike hZ.alike Ar5.2.1) Ar5.2.2 hin5 hat5 (g := (mkF m 20 #[rv a0, rv a1, iv (0 : Int32)] [(.int (0 : Int32)), (.ref a1), (.int x0)])) rfl rfl (hb hby d18_20) _ ?_
  exact kg)
 rcases Decidable.em (x0 = y0) with hc7 | hc7
 ·
  obtain ⟨cl8, Ar8, q8, S8, N8, H8, G8⟩ := id pf0
  obtain ⟨cl9, Ar9, q9, S9, N9, H9, G9⟩ := id pf0
  have hin9 := own_in (1 : Int32) S9 ⟨by decide, by decide⟩
  have hat9 : cl9.slots[((1 : Int32)).toNatClampNeg]? = some (.int x1) := Has.at H9 hin9 rfl
  obtain ⟨cl10, Ar10, q10, S10, N10, H10, G10⟩ := id pf1
  have hin10 := own_in (1 : Int32) S10 ⟨by decide, by decide⟩
  have hat10 : cl10.slots[((1 : Int32)).toNatClampNeg]? = some (.int y1) := Has.at H10 hin10 rfl
  have pre11 : ∀ tg, AT p e below s₁ m 21 #[rv a0, rv a1, iv (1 : Int32)] [(.int y1), (.int x1)] tg → Steps p.tables e below S0 tg := fun tg kg => pre6 tg (by
   refine XS.icmpYes X0.here hx rfl (pc0 := 21) (pc' := 26) rfl (hb hby d18_21) rfl (XT.ii_eq_t hc7) (by decide) (by decide) ?_
   refine XS.iinc X0.here hx rfl (hb hby d18_26) rfl (l' := #[rv a0, rv a1, iv (1 : Int32)]) rfl ?_
   refine XS.goto X0.here hx rfl (pc0 := 29) (pc' := 9) rfl (hb hby d18_29) (by decide) (by decide) ?_
   refine XS.iloadN X0.here hx rfl (hb hby d18_9) rfl ?_
   refine XS.aloadN X0.here hx rfl (hb hby d18_10) rfl rfl ?_
   refine X0.arraylength hx (by rw [e0]; exact Ar8.1) (State.isArrayOf_alike hZ.alike Ar8.2.1) (g := (mkF m 11 #[rv a0, rv a1, iv (1 : Int32)] [(.ref a0), (.int (1 : Int32))])) rfl rfl (hb hby d18_11) _ ?_
   rw [len_of S8 N8]
   show AT p e below s₁ m 12 #[rv a0, rv a1, iv (1 : Int32)] [(.int (5 : Int32)), (.int (1 : Int32))] _
   refine XS.icmpNo X0.here hx rfl (hb hby d18_12) rfl (XT.ii_ge_f ((by decide) : (1 : Int32) < (5 : Int32))) ?_
   refine XS.aloadN X0.here hx rfl (hb hby d18_15) rfl rfl ?_
   refine XS.iloadN X0.here hx rfl (hb hby d18_16) rfl ?_
   refine X0.baloadBytes hx (j := (1 : Int32)) (v := (.int x1)) (by rw [e0]; exact Ar9.1) (State.isArrayOf_alike hZ.alike Ar9.2.1) Ar9.2.2 hin9 hat9 (g := (mkF m 17 #[rv a0, rv a1, iv (1 : Int32)] [(.int (1 : Int32)), (.ref a0)])) rfl rfl (hb hby d18_17) _ ?_
   refine XS.aloadN X0.here hx rfl (hb hby d18_18) rfl rfl ?_
   refine XS.iloadN X0.here hx rfl (hb hby d18_19) rfl ?_
   refine X0.baloadBytes hx (j := (1 : Int32)) (v := (.int y1)) (by rw [e0]; exact Ar10.1) (State.isArrayOf_alike hZ.alike Ar10.2.1) Ar10.2.2 hin10 hat10 (g := (mkF m 20 #[rv a0, rv a1, iv (1 : Int32)] [(.int (1 : Int32)), (.ref a1), (.int x1)])) rfl rfl (hb hby d18_20) _ ?_
   exact kg)
  rcases Decidable.em (x1 = y1) with hc12 | hc12
  ·
   obtain ⟨cl13, Ar13, q13, S13, N13, H13, G13⟩ := id pf0
   obtain ⟨cl14, Ar14, q14, S14, N14, H14, G14⟩ := id pf0
   have hin14 := own_in (2 : Int32) S14 ⟨by decide, by decide⟩
   have hat14 : cl14.slots[((2 : Int32)).toNatClampNeg]? = some (.int x2) := Has.at H14 hin14 rfl
   obtain ⟨cl15, Ar15, q15, S15, N15, H15, G15⟩ := id pf1
   have hin15 := own_in (2 : Int32) S15 ⟨by decide, by decide⟩
   have hat15 : cl15.slots[((2 : Int32)).toNatClampNeg]? = some (.int y2) := Has.at H15 hin15 rfl
   have pre16 : ∀ tg, AT p e below s₁ m 21 #[rv a0, rv a1, iv (2 : Int32)] [(.int y2), (.int x2)] tg → Steps p.tables e below S0 tg := fun tg kg => pre11 tg (by
    refine XS.icmpYes X0.here hx rfl (pc0 := 21) (pc' := 26) rfl (hb hby d18_21) rfl (XT.ii_eq_t hc12) (by decide) (by decide) ?_
    refine XS.iinc X0.here hx rfl (hb hby d18_26) rfl (l' := #[rv a0, rv a1, iv (2 : Int32)]) rfl ?_
    refine XS.goto X0.here hx rfl (pc0 := 29) (pc' := 9) rfl (hb hby d18_29) (by decide) (by decide) ?_
    refine XS.iloadN X0.here hx rfl (hb hby d18_9) rfl ?_
    refine XS.aloadN X0.here hx rfl (hb hby d18_10) rfl rfl ?_
    show AT p e below s₁ m 11 #[rv a0, rv a1, iv (2 : Int32)] [(.ref a0), (.int (2 : Int32))] _
    refine X0.arraylength hx (by rw [e0]; exact Ar13.1) (State.isArrayOf_alike hZ.alike Ar13.2.1) (g := (mkF m 11 #[rv a0, rv a1, iv (2 : Int32)] [(.ref a0), (.int (2 : Int32))])) rfl rfl (hb hby d18_11) _ ?_
    rw [len_of S13 N13]
    show AT p e below s₁ m 12 #[rv a0, rv a1, iv (2 : Int32)] [(.int (5 : Int32)), (.int (2 : Int32))] _
    refine XS.icmpNo X0.here hx rfl (hb hby d18_12) rfl (XT.ii_ge_f ((by decide) : (2 : Int32) < (5 : Int32))) ?_
    refine XS.aloadN X0.here hx rfl (hb hby d18_15) rfl rfl ?_
    refine XS.iloadN X0.here hx rfl (hb hby d18_16) rfl ?_
    refine X0.baloadBytes hx (j := (2 : Int32)) (v := (.int x2)) (by rw [e0]; exact Ar14.1) (State.isArrayOf_alike hZ.alike Ar14.2.1) Ar14.2.2 hin14 hat14 (g := (mkF m 17 #[rv a0, rv a1, iv (2 : Int32)] [(.int (2 : Int32)), (.ref a0)])) rfl rfl (hb hby d18_17) _ ?_
    refine XS.aloadN X0.here hx rfl (hb hby d18_18) rfl rfl ?_
    refine XS.iloadN X0.here hx rfl (hb hby d18_19) rfl ?_
    refine X0.baloadBytes hx (j := (2 : Int32)) (v := (.int y2)) (by rw [e0]; exact Ar15.1) (State.isArrayOf_alike hZ.alike Ar15.2.1) Ar15.2.2 hin15 hat15 (g := (mkF m 20 #[rv a0, rv a1, iv (2 : Int32)] [(.int (2 : Int32)), (.ref a1), (.int x2)])) rfl rfl (hb hby d18_20) _ ?_
    exact kg)
   rcases Decidable.em (x2 = y2) with hc17 | hc17
   ·
    obtain ⟨cl18, Ar18, q18, S18, N18, H18, G18⟩ := id pf0
    obtain ⟨cl19, Ar19, q19, S19, N19, H19, G19⟩ := id pf0
    have hin19 := own_in (3 : Int32) S19 ⟨by decide, by decide⟩
    have hat19 : cl19.slots[((3 : Int32)).toNatClampNeg]? = some (.int x3) := Has.at H19 hin19 rfl
    obtain ⟨cl20, Ar20, q20, S20, N20, H20, G20⟩ := id pf1
    have hin20 := own_in (3 : Int32) S20 ⟨by decide, by decide⟩
    have hat20 : cl20.slots[((3 : Int32)).toNatClampNeg]? = some (.int y3) := Has.at H20 hin20 rfl
    have pre21 : ∀ tg, AT p e below s₁ m 21 #[rv a0, rv a1, iv (3 : Int32)] [(.int y3), (.int x3)] tg → Steps p.tables e below S0 tg := fun tg kg => pre16 tg (by
     refine XS.icmpYes X0.here hx rfl (pc0 := 21) (pc' := 26) rfl (hb hby d18_21) rfl (XT.ii_eq_t hc17) (by decide) (by decide) ?_
     refine XS.iinc X0.here hx rfl (hb hby d18_26) rfl (l' := #[rv a0, rv a1, iv (3 : Int32)]) rfl ?_
     refine XS.goto X0.here hx rfl (pc0 := 29) (pc' := 9) rfl (hb hby d18_29) (by decide) (by decide) ?_
     refine XS.iloadN X0.here hx rfl (hb hby d18_9) rfl ?_
     refine XS.aloadN X0.here hx rfl (hb hby d18_10) rfl rfl ?_
     refine X0.arraylength hx (by rw [e0]; exact Ar18.1) (State.isArrayOf_alike hZ.alike Ar18.2.1) (g := (mkF m 11 #[rv a0, rv a1, iv (3 : Int32)] [(.ref a0), (.int (3 : Int32))])) rfl rfl (hb hby d18_11) _ ?_
     rw [len_of S18 N18]
     show AT p e below s₁ m 12 #[rv a0, rv a1, iv (3 : Int32)] [(.int (5 : Int32)), (.int (3 : Int32))] _
     refine XS.icmpNo X0.here hx rfl (hb hby d18_12) rfl (XT.ii_ge_f ((by decide) : (3 : Int32) < (5 : Int32))) ?_
     refine XS.aloadN X0.here hx rfl (hb hby d18_15) rfl rfl ?_
     refine XS.iloadN X0.here hx rfl (hb hby d18_16) rfl ?_
     refine X0.baloadBytes hx (j := (3 : Int32)) (v := (.int x3)) (by rw [e0]; exact Ar19.1) (State.isArrayOf_alike hZ.alike Ar19.2.1) Ar19.2.2 hin19 hat19 (g := (mkF m 17 #[rv a0, rv a1, iv (3 : Int32)] [(.int (3 : Int32)), (.ref a0)])) rfl rfl (hb hby d18_17) _ ?_
     refine XS.aloadN X0.here hx rfl (hb hby d18_18) rfl rfl ?_
     refine XS.iloadN X0.here hx rfl (hb hby d18_19) rfl ?_
     refine X0.baloadBytes hx (j := (3 : Int32)) (v := (.int y3)) (by rw [e0]; exact Ar20.1) (State.isArrayOf_alike hZ.alike Ar20.2.1) Ar20.2.2 hin20 hat20 (g := (mkF m 20 #[rv a0, rv a1, iv (3 : Int32)] [(.int (3 : Int32)), (.ref a1), (.int x3)])) rfl rfl (hb hby d18_20) _ ?_
     exact kg)
    rcases Decidable.em (x3 = y3) with hc22 | hc22
    ·
     obtain ⟨cl23, Ar23, q23, S23, N23, H23, G23⟩ := id pf0
     obtain ⟨cl24, Ar24, q24, S24, N24, H24, G24⟩ := id pf0
     have hin24 := own_in (4 : Int32) S24 ⟨by decide, by decide⟩
     have hat24 : cl24.slots[((4 : Int32)).toNatClampNeg]? = some (.int x4) := Has.at H24 hin24 rfl
     obtain ⟨cl25, Ar25, q25, S25, N25, H25, G25⟩ := id pf1
     have hin25 := own_in (4 : Int32) S25 ⟨by decide, by decide⟩
     have hat25 : cl25.slots[((4 : Int32)).toNatClampNeg]? = some (.int y4) := Has.at H25 hin25 rfl
     have pre26 : ∀ tg, AT p e below s₁ m 21 #[rv a0, rv a1, iv (4 : Int32)] [(.int y4), (.int x4)] tg → Steps p.tables e below S0 tg := fun tg kg => pre21 tg (by
      refine XS.icmpYes X0.here hx rfl (pc0 := 21) (pc' := 26) rfl (hb hby d18_21) rfl (XT.ii_eq_t hc22) (by decide) (by decide) ?_
      refine XS.iinc X0.here hx rfl (hb hby d18_26) rfl (l' := #[rv a0, rv a1, iv (4 : Int32)]) rfl ?_
      refine XS.goto X0.here hx rfl (pc0 := 29) (pc' := 9) rfl (hb hby d18_29) (by decide) (by decide) ?_
      refine XS.iloadN X0.here hx rfl (hb hby d18_9) rfl ?_
      refine XS.aloadN X0.here hx rfl (hb hby d18_10) rfl rfl ?_
      refine X0.arraylength hx (by rw [e0]; exact Ar23.1) (State.isArrayOf_alike hZ.alike Ar23.2.1) (g := (mkF m 11 #[rv a0, rv a1, iv (4 : Int32)] [(.ref a0), (.int (4 : Int32))])) rfl rfl (hb hby d18_11) _ ?_
      rw [len_of S23 N23]
      show AT p e below s₁ m 12 #[rv a0, rv a1, iv (4 : Int32)] [(.int (5 : Int32)), (.int (4 : Int32))] _
      refine XS.icmpNo X0.here hx rfl (hb hby d18_12) rfl (XT.ii_ge_f ((by decide) : (4 : Int32) < (5 : Int32))) ?_
      refine XS.aloadN X0.here hx rfl (hb hby d18_15) rfl rfl ?_
      refine XS.iloadN X0.here hx rfl (hb hby d18_16) rfl ?_
      refine X0.baloadBytes hx (j := (4 : Int32)) (v := (.int x4)) (by rw [e0]; exact Ar24.1) (State.isArrayOf_alike hZ.alike Ar24.2.1) Ar24.2.2 hin24 hat24 (g := (mkF m 17 #[rv a0, rv a1, iv (4 : Int32)] [(.int (4 : Int32)), (.ref a0)])) rfl rfl (hb hby d18_17) _ ?_
      refine XS.aloadN X0.here hx rfl (hb hby d18_18) rfl rfl ?_
      refine XS.iloadN X0.here hx rfl (hb hby d18_19) rfl ?_
      refine X0.baloadBytes hx (j := (4 : Int32)) (v := (.int y4)) (by rw [e0]; exact Ar25.1) (State.isArrayOf_alike hZ.alike Ar25.2.1) Ar25.2.2 hin25 hat25 (g := (mkF m 20 #[rv a0, rv a1, iv (4 : Int32)] [(.int (4 : Int32)), (.ref a1), (.int x4)])) rfl rfl (hb hby d18_20) _ ?_
      exact kg)
     rcases Decidable.em (x4 = y4) with hc27 | hc27
     ·
      obtain ⟨cl28, Ar28, q28, S28, N28, H28, G28⟩ := id pf0
      obtain ⟨fs, hr, hrun, hended, hW, hsame⟩ := X0.leave (v := some (.int (1 : Int32))) (fun h => by rw [Bd.returns] at h; cases h) hlk
      subst hS0
      refine ⟨_, _, pre26 _ ?_, hrun, hended, _, _, rfl, ?_, ⟨_, rfl⟩, hW, hsame.mono (by decide) (by decide)⟩
      ·
       refine XS.icmpYes X0.here hx rfl (pc0 := 21) (pc' := 26) rfl (hb hby d18_21) rfl (XT.ii_eq_t hc27) (by decide) (by decide) ?_
       refine XS.iinc X0.here hx rfl (hb hby d18_26) rfl (l' := #[rv a0, rv a1, iv (5 : Int32)]) rfl ?_
       show AT p e below s₁ m 29 #[rv a0, rv a1, iv (5 : Int32)] [] _
       refine XS.goto X0.here hx rfl (pc0 := 29) (pc' := 9) rfl (hb hby d18_29) (by decide) (by decide) ?_
       refine XS.iloadN X0.here hx rfl (hb hby d18_9) rfl ?_
       refine XS.aloadN X0.here hx rfl (hb hby d18_10) rfl rfl ?_
       refine X0.arraylength hx (by rw [e0]; exact Ar28.1) (State.isArrayOf_alike hZ.alike Ar28.2.1) (g := (mkF m 11 #[rv a0, rv a1, iv (5 : Int32)] [(.ref a0), (.int (5 : Int32))])) rfl rfl (hb hby d18_11) _ ?_
       rw [len_of S28 N28]
       show AT p e below s₁ m 12 #[rv a0, rv a1, iv (5 : Int32)] [(.int (5 : Int32)), (.int (5 : Int32))] _
       refine XS.icmpYes X0.here hx rfl (pc0 := 12) (pc' := 32) rfl (hb hby d18_12) rfl (XT.ii_ge_t ((by decide) : ¬ ((5 : Int32) < (5 : Int32)))) (by decide) (by decide) ?_
       refine XS.iconst X0.here hx rfl (hb hby d18_32) ?_
       exact retN X0 hx (t := .boolean) Bd.returns (by simp) (hb hby d18_33) hr
      ·
       show Q18_5_5 Z a0 a1 ka kb x0 x1 x2 x3 x4 y0 y1 y2 y3 y4 h0 n0 _ s₁.heap _
       rw [e0]
       exact ⟨(by rw [f18_5_5, if_pos hc7, if_pos hc12, if_pos hc17, if_pos hc22, if_pos hc27]), N0, rfl⟩
     ·
      obtain ⟨fs, hr, hrun, hended, hW, hsame⟩ := X0.leave (v := some (.int (0 : Int32))) (fun h => by rw [Bd.returns] at h; cases h) hlk
      subst hS0
      refine ⟨_, _, pre26 _ ?_, hrun, hended, _, _, rfl, ?_, ⟨_, rfl⟩, hW, hsame.mono (by decide) (by decide)⟩
      ·
       refine XS.icmpNo X0.here hx rfl (hb hby d18_21) rfl (XT.ii_eq_f hc27) ?_
       refine XS.iconst X0.here hx rfl (hb hby d18_24) ?_
       show AT p e below s₁ m 25 #[rv a0, rv a1, iv (4 : Int32)] [(.int (0 : Int32))] _
       exact retN X0 hx (t := .boolean) Bd.returns (by simp) (hb hby d18_25) hr
      ·
       show Q18_5_5 Z a0 a1 ka kb x0 x1 x2 x3 x4 y0 y1 y2 y3 y4 h0 n0 _ s₁.heap _
       rw [e0]
       exact ⟨(by rw [f18_5_5, if_pos hc7, if_pos hc12, if_pos hc17, if_pos hc22, if_neg hc27]), N0, rfl⟩
    ·
     obtain ⟨fs, hr, hrun, hended, hW, hsame⟩ := X0.leave (v := some (.int (0 : Int32))) (fun h => by rw [Bd.returns] at h; cases h) hlk
     subst hS0
     refine ⟨_, _, pre21 _ ?_, hrun, hended, _, _, rfl, ?_, ⟨_, rfl⟩, hW, hsame.mono (by decide) (by decide)⟩
     ·
      refine XS.icmpNo X0.here hx rfl (hb hby d18_21) rfl (XT.ii_eq_f hc22) ?_
      refine XS.iconst X0.here hx rfl (hb hby d18_24) ?_
      exact retN X0 hx (t := .boolean) Bd.returns (by simp) (hb hby d18_25) hr
     ·
      show Q18_5_5 Z a0 a1 ka kb x0 x1 x2 x3 x4 y0 y1 y2 y3 y4 h0 n0 _ s₁.heap _
      rw [e0]
      exact ⟨(by rw [f18_5_5, if_pos hc7, if_pos hc12, if_pos hc17, if_neg hc22]), N0, rfl⟩
   ·
    obtain ⟨fs, hr, hrun, hended, hW, hsame⟩ := X0.leave (v := some (.int (0 : Int32))) (fun h => by rw [Bd.returns] at h; cases h) hlk
    subst hS0
    refine ⟨_, _, pre16 _ ?_, hrun, hended, _, _, rfl, ?_, ⟨_, rfl⟩, hW, hsame.mono (by decide) (by decide)⟩
    ·
     refine XS.icmpNo X0.here hx rfl (hb hby d18_21) rfl (XT.ii_eq_f hc17) ?_
     refine XS.iconst X0.here hx rfl (hb hby d18_24) ?_
     exact retN X0 hx (t := .boolean) Bd.returns (by simp) (hb hby d18_25) hr
    ·
     show Q18_5_5 Z a0 a1 ka kb x0 x1 x2 x3 x4 y0 y1 y2 y3 y4 h0 n0 _ s₁.heap _
     rw [e0]
     exact ⟨(by rw [f18_5_5, if_pos hc7, if_pos hc12, if_neg hc17]), N0, rfl⟩
  ·
   obtain ⟨fs, hr, hrun, hended, hW, hsame⟩ := X0.leave (v := some (.int (0 : Int32))) (fun h => by rw [Bd.returns] at h; cases h) hlk
   subst hS0
   refine ⟨_, _, pre11 _ ?_, hrun, hended, _, _, rfl, ?_, ⟨_, rfl⟩, hW, hsame.mono (by decide) (by decide)⟩
   ·
    refine XS.icmpNo X0.here hx rfl (hb hby d18_21) rfl (XT.ii_eq_f hc12) ?_
    refine XS.iconst X0.here hx rfl (hb hby d18_24) ?_
    exact retN X0 hx (t := .boolean) Bd.returns (by simp) (hb hby d18_25) hr
   ·
    show Q18_5_5 Z a0 a1 ka kb x0 x1 x2 x3 x4 y0 y1 y2 y3 y4 h0 n0 _ s₁.heap _
    rw [e0]
    exact ⟨(by rw [f18_5_5, if_pos hc7, if_neg hc12]), N0, rfl⟩
 ·
  obtain ⟨fs, hr, hrun, hended, hW, hsame⟩ := X0.leave (v := some (.int (0 : Int32))) (fun h => by rw [Bd.returns] at h; cases h) hlk
  subst hS0
  refine ⟨_, _, pre6 _ ?_, hrun, hended, _, _, rfl, ?_, ⟨_, rfl⟩, hW, hsame.mono (by decide) (by decide)⟩
  ·
   refine XS.icmpNo X0.here hx rfl (hb hby d18_21) rfl (XT.ii_eq_f hc7) ?_
   refine XS.iconst X0.here hx rfl (hb hby d18_24) ?_
   exact retN X0 hx (t := .boolean) Bd.returns (by simp) (hb hby d18_25) hr
  ·
   show Q18_5_5 Z a0 a1 ka kb x0 x1 x2 x3 x4 y0 y1 y2 y3 y4 h0 n0 _ s₁.heap _
   rw [e0]
   exact ⟨(by rw [f18_5_5, if_neg hc7]), N0, rfl⟩

theorem d17_50 : decode jdk_42_method_66_code 50 = .ok (.iconst 1, 1) := by decide +kernel
theorem d17_51 : decode jdk_42_method_66_code 51 = .ok (.goto 4, 3) := by decide +kernel
theorem ef_17_5_5 (m : MethodId) (a0 : Addr) (a1 : Addr) : entryFrame m #[(.ref a0), (.ref a1)] 3 = mkF m 0 #[rv a0, rv a1, un] [] := by first | (simp [entryFrame, mkF, argsToLocals, Value.category]; done) | rfl
def f17_5_5 (x0 : Int32) (x1 : Int32) (x2 : Int32) (x3 : Int32) (x4 : Int32) (y0 : Int32) (y1 : Int32) (y2 : Int32) (y3 : Int32) (y4 : Int32) : Int32 := if (f18_5_5 x0 x1 x2 x3 x4 y0 y1 y2 y3 y4) = (0 : Int32) then (0 : Int32) else (1 : Int32)
def Q17_5_5 (Z : State) (a0 : Addr) (a1 : Addr) (u : Addr) (w : Addr) (ka : ClassId) (kb : ClassId) (x0 : Int32) (x1 : Int32) (x2 : Int32) (x3 : Int32) (x4 : Int32) (y0 : Int32) (y1 : Int32) (y2 : Int32) (y3 : Int32) (y4 : Int32) (h0 : Heap) (n0 : Nat) (v : Option Value) (h : Heap) (L : List Loc) : Prop := v = some (.int (f17_5_5 x0 x1 x2 x3 x4 y0 y1 y2 y3 y4)) ∧ Fr n0 L ∧ h = h0
abbrev R17_5_5 : Room := ({ frames := 1, cells := 0, slots := 0, locals := 14 } : Room)
set_option maxRecDepth 65536 in
set_option maxHeartbeats 40000000 in
theorem rm17_5_5 (l : Launch) (Z : State) (ar : Array Value) (hw : ∀ d ∈ tables_1, d.before ar Z = true) (ws : List Jvm.Cond) (a0 : Addr) (a1 : Addr) (u : Addr) (w : Addr) (ka : ClassId) (kb : ClassId) (x0 : Int32) (x1 : Int32) (x2 : Int32) (x3 : Int32) (x4 : Int32) (y0 : Int32) (y1 : Int32) (y2 : Int32) (y3 : Int32) (y4 : Int32) (h0 : Heap) (n0 : Nat) (O0 : Old Z n0 h0) (HW : Wd Z w_z0 w_z1 w_z2 w_z3 w_z4 w_z5 w_z6 w_z7 w_z8 w_z9 w_z10 w_z11 k_z3 k_z7 k_z9 k_z11) (pf0 : Exa Z h0 a0 "java/lang/String") (pf1 : Exa Z h0 a1 "java/lang/String") (pf2 : Fld Z h0 a0 "java/lang/String" "coder" "B" (.int (0 : Int32))) (pf3 : Fld Z h0 a1 "java/lang/String" "coder" "B" (.int (0 : Int32))) (pf4 : Fld Z h0 a0 "java/lang/String" "value" "[B" (.ref u)) (pf5 : Fld Z h0 a1 "java/lang/String" "value" "[B" (.ref w)) (pf6 : Arv Z h0 u ka .byte (5 : Int32) [(.int x0), (.int x1), (.int x2), (.int x3), (.int x4)] (.int (0 : Int32))) (pf7 : Arv Z h0 w kb .byte (5 : Int32) [(.int y0), (.int y1), (.int y2), (.int y3), (.int y4)] (.int (0 : Int32))) (pf8 : a0 ≠ a1) :
    MetFree l y17 (head1 (Jvm.Cond.code y17 jdk_42_method_66_code 3 (some .boolean) :: ws) R17_5_5) (fun a U => a = #[(.ref a0), (.ref a1)] ∧ Z.Warmed39 U.vm ∧ U.heap = h0) (fun _ _ _ _ _ => True) (fun _ U o U' => ∃ v L, o = .returned v ∧ Q17_5_5 Z a0 a1 u w ka kb x0 x1 x2 x3 x4 y0 y1 y2 y3 y4 h0 n0 v U'.heap L ∧ FrameEnd U o U' L R17_5_5.cells R17_5_5.slots) := by
 refine MetFree.of_bodySF (plainFor_of_name pn_0) hisR ?_
 intro p e s m args below meth c s₁ Bd hml0 hP hK
 obtain ⟨rfl, hZ, hh⟩ := hP
 have hx := Bd.exec
 have hby := Bd.bytes
 have hml : c.maxLocals = 3 := hml0
 have hown : s.vm.findClass "java/lang/String" = some m.cls := findClass_of_methodNamed Bd.named
 have hnm := (name_of_methodNamed Bd.named Bd.method).1
 have hlk : meth.locks = false := by first | assumption | exact BodyLoose.notSynchronized (by assumption) | exact Body.notSynchronized (by assumption)
 have X0 : Stand p l e R17_5_5 s m #[(.ref a0), (.ref a1)] below meth c s₁ [] 0 0 := Stand.of_body Bd
 have e0 : s₁.heap = h0 := by rw [← hh, Bd.state]; rfl
 have N0 := Fr.nil n0
 have Z0 : n0 ≤ h0.size := Nat.le_trans (Nat.le_of_eq O0.1.symm) O0.2.1
 obtain ⟨S0, hS0⟩ : ∃ z, z = s₁.setTop (entryFrame m #[(.ref a0), (.ref a1)] 3) := ⟨_, rfl⟩
 have pre0 : ∀ tg, AT p e below s₁ m 0 #[rv a0, rv a1, un] [] tg → Steps p.tables e below S0 tg := fun tg kg => by rw [hS0]; exact castTop (ef_17_5_5 m a0 a1) kg
 obtain ⟨S_q0, hz_w_z0, -, -, -, -, -, -, -, -, -, -, -, -, -, -, -, -, -, -, -, -, -, -, -, -, -, -⟩ := id HW
 obtain ⟨T1, X1, e1, st1⟩ := instY X0 hx hZ hown (ow hw 81 rfl) e0 (Ins.self pf1) (g := (mkF m 8 #[rv a0, rv a1, un] [(.ref a1)])) rfl rfl (hb hby d17_8)
 obtain ⟨T2, X2, e2, st2⟩ := castY X1 hx hZ hown (ow hw 81 rfl) e1 (Ins.self pf1) (g := (mkF m 15 #[rv a0, rv a1, un] [(.ref a1)])) rfl rfl (hb hby d17_15)
 obtain ⟨T3, X3, e3, st3⟩ := getS2 X2 hx hZ hown (host := "") (Or.inl (ow hw 24 rfl)) Via.refl e2 (S_q0.ext O0.2) (g := (mkF m 19 #[rv a0, rv a1, rv a1] [])) rfl (hb hby d17_19)
 obtain ⟨T4, X4, e4, st4⟩ := getF X3 hx hZ hown (host := "") (Or.inl (ow hw 25 rfl)) Via.refl e3 pf2 (g := (mkF m 26 #[rv a0, rv a1, rv a1] [(.ref a0)])) rfl rfl (hb hby d17_26)
 obtain ⟨T5, X5, e5, st5⟩ := getF X4 hx hZ hown (host := "") (Or.inl (ow hw 25 rfl)) Via.refl e4 pf3 (g := (mkF m 30 #[rv a0, rv a1, rv a1] [(.ref a1), (.int (0 : Int32))])) rfl rfl (hb hby d17_30)
 obtain ⟨T6, X6, e6, st6⟩ := getF X5 hx hZ hown (host := "") (Or.inl (ow hw 18 rfl)) Via.refl e5 pf4 (g := (mkF m 37 #[rv a0, rv a1, rv a1] [(.ref a0)])) rfl rfl (hb hby d17_37)
 obtain ⟨T7, X7, e7, st7⟩ := getF X6 hx hZ hown (host := "") (Or.inl (ow hw 18 rfl)) Via.refl e6 pf5 (g := (mkF m 41 #[rv a0, rv a1, rv a1] [(.ref a1), (.ref u)])) rfl rfl (hb hby d17_41)
 obtain ⟨_, _, ⟨T8, L8, k8, n8⟩, -, X8, ⟨Lc8, hQ8, l8, y8, z8⟩, st8⟩ := Jvm.LawKit.callS X7 hx (y := y18) hown (mvT hZ (ow hw 82 rfl)) (mvT hZ (ow hw 83 rfl)) (mvT hZ (ow hw 46 rfl)) (mvT hZ (ow hw 84 rfl)) (by decide) (backOf (W := 0) (rm18_5_5 l Z ar hw [] u w _ _ _ _ _ _ _ _ _ _ _ _ h0 n0 O0 pf6 pf7) hZ (ow hw 84 rfl) (ow hw 46 rfl) (by decide) (by decide)) (g := (mkF m 44 #[rv a0, rv a1, rv a1] [(.ref w), (.ref u)])) rfl (by rw [hml]; rfl) (argsL := [(.ref u), (.ref w)]) (rest := []) (lenOf pd_11 rfl) rfl (by show 2 * 0 + _ ≤ _; exact Nat.le_of_eq rfl) (hb hby d17_44) (fun _ _ => ⟨rfl, e7, (by decide : 0 + 0 ≤ _), (by decide : 0 + 0 ≤ _)⟩)
 dsimp only [Pt.U, Pt.locs, Pt.cells, Pt.slots] at X8 l8 y8 z8 st8 hQ8
 subst l8 y8 z8
 obtain ⟨rfl, N8q, e8⟩ := hQ8
 have N8 := Fr.app N0 N8q
 have pre9 : ∀ tg, AT p e below T8 m 47 #[rv a0, rv a1, rv a1] [(.int (f18_5_5 x0 x1 x2 x3 x4 y0 y1 y2 y3 y4))] tg → Steps p.tables e below S0 tg := fun tg kg => pre0 tg (by
  refine XS.aloadN X0.here hx rfl (hb hby d17_0) rfl rfl ?_
  refine XS.aloadN X0.here hx rfl (hb hby d17_1) rfl rfl ?_
  show AT p e below s₁ m 2 #[rv a0, rv a1, un] [(.ref a1), (.ref a0)] _
  refine Jvm.RoadKit.acmp (g := (mkF m 2 #[rv a0, rv a1, un] [(.ref a1), (.ref a0)])) X0 hx rfl rfl rfl (pc0 := 2) (pc' := 7) (same := false) rfl (hb hby d17_2) rfl (decide_eq_false fun q => (pf8 : ¬ (a0 = a1)) (Value.ref.inj q)) (by decide) (by decide) ?_
  refine XS.aloadN X0.here hx rfl (hb hby d17_7) rfl rfl ?_
  refine st1 _ ?_
  show AT p e below T1 m 11 #[rv a0, rv a1, un] [(.int (1 : Int32))] _
  refine XS.ifNo X1.here hx rfl (hb hby d17_11) rfl (XT.i0_eq_f ((by decide) : ¬ ((1 : Int32) = (0 : Int32)))) ?_
  refine XS.aloadN X1.here hx rfl (hb hby d17_14) rfl rfl ?_
  refine st2 _ ?_
  refine XS.astoreN X2.here hx rfl (hb hby d17_18) rfl rfl (l' := #[rv a0, rv a1, rv a1]) rfl ?_
  refine st3 _ ?_
  show AT p e below T3 m 22 #[rv a0, rv a1, rv a1] [(.int w_z0)] _
  refine XS.ifNo X3.here hx rfl (hb hby d17_22) rfl (XT.i0_eq_f (hz_w_z0 : ¬ (w_z0 = (0 : Int32)))) ?_
  refine XS.aloadN X3.here hx rfl (hb hby d17_25) rfl rfl ?_
  refine st4 _ ?_
  refine XS.aloadN X4.here hx rfl (hb hby d17_29) rfl rfl ?_
  refine st5 _ ?_
  show AT p e below T5 m 33 #[rv a0, rv a1, rv a1] [(.int (0 : Int32)), (.int (0 : Int32))] _
  refine XS.icmpNo X5.here hx rfl (hb hby d17_33) rfl (XT.ii_ne_f ((by decide) : (0 : Int32) = (0 : Int32))) ?_
  refine XS.aloadN X5.here hx rfl (hb hby d17_36) rfl rfl ?_
  refine st6 _ ?_
  refine XS.aloadN X6.here hx rfl (hb hby d17_40) rfl rfl ?_
  refine st7 _ ?_
  refine st8 _ ?_
  exact kg)
 rcases Decidable.em ((f18_5_5 x0 x1 x2 x3 x4 y0 y1 y2 y3 y4) = (0 : Int32)) with hc10 | hc10
 ·
  obtain ⟨fs, hr, hrun, hended, hW, hsame⟩ := X8.leave (v := some (.int (0 : Int32))) (fun h => by rw [Bd.returns] at h; cases h) hlk
  subst hS0
  refine ⟨_, _, pre9 _ ?_, hrun, hended, _, _, rfl, ?_, ⟨_, rfl⟩, hW, hsame.mono (by decide) (by decide)⟩
  ·
   refine XS.ifYes X8.here hx rfl (pc0 := 47) (pc' := 54) rfl (hb hby d17_47) rfl (XT.i0_eq_t hc10) (by decide) (by decide) ?_
   refine XS.iconst X8.here hx rfl (hb hby d17_54) ?_
   exact retN X8 hx (t := .boolean) Bd.returns (by simp) (hb hby d17_55) hr
  ·
   show Q17_5_5 Z a0 a1 u w ka kb x0 x1 x2 x3 x4 y0 y1 y2 y3 y4 h0 n0 _ T8.heap _
   rw [e8]
   exact ⟨(by rw [f17_5_5, if_pos hc10]), N8, rfl⟩
 ·
  obtain ⟨fs, hr, hrun, hended, hW, hsame⟩ := X8.leave (v := some (.int (1 : Int32))) (fun h => by rw [Bd.returns] at h; cases h) hlk
  subst hS0
  refine ⟨_, _, pre9 _ ?_, hrun, hended, _, _, rfl, ?_, ⟨_, rfl⟩, hW, hsame.mono (by decide) (by decide)⟩
  ·
   refine XS.ifNo X8.here hx rfl (hb hby d17_47) rfl (XT.i0_eq_f hc10) ?_
   refine XS.iconst X8.here hx rfl (hb hby d17_50) ?_
   refine XS.goto X8.here hx rfl (pc0 := 51) (pc' := 55) rfl (hb hby d17_51) (by decide) (by decide) ?_
   exact retN X8 hx (t := .boolean) Bd.returns (by simp) (hb hby d17_55) hr
  ·
   show Q17_5_5 Z a0 a1 u w ka kb x0 x1 x2 x3 x4 y0 y1 y2 y3 y4 h0 n0 _ T8.heap _
   rw [e8]
   exact ⟨(by rw [f17_5_5, if_neg hc10]), N8, rfl⟩

theorem d19_36 : decode prog_10_method_6_code 36 = .ok (.aload 5, 2) := by decide +kernel
theorem d19_38 : decode prog_10_method_6_code 38 = .ok (.astore_n 1, 1) := by decide +kernel
theorem ef_19_5 (m : MethodId) (a0 : Addr) : entryFrame m #[(.ref a0)] 6 = mkF m 0 #[rv a0, un, un, un, un, un] [] := by first | (simp [entryFrame, mkF, argsToLocals, Value.category]; done) | rfl
def f19_5 (w_z4 : Addr) (y0 : Int32) (y1 : Int32) (y2 : Int32) (y3 : Int32) (y4 : Int32) : Value := if (f17_5_5 (113 : Int32) (117 : Int32) (105 : Int32) (101 : Int32) (116 : Int32) y0 y1 y2 y3 y4) = (0 : Int32) then .null else (.ref w_z4)
def Q19_5 (Z : State) (a0 : Addr) (w_z4 : Addr) (u : Addr) (ku : ClassId) (y0 : Int32) (y1 : Int32) (y2 : Int32) (y3 : Int32) (y4 : Int32) (h0 : Heap) (n0 : Nat) (v : Option Value) (h : Heap) (L : List Loc) : Prop := v = some (f19_5 w_z4 y0 y1 y2 y3 y4) ∧ Fr n0 L ∧ Keep h0 h []
abbrev R19_5 : Room := ({ frames := 2, cells := 1, slots := 3, locals := 28 } : Room)
set_option maxRecDepth 65536 in
set_option maxHeartbeats 40000000 in
theorem rm19_5 (l : Launch) (Z : State) (ar : Array Value) (hw : ∀ d ∈ tables_1, d.before ar Z = true) (ws : List Jvm.Cond) (a0 : Addr) (u : Addr) (ku : ClassId) (y0 : Int32) (y1 : Int32) (y2 : Int32) (y3 : Int32) (y4 : Int32) (h0 : Heap) (n0 : Nat) (O0 : Old Z n0 h0) (HW : Wd Z w_z0 w_z1 w_z2 w_z3 w_z4 w_z5 w_z6 w_z7 w_z8 w_z9 w_z10 w_z11 k_z3 k_z7 k_z9 k_z11) (pf0 : Exa Z h0 a0 "java/lang/String") (pf1 : Fld Z h0 a0 "java/lang/String" "coder" "B" (.int (0 : Int32))) (pf2 : Fld Z h0 a0 "java/lang/String" "value" "[B" (.ref u)) (pf3 : Arv Z h0 u ku .byte (5 : Int32) [(.int y0), (.int y1), (.int y2), (.int y3), (.int y4)] (.int (0 : Int32))) (pf4 : n0 ≤ a0) :
    MetFree l y19 (head1 (Jvm.Cond.code y19 prog_10_method_6_code 6 (some (.object "com/example/lease/lease/WorkerState")) :: ws) R19_5) (fun a U => a = #[(.ref a0)] ∧ Z.Warmed39 U.vm ∧ U.heap = h0) (fun _ _ _ _ _ => True) (fun _ U o U' => ∃ v L, o = .returned v ∧ Q19_5 Z a0 w_z4 u ku y0 y1 y2 y3 y4 h0 n0 v U'.heap L ∧ FrameEnd U o U' L R19_5.cells R19_5.slots) := by
 refine MetFree.of_bodySF (plainFor_of_name pn_4) hisR ?_
 intro p e s m args below meth c s₁ Bd hml0 hP hK
 obtain ⟨rfl, hZ, hh⟩ := hP
 have hx := Bd.exec
 have hby := Bd.bytes
 have hml : c.maxLocals = 6 := hml0
 have hown : s.vm.findClass "com/example/lease/lease/WorkerState" = some m.cls := findClass_of_methodNamed Bd.named
 have hnm := (name_of_methodNamed Bd.named Bd.method).1
 have hlk : meth.locks = false := by first | assumption | exact BodyLoose.notSynchronized (by assumption) | exact Body.notSynchronized (by assumption)
 have X0 : Stand p l e R19_5 s m #[(.ref a0)] below meth c s₁ [] 0 0 := Stand.of_body Bd
 have e0 : s₁.heap = h0 := by rw [← hh, Bd.state]; rfl
 have N0 := Fr.nil n0
 have Z0 : n0 ≤ h0.size := Nat.le_trans (Nat.le_of_eq O0.1.symm) O0.2.1
 obtain ⟨S0, hS0⟩ : ∃ z, z = s₁.setTop (entryFrame m #[(.ref a0)] 6) := ⟨_, rfl⟩
 have pre0 : ∀ tg, AT p e below s₁ m 0 #[rv a0, un, un, un, un, un] [] tg → Steps p.tables e below S0 tg := fun tg kg => by rw [hS0]; exact castTop (ef_19_5 m a0) kg
 obtain ⟨-, -, -, -, -, -, -, -, -, -, -, -, F_shown_z2, E_z6, F_coder_z6, F_value_z6, F_shown_z4, E_z8, F_coder_z8, F_value_z8, F_shown_z5, E_z10, F_coder_z10, F_value_z10, -, V_z7, V_z9, V_z11⟩ := id HW
 obtain ⟨_, _, ⟨T1, L1, k1, n1⟩, -, X1, ⟨Lc1, hQ1, l1, y1, z1⟩, st1⟩ := Jvm.LawKit.callS X0 hx (y := y20) hown (mvT hZ (ow hw 91 rfl)) (mvT hZ (ow hw 92 rfl)) (mvT hZ (ow hw 86 rfl)) (mvT hZ (ow hw 93 rfl)) (by decide) (backOf (W := 0) (rm20 l Z ar hw []  h0 n0 O0 HW) hZ (ow hw 93 rfl) (ow hw 86 rfl) (by decide) (by decide)) (g := (mkF m 2 #[rv a0, .val .null, un, un, un, un] [])) rfl (by rw [hml]; rfl) (argsL := []) (rest := []) (lenOf pd_12 rfl) rfl (by show 2 * 0 + _ ≤ _; exact Nat.le_of_eq rfl) (hb hby d19_2) (fun _ _ => ⟨rfl, e0, (by decide : 0 + 1 ≤ _), (by decide : 0 + 3 ≤ _)⟩)
 dsimp only [Pt.U, Pt.locs, Pt.cells, Pt.slots] at X1 l1 y1 z1 st1 hQ1
 subst l1 y1 z1
 obtain ⟨b_1, kb_1, rfl, N1q, Kq1, u1_0, u1_1, u1_2⟩ := hQ1
 have N1 := Fr.app N0 N1q
 have E1_2 := pf0.keep Kq1
 have F1_3 := pf1.keep Kq1 nin0
 have F1_4 := pf2.keep Kq1 nin0
 have V1_5 := pf3.keep Kq1 nin0
 have K1 := (Keep.refl h0 []).trans Kq1 all0
 have O1 := O0.keep Kq1 all0
 have sz6 : h0.size ≤ b_1 := Nat.le_trans (Keep.refl h0 []).1 u1_1
 have gn6 : n0 ≤ b_1 := Nat.le_trans (Nat.le_trans (Nat.le_of_eq O0.1.symm) O0.2.1) u1_1
 have ne7 : a0 ≠ b_1 := Nat.ne_of_lt (Nat.lt_of_lt_of_le (pf0).lt u1_1)
 have ne8 : u ≠ b_1 := Nat.ne_of_lt (Nat.lt_of_lt_of_le (pf3).lt u1_1)
 obtain ⟨cl9, Ar9, q9, S9, N9, H9, G9⟩ := id u1_0
 obtain ⟨cl10, Ar10, q10, S10, N10, H10, G10⟩ := id u1_0
 have hin10 := own_in (0 : Int32) S10 ⟨by decide, by decide⟩
 have hat10 : cl10.slots[((0 : Int32)).toNatClampNeg]? = some (.ref w_z2) := Has.at H10 hin10 rfl
 obtain ⟨T11, X11, e11, st11⟩ := getF X1 hx hZ hown (host := "") (Or.inl (ow hw 108 rfl)) Via.refl rfl (F_shown_z2.ext O1.2) (g := (mkF m 26 #[rv a0, .val .null, rv b_1, iv (3 : Int32), iv (0 : Int32), rv w_z2] [(.ref w_z2)])) rfl rfl (hb hby d19_26)
 obtain ⟨cq12, kq12, q12a, q12b, q12c⟩ := isOf hZ e11 (E_z6.ext O1.2)
 obtain ⟨_, _, ⟨T12, L12, k12, n12⟩, -, X12, ⟨Lc12, hQ12, l12, y12, z12⟩, st12⟩ := X11.virtualBack hx (y := y17) (z := y17) hown (mvT hZ (ow hw 110 rfl)) (mvT hZ (ow hw 77 rfl)) (notFace_of_selects (args := #[]) (mvT hZ (ow hw 79 rfl))) (mvT hZ (ow hw 79 rfl)) (mvT hZ (ow hw 78 rfl)) (by decide) (backOf (W := 0) (rm17_z l Z ar hw [] w_z6 a0 _ _ _ _ _ _ _ _ T1.heap n0 O1 HW (E_z6.ext O1.2) E1_2 (F_coder_z6.ext O1.2) F1_3 (F_value_z6.ext O1.2) F1_4 (V_z7.ext O1.2) V1_5 (Old.ne O1 E_z6.lt pf4) (by decide)) hZ (ow hw 80 rfl) (ow hw 6 rfl) (by decide) (by decide)) q12a q12c (g := (mkF m 30 #[rv a0, .val .null, rv b_1, iv (3 : Int32), iv (0 : Int32), rv w_z2] [(.ref a0), (.ref w_z6)])) rfl (by rw [hml]; rfl) (Steps.refl _) (argsL := [(.ref a0)]) (rest := []) (lenOf pd_13 rfl) rfl (by show 2 * 0 + _ ≤ _; exact Nat.le_of_eq rfl) (hb hby d19_30) (fun _ _ => ⟨rfl, e11, (by decide : 1 + 0 ≤ _), (by decide : 3 + 0 ≤ _)⟩)
 dsimp only [Pt.U, Pt.locs, Pt.cells, Pt.slots] at X12 l12 y12 z12 st12 hQ12
 subst l12 y12 z12
 obtain ⟨rfl, N12q, e12⟩ := hQ12
 have N12 := Fr.app N1 N12q
 obtain ⟨cl13, Ar13, q13, S13, N13, H13, G13⟩ := id u1_0
 have hin13 := own_in (1 : Int32) S13 ⟨by decide, by decide⟩
 have hat13 : cl13.slots[((1 : Int32)).toNatClampNeg]? = some (.ref w_z4) := Has.at H13 hin13 rfl
 obtain ⟨T14, X14, e14, st14⟩ := getF X12 hx hZ hown (host := "") (Or.inl (ow hw 108 rfl)) Via.refl e12 (F_shown_z4.ext O1.2) (g := (mkF m 26 #[rv a0, .val .null, rv b_1, iv (3 : Int32), iv (1 : Int32), rv w_z4] [(.ref w_z4)])) rfl rfl (hb hby d19_26)
 obtain ⟨cq15, kq15, q15a, q15b, q15c⟩ := isOf hZ e14 (E_z8.ext O1.2)
 obtain ⟨_, _, ⟨T15, L15, k15, n15⟩, -, X15, ⟨Lc15, hQ15, l15, y15, z15⟩, st15⟩ := X14.virtualBack hx (y := y17) (z := y17) hown (mvT hZ (ow hw 110 rfl)) (mvT hZ (ow hw 77 rfl)) (notFace_of_selects (args := #[]) (mvT hZ (ow hw 79 rfl))) (mvT hZ (ow hw 79 rfl)) (mvT hZ (ow hw 78 rfl)) (by decide) (backOf (W := 0) (rm17_5_5 l Z ar hw [] w_z8 a0 _ _ _ _ _ _ _ _ _ _ _ _ _ _ T1.heap n0 O1 HW (E_z8.ext O1.2) E1_2 (F_coder_z8.ext O1.2) F1_3 (F_value_z8.ext O1.2) F1_4 (V_z9.ext O1.2) V1_5 (Old.ne O1 E_z8.lt pf4)) hZ (ow hw 80 rfl) (ow hw 6 rfl) (by decide) (by decide)) q15a q15c (g := (mkF m 30 #[rv a0, .val .null, rv b_1, iv (3 : Int32), iv (1 : Int32), rv w_z4] [(.ref a0), (.ref w_z8)])) rfl (by rw [hml]; rfl) (Steps.refl _) (argsL := [(.ref a0)]) (rest := []) (lenOf pd_13 rfl) rfl (by show 2 * 0 + _ ≤ _; exact Nat.le_of_eq rfl) (hb hby d19_30) (fun _ _ => ⟨rfl, e14, (by decide : 1 + 0 ≤ _), (by decide : 3 + 0 ≤ _)⟩)
 dsimp only [Pt.U, Pt.locs, Pt.cells, Pt.slots] at X15 l15 y15 z15 st15 hQ15
 subst l15 y15 z15
 obtain ⟨rfl, N15q, e15⟩ := hQ15
 have N15 := Fr.app N12 N15q
 have pre16 : ∀ tg, AT p e below T15 m 33 #[rv a0, .val .null, rv b_1, iv (3 : Int32), iv (1 : Int32), rv w_z4] [(.int (f17_5_5 (113 : Int32) (117 : Int32) (105 : Int32) (101 : Int32) (116 : Int32) y0 y1 y2 y3 y4))] tg → Steps p.tables e below S0 tg := fun tg kg => pre0 tg (by
  refine XS.aconstNull X0.here hx rfl (hb hby d19_0) ?_
  refine XS.astoreN X0.here hx rfl (hb hby d19_1) rfl rfl (l' := #[rv a0, .val .null, un, un, un, un]) rfl ?_
  refine st1 _ ?_
  refine XS.astoreN X1.here hx rfl (hb hby d19_5) rfl rfl (l' := #[rv a0, .val .null, rv b_1, un, un, un]) rfl ?_
  refine XS.aloadN X1.here hx rfl (hb hby d19_6) rfl rfl ?_
  refine X1.arraylength hx Ar9.1 (State.isArrayOf_alike hZ.alike Ar9.2.1) (g := (mkF m 7 #[rv a0, .val .null, rv b_1, un, un, un] [(.ref b_1)])) rfl rfl (hb hby d19_7) _ ?_
  rw [len_of S9 N9]
  refine XS.istoreN X1.here hx rfl (hb hby d19_8) rfl (l' := #[rv a0, .val .null, rv b_1, iv (3 : Int32), un, un]) rfl ?_
  refine XS.iconst X1.here hx rfl (hb hby d19_9) ?_
  refine XS.istore X1.here hx rfl (hb hby d19_10) rfl (l' := #[rv a0, .val .null, rv b_1, iv (3 : Int32), iv (0 : Int32), un]) rfl ?_
  refine XS.iload X1.here hx rfl (hb hby d19_12) rfl ?_
  refine XS.iloadN X1.here hx rfl (hb hby d19_14) rfl ?_
  show AT p e below T1 m 15 #[rv a0, .val .null, rv b_1, iv (3 : Int32), iv (0 : Int32), un] [(.int (3 : Int32)), (.int (0 : Int32))] _
  refine XS.icmpNo X1.here hx rfl (hb hby d19_15) rfl (XT.ii_ge_f ((by decide) : (0 : Int32) < (3 : Int32))) ?_
  refine XS.aloadN X1.here hx rfl (hb hby d19_18) rfl rfl ?_
  refine XS.iload X1.here hx rfl (hb hby d19_19) rfl ?_
  refine X1.aaload hx (j := (0 : Int32)) (v := (.ref w_z2)) Ar10.1 (State.isArrayOf_alike hZ.alike Ar10.2.1) rfl Ar10.2.2 hin10 hat10 (g := (mkF m 21 #[rv a0, .val .null, rv b_1, iv (3 : Int32), iv (0 : Int32), un] [(.int (0 : Int32)), (.ref b_1)])) rfl rfl (hb hby d19_21) _ ?_
  refine XS.astore X1.here hx rfl (hb hby d19_22) rfl rfl (l' := #[rv a0, .val .null, rv b_1, iv (3 : Int32), iv (0 : Int32), rv w_z2]) rfl ?_
  refine XS.aload X1.here hx rfl (hb hby d19_24) rfl rfl ?_
  refine st11 _ ?_
  refine XS.aloadN X11.here hx rfl (hb hby d19_29) rfl rfl ?_
  refine st12.trans ?_
  show AT p e below T12 m 33 #[rv a0, .val .null, rv b_1, iv (3 : Int32), iv (0 : Int32), rv w_z2] [(.int (0 : Int32))] _
  refine XS.ifYes X12.here hx rfl (pc0 := 33) (pc' := 39) rfl (hb hby d19_33) rfl (XT.i0_eq_t ((by decide) : (0 : Int32) = (0 : Int32))) (by decide) (by decide) ?_
  refine XS.iinc X12.here hx rfl (hb hby d19_39) rfl (l' := #[rv a0, .val .null, rv b_1, iv (3 : Int32), iv (1 : Int32), rv w_z2]) rfl ?_
  refine XS.goto X12.here hx rfl (pc0 := 42) (pc' := 12) rfl (hb hby d19_42) (by decide) (by decide) ?_
  refine XS.iload X12.here hx rfl (hb hby d19_12) rfl ?_
  refine XS.iloadN X12.here hx rfl (hb hby d19_14) rfl ?_
  show AT p e below T12 m 15 #[rv a0, .val .null, rv b_1, iv (3 : Int32), iv (1 : Int32), rv w_z2] [(.int (3 : Int32)), (.int (1 : Int32))] _
  refine XS.icmpNo X12.here hx rfl (hb hby d19_15) rfl (XT.ii_ge_f ((by decide) : (1 : Int32) < (3 : Int32))) ?_
  refine XS.aloadN X12.here hx rfl (hb hby d19_18) rfl rfl ?_
  refine XS.iload X12.here hx rfl (hb hby d19_19) rfl ?_
  refine X12.aaload hx (j := (1 : Int32)) (v := (.ref w_z4)) (by rw [e12]; exact Ar13.1) (State.isArrayOf_alike hZ.alike Ar13.2.1) rfl Ar13.2.2 hin13 hat13 (g := (mkF m 21 #[rv a0, .val .null, rv b_1, iv (3 : Int32), iv (1 : Int32), rv w_z2] [(.int (1 : Int32)), (.ref b_1)])) rfl rfl (hb hby d19_21) _ ?_
  refine XS.astore X12.here hx rfl (hb hby d19_22) rfl rfl (l' := #[rv a0, .val .null, rv b_1, iv (3 : Int32), iv (1 : Int32), rv w_z4]) rfl ?_
  refine XS.aload X12.here hx rfl (hb hby d19_24) rfl rfl ?_
  refine st14 _ ?_
  refine XS.aloadN X14.here hx rfl (hb hby d19_29) rfl rfl ?_
  show AT p e below T14 m 30 #[rv a0, .val .null, rv b_1, iv (3 : Int32), iv (1 : Int32), rv w_z4] [(.ref a0), (.ref w_z8)] _
  refine st15.trans ?_
  exact kg)
 rcases Decidable.em ((f17_5_5 (113 : Int32) (117 : Int32) (105 : Int32) (101 : Int32) (116 : Int32) y0 y1 y2 y3 y4) = (0 : Int32)) with hc17 | hc17
 ·
  obtain ⟨cl18, Ar18, q18, S18, N18, H18, G18⟩ := id u1_0
  have hin18 := own_in (2 : Int32) S18 ⟨by decide, by decide⟩
  have hat18 : cl18.slots[((2 : Int32)).toNatClampNeg]? = some (.ref w_z5) := Has.at H18 hin18 rfl
  obtain ⟨T19, X19, e19, st19⟩ := getF X15 hx hZ hown (host := "") (Or.inl (ow hw 108 rfl)) Via.refl e15 (F_shown_z5.ext O1.2) (g := (mkF m 26 #[rv a0, .val .null, rv b_1, iv (3 : Int32), iv (2 : Int32), rv w_z5] [(.ref w_z5)])) rfl rfl (hb hby d19_26)
  obtain ⟨cq20, kq20, q20a, q20b, q20c⟩ := isOf hZ e19 (E_z10.ext O1.2)
  obtain ⟨_, _, ⟨T20, L20, k20, n20⟩, -, X20, ⟨Lc20, hQ20, l20, y20, z20⟩, st20⟩ := X19.virtualBack hx (y := y17) (z := y17) hown (mvT hZ (ow hw 110 rfl)) (mvT hZ (ow hw 77 rfl)) (notFace_of_selects (args := #[]) (mvT hZ (ow hw 79 rfl))) (mvT hZ (ow hw 79 rfl)) (mvT hZ (ow hw 78 rfl)) (by decide) (backOf (W := 0) (rm17_z l Z ar hw [] w_z10 a0 _ _ _ _ _ _ _ _ T1.heap n0 O1 HW (E_z10.ext O1.2) E1_2 (F_coder_z10.ext O1.2) F1_3 (F_value_z10.ext O1.2) F1_4 (V_z11.ext O1.2) V1_5 (Old.ne O1 E_z10.lt pf4) (by decide)) hZ (ow hw 80 rfl) (ow hw 6 rfl) (by decide) (by decide)) q20a q20c (g := (mkF m 30 #[rv a0, .val .null, rv b_1, iv (3 : Int32), iv (2 : Int32), rv w_z5] [(.ref a0), (.ref w_z10)])) rfl (by rw [hml]; rfl) (Steps.refl _) (argsL := [(.ref a0)]) (rest := []) (lenOf pd_13 rfl) rfl (by show 2 * 0 + _ ≤ _; exact Nat.le_of_eq rfl) (hb hby d19_30) (fun _ _ => ⟨rfl, e19, (by decide : 1 + 0 ≤ _), (by decide : 3 + 0 ≤ _)⟩)
  dsimp only [Pt.U, Pt.locs, Pt.cells, Pt.slots] at X20 l20 y20 z20 st20 hQ20
  subst l20 y20 z20
  obtain ⟨rfl, N20q, e20⟩ := hQ20
  have N20 := Fr.app N15 N20q
  obtain ⟨fs, hr, hrun, hended, hW, hsame⟩ := X20.leave (v := some .null) (fun h => by rw [Bd.returns] at h; cases h) hlk
  subst hS0
  refine ⟨_, _, pre16 _ ?_, hrun, hended, _, _, rfl, ?_, ⟨_, rfl⟩, hW, hsame.mono (by decide) (by decide)⟩
  ·
   refine XS.ifYes X15.here hx rfl (pc0 := 33) (pc' := 39) rfl (hb hby d19_33) rfl (XT.i0_eq_t hc17) (by decide) (by decide) ?_
   refine XS.iinc X15.here hx rfl (hb hby d19_39) rfl (l' := #[rv a0, .val .null, rv b_1, iv (3 : Int32), iv (2 : Int32), rv w_z4]) rfl ?_
   refine XS.goto X15.here hx rfl (pc0 := 42) (pc' := 12) rfl (hb hby d19_42) (by decide) (by decide) ?_
   refine XS.iload X15.here hx rfl (hb hby d19_12) rfl ?_
   refine XS.iloadN X15.here hx rfl (hb hby d19_14) rfl ?_
   show AT p e below T15 m 15 #[rv a0, .val .null, rv b_1, iv (3 : Int32), iv (2 : Int32), rv w_z4] [(.int (3 : Int32)), (.int (2 : Int32))] _
   refine XS.icmpNo X15.here hx rfl (hb hby d19_15) rfl (XT.ii_ge_f ((by decide) : (2 : Int32) < (3 : Int32))) ?_
   refine XS.aloadN X15.here hx rfl (hb hby d19_18) rfl rfl ?_
   refine XS.iload X15.here hx rfl (hb hby d19_19) rfl ?_
   refine X15.aaload hx (j := (2 : Int32)) (v := (.ref w_z5)) (by rw [e15]; exact Ar18.1) (State.isArrayOf_alike hZ.alike Ar18.2.1) rfl Ar18.2.2 hin18 hat18 (g := (mkF m 21 #[rv a0, .val .null, rv b_1, iv (3 : Int32), iv (2 : Int32), rv w_z4] [(.int (2 : Int32)), (.ref b_1)])) rfl rfl (hb hby d19_21) _ ?_
   refine XS.astore X15.here hx rfl (hb hby d19_22) rfl rfl (l' := #[rv a0, .val .null, rv b_1, iv (3 : Int32), iv (2 : Int32), rv w_z5]) rfl ?_
   refine XS.aload X15.here hx rfl (hb hby d19_24) rfl rfl ?_
   refine st19 _ ?_
   refine XS.aloadN X19.here hx rfl (hb hby d19_29) rfl rfl ?_
   refine st20.trans ?_
   show AT p e below T20 m 33 #[rv a0, .val .null, rv b_1, iv (3 : Int32), iv (2 : Int32), rv w_z5] [(.int (0 : Int32))] _
   refine XS.ifYes X20.here hx rfl (pc0 := 33) (pc' := 39) rfl (hb hby d19_33) rfl (XT.i0_eq_t ((by decide) : (0 : Int32) = (0 : Int32))) (by decide) (by decide) ?_
   refine XS.iinc X20.here hx rfl (hb hby d19_39) rfl (l' := #[rv a0, .val .null, rv b_1, iv (3 : Int32), iv (3 : Int32), rv w_z5]) rfl ?_
   refine XS.goto X20.here hx rfl (pc0 := 42) (pc' := 12) rfl (hb hby d19_42) (by decide) (by decide) ?_
   refine XS.iload X20.here hx rfl (hb hby d19_12) rfl ?_
   refine XS.iloadN X20.here hx rfl (hb hby d19_14) rfl ?_
   show AT p e below T20 m 15 #[rv a0, .val .null, rv b_1, iv (3 : Int32), iv (3 : Int32), rv w_z5] [(.int (3 : Int32)), (.int (3 : Int32))] _
   refine XS.icmpYes X20.here hx rfl (pc0 := 15) (pc' := 45) rfl (hb hby d19_15) rfl (XT.ii_ge_t ((by decide) : ¬ ((3 : Int32) < (3 : Int32)))) (by decide) (by decide) ?_
   refine XS.aloadN X20.here hx rfl (hb hby d19_45) rfl rfl ?_
   exact retOut X20 hx (t := (.object "com/example/lease/lease/WorkerState")) (i := .areturn) Bd.returns rfl (Or.inr (Or.inr (Or.inr (Or.inr ⟨rfl, rfl, rfl⟩)))) (hb hby d19_46) hr
  ·
   show Q19_5 Z a0 w_z4 u ku y0 y1 y2 y3 y4 h0 n0 _ T20.heap _
   rw [e20]
   exact ⟨(by rw [f19_5, if_pos hc17]), N20, K1⟩
 ·
  obtain ⟨cl21, Ar21, q21, S21, N21, H21, G21⟩ := id u1_0
  have hin21 := own_in (2 : Int32) S21 ⟨by decide, by decide⟩
  have hat21 : cl21.slots[((2 : Int32)).toNatClampNeg]? = some (.ref w_z5) := Has.at H21 hin21 rfl
  obtain ⟨T22, X22, e22, st22⟩ := getF X15 hx hZ hown (host := "") (Or.inl (ow hw 108 rfl)) Via.refl e15 (F_shown_z5.ext O1.2) (g := (mkF m 26 #[rv a0, rv w_z4, rv b_1, iv (3 : Int32), iv (2 : Int32), rv w_z5] [(.ref w_z5)])) rfl rfl (hb hby d19_26)
  obtain ⟨cq23, kq23, q23a, q23b, q23c⟩ := isOf hZ e22 (E_z10.ext O1.2)
  obtain ⟨_, _, ⟨T23, L23, k23, n23⟩, -, X23, ⟨Lc23, hQ23, l23, y23, z23⟩, st23⟩ := X22.virtualBack hx (y := y17) (z := y17) hown (mvT hZ (ow hw 110 rfl)) (mvT hZ (ow hw 77 rfl)) (notFace_of_selects (args := #[]) (mvT hZ (ow hw 79 rfl))) (mvT hZ (ow hw 79 rfl)) (mvT hZ (ow hw 78 rfl)) (by decide) (backOf (W := 0) (rm17_z l Z ar hw [] w_z10 a0 _ _ _ _ _ _ _ _ T1.heap n0 O1 HW (E_z10.ext O1.2) E1_2 (F_coder_z10.ext O1.2) F1_3 (F_value_z10.ext O1.2) F1_4 (V_z11.ext O1.2) V1_5 (Old.ne O1 E_z10.lt pf4) (by decide)) hZ (ow hw 80 rfl) (ow hw 6 rfl) (by decide) (by decide)) q23a q23c (g := (mkF m 30 #[rv a0, rv w_z4, rv b_1, iv (3 : Int32), iv (2 : Int32), rv w_z5] [(.ref a0), (.ref w_z10)])) rfl (by rw [hml]; rfl) (Steps.refl _) (argsL := [(.ref a0)]) (rest := []) (lenOf pd_13 rfl) rfl (by show 2 * 0 + _ ≤ _; exact Nat.le_of_eq rfl) (hb hby d19_30) (fun _ _ => ⟨rfl, e22, (by decide : 1 + 0 ≤ _), (by decide : 3 + 0 ≤ _)⟩)
  dsimp only [Pt.U, Pt.locs, Pt.cells, Pt.slots] at X23 l23 y23 z23 st23 hQ23
  subst l23 y23 z23
  obtain ⟨rfl, N23q, e23⟩ := hQ23
  have N23 := Fr.app N15 N23q
  obtain ⟨fs, hr, hrun, hended, hW, hsame⟩ := X23.leave (v := some (.ref w_z4)) (fun h => by rw [Bd.returns] at h; cases h) hlk
  subst hS0
  refine ⟨_, _, pre16 _ ?_, hrun, hended, _, _, rfl, ?_, ⟨_, rfl⟩, hW, hsame.mono (by decide) (by decide)⟩
  ·
   refine XS.ifNo X15.here hx rfl (hb hby d19_33) rfl (XT.i0_eq_f hc17) ?_
   refine XS.aload X15.here hx rfl (hb hby d19_36) rfl rfl ?_
   refine XS.astoreN X15.here hx rfl (hb hby d19_38) rfl rfl (l' := #[rv a0, rv w_z4, rv b_1, iv (3 : Int32), iv (1 : Int32), rv w_z4]) rfl ?_
   refine XS.iinc X15.here hx rfl (hb hby d19_39) rfl (l' := #[rv a0, rv w_z4, rv b_1, iv (3 : Int32), iv (2 : Int32), rv w_z4]) rfl ?_
   refine XS.goto X15.here hx rfl (pc0 := 42) (pc' := 12) rfl (hb hby d19_42) (by decide) (by decide) ?_
   refine XS.iload X15.here hx rfl (hb hby d19_12) rfl ?_
   refine XS.iloadN X15.here hx rfl (hb hby d19_14) rfl ?_
   show AT p e below T15 m 15 #[rv a0, rv w_z4, rv b_1, iv (3 : Int32), iv (2 : Int32), rv w_z4] [(.int (3 : Int32)), (.int (2 : Int32))] _
   refine XS.icmpNo X15.here hx rfl (hb hby d19_15) rfl (XT.ii_ge_f ((by decide) : (2 : Int32) < (3 : Int32))) ?_
   refine XS.aloadN X15.here hx rfl (hb hby d19_18) rfl rfl ?_
   refine XS.iload X15.here hx rfl (hb hby d19_19) rfl ?_
   refine X15.aaload hx (j := (2 : Int32)) (v := (.ref w_z5)) (by rw [e15]; exact Ar21.1) (State.isArrayOf_alike hZ.alike Ar21.2.1) rfl Ar21.2.2 hin21 hat21 (g := (mkF m 21 #[rv a0, rv w_z4, rv b_1, iv (3 : Int32), iv (2 : Int32), rv w_z4] [(.int (2 : Int32)), (.ref b_1)])) rfl rfl (hb hby d19_21) _ ?_
   refine XS.astore X15.here hx rfl (hb hby d19_22) rfl rfl (l' := #[rv a0, rv w_z4, rv b_1, iv (3 : Int32), iv (2 : Int32), rv w_z5]) rfl ?_
   refine XS.aload X15.here hx rfl (hb hby d19_24) rfl rfl ?_
   refine st22 _ ?_
   refine XS.aloadN X22.here hx rfl (hb hby d19_29) rfl rfl ?_
   refine st23.trans ?_
   show AT p e below T23 m 33 #[rv a0, rv w_z4, rv b_1, iv (3 : Int32), iv (2 : Int32), rv w_z5] [(.int (0 : Int32))] _
   refine XS.ifYes X23.here hx rfl (pc0 := 33) (pc' := 39) rfl (hb hby d19_33) rfl (XT.i0_eq_t ((by decide) : (0 : Int32) = (0 : Int32))) (by decide) (by decide) ?_
   refine XS.iinc X23.here hx rfl (hb hby d19_39) rfl (l' := #[rv a0, rv w_z4, rv b_1, iv (3 : Int32), iv (3 : Int32), rv w_z5]) rfl ?_
   refine XS.goto X23.here hx rfl (pc0 := 42) (pc' := 12) rfl (hb hby d19_42) (by decide) (by decide) ?_
   refine XS.iload X23.here hx rfl (hb hby d19_12) rfl ?_
   refine XS.iloadN X23.here hx rfl (hb hby d19_14) rfl ?_
   show AT p e below T23 m 15 #[rv a0, rv w_z4, rv b_1, iv (3 : Int32), iv (3 : Int32), rv w_z5] [(.int (3 : Int32)), (.int (3 : Int32))] _
   refine XS.icmpYes X23.here hx rfl (pc0 := 15) (pc' := 45) rfl (hb hby d19_15) rfl (XT.ii_ge_t ((by decide) : ¬ ((3 : Int32) < (3 : Int32)))) (by decide) (by decide) ?_
   refine XS.aloadN X23.here hx rfl (hb hby d19_45) rfl rfl ?_
   exact retOut X23 hx (t := (.object "com/example/lease/lease/WorkerState")) (i := .areturn) Bd.returns rfl (Or.inr (Or.inr (Or.inr (Or.inr ⟨rfl, rfl, rfl⟩)))) (hb hby d19_46) hr
  ·
   show Q19_5 Z a0 w_z4 u ku y0 y1 y2 y3 y4 h0 n0 _ T23.heap _
   rw [e23]
   exact ⟨(by rw [f19_5, if_neg hc17]), N23, K1⟩

theorem ef_18_7_7 (m : MethodId) (a0 : Addr) (a1 : Addr) : entryFrame m #[(.ref a0), (.ref a1)] 3 = mkF m 0 #[rv a0, rv a1, un] [] := by first | (simp [entryFrame, mkF, argsToLocals, Value.category]; done) | rfl
def f18_7_7 (x0 : Int32) (x1 : Int32) (x2 : Int32) (x3 : Int32) (x4 : Int32) (x5 : Int32) (x6 : Int32) (y0 : Int32) (y1 : Int32) (y2 : Int32) (y3 : Int32) (y4 : Int32) (y5 : Int32) (y6 : Int32) : Int32 := if x0 = y0 then (if x1 = y1 then (if x2 = y2 then (if x3 = y3 then (if x4 = y4 then (if x5 = y5 then (if x6 = y6 then (1 : Int32) else (0 : Int32)) else ((0 : Int32))) else ((0 : Int32))) else ((0 : Int32))) else ((0 : Int32))) else ((0 : Int32))) else ((0 : Int32))
def Q18_7_7 (Z : State) (a0 : Addr) (a1 : Addr) (ka : ClassId) (kb : ClassId) (x0 : Int32) (x1 : Int32) (x2 : Int32) (x3 : Int32) (x4 : Int32) (x5 : Int32) (x6 : Int32) (y0 : Int32) (y1 : Int32) (y2 : Int32) (y3 : Int32) (y4 : Int32) (y5 : Int32) (y6 : Int32) (h0 : Heap) (n0 : Nat) (v : Option Value) (h : Heap) (L : List Loc) : Prop := v = some (.int (f18_7_7 x0 x1 x2 x3 x4 x5 x6 y0 y1 y2 y3 y4 y5 y6)) ∧ Fr n0 L ∧ h = h0
abbrev R18_7_7 : Room := ({ frames := 0, cells := 0, slots := 0, locals := 0 } : Room)
set_option maxRecDepth 65536 in
set_option maxHeartbeats 40000000 in
theorem rm18_7_7 (l : Launch) (Z : State) (ar : Array Value) (hw : ∀ d ∈ tables_1, d.before ar Z = true) (ws : List Jvm.Cond) (a0 : Addr) (a1 : Addr) (ka : ClassId) (kb : ClassId) (x0 : Int32) (x1 : Int32) (x2 : Int32) (x3 : Int32) (x4 : Int32) (x5 : Int32) (x6 : Int32) (y0 : Int32) (y1 : Int32) (y2 : Int32) (y3 : Int32) (y4 : Int32) (y5 : Int32) (y6 : Int32) (h0 : Heap) (n0 : Nat) (O0 : Old Z n0 h0) (pf0 : Arv Z h0 a0 ka .byte (7 : Int32) [(.int x0), (.int x1), (.int x2), (.int x3), (.int x4), (.int x5), (.int x6)] (.int (0 : Int32))) (pf1 : Arv Z h0 a1 kb .byte (7 : Int32) [(.int y0), (.int y1), (.int y2), (.int y3), (.int y4), (.int y5), (.int y6)] (.int (0 : Int32))) :
    MetFree l y18 (head1 (Jvm.Cond.code y18 jdk_43_method_13_code 3 (some .boolean) :: ws) R18_7_7) (fun a U => a = #[(.ref a0), (.ref a1)] ∧ Z.Warmed39 U.vm ∧ U.heap = h0) (fun _ _ _ _ _ => True) (fun _ U o U' => ∃ v L, o = .returned v ∧ Q18_7_7 Z a0 a1 ka kb x0 x1 x2 x3 x4 x5 x6 y0 y1 y2 y3 y4 y5 y6 h0 n0 v U'.heap L ∧ FrameEnd U o U' L R18_7_7.cells R18_7_7.slots) := by
 refine MetFree.of_bodySF (plainFor_of_name pn_2) hisR ?_
 intro p e s m args below meth c s₁ Bd hml0 hP hK
 obtain ⟨rfl, hZ, hh⟩ := hP
 have hx := Bd.exec
 have hby := Bd.bytes
 have hml : c.maxLocals = 3 := hml0
 have hown : s.vm.findClass "java/lang/StringLatin1" = some m.cls := findClass_of_methodNamed Bd.named
 have hnm := (name_of_methodNamed Bd.named Bd.method).1
 have hlk : meth.locks = false := by first | assumption | exact BodyLoose.notSynchronized (by assumption) | exact Body.notSynchronized (by assumption)
 have X0 : Stand p l e R18_7_7 s m #[(.ref a0), (.ref a1)] below meth c s₁ [] 0 0 := Stand.of_body Bd
 have e0 : s₁.heap = h0 := by rw [← hh, Bd.state]; rfl
 have N0 := Fr.nil n0
 have Z0 : n0 ≤ h0.size := Nat.le_trans (Nat.le_of_eq O0.1.symm) O0.2.1
 obtain ⟨S0, hS0⟩ : ∃ z, z = s₁.setTop (entryFrame m #[(.ref a0), (.ref a1)] 3) := ⟨_, rfl⟩
 have pre0 : ∀ tg, AT p e below s₁ m 0 #[rv a0, rv a1, un] [] tg → Steps p.tables e below S0 tg := fun tg kg => by rw [hS0]; exact castTop (ef_18_7_7 m a0 a1) kg
 obtain ⟨cl1, Ar1, q1, S1, N1, H1, G1⟩ := id pf0
 obtain ⟨cl2, Ar2, q2, S2, N2, H2, G2⟩ := id pf1
 obtain ⟨cl3, Ar3, q3, S3, N3, H3, G3⟩ := id pf0
 obtain ⟨cl4, Ar4, q4, S4, N4, H4, G4⟩ := id pf0
 have hin4 := own_in (0 : Int32) S4 ⟨by decide, by decide⟩
 have hat4 : cl4.slots[((0 : Int32)).toNatClampNeg]? = some (.int x0) := Has.at H4 hin4 rfl
 obtain ⟨cl5, Ar5, q5, S5, N5, H5, G5⟩ := id pf1
 have hin5 := own_in (0 : Int32) S5 ⟨by decide, by decide⟩
 have hat5 : cl5.slots[((0 : Int32)).toNatClampNeg]? = some (.int y0) := Has.at H5 hin5 rfl
 have pre6 : ∀ tg, AT p e below s₁ m 21 #[rv a0, rv a1, iv (0 : Int32)] [(.int y0), (.int x0)] tg → Steps p.tables e below S0 tg := fun tg kg => pre0 tg (by
  refine XS.aloadN X0.here hx rfl (hb hby d18_0) rfl rfl ?_
  refine X0.arraylength hx (by rw [e0]; exact Ar1.1) (State.isArrayOf_alike hZ.alike Ar1.2.1) (g := (mkF m 1 #[rv a0, rv a1, un] [(.ref a0)])) rfl rfl (hb hby d18_1) _ ?_
  rw [len_of S1 N1]
  refine XS.aloadN X0.here hx rfl (hb hby d18_2) rfl rfl ?_
  refine X0.arraylength hx (by rw [e0]; exact Ar2.1) (State.isArrayOf_alike hZ.alike Ar2.2.1) (g := (mkF m 3 #[rv a0, rv a1, un] [(.ref a1), (.int (7 : Int32))])) rfl rfl (hb hby d18_3) _ ?_
  rw [len_of S2 N2]
  show AT p e below s₁ m 4 #[rv a0, rv a1, un] [(.int (7 : Int32)), (.int (7 : Int32))] _
  refine XS.icmpNo X0.here hx rfl (hb hby d18_4) rfl (XT.ii_ne_f ((by decide) : (7 : Int32) = (7 : Int32))) ?_
  refine XS.iconst X0.here hx rfl (hb hby d18_7) ?_
  refine XS.istoreN X0.here hx rfl (hb hby d18_8) rfl (l' := #[rv a0, rv a1, iv (0 : Int32)]) rfl ?_
  refine XS.iloadN X0.here hx rfl (hb hby d18_9) rfl ?_
  refine XS.aloadN X0.here hx rfl (hb hby d18_10) rfl rfl ?_
  refine X0.arraylength hx (by rw [e0]; exact Ar3.1) (State.isArrayOf_alike hZ.alike Ar3.2.1) (g := (mkF m 11 #[rv a0, rv a1, iv (0 : Int32)] [(.ref a0), (.int (0 : Int32))])) rfl rfl (hb hby d18_11) _ ?_
  rw [len_of S3 N3]
  show AT p e below s₁ m 12 #[rv a0, rv a1, iv (0 : Int32)] [(.int (7 : Int32)), (.int (0 : Int32))] _
  refine XS.icmpNo X0.here hx rfl (hb hby d18_12) rfl (XT.ii_ge_f ((by decide) : (0 : Int32) < (7 : Int32))) ?_
  refine XS.aloadN X0.here hx rfl (hb hby d18_15) rfl rfl ?_
  refine XS.iloadN X0.here hx rfl (hb hby d18_16) rfl ?_
  refine X0.baloadBytes hx (j := (0 : Int32)) (v := (.int x0)) (by rw [e0]; exact Ar4.1) (State.isArrayOf_alike hZ.alike Ar4.2.1) Ar4.2.2 hin4 hat4 (g := (mkF m 17 #[rv a0, rv a1, iv (0 : Int32)] [(.int (0 : Int32)), (.ref a0)])) rfl rfl (hb hby d18_17) _ ?_
  refine XS.aloadN X0.here hx rfl (hb hby d18_18) rfl rfl ?_
  refine XS.iloadN X0.here hx rfl (hb hby d18_19) rfl ?_
  refine X0.baloadBytes hx (j := (0 : Int32)) (v := (.int y0)) (by rw [e0]; exact Ar5.1) (State.isArrayOf_alike hZ.alike Ar5.2.1) Ar5.2.2 hin5 hat5 (g := (mkF m 20 #[rv a0, rv a1, iv (0 : Int32)] [(.int (0 : Int32)), (.ref a1), (.int x0)])) rfl rfl (hb hby d18_20) _ ?_
  exact kg)
 rcases Decidable.em (x0 = y0) with hc7 | hc7
 ·
  obtain ⟨cl8, Ar8, q8, S8, N8, H8, G8⟩ := id pf0
  obtain ⟨cl9, Ar9, q9, S9, N9, H9, G9⟩ := id pf0
  have hin9 := own_in (1 : Int32) S9 ⟨by decide, by decide⟩
  have hat9 : cl9.slots[((1 : Int32)).toNatClampNeg]? = some (.int x1) := Has.at H9 hin9 rfl
  obtain ⟨cl10, Ar10, q10, S10, N10, H10, G10⟩ := id pf1
  have hin10 := own_in (1 : Int32) S10 ⟨by decide, by decide⟩
  have hat10 : cl10.slots[((1 : Int32)).toNatClampNeg]? = some (.int y1) := Has.at H10 hin10 rfl
  have pre11 : ∀ tg, AT p e below s₁ m 21 #[rv a0, rv a1, iv (1 : Int32)] [(.int y1), (.int x1)] tg → Steps p.tables e below S0 tg := fun tg kg => pre6 tg (by
   refine XS.icmpYes X0.here hx rfl (pc0 := 21) (pc' := 26) rfl (hb hby d18_21) rfl (XT.ii_eq_t hc7) (by decide) (by decide) ?_
   refine XS.iinc X0.here hx rfl (hb hby d18_26) rfl (l' := #[rv a0, rv a1, iv (1 : Int32)]) rfl ?_
   refine XS.goto X0.here hx rfl (pc0 := 29) (pc' := 9) rfl (hb hby d18_29) (by decide) (by decide) ?_
   refine XS.iloadN X0.here hx rfl (hb hby d18_9) rfl ?_
   refine XS.aloadN X0.here hx rfl (hb hby d18_10) rfl rfl ?_
   refine X0.arraylength hx (by rw [e0]; exact Ar8.1) (State.isArrayOf_alike hZ.alike Ar8.2.1) (g := (mkF m 11 #[rv a0, rv a1, iv (1 : Int32)] [(.ref a0), (.int (1 : Int32))])) rfl rfl (hb hby d18_11) _ ?_
   rw [len_of S8 N8]
   show AT p e below s₁ m 12 #[rv a0, rv a1, iv (1 : Int32)] [(.int (7 : Int32)), (.int (1 : Int32))] _
   refine XS.icmpNo X0.here hx rfl (hb hby d18_12) rfl (XT.ii_ge_f ((by decide) : (1 : Int32) < (7 : Int32))) ?_
   refine XS.aloadN X0.here hx rfl (hb hby d18_15) rfl rfl ?_
   refine XS.iloadN X0.here hx rfl (hb hby d18_16) rfl ?_
   refine X0.baloadBytes hx (j := (1 : Int32)) (v := (.int x1)) (by rw [e0]; exact Ar9.1) (State.isArrayOf_alike hZ.alike Ar9.2.1) Ar9.2.2 hin9 hat9 (g := (mkF m 17 #[rv a0, rv a1, iv (1 : Int32)] [(.int (1 : Int32)), (.ref a0)])) rfl rfl (hb hby d18_17) _ ?_
   refine XS.aloadN X0.here hx rfl (hb hby d18_18) rfl rfl ?_
   refine XS.iloadN X0.here hx rfl (hb hby d18_19) rfl ?_
   refine X0.baloadBytes hx (j := (1 : Int32)) (v := (.int y1)) (by rw [e0]; exact Ar10.1) (State.isArrayOf_alike hZ.alike Ar10.2.1) Ar10.2.2 hin10 hat10 (g := (mkF m 20 #[rv a0, rv a1, iv (1 : Int32)] [(.int (1 : Int32)), (.ref a1), (.int x1)])) rfl rfl (hb hby d18_20) _ ?_
   exact kg)
  rcases Decidable.em (x1 = y1) with hc12 | hc12
  ·
   obtain ⟨cl13, Ar13, q13, S13, N13, H13, G13⟩ := id pf0
   obtain ⟨cl14, Ar14, q14, S14, N14, H14, G14⟩ := id pf0
   have hin14 := own_in (2 : Int32) S14 ⟨by decide, by decide⟩
   have hat14 : cl14.slots[((2 : Int32)).toNatClampNeg]? = some (.int x2) := Has.at H14 hin14 rfl
   obtain ⟨cl15, Ar15, q15, S15, N15, H15, G15⟩ := id pf1
   have hin15 := own_in (2 : Int32) S15 ⟨by decide, by decide⟩
   have hat15 : cl15.slots[((2 : Int32)).toNatClampNeg]? = some (.int y2) := Has.at H15 hin15 rfl
   have pre16 : ∀ tg, AT p e below s₁ m 21 #[rv a0, rv a1, iv (2 : Int32)] [(.int y2), (.int x2)] tg → Steps p.tables e below S0 tg := fun tg kg => pre11 tg (by
    refine XS.icmpYes X0.here hx rfl (pc0 := 21) (pc' := 26) rfl (hb hby d18_21) rfl (XT.ii_eq_t hc12) (by decide) (by decide) ?_
    refine XS.iinc X0.here hx rfl (hb hby d18_26) rfl (l' := #[rv a0, rv a1, iv (2 : Int32)]) rfl ?_
    refine XS.goto X0.here hx rfl (pc0 := 29) (pc' := 9) rfl (hb hby d18_29) (by decide) (by decide) ?_
    refine XS.iloadN X0.here hx rfl (hb hby d18_9) rfl ?_
    refine XS.aloadN X0.here hx rfl (hb hby d18_10) rfl rfl ?_
    show AT p e below s₁ m 11 #[rv a0, rv a1, iv (2 : Int32)] [(.ref a0), (.int (2 : Int32))] _
    refine X0.arraylength hx (by rw [e0]; exact Ar13.1) (State.isArrayOf_alike hZ.alike Ar13.2.1) (g := (mkF m 11 #[rv a0, rv a1, iv (2 : Int32)] [(.ref a0), (.int (2 : Int32))])) rfl rfl (hb hby d18_11) _ ?_
    rw [len_of S13 N13]
    show AT p e below s₁ m 12 #[rv a0, rv a1, iv (2 : Int32)] [(.int (7 : Int32)), (.int (2 : Int32))] _
    refine XS.icmpNo X0.here hx rfl (hb hby d18_12) rfl (XT.ii_ge_f ((by decide) : (2 : Int32) < (7 : Int32))) ?_
    refine XS.aloadN X0.here hx rfl (hb hby d18_15) rfl rfl ?_
    refine XS.iloadN X0.here hx rfl (hb hby d18_16) rfl ?_
    refine X0.baloadBytes hx (j := (2 : Int32)) (v := (.int x2)) (by rw [e0]; exact Ar14.1) (State.isArrayOf_alike hZ.alike Ar14.2.1) Ar14.2.2 hin14 hat14 (g := (mkF m 17 #[rv a0, rv a1, iv (2 : Int32)] [(.int (2 : Int32)), (.ref a0)])) rfl rfl (hb hby d18_17) _ ?_
    refine XS.aloadN X0.here hx rfl (hb hby d18_18) rfl rfl ?_
    refine XS.iloadN X0.here hx rfl (hb hby d18_19) rfl ?_
    refine X0.baloadBytes hx (j := (2 : Int32)) (v := (.int y2)) (by rw [e0]; exact Ar15.1) (State.isArrayOf_alike hZ.alike Ar15.2.1) Ar15.2.2 hin15 hat15 (g := (mkF m 20 #[rv a0, rv a1, iv (2 : Int32)] [(.int (2 : Int32)), (.ref a1), (.int x2)])) rfl rfl (hb hby d18_20) _ ?_
    exact kg)
   rcases Decidable.em (x2 = y2) with hc17 | hc17
   ·
    obtain ⟨cl18, Ar18, q18, S18, N18, H18, G18⟩ := id pf0
    obtain ⟨cl19, Ar19, q19, S19, N19, H19, G19⟩ := id pf0
    have hin19 := own_in (3 : Int32) S19 ⟨by decide, by decide⟩
    have hat19 : cl19.slots[((3 : Int32)).toNatClampNeg]? = some (.int x3) := Has.at H19 hin19 rfl
    obtain ⟨cl20, Ar20, q20, S20, N20, H20, G20⟩ := id pf1
    have hin20 := own_in (3 : Int32) S20 ⟨by decide, by decide⟩
    have hat20 : cl20.slots[((3 : Int32)).toNatClampNeg]? = some (.int y3) := Has.at H20 hin20 rfl
    have pre21 : ∀ tg, AT p e below s₁ m 21 #[rv a0, rv a1, iv (3 : Int32)] [(.int y3), (.int x3)] tg → Steps p.tables e below S0 tg := fun tg kg => pre16 tg (by
     refine XS.icmpYes X0.here hx rfl (pc0 := 21) (pc' := 26) rfl (hb hby d18_21) rfl (XT.ii_eq_t hc17) (by decide) (by decide) ?_
     refine XS.iinc X0.here hx rfl (hb hby d18_26) rfl (l' := #[rv a0, rv a1, iv (3 : Int32)]) rfl ?_
     refine XS.goto X0.here hx rfl (pc0 := 29) (pc' := 9) rfl (hb hby d18_29) (by decide) (by decide) ?_
     refine XS.iloadN X0.here hx rfl (hb hby d18_9) rfl ?_
     refine XS.aloadN X0.here hx rfl (hb hby d18_10) rfl rfl ?_
     refine X0.arraylength hx (by rw [e0]; exact Ar18.1) (State.isArrayOf_alike hZ.alike Ar18.2.1) (g := (mkF m 11 #[rv a0, rv a1, iv (3 : Int32)] [(.ref a0), (.int (3 : Int32))])) rfl rfl (hb hby d18_11) _ ?_
     rw [len_of S18 N18]
     show AT p e below s₁ m 12 #[rv a0, rv a1, iv (3 : Int32)] [(.int (7 : Int32)), (.int (3 : Int32))] _
     refine XS.icmpNo X0.here hx rfl (hb hby d18_12) rfl (XT.ii_ge_f ((by decide) : (3 : Int32) < (7 : Int32))) ?_
     refine XS.aloadN X0.here hx rfl (hb hby d18_15) rfl rfl ?_
     refine XS.iloadN X0.here hx rfl (hb hby d18_16) rfl ?_
     refine X0.baloadBytes hx (j := (3 : Int32)) (v := (.int x3)) (by rw [e0]; exact Ar19.1) (State.isArrayOf_alike hZ.alike Ar19.2.1) Ar19.2.2 hin19 hat19 (g := (mkF m 17 #[rv a0, rv a1, iv (3 : Int32)] [(.int (3 : Int32)), (.ref a0)])) rfl rfl (hb hby d18_17) _ ?_
     refine XS.aloadN X0.here hx rfl (hb hby d18_18) rfl rfl ?_
     refine XS.iloadN X0.here hx rfl (hb hby d18_19) rfl ?_
     refine X0.baloadBytes hx (j := (3 : Int32)) (v := (.int y3)) (by rw [e0]; exact Ar20.1) (State.isArrayOf_alike hZ.alike Ar20.2.1) Ar20.2.2 hin20 hat20 (g := (mkF m 20 #[rv a0, rv a1, iv (3 : Int32)] [(.int (3 : Int32)), (.ref a1), (.int x3)])) rfl rfl (hb hby d18_20) _ ?_
     exact kg)
    rcases Decidable.em (x3 = y3) with hc22 | hc22
    ·
     obtain ⟨cl23, Ar23, q23, S23, N23, H23, G23⟩ := id pf0
     obtain ⟨cl24, Ar24, q24, S24, N24, H24, G24⟩ := id pf0
     have hin24 := own_in (4 : Int32) S24 ⟨by decide, by decide⟩
     have hat24 : cl24.slots[((4 : Int32)).toNatClampNeg]? = some (.int x4) := Has.at H24 hin24 rfl
     obtain ⟨cl25, Ar25, q25, S25, N25, H25, G25⟩ := id pf1
     have hin25 := own_in (4 : Int32) S25 ⟨by decide, by decide⟩
     have hat25 : cl25.slots[((4 : Int32)).toNatClampNeg]? = some (.int y4) := Has.at H25 hin25 rfl
     have pre26 : ∀ tg, AT p e below s₁ m 21 #[rv a0, rv a1, iv (4 : Int32)] [(.int y4), (.int x4)] tg → Steps p.tables e below S0 tg := fun tg kg => pre21 tg (by
      refine XS.icmpYes X0.here hx rfl (pc0 := 21) (pc' := 26) rfl (hb hby d18_21) rfl (XT.ii_eq_t hc22) (by decide) (by decide) ?_
      refine XS.iinc X0.here hx rfl (hb hby d18_26) rfl (l' := #[rv a0, rv a1, iv (4 : Int32)]) rfl ?_
      refine XS.goto X0.here hx rfl (pc0 := 29) (pc' := 9) rfl (hb hby d18_29) (by decide) (by decide) ?_
      refine XS.iloadN X0.here hx rfl (hb hby d18_9) rfl ?_
      refine XS.aloadN X0.here hx rfl (hb hby d18_10) rfl rfl ?_
      refine X0.arraylength hx (by rw [e0]; exact Ar23.1) (State.isArrayOf_alike hZ.alike Ar23.2.1) (g := (mkF m 11 #[rv a0, rv a1, iv (4 : Int32)] [(.ref a0), (.int (4 : Int32))])) rfl rfl (hb hby d18_11) _ ?_
      rw [len_of S23 N23]
      show AT p e below s₁ m 12 #[rv a0, rv a1, iv (4 : Int32)] [(.int (7 : Int32)), (.int (4 : Int32))] _
      refine XS.icmpNo X0.here hx rfl (hb hby d18_12) rfl (XT.ii_ge_f ((by decide) : (4 : Int32) < (7 : Int32))) ?_
      refine XS.aloadN X0.here hx rfl (hb hby d18_15) rfl rfl ?_
      refine XS.iloadN X0.here hx rfl (hb hby d18_16) rfl ?_
      refine X0.baloadBytes hx (j := (4 : Int32)) (v := (.int x4)) (by rw [e0]; exact Ar24.1) (State.isArrayOf_alike hZ.alike Ar24.2.1) Ar24.2.2 hin24 hat24 (g := (mkF m 17 #[rv a0, rv a1, iv (4 : Int32)] [(.int (4 : Int32)), (.ref a0)])) rfl rfl (hb hby d18_17) _ ?_
      refine XS.aloadN X0.here hx rfl (hb hby d18_18) rfl rfl ?_
      refine XS.iloadN X0.here hx rfl (hb hby d18_19) rfl ?_
      refine X0.baloadBytes hx (j := (4 : Int32)) (v := (.int y4)) (by rw [e0]; exact Ar25.1) (State.isArrayOf_alike hZ.alike Ar25.2.1) Ar25.2.2 hin25 hat25 (g := (mkF m 20 #[rv a0, rv a1, iv (4 : Int32)] [(.int (4 : Int32)), (.ref a1), (.int x4)])) rfl rfl (hb hby d18_20) _ ?_
      exact kg)
     rcases Decidable.em (x4 = y4) with hc27 | hc27
     ·
      obtain ⟨cl28, Ar28, q28, S28, N28, H28, G28⟩ := id pf0
      obtain ⟨cl29, Ar29, q29, S29, N29, H29, G29⟩ := id pf0
      have hin29 := own_in (5 : Int32) S29 ⟨by decide, by decide⟩
      have hat29 : cl29.slots[((5 : Int32)).toNatClampNeg]? = some (.int x5) := Has.at H29 hin29 rfl
      obtain ⟨cl30, Ar30, q30, S30, N30, H30, G30⟩ := id pf1
      have hin30 := own_in (5 : Int32) S30 ⟨by decide, by decide⟩
      have hat30 : cl30.slots[((5 : Int32)).toNatClampNeg]? = some (.int y5) := Has.at H30 hin30 rfl
      have pre31 : ∀ tg, AT p e below s₁ m 21 #[rv a0, rv a1, iv (5 : Int32)] [(.int y5), (.int x5)] tg → Steps p.tables e below S0 tg := fun tg kg => pre26 tg (by
       refine XS.icmpYes X0.here hx rfl (pc0 := 21) (pc' := 26) rfl (hb hby d18_21) rfl (XT.ii_eq_t hc27) (by decide) (by decide) ?_
       refine XS.iinc X0.here hx rfl (hb hby d18_26) rfl (l' := #[rv a0, rv a1, iv (5 : Int32)]) rfl ?_
       show AT p e below s₁ m 29 #[rv a0, rv a1, iv (5 : Int32)] [] _
       refine XS.goto X0.here hx rfl (pc0 := 29) (pc' := 9) rfl (hb hby d18_29) (by decide) (by decide) ?_
       refine XS.iloadN X0.here hx rfl (hb hby d18_9) rfl ?_
       refine XS.aloadN X0.here hx rfl (hb hby d18_10) rfl rfl ?_
       refine X0.arraylength hx (by rw [e0]; exact Ar28.1) (State.isArrayOf_alike hZ.alike Ar28.2.1) (g := (mkF m 11 #[rv a0, rv a1, iv (5 : Int32)] [(.ref a0), (.int (5 : Int32))])) rfl rfl (hb hby d18_11) _ ?_
       rw [len_of S28 N28]
       show AT p e below s₁ m 12 #[rv a0, rv a1, iv (5 : Int32)] [(.int (7 : Int32)), (.int (5 : Int32))] _
       refine XS.icmpNo X0.here hx rfl (hb hby d18_12) rfl (XT.ii_ge_f ((by decide) : (5 : Int32) < (7 : Int32))) ?_
       refine XS.aloadN X0.here hx rfl (hb hby d18_15) rfl rfl ?_
       refine XS.iloadN X0.here hx rfl (hb hby d18_16) rfl ?_
       refine X0.baloadBytes hx (j := (5 : Int32)) (v := (.int x5)) (by rw [e0]; exact Ar29.1) (State.isArrayOf_alike hZ.alike Ar29.2.1) Ar29.2.2 hin29 hat29 (g := (mkF m 17 #[rv a0, rv a1, iv (5 : Int32)] [(.int (5 : Int32)), (.ref a0)])) rfl rfl (hb hby d18_17) _ ?_
       refine XS.aloadN X0.here hx rfl (hb hby d18_18) rfl rfl ?_
       refine XS.iloadN X0.here hx rfl (hb hby d18_19) rfl ?_
       refine X0.baloadBytes hx (j := (5 : Int32)) (v := (.int y5)) (by rw [e0]; exact Ar30.1) (State.isArrayOf_alike hZ.alike Ar30.2.1) Ar30.2.2 hin30 hat30 (g := (mkF m 20 #[rv a0, rv a1, iv (5 : Int32)] [(.int (5 : Int32)), (.ref a1), (.int x5)])) rfl rfl (hb hby d18_20) _ ?_
       exact kg)
      rcases Decidable.em (x5 = y5) with hc32 | hc32
      ·
       obtain ⟨cl33, Ar33, q33, S33, N33, H33, G33⟩ := id pf0
       obtain ⟨cl34, Ar34, q34, S34, N34, H34, G34⟩ := id pf0
       have hin34 := own_in (6 : Int32) S34 ⟨by decide, by decide⟩
       have hat34 : cl34.slots[((6 : Int32)).toNatClampNeg]? = some (.int x6) := Has.at H34 hin34 rfl
       obtain ⟨cl35, Ar35, q35, S35, N35, H35, G35⟩ := id pf1
       have hin35 := own_in (6 : Int32) S35 ⟨by decide, by decide⟩
       have hat35 : cl35.slots[((6 : Int32)).toNatClampNeg]? = some (.int y6) := Has.at H35 hin35 rfl
       have pre36 : ∀ tg, AT p e below s₁ m 21 #[rv a0, rv a1, iv (6 : Int32)] [(.int y6), (.int x6)] tg → Steps p.tables e below S0 tg := fun tg kg => pre31 tg (by
        refine XS.icmpYes X0.here hx rfl (pc0 := 21) (pc' := 26) rfl (hb hby d18_21) rfl (XT.ii_eq_t hc32) (by decide) (by decide) ?_
        refine XS.iinc X0.here hx rfl (hb hby d18_26) rfl (l' := #[rv a0, rv a1, iv (6 : Int32)]) rfl ?_
        refine XS.goto X0.here hx rfl (pc0 := 29) (pc' := 9) rfl (hb hby d18_29) (by decide) (by decide) ?_
        refine XS.iloadN X0.here hx rfl (hb hby d18_9) rfl ?_
        refine XS.aloadN X0.here hx rfl (hb hby d18_10) rfl rfl ?_
        refine X0.arraylength hx (by rw [e0]; exact Ar33.1) (State.isArrayOf_alike hZ.alike Ar33.2.1) (g := (mkF m 11 #[rv a0, rv a1, iv (6 : Int32)] [(.ref a0), (.int (6 : Int32))])) rfl rfl (hb hby d18_11) _ ?_
        rw [len_of S33 N33]
        show AT p e below s₁ m 12 #[rv a0, rv a1, iv (6 : Int32)] [(.int (7 : Int32)), (.int (6 : Int32))] _
        refine XS.icmpNo X0.here hx rfl (hb hby d18_12) rfl (XT.ii_ge_f ((by decide) : (6 : Int32) < (7 : Int32))) ?_
        refine XS.aloadN X0.here hx rfl (hb hby d18_15) rfl rfl ?_
        refine XS.iloadN X0.here hx rfl (hb hby d18_16) rfl ?_
        refine X0.baloadBytes hx (j := (6 : Int32)) (v := (.int x6)) (by rw [e0]; exact Ar34.1) (State.isArrayOf_alike hZ.alike Ar34.2.1) Ar34.2.2 hin34 hat34 (g := (mkF m 17 #[rv a0, rv a1, iv (6 : Int32)] [(.int (6 : Int32)), (.ref a0)])) rfl rfl (hb hby d18_17) _ ?_
        refine XS.aloadN X0.here hx rfl (hb hby d18_18) rfl rfl ?_
        refine XS.iloadN X0.here hx rfl (hb hby d18_19) rfl ?_
        refine X0.baloadBytes hx (j := (6 : Int32)) (v := (.int y6)) (by rw [e0]; exact Ar35.1) (State.isArrayOf_alike hZ.alike Ar35.2.1) Ar35.2.2 hin35 hat35 (g := (mkF m 20 #[rv a0, rv a1, iv (6 : Int32)] [(.int (6 : Int32)), (.ref a1), (.int x6)])) rfl rfl (hb hby d18_20) _ ?_
        exact kg)
       rcases Decidable.em (x6 = y6) with hc37 | hc37
       ·
        obtain ⟨cl38, Ar38, q38, S38, N38, H38, G38⟩ := id pf0
        obtain ⟨fs, hr, hrun, hended, hW, hsame⟩ := X0.leave (v := some (.int (1 : Int32))) (fun h => by rw [Bd.returns] at h; cases h) hlk
        subst hS0
        refine ⟨_, _, pre36 _ ?_, hrun, hended, _, _, rfl, ?_, ⟨_, rfl⟩, hW, hsame.mono (by decide) (by decide)⟩
        ·
         refine XS.icmpYes X0.here hx rfl (pc0 := 21) (pc' := 26) rfl (hb hby d18_21) rfl (XT.ii_eq_t hc37) (by decide) (by decide) ?_
         refine XS.iinc X0.here hx rfl (hb hby d18_26) rfl (l' := #[rv a0, rv a1, iv (7 : Int32)]) rfl ?_
         refine XS.goto X0.here hx rfl (pc0 := 29) (pc' := 9) rfl (hb hby d18_29) (by decide) (by decide) ?_
         refine XS.iloadN X0.here hx rfl (hb hby d18_9) rfl ?_
         refine XS.aloadN X0.here hx rfl (hb hby d18_10) rfl rfl ?_
         refine X0.arraylength hx (by rw [e0]; exact Ar38.1) (State.isArrayOf_alike hZ.alike Ar38.2.1) (g := (mkF m 11 #[rv a0, rv a1, iv (7 : Int32)] [(.ref a0), (.int (7 : Int32))])) rfl rfl (hb hby d18_11) _ ?_
         rw [len_of S38 N38]
         show AT p e below s₁ m 12 #[rv a0, rv a1, iv (7 : Int32)] [(.int (7 : Int32)), (.int (7 : Int32))] _
         refine XS.icmpYes X0.here hx rfl (pc0 := 12) (pc' := 32) rfl (hb hby d18_12) rfl (XT.ii_ge_t ((by decide) : ¬ ((7 : Int32) < (7 : Int32)))) (by decide) (by decide) ?_
         refine XS.iconst X0.here hx rfl (hb hby d18_32) ?_
         exact retN X0 hx (t := .boolean) Bd.returns (by simp) (hb hby d18_33) hr
        ·
         show Q18_7_7 Z a0 a1 ka kb x0 x1 x2 x3 x4 x5 x6 y0 y1 y2 y3 y4 y5 y6 h0 n0 _ s₁.heap _
         rw [e0]
         exact ⟨(by rw [f18_7_7, if_pos hc7, if_pos hc12, if_pos hc17, if_pos hc22, if_pos hc27, if_pos hc32, if_pos hc37]), N0, rfl⟩
       ·
        obtain ⟨fs, hr, hrun, hended, hW, hsame⟩ := X0.leave (v := some (.int (0 : Int32))) (fun h => by rw [Bd.returns] at h; cases h) hlk
        subst hS0
        refine ⟨_, _, pre36 _ ?_, hrun, hended, _, _, rfl, ?_, ⟨_, rfl⟩, hW, hsame.mono (by decide) (by decide)⟩
        ·
         refine XS.icmpNo X0.here hx rfl (hb hby d18_21) rfl (XT.ii_eq_f hc37) ?_
         refine XS.iconst X0.here hx rfl (hb hby d18_24) ?_
         exact retN X0 hx (t := .boolean) Bd.returns (by simp) (hb hby d18_25) hr
        ·
         show Q18_7_7 Z a0 a1 ka kb x0 x1 x2 x3 x4 x5 x6 y0 y1 y2 y3 y4 y5 y6 h0 n0 _ s₁.heap _
         rw [e0]
         exact ⟨(by rw [f18_7_7, if_pos hc7, if_pos hc12, if_pos hc17, if_pos hc22, if_pos hc27, if_pos hc32, if_neg hc37]), N0, rfl⟩
      ·
       obtain ⟨fs, hr, hrun, hended, hW, hsame⟩ := X0.leave (v := some (.int (0 : Int32))) (fun h => by rw [Bd.returns] at h; cases h) hlk
       subst hS0
       refine ⟨_, _, pre31 _ ?_, hrun, hended, _, _, rfl, ?_, ⟨_, rfl⟩, hW, hsame.mono (by decide) (by decide)⟩
       ·
        refine XS.icmpNo X0.here hx rfl (hb hby d18_21) rfl (XT.ii_eq_f hc32) ?_
        refine XS.iconst X0.here hx rfl (hb hby d18_24) ?_
        exact retN X0 hx (t := .boolean) Bd.returns (by simp) (hb hby d18_25) hr
       ·
        show Q18_7_7 Z a0 a1 ka kb x0 x1 x2 x3 x4 x5 x6 y0 y1 y2 y3 y4 y5 y6 h0 n0 _ s₁.heap _
        rw [e0]
        exact ⟨(by rw [f18_7_7, if_pos hc7, if_pos hc12, if_pos hc17, if_pos hc22, if_pos hc27, if_neg hc32]), N0, rfl⟩
     ·
      obtain ⟨fs, hr, hrun, hended, hW, hsame⟩ := X0.leave (v := some (.int (0 : Int32))) (fun h => by rw [Bd.returns] at h; cases h) hlk
      subst hS0
      refine ⟨_, _, pre26 _ ?_, hrun, hended, _, _, rfl, ?_, ⟨_, rfl⟩, hW, hsame.mono (by decide) (by decide)⟩
      ·
       refine XS.icmpNo X0.here hx rfl (hb hby d18_21) rfl (XT.ii_eq_f hc27) ?_
       refine XS.iconst X0.here hx rfl (hb hby d18_24) ?_
       show AT p e below s₁ m 25 #[rv a0, rv a1, iv (4 : Int32)] [(.int (0 : Int32))] _
       exact retN X0 hx (t := .boolean) Bd.returns (by simp) (hb hby d18_25) hr
      ·
       show Q18_7_7 Z a0 a1 ka kb x0 x1 x2 x3 x4 x5 x6 y0 y1 y2 y3 y4 y5 y6 h0 n0 _ s₁.heap _
       rw [e0]
       exact ⟨(by rw [f18_7_7, if_pos hc7, if_pos hc12, if_pos hc17, if_pos hc22, if_neg hc27]), N0, rfl⟩
    ·
     obtain ⟨fs, hr, hrun, hended, hW, hsame⟩ := X0.leave (v := some (.int (0 : Int32))) (fun h => by rw [Bd.returns] at h; cases h) hlk
     subst hS0
     refine ⟨_, _, pre21 _ ?_, hrun, hended, _, _, rfl, ?_, ⟨_, rfl⟩, hW, hsame.mono (by decide) (by decide)⟩
     ·
      refine XS.icmpNo X0.here hx rfl (hb hby d18_21) rfl (XT.ii_eq_f hc22) ?_
      refine XS.iconst X0.here hx rfl (hb hby d18_24) ?_
      exact retN X0 hx (t := .boolean) Bd.returns (by simp) (hb hby d18_25) hr
     ·
      show Q18_7_7 Z a0 a1 ka kb x0 x1 x2 x3 x4 x5 x6 y0 y1 y2 y3 y4 y5 y6 h0 n0 _ s₁.heap _
      rw [e0]
      exact ⟨(by rw [f18_7_7, if_pos hc7, if_pos hc12, if_pos hc17, if_neg hc22]), N0, rfl⟩
   ·
    obtain ⟨fs, hr, hrun, hended, hW, hsame⟩ := X0.leave (v := some (.int (0 : Int32))) (fun h => by rw [Bd.returns] at h; cases h) hlk
    subst hS0
    refine ⟨_, _, pre16 _ ?_, hrun, hended, _, _, rfl, ?_, ⟨_, rfl⟩, hW, hsame.mono (by decide) (by decide)⟩
    ·
     refine XS.icmpNo X0.here hx rfl (hb hby d18_21) rfl (XT.ii_eq_f hc17) ?_
     refine XS.iconst X0.here hx rfl (hb hby d18_24) ?_
     exact retN X0 hx (t := .boolean) Bd.returns (by simp) (hb hby d18_25) hr
    ·
     show Q18_7_7 Z a0 a1 ka kb x0 x1 x2 x3 x4 x5 x6 y0 y1 y2 y3 y4 y5 y6 h0 n0 _ s₁.heap _
     rw [e0]
     exact ⟨(by rw [f18_7_7, if_pos hc7, if_pos hc12, if_neg hc17]), N0, rfl⟩
  ·
   obtain ⟨fs, hr, hrun, hended, hW, hsame⟩ := X0.leave (v := some (.int (0 : Int32))) (fun h => by rw [Bd.returns] at h; cases h) hlk
   subst hS0
   refine ⟨_, _, pre11 _ ?_, hrun, hended, _, _, rfl, ?_, ⟨_, rfl⟩, hW, hsame.mono (by decide) (by decide)⟩
   ·
    refine XS.icmpNo X0.here hx rfl (hb hby d18_21) rfl (XT.ii_eq_f hc12) ?_
    refine XS.iconst X0.here hx rfl (hb hby d18_24) ?_
    exact retN X0 hx (t := .boolean) Bd.returns (by simp) (hb hby d18_25) hr
   ·
    show Q18_7_7 Z a0 a1 ka kb x0 x1 x2 x3 x4 x5 x6 y0 y1 y2 y3 y4 y5 y6 h0 n0 _ s₁.heap _
    rw [e0]
    exact ⟨(by rw [f18_7_7, if_pos hc7, if_neg hc12]), N0, rfl⟩
 ·
  obtain ⟨fs, hr, hrun, hended, hW, hsame⟩ := X0.leave (v := some (.int (0 : Int32))) (fun h => by rw [Bd.returns] at h; cases h) hlk
  subst hS0
  refine ⟨_, _, pre6 _ ?_, hrun, hended, _, _, rfl, ?_, ⟨_, rfl⟩, hW, hsame.mono (by decide) (by decide)⟩
  ·
   refine XS.icmpNo X0.here hx rfl (hb hby d18_21) rfl (XT.ii_eq_f hc7) ?_
   refine XS.iconst X0.here hx rfl (hb hby d18_24) ?_
   exact retN X0 hx (t := .boolean) Bd.returns (by simp) (hb hby d18_25) hr
  ·
   show Q18_7_7 Z a0 a1 ka kb x0 x1 x2 x3 x4 x5 x6 y0 y1 y2 y3 y4 y5 y6 h0 n0 _ s₁.heap _
   rw [e0]
   exact ⟨(by rw [f18_7_7, if_neg hc7]), N0, rfl⟩

theorem ef_17_7_7 (m : MethodId) (a0 : Addr) (a1 : Addr) : entryFrame m #[(.ref a0), (.ref a1)] 3 = mkF m 0 #[rv a0, rv a1, un] [] := by first | (simp [entryFrame, mkF, argsToLocals, Value.category]; done) | rfl
def f17_7_7 (x0 : Int32) (x1 : Int32) (x2 : Int32) (x3 : Int32) (x4 : Int32) (x5 : Int32) (x6 : Int32) (y0 : Int32) (y1 : Int32) (y2 : Int32) (y3 : Int32) (y4 : Int32) (y5 : Int32) (y6 : Int32) : Int32 := if (f18_7_7 x0 x1 x2 x3 x4 x5 x6 y0 y1 y2 y3 y4 y5 y6) = (0 : Int32) then (0 : Int32) else (1 : Int32)
def Q17_7_7 (Z : State) (a0 : Addr) (a1 : Addr) (u : Addr) (w : Addr) (ka : ClassId) (kb : ClassId) (x0 : Int32) (x1 : Int32) (x2 : Int32) (x3 : Int32) (x4 : Int32) (x5 : Int32) (x6 : Int32) (y0 : Int32) (y1 : Int32) (y2 : Int32) (y3 : Int32) (y4 : Int32) (y5 : Int32) (y6 : Int32) (h0 : Heap) (n0 : Nat) (v : Option Value) (h : Heap) (L : List Loc) : Prop := v = some (.int (f17_7_7 x0 x1 x2 x3 x4 x5 x6 y0 y1 y2 y3 y4 y5 y6)) ∧ Fr n0 L ∧ h = h0
abbrev R17_7_7 : Room := ({ frames := 1, cells := 0, slots := 0, locals := 14 } : Room)
set_option maxRecDepth 65536 in
set_option maxHeartbeats 40000000 in
theorem rm17_7_7 (l : Launch) (Z : State) (ar : Array Value) (hw : ∀ d ∈ tables_1, d.before ar Z = true) (ws : List Jvm.Cond) (a0 : Addr) (a1 : Addr) (u : Addr) (w : Addr) (ka : ClassId) (kb : ClassId) (x0 : Int32) (x1 : Int32) (x2 : Int32) (x3 : Int32) (x4 : Int32) (x5 : Int32) (x6 : Int32) (y0 : Int32) (y1 : Int32) (y2 : Int32) (y3 : Int32) (y4 : Int32) (y5 : Int32) (y6 : Int32) (h0 : Heap) (n0 : Nat) (O0 : Old Z n0 h0) (HW : Wd Z w_z0 w_z1 w_z2 w_z3 w_z4 w_z5 w_z6 w_z7 w_z8 w_z9 w_z10 w_z11 k_z3 k_z7 k_z9 k_z11) (pf0 : Exa Z h0 a0 "java/lang/String") (pf1 : Exa Z h0 a1 "java/lang/String") (pf2 : Fld Z h0 a0 "java/lang/String" "coder" "B" (.int (0 : Int32))) (pf3 : Fld Z h0 a1 "java/lang/String" "coder" "B" (.int (0 : Int32))) (pf4 : Fld Z h0 a0 "java/lang/String" "value" "[B" (.ref u)) (pf5 : Fld Z h0 a1 "java/lang/String" "value" "[B" (.ref w)) (pf6 : Arv Z h0 u ka .byte (7 : Int32) [(.int x0), (.int x1), (.int x2), (.int x3), (.int x4), (.int x5), (.int x6)] (.int (0 : Int32))) (pf7 : Arv Z h0 w kb .byte (7 : Int32) [(.int y0), (.int y1), (.int y2), (.int y3), (.int y4), (.int y5), (.int y6)] (.int (0 : Int32))) (pf8 : a0 ≠ a1) :
    MetFree l y17 (head1 (Jvm.Cond.code y17 jdk_42_method_66_code 3 (some .boolean) :: ws) R17_7_7) (fun a U => a = #[(.ref a0), (.ref a1)] ∧ Z.Warmed39 U.vm ∧ U.heap = h0) (fun _ _ _ _ _ => True) (fun _ U o U' => ∃ v L, o = .returned v ∧ Q17_7_7 Z a0 a1 u w ka kb x0 x1 x2 x3 x4 x5 x6 y0 y1 y2 y3 y4 y5 y6 h0 n0 v U'.heap L ∧ FrameEnd U o U' L R17_7_7.cells R17_7_7.slots) := by
 refine MetFree.of_bodySF (plainFor_of_name pn_0) hisR ?_
 intro p e s m args below meth c s₁ Bd hml0 hP hK
 obtain ⟨rfl, hZ, hh⟩ := hP
 have hx := Bd.exec
 have hby := Bd.bytes
 have hml : c.maxLocals = 3 := hml0
 have hown : s.vm.findClass "java/lang/String" = some m.cls := findClass_of_methodNamed Bd.named
 have hnm := (name_of_methodNamed Bd.named Bd.method).1
 have hlk : meth.locks = false := by first | assumption | exact BodyLoose.notSynchronized (by assumption) | exact Body.notSynchronized (by assumption)
 have X0 : Stand p l e R17_7_7 s m #[(.ref a0), (.ref a1)] below meth c s₁ [] 0 0 := Stand.of_body Bd
 have e0 : s₁.heap = h0 := by rw [← hh, Bd.state]; rfl
 have N0 := Fr.nil n0
 have Z0 : n0 ≤ h0.size := Nat.le_trans (Nat.le_of_eq O0.1.symm) O0.2.1
 obtain ⟨S0, hS0⟩ : ∃ z, z = s₁.setTop (entryFrame m #[(.ref a0), (.ref a1)] 3) := ⟨_, rfl⟩
 have pre0 : ∀ tg, AT p e below s₁ m 0 #[rv a0, rv a1, un] [] tg → Steps p.tables e below S0 tg := fun tg kg => by rw [hS0]; exact castTop (ef_17_7_7 m a0 a1) kg
 obtain ⟨S_q0, hz_w_z0, -, -, -, -, -, -, -, -, -, -, -, -, -, -, -, -, -, -, -, -, -, -, -, -, -, -⟩ := id HW
 obtain ⟨T1, X1, e1, st1⟩ := instY X0 hx hZ hown (ow hw 81 rfl) e0 (Ins.self pf1) (g := (mkF m 8 #[rv a0, rv a1, un] [(.ref a1)])) rfl rfl (hb hby d17_8)
 obtain ⟨T2, X2, e2, st2⟩ := castY X1 hx hZ hown (ow hw 81 rfl) e1 (Ins.self pf1) (g := (mkF m 15 #[rv a0, rv a1, un] [(.ref a1)])) rfl rfl (hb hby d17_15)
 obtain ⟨T3, X3, e3, st3⟩ := getS2 X2 hx hZ hown (host := "") (Or.inl (ow hw 24 rfl)) Via.refl e2 (S_q0.ext O0.2) (g := (mkF m 19 #[rv a0, rv a1, rv a1] [])) rfl (hb hby d17_19)
 obtain ⟨T4, X4, e4, st4⟩ := getF X3 hx hZ hown (host := "") (Or.inl (ow hw 25 rfl)) Via.refl e3 pf2 (g := (mkF m 26 #[rv a0, rv a1, rv a1] [(.ref a0)])) rfl rfl (hb hby d17_26)
 obtain ⟨T5, X5, e5, st5⟩ := getF X4 hx hZ hown (host := "") (Or.inl (ow hw 25 rfl)) Via.refl e4 pf3 (g := (mkF m 30 #[rv a0, rv a1, rv a1] [(.ref a1), (.int (0 : Int32))])) rfl rfl (hb hby d17_30)
 obtain ⟨T6, X6, e6, st6⟩ := getF X5 hx hZ hown (host := "") (Or.inl (ow hw 18 rfl)) Via.refl e5 pf4 (g := (mkF m 37 #[rv a0, rv a1, rv a1] [(.ref a0)])) rfl rfl (hb hby d17_37)
 obtain ⟨T7, X7, e7, st7⟩ := getF X6 hx hZ hown (host := "") (Or.inl (ow hw 18 rfl)) Via.refl e6 pf5 (g := (mkF m 41 #[rv a0, rv a1, rv a1] [(.ref a1), (.ref u)])) rfl rfl (hb hby d17_41)
 obtain ⟨_, _, ⟨T8, L8, k8, n8⟩, -, X8, ⟨Lc8, hQ8, l8, y8, z8⟩, st8⟩ := Jvm.LawKit.callS X7 hx (y := y18) hown (mvT hZ (ow hw 82 rfl)) (mvT hZ (ow hw 83 rfl)) (mvT hZ (ow hw 46 rfl)) (mvT hZ (ow hw 84 rfl)) (by decide) (backOf (W := 0) (rm18_7_7 l Z ar hw [] u w _ _ _ _ _ _ _ _ _ _ _ _ _ _ _ _ h0 n0 O0 pf6 pf7) hZ (ow hw 84 rfl) (ow hw 46 rfl) (by decide) (by decide)) (g := (mkF m 44 #[rv a0, rv a1, rv a1] [(.ref w), (.ref u)])) rfl (by rw [hml]; rfl) (argsL := [(.ref u), (.ref w)]) (rest := []) (lenOf pd_11 rfl) rfl (by show 2 * 0 + _ ≤ _; exact Nat.le_of_eq rfl) (hb hby d17_44) (fun _ _ => ⟨rfl, e7, (by decide : 0 + 0 ≤ _), (by decide : 0 + 0 ≤ _)⟩)
 dsimp only [Pt.U, Pt.locs, Pt.cells, Pt.slots] at X8 l8 y8 z8 st8 hQ8
 subst l8 y8 z8
 obtain ⟨rfl, N8q, e8⟩ := hQ8
 have N8 := Fr.app N0 N8q
 have pre9 : ∀ tg, AT p e below T8 m 47 #[rv a0, rv a1, rv a1] [(.int (f18_7_7 x0 x1 x2 x3 x4 x5 x6 y0 y1 y2 y3 y4 y5 y6))] tg → Steps p.tables e below S0 tg := fun tg kg => pre0 tg (by
  refine XS.aloadN X0.here hx rfl (hb hby d17_0) rfl rfl ?_
  refine XS.aloadN X0.here hx rfl (hb hby d17_1) rfl rfl ?_
  show AT p e below s₁ m 2 #[rv a0, rv a1, un] [(.ref a1), (.ref a0)] _
  refine Jvm.RoadKit.acmp (g := (mkF m 2 #[rv a0, rv a1, un] [(.ref a1), (.ref a0)])) X0 hx rfl rfl rfl (pc0 := 2) (pc' := 7) (same := false) rfl (hb hby d17_2) rfl (decide_eq_false fun q => (pf8 : ¬ (a0 = a1)) (Value.ref.inj q)) (by decide) (by decide) ?_
  refine XS.aloadN X0.here hx rfl (hb hby d17_7) rfl rfl ?_
  refine st1 _ ?_
  show AT p e below T1 m 11 #[rv a0, rv a1, un] [(.int (1 : Int32))] _
  refine XS.ifNo X1.here hx rfl (hb hby d17_11) rfl (XT.i0_eq_f ((by decide) : ¬ ((1 : Int32) = (0 : Int32)))) ?_
  refine XS.aloadN X1.here hx rfl (hb hby d17_14) rfl rfl ?_
  refine st2 _ ?_
  refine XS.astoreN X2.here hx rfl (hb hby d17_18) rfl rfl (l' := #[rv a0, rv a1, rv a1]) rfl ?_
  refine st3 _ ?_
  show AT p e below T3 m 22 #[rv a0, rv a1, rv a1] [(.int w_z0)] _
  refine XS.ifNo X3.here hx rfl (hb hby d17_22) rfl (XT.i0_eq_f (hz_w_z0 : ¬ (w_z0 = (0 : Int32)))) ?_
  refine XS.aloadN X3.here hx rfl (hb hby d17_25) rfl rfl ?_
  refine st4 _ ?_
  refine XS.aloadN X4.here hx rfl (hb hby d17_29) rfl rfl ?_
  refine st5 _ ?_
  show AT p e below T5 m 33 #[rv a0, rv a1, rv a1] [(.int (0 : Int32)), (.int (0 : Int32))] _
  refine XS.icmpNo X5.here hx rfl (hb hby d17_33) rfl (XT.ii_ne_f ((by decide) : (0 : Int32) = (0 : Int32))) ?_
  refine XS.aloadN X5.here hx rfl (hb hby d17_36) rfl rfl ?_
  refine st6 _ ?_
  refine XS.aloadN X6.here hx rfl (hb hby d17_40) rfl rfl ?_
  refine st7 _ ?_
  refine st8 _ ?_
  exact kg)
 rcases Decidable.em ((f18_7_7 x0 x1 x2 x3 x4 x5 x6 y0 y1 y2 y3 y4 y5 y6) = (0 : Int32)) with hc10 | hc10
 ·
  obtain ⟨fs, hr, hrun, hended, hW, hsame⟩ := X8.leave (v := some (.int (0 : Int32))) (fun h => by rw [Bd.returns] at h; cases h) hlk
  subst hS0
  refine ⟨_, _, pre9 _ ?_, hrun, hended, _, _, rfl, ?_, ⟨_, rfl⟩, hW, hsame.mono (by decide) (by decide)⟩
  ·
   refine XS.ifYes X8.here hx rfl (pc0 := 47) (pc' := 54) rfl (hb hby d17_47) rfl (XT.i0_eq_t hc10) (by decide) (by decide) ?_
   refine XS.iconst X8.here hx rfl (hb hby d17_54) ?_
   exact retN X8 hx (t := .boolean) Bd.returns (by simp) (hb hby d17_55) hr
  ·
   show Q17_7_7 Z a0 a1 u w ka kb x0 x1 x2 x3 x4 x5 x6 y0 y1 y2 y3 y4 y5 y6 h0 n0 _ T8.heap _
   rw [e8]
   exact ⟨(by rw [f17_7_7, if_pos hc10]), N8, rfl⟩
 ·
  obtain ⟨fs, hr, hrun, hended, hW, hsame⟩ := X8.leave (v := some (.int (1 : Int32))) (fun h => by rw [Bd.returns] at h; cases h) hlk
  subst hS0
  refine ⟨_, _, pre9 _ ?_, hrun, hended, _, _, rfl, ?_, ⟨_, rfl⟩, hW, hsame.mono (by decide) (by decide)⟩
  ·
   refine XS.ifNo X8.here hx rfl (hb hby d17_47) rfl (XT.i0_eq_f hc10) ?_
   refine XS.iconst X8.here hx rfl (hb hby d17_50) ?_
   refine XS.goto X8.here hx rfl (pc0 := 51) (pc' := 55) rfl (hb hby d17_51) (by decide) (by decide) ?_
   exact retN X8 hx (t := .boolean) Bd.returns (by simp) (hb hby d17_55) hr
  ·
   show Q17_7_7 Z a0 a1 u w ka kb x0 x1 x2 x3 x4 x5 x6 y0 y1 y2 y3 y4 y5 y6 h0 n0 _ T8.heap _
   rw [e8]
   exact ⟨(by rw [f17_7_7, if_neg hc10]), N8, rfl⟩

theorem ef_19_7 (m : MethodId) (a0 : Addr) : entryFrame m #[(.ref a0)] 6 = mkF m 0 #[rv a0, un, un, un, un, un] [] := by first | (simp [entryFrame, mkF, argsToLocals, Value.category]; done) | rfl
def f19_7 (w_z2 : Addr) (y0 : Int32) (y1 : Int32) (y2 : Int32) (y3 : Int32) (y4 : Int32) (y5 : Int32) (y6 : Int32) : Value := if (f17_7_7 (114 : Int32) (117 : Int32) (110 : Int32) (110 : Int32) (105 : Int32) (110 : Int32) (103 : Int32) y0 y1 y2 y3 y4 y5 y6) = (0 : Int32) then .null else (.ref w_z2)
def Q19_7 (Z : State) (a0 : Addr) (w_z2 : Addr) (u : Addr) (ku : ClassId) (y0 : Int32) (y1 : Int32) (y2 : Int32) (y3 : Int32) (y4 : Int32) (y5 : Int32) (y6 : Int32) (h0 : Heap) (n0 : Nat) (v : Option Value) (h : Heap) (L : List Loc) : Prop := v = some (f19_7 w_z2 y0 y1 y2 y3 y4 y5 y6) ∧ Fr n0 L ∧ Keep h0 h []
abbrev R19_7 : Room := ({ frames := 2, cells := 1, slots := 3, locals := 28 } : Room)
set_option maxRecDepth 65536 in
set_option maxHeartbeats 40000000 in
theorem rm19_7 (l : Launch) (Z : State) (ar : Array Value) (hw : ∀ d ∈ tables_1, d.before ar Z = true) (ws : List Jvm.Cond) (a0 : Addr) (u : Addr) (ku : ClassId) (y0 : Int32) (y1 : Int32) (y2 : Int32) (y3 : Int32) (y4 : Int32) (y5 : Int32) (y6 : Int32) (h0 : Heap) (n0 : Nat) (O0 : Old Z n0 h0) (HW : Wd Z w_z0 w_z1 w_z2 w_z3 w_z4 w_z5 w_z6 w_z7 w_z8 w_z9 w_z10 w_z11 k_z3 k_z7 k_z9 k_z11) (pf0 : Exa Z h0 a0 "java/lang/String") (pf1 : Fld Z h0 a0 "java/lang/String" "coder" "B" (.int (0 : Int32))) (pf2 : Fld Z h0 a0 "java/lang/String" "value" "[B" (.ref u)) (pf3 : Arv Z h0 u ku .byte (7 : Int32) [(.int y0), (.int y1), (.int y2), (.int y3), (.int y4), (.int y5), (.int y6)] (.int (0 : Int32))) (pf4 : n0 ≤ a0) :
    MetFree l y19 (head1 (Jvm.Cond.code y19 prog_10_method_6_code 6 (some (.object "com/example/lease/lease/WorkerState")) :: ws) R19_7) (fun a U => a = #[(.ref a0)] ∧ Z.Warmed39 U.vm ∧ U.heap = h0) (fun _ _ _ _ _ => True) (fun _ U o U' => ∃ v L, o = .returned v ∧ Q19_7 Z a0 w_z2 u ku y0 y1 y2 y3 y4 y5 y6 h0 n0 v U'.heap L ∧ FrameEnd U o U' L R19_7.cells R19_7.slots) := by
 refine MetFree.of_bodySF (plainFor_of_name pn_4) hisR ?_
 intro p e s m args below meth c s₁ Bd hml0 hP hK
 obtain ⟨rfl, hZ, hh⟩ := hP
 have hx := Bd.exec
 have hby := Bd.bytes
 have hml : c.maxLocals = 6 := hml0
 have hown : s.vm.findClass "com/example/lease/lease/WorkerState" = some m.cls := findClass_of_methodNamed Bd.named
 have hnm := (name_of_methodNamed Bd.named Bd.method).1
 have hlk : meth.locks = false := by first | assumption | exact BodyLoose.notSynchronized (by assumption) | exact Body.notSynchronized (by assumption)
 have X0 : Stand p l e R19_7 s m #[(.ref a0)] below meth c s₁ [] 0 0 := Stand.of_body Bd
 have e0 : s₁.heap = h0 := by rw [← hh, Bd.state]; rfl
 have N0 := Fr.nil n0
 have Z0 : n0 ≤ h0.size := Nat.le_trans (Nat.le_of_eq O0.1.symm) O0.2.1
 obtain ⟨S0, hS0⟩ : ∃ z, z = s₁.setTop (entryFrame m #[(.ref a0)] 6) := ⟨_, rfl⟩
 have pre0 : ∀ tg, AT p e below s₁ m 0 #[rv a0, un, un, un, un, un] [] tg → Steps p.tables e below S0 tg := fun tg kg => by rw [hS0]; exact castTop (ef_19_7 m a0) kg
 obtain ⟨-, -, -, -, -, -, -, -, -, -, -, -, F_shown_z2, E_z6, F_coder_z6, F_value_z6, F_shown_z4, E_z8, F_coder_z8, F_value_z8, F_shown_z5, E_z10, F_coder_z10, F_value_z10, -, V_z7, V_z9, V_z11⟩ := id HW
 obtain ⟨_, _, ⟨T1, L1, k1, n1⟩, -, X1, ⟨Lc1, hQ1, l1, y1, z1⟩, st1⟩ := Jvm.LawKit.callS X0 hx (y := y20) hown (mvT hZ (ow hw 91 rfl)) (mvT hZ (ow hw 92 rfl)) (mvT hZ (ow hw 86 rfl)) (mvT hZ (ow hw 93 rfl)) (by decide) (backOf (W := 0) (rm20 l Z ar hw []  h0 n0 O0 HW) hZ (ow hw 93 rfl) (ow hw 86 rfl) (by decide) (by decide)) (g := (mkF m 2 #[rv a0, .val .null, un, un, un, un] [])) rfl (by rw [hml]; rfl) (argsL := []) (rest := []) (lenOf pd_12 rfl) rfl (by show 2 * 0 + _ ≤ _; exact Nat.le_of_eq rfl) (hb hby d19_2) (fun _ _ => ⟨rfl, e0, (by decide : 0 + 1 ≤ _), (by decide : 0 + 3 ≤ _)⟩)
 dsimp only [Pt.U, Pt.locs, Pt.cells, Pt.slots] at X1 l1 y1 z1 st1 hQ1
 subst l1 y1 z1
 obtain ⟨b_1, kb_1, rfl, N1q, Kq1, u1_0, u1_1, u1_2⟩ := hQ1
 have N1 := Fr.app N0 N1q
 have E1_2 := pf0.keep Kq1
 have F1_3 := pf1.keep Kq1 nin0
 have F1_4 := pf2.keep Kq1 nin0
 have V1_5 := pf3.keep Kq1 nin0
 have K1 := (Keep.refl h0 []).trans Kq1 all0
 have O1 := O0.keep Kq1 all0
 have sz6 : h0.size ≤ b_1 := Nat.le_trans (Keep.refl h0 []).1 u1_1
 have gn6 : n0 ≤ b_1 := Nat.le_trans (Nat.le_trans (Nat.le_of_eq O0.1.symm) O0.2.1) u1_1
 have ne7 : a0 ≠ b_1 := Nat.ne_of_lt (Nat.lt_of_lt_of_le (pf0).lt u1_1)
 have ne8 : u ≠ b_1 := Nat.ne_of_lt (Nat.lt_of_lt_of_le (pf3).lt u1_1)
 obtain ⟨cl9, Ar9, q9, S9, N9, H9, G9⟩ := id u1_0
 obtain ⟨cl10, Ar10, q10, S10, N10, H10, G10⟩ := id u1_0
 have hin10 := own_in (0 : Int32) S10 ⟨by decide, by decide⟩
 have hat10 : cl10.slots[((0 : Int32)).toNatClampNeg]? = some (.ref w_z2) := Has.at H10 hin10 rfl
 obtain ⟨T11, X11, e11, st11⟩ := getF X1 hx hZ hown (host := "") (Or.inl (ow hw 108 rfl)) Via.refl rfl (F_shown_z2.ext O1.2) (g := (mkF m 26 #[rv a0, .val .null, rv b_1, iv (3 : Int32), iv (0 : Int32), rv w_z2] [(.ref w_z2)])) rfl rfl (hb hby d19_26)
 obtain ⟨cq12, kq12, q12a, q12b, q12c⟩ := isOf hZ e11 (E_z6.ext O1.2)
 obtain ⟨_, _, ⟨T12, L12, k12, n12⟩, -, X12, ⟨Lc12, hQ12, l12, y12, z12⟩, st12⟩ := X11.virtualBack hx (y := y17) (z := y17) hown (mvT hZ (ow hw 110 rfl)) (mvT hZ (ow hw 77 rfl)) (notFace_of_selects (args := #[]) (mvT hZ (ow hw 79 rfl))) (mvT hZ (ow hw 79 rfl)) (mvT hZ (ow hw 78 rfl)) (by decide) (backOf (W := 0) (rm17_7_7 l Z ar hw [] w_z6 a0 _ _ _ _ _ _ _ _ _ _ _ _ _ _ _ _ _ _ T1.heap n0 O1 HW (E_z6.ext O1.2) E1_2 (F_coder_z6.ext O1.2) F1_3 (F_value_z6.ext O1.2) F1_4 (V_z7.ext O1.2) V1_5 (Old.ne O1 E_z6.lt pf4)) hZ (ow hw 80 rfl) (ow hw 6 rfl) (by decide) (by decide)) q12a q12c (g := (mkF m 30 #[rv a0, .val .null, rv b_1, iv (3 : Int32), iv (0 : Int32), rv w_z2] [(.ref a0), (.ref w_z6)])) rfl (by rw [hml]; rfl) (Steps.refl _) (argsL := [(.ref a0)]) (rest := []) (lenOf pd_13 rfl) rfl (by show 2 * 0 + _ ≤ _; exact Nat.le_of_eq rfl) (hb hby d19_30) (fun _ _ => ⟨rfl, e11, (by decide : 1 + 0 ≤ _), (by decide : 3 + 0 ≤ _)⟩)
 dsimp only [Pt.U, Pt.locs, Pt.cells, Pt.slots] at X12 l12 y12 z12 st12 hQ12
 subst l12 y12 z12
 obtain ⟨rfl, N12q, e12⟩ := hQ12
 have N12 := Fr.app N1 N12q
 have pre13 : ∀ tg, AT p e below T12 m 33 #[rv a0, .val .null, rv b_1, iv (3 : Int32), iv (0 : Int32), rv w_z2] [(.int (f17_7_7 (114 : Int32) (117 : Int32) (110 : Int32) (110 : Int32) (105 : Int32) (110 : Int32) (103 : Int32) y0 y1 y2 y3 y4 y5 y6))] tg → Steps p.tables e below S0 tg := fun tg kg => pre0 tg (by
  refine XS.aconstNull X0.here hx rfl (hb hby d19_0) ?_
  refine XS.astoreN X0.here hx rfl (hb hby d19_1) rfl rfl (l' := #[rv a0, .val .null, un, un, un, un]) rfl ?_
  refine st1 _ ?_
  refine XS.astoreN X1.here hx rfl (hb hby d19_5) rfl rfl (l' := #[rv a0, .val .null, rv b_1, un, un, un]) rfl ?_
  refine XS.aloadN X1.here hx rfl (hb hby d19_6) rfl rfl ?_
  refine X1.arraylength hx Ar9.1 (State.isArrayOf_alike hZ.alike Ar9.2.1) (g := (mkF m 7 #[rv a0, .val .null, rv b_1, un, un, un] [(.ref b_1)])) rfl rfl (hb hby d19_7) _ ?_
  rw [len_of S9 N9]
  refine XS.istoreN X1.here hx rfl (hb hby d19_8) rfl (l' := #[rv a0, .val .null, rv b_1, iv (3 : Int32), un, un]) rfl ?_
  refine XS.iconst X1.here hx rfl (hb hby d19_9) ?_
  refine XS.istore X1.here hx rfl (hb hby d19_10) rfl (l' := #[rv a0, .val .null, rv b_1, iv (3 : Int32), iv (0 : Int32), un]) rfl ?_
  refine XS.iload X1.here hx rfl (hb hby d19_12) rfl ?_
  refine XS.iloadN X1.here hx rfl (hb hby d19_14) rfl ?_
  show AT p e below T1 m 15 #[rv a0, .val .null, rv b_1, iv (3 : Int32), iv (0 : Int32), un] [(.int (3 : Int32)), (.int (0 : Int32))] _
  refine XS.icmpNo X1.here hx rfl (hb hby d19_15) rfl (XT.ii_ge_f ((by decide) : (0 : Int32) < (3 : Int32))) ?_
  refine XS.aloadN X1.here hx rfl (hb hby d19_18) rfl rfl ?_
  refine XS.iload X1.here hx rfl (hb hby d19_19) rfl ?_
  refine X1.aaload hx (j := (0 : Int32)) (v := (.ref w_z2)) Ar10.1 (State.isArrayOf_alike hZ.alike Ar10.2.1) rfl Ar10.2.2 hin10 hat10 (g := (mkF m 21 #[rv a0, .val .null, rv b_1, iv (3 : Int32), iv (0 : Int32), un] [(.int (0 : Int32)), (.ref b_1)])) rfl rfl (hb hby d19_21) _ ?_
  refine XS.astore X1.here hx rfl (hb hby d19_22) rfl rfl (l' := #[rv a0, .val .null, rv b_1, iv (3 : Int32), iv (0 : Int32), rv w_z2]) rfl ?_
  refine XS.aload X1.here hx rfl (hb hby d19_24) rfl rfl ?_
  refine st11 _ ?_
  refine XS.aloadN X11.here hx rfl (hb hby d19_29) rfl rfl ?_
  refine st12.trans ?_
  exact kg)
 rcases Decidable.em ((f17_7_7 (114 : Int32) (117 : Int32) (110 : Int32) (110 : Int32) (105 : Int32) (110 : Int32) (103 : Int32) y0 y1 y2 y3 y4 y5 y6) = (0 : Int32)) with hc14 | hc14
 ·
  obtain ⟨cl15, Ar15, q15, S15, N15, H15, G15⟩ := id u1_0
  have hin15 := own_in (1 : Int32) S15 ⟨by decide, by decide⟩
  have hat15 : cl15.slots[((1 : Int32)).toNatClampNeg]? = some (.ref w_z4) := Has.at H15 hin15 rfl
  obtain ⟨T16, X16, e16, st16⟩ := getF X12 hx hZ hown (host := "") (Or.inl (ow hw 108 rfl)) Via.refl e12 (F_shown_z4.ext O1.2) (g := (mkF m 26 #[rv a0, .val .null, rv b_1, iv (3 : Int32), iv (1 : Int32), rv w_z4] [(.ref w_z4)])) rfl rfl (hb hby d19_26)
  obtain ⟨cq17, kq17, q17a, q17b, q17c⟩ := isOf hZ e16 (E_z8.ext O1.2)
  obtain ⟨_, _, ⟨T17, L17, k17, n17⟩, -, X17, ⟨Lc17, hQ17, l17, y17, z17⟩, st17⟩ := X16.virtualBack hx (y := y17) (z := y17) hown (mvT hZ (ow hw 110 rfl)) (mvT hZ (ow hw 77 rfl)) (notFace_of_selects (args := #[]) (mvT hZ (ow hw 79 rfl))) (mvT hZ (ow hw 79 rfl)) (mvT hZ (ow hw 78 rfl)) (by decide) (backOf (W := 0) (rm17_z l Z ar hw [] w_z8 a0 _ _ _ _ _ _ _ _ T1.heap n0 O1 HW (E_z8.ext O1.2) E1_2 (F_coder_z8.ext O1.2) F1_3 (F_value_z8.ext O1.2) F1_4 (V_z9.ext O1.2) V1_5 (Old.ne O1 E_z8.lt pf4) (by decide)) hZ (ow hw 80 rfl) (ow hw 6 rfl) (by decide) (by decide)) q17a q17c (g := (mkF m 30 #[rv a0, .val .null, rv b_1, iv (3 : Int32), iv (1 : Int32), rv w_z4] [(.ref a0), (.ref w_z8)])) rfl (by rw [hml]; rfl) (Steps.refl _) (argsL := [(.ref a0)]) (rest := []) (lenOf pd_13 rfl) rfl (by show 2 * 0 + _ ≤ _; exact Nat.le_of_eq rfl) (hb hby d19_30) (fun _ _ => ⟨rfl, e16, (by decide : 1 + 0 ≤ _), (by decide : 3 + 0 ≤ _)⟩)
  dsimp only [Pt.U, Pt.locs, Pt.cells, Pt.slots] at X17 l17 y17 z17 st17 hQ17
  subst l17 y17 z17
  obtain ⟨rfl, N17q, e17⟩ := hQ17
  have N17 := Fr.app N12 N17q
  obtain ⟨cl18, Ar18, q18, S18, N18, H18, G18⟩ := id u1_0
  have hin18 := own_in (2 : Int32) S18 ⟨by decide, by decide⟩
  have hat18 : cl18.slots[((2 : Int32)).toNatClampNeg]? = some (.ref w_z5) := Has.at H18 hin18 rfl
  obtain ⟨T19, X19, e19, st19⟩ := getF X17 hx hZ hown (host := "") (Or.inl (ow hw 108 rfl)) Via.refl e17 (F_shown_z5.ext O1.2) (g := (mkF m 26 #[rv a0, .val .null, rv b_1, iv (3 : Int32), iv (2 : Int32), rv w_z5] [(.ref w_z5)])) rfl rfl (hb hby d19_26)
  obtain ⟨cq20, kq20, q20a, q20b, q20c⟩ := isOf hZ e19 (E_z10.ext O1.2)
  obtain ⟨_, _, ⟨T20, L20, k20, n20⟩, -, X20, ⟨Lc20, hQ20, l20, y20, z20⟩, st20⟩ := X19.virtualBack hx (y := y17) (z := y17) hown (mvT hZ (ow hw 110 rfl)) (mvT hZ (ow hw 77 rfl)) (notFace_of_selects (args := #[]) (mvT hZ (ow hw 79 rfl))) (mvT hZ (ow hw 79 rfl)) (mvT hZ (ow hw 78 rfl)) (by decide) (backOf (W := 0) (rm17_z l Z ar hw [] w_z10 a0 _ _ _ _ _ _ _ _ T1.heap n0 O1 HW (E_z10.ext O1.2) E1_2 (F_coder_z10.ext O1.2) F1_3 (F_value_z10.ext O1.2) F1_4 (V_z11.ext O1.2) V1_5 (Old.ne O1 E_z10.lt pf4) (by decide)) hZ (ow hw 80 rfl) (ow hw 6 rfl) (by decide) (by decide)) q20a q20c (g := (mkF m 30 #[rv a0, .val .null, rv b_1, iv (3 : Int32), iv (2 : Int32), rv w_z5] [(.ref a0), (.ref w_z10)])) rfl (by rw [hml]; rfl) (Steps.refl _) (argsL := [(.ref a0)]) (rest := []) (lenOf pd_13 rfl) rfl (by show 2 * 0 + _ ≤ _; exact Nat.le_of_eq rfl) (hb hby d19_30) (fun _ _ => ⟨rfl, e19, (by decide : 1 + 0 ≤ _), (by decide : 3 + 0 ≤ _)⟩)
  dsimp only [Pt.U, Pt.locs, Pt.cells, Pt.slots] at X20 l20 y20 z20 st20 hQ20
  subst l20 y20 z20
  obtain ⟨rfl, N20q, e20⟩ := hQ20
  have N20 := Fr.app N17 N20q
  obtain ⟨fs, hr, hrun, hended, hW, hsame⟩ := X20.leave (v := some .null) (fun h => by rw [Bd.returns] at h; cases h) hlk
  subst hS0
  refine ⟨_, _, pre13 _ ?_, hrun, hended, _, _, rfl, ?_, ⟨_, rfl⟩, hW, hsame.mono (by decide) (by decide)⟩
  ·
   refine XS.ifYes X12.here hx rfl (pc0 := 33) (pc' := 39) rfl (hb hby d19_33) rfl (XT.i0_eq_t hc14) (by decide) (by decide) ?_
   refine XS.iinc X12.here hx rfl (hb hby d19_39) rfl (l' := #[rv a0, .val .null, rv b_1, iv (3 : Int32), iv (1 : Int32), rv w_z2]) rfl ?_
   refine XS.goto X12.here hx rfl (pc0 := 42) (pc' := 12) rfl (hb hby d19_42) (by decide) (by decide) ?_
   refine XS.iload X12.here hx rfl (hb hby d19_12) rfl ?_
   refine XS.iloadN X12.here hx rfl (hb hby d19_14) rfl ?_
   show AT p e below T12 m 15 #[rv a0, .val .null, rv b_1, iv (3 : Int32), iv (1 : Int32), rv w_z2] [(.int (3 : Int32)), (.int (1 : Int32))] _
   refine XS.icmpNo X12.here hx rfl (hb hby d19_15) rfl (XT.ii_ge_f ((by decide) : (1 : Int32) < (3 : Int32))) ?_
   refine XS.aloadN X12.here hx rfl (hb hby d19_18) rfl rfl ?_
   refine XS.iload X12.here hx rfl (hb hby d19_19) rfl ?_
   refine X12.aaload hx (j := (1 : Int32)) (v := (.ref w_z4)) (by rw [e12]; exact Ar15.1) (State.isArrayOf_alike hZ.alike Ar15.2.1) rfl Ar15.2.2 hin15 hat15 (g := (mkF m 21 #[rv a0, .val .null, rv b_1, iv (3 : Int32), iv (1 : Int32), rv w_z2] [(.int (1 : Int32)), (.ref b_1)])) rfl rfl (hb hby d19_21) _ ?_
   refine XS.astore X12.here hx rfl (hb hby d19_22) rfl rfl (l' := #[rv a0, .val .null, rv b_1, iv (3 : Int32), iv (1 : Int32), rv w_z4]) rfl ?_
   refine XS.aload X12.here hx rfl (hb hby d19_24) rfl rfl ?_
   refine st16 _ ?_
   refine XS.aloadN X16.here hx rfl (hb hby d19_29) rfl rfl ?_
   show AT p e below T16 m 30 #[rv a0, .val .null, rv b_1, iv (3 : Int32), iv (1 : Int32), rv w_z4] [(.ref a0), (.ref w_z8)] _
   refine st17.trans ?_
   show AT p e below T17 m 33 #[rv a0, .val .null, rv b_1, iv (3 : Int32), iv (1 : Int32), rv w_z4] [(.int (0 : Int32))] _
   refine XS.ifYes X17.here hx rfl (pc0 := 33) (pc' := 39) rfl (hb hby d19_33) rfl (XT.i0_eq_t ((by decide) : (0 : Int32) = (0 : Int32))) (by decide) (by decide) ?_
   refine XS.iinc X17.here hx rfl (hb hby d19_39) rfl (l' := #[rv a0, .val .null, rv b_1, iv (3 : Int32), iv (2 : Int32), rv w_z4]) rfl ?_
   refine XS.goto X17.here hx rfl (pc0 := 42) (pc' := 12) rfl (hb hby d19_42) (by decide) (by decide) ?_
   refine XS.iload X17.here hx rfl (hb hby d19_12) rfl ?_
   refine XS.iloadN X17.here hx rfl (hb hby d19_14) rfl ?_
   show AT p e below T17 m 15 #[rv a0, .val .null, rv b_1, iv (3 : Int32), iv (2 : Int32), rv w_z4] [(.int (3 : Int32)), (.int (2 : Int32))] _
   refine XS.icmpNo X17.here hx rfl (hb hby d19_15) rfl (XT.ii_ge_f ((by decide) : (2 : Int32) < (3 : Int32))) ?_
   refine XS.aloadN X17.here hx rfl (hb hby d19_18) rfl rfl ?_
   refine XS.iload X17.here hx rfl (hb hby d19_19) rfl ?_
   refine X17.aaload hx (j := (2 : Int32)) (v := (.ref w_z5)) (by rw [e17]; exact Ar18.1) (State.isArrayOf_alike hZ.alike Ar18.2.1) rfl Ar18.2.2 hin18 hat18 (g := (mkF m 21 #[rv a0, .val .null, rv b_1, iv (3 : Int32), iv (2 : Int32), rv w_z4] [(.int (2 : Int32)), (.ref b_1)])) rfl rfl (hb hby d19_21) _ ?_
   refine XS.astore X17.here hx rfl (hb hby d19_22) rfl rfl (l' := #[rv a0, .val .null, rv b_1, iv (3 : Int32), iv (2 : Int32), rv w_z5]) rfl ?_
   refine XS.aload X17.here hx rfl (hb hby d19_24) rfl rfl ?_
   refine st19 _ ?_
   refine XS.aloadN X19.here hx rfl (hb hby d19_29) rfl rfl ?_
   refine st20.trans ?_
   show AT p e below T20 m 33 #[rv a0, .val .null, rv b_1, iv (3 : Int32), iv (2 : Int32), rv w_z5] [(.int (0 : Int32))] _
   refine XS.ifYes X20.here hx rfl (pc0 := 33) (pc' := 39) rfl (hb hby d19_33) rfl (XT.i0_eq_t ((by decide) : (0 : Int32) = (0 : Int32))) (by decide) (by decide) ?_
   refine XS.iinc X20.here hx rfl (hb hby d19_39) rfl (l' := #[rv a0, .val .null, rv b_1, iv (3 : Int32), iv (3 : Int32), rv w_z5]) rfl ?_
   refine XS.goto X20.here hx rfl (pc0 := 42) (pc' := 12) rfl (hb hby d19_42) (by decide) (by decide) ?_
   refine XS.iload X20.here hx rfl (hb hby d19_12) rfl ?_
   refine XS.iloadN X20.here hx rfl (hb hby d19_14) rfl ?_
   show AT p e below T20 m 15 #[rv a0, .val .null, rv b_1, iv (3 : Int32), iv (3 : Int32), rv w_z5] [(.int (3 : Int32)), (.int (3 : Int32))] _
   refine XS.icmpYes X20.here hx rfl (pc0 := 15) (pc' := 45) rfl (hb hby d19_15) rfl (XT.ii_ge_t ((by decide) : ¬ ((3 : Int32) < (3 : Int32)))) (by decide) (by decide) ?_
   refine XS.aloadN X20.here hx rfl (hb hby d19_45) rfl rfl ?_
   exact retOut X20 hx (t := (.object "com/example/lease/lease/WorkerState")) (i := .areturn) Bd.returns rfl (Or.inr (Or.inr (Or.inr (Or.inr ⟨rfl, rfl, rfl⟩)))) (hb hby d19_46) hr
  ·
   show Q19_7 Z a0 w_z2 u ku y0 y1 y2 y3 y4 y5 y6 h0 n0 _ T20.heap _
   rw [e20]
   exact ⟨(by rw [f19_7, if_pos hc14]), N20, K1⟩
 ·
  obtain ⟨cl21, Ar21, q21, S21, N21, H21, G21⟩ := id u1_0
  have hin21 := own_in (1 : Int32) S21 ⟨by decide, by decide⟩
  have hat21 : cl21.slots[((1 : Int32)).toNatClampNeg]? = some (.ref w_z4) := Has.at H21 hin21 rfl
  obtain ⟨T22, X22, e22, st22⟩ := getF X12 hx hZ hown (host := "") (Or.inl (ow hw 108 rfl)) Via.refl e12 (F_shown_z4.ext O1.2) (g := (mkF m 26 #[rv a0, rv w_z2, rv b_1, iv (3 : Int32), iv (1 : Int32), rv w_z4] [(.ref w_z4)])) rfl rfl (hb hby d19_26)
  obtain ⟨cq23, kq23, q23a, q23b, q23c⟩ := isOf hZ e22 (E_z8.ext O1.2)
  obtain ⟨_, _, ⟨T23, L23, k23, n23⟩, -, X23, ⟨Lc23, hQ23, l23, y23, z23⟩, st23⟩ := X22.virtualBack hx (y := y17) (z := y17) hown (mvT hZ (ow hw 110 rfl)) (mvT hZ (ow hw 77 rfl)) (notFace_of_selects (args := #[]) (mvT hZ (ow hw 79 rfl))) (mvT hZ (ow hw 79 rfl)) (mvT hZ (ow hw 78 rfl)) (by decide) (backOf (W := 0) (rm17_z l Z ar hw [] w_z8 a0 _ _ _ _ _ _ _ _ T1.heap n0 O1 HW (E_z8.ext O1.2) E1_2 (F_coder_z8.ext O1.2) F1_3 (F_value_z8.ext O1.2) F1_4 (V_z9.ext O1.2) V1_5 (Old.ne O1 E_z8.lt pf4) (by decide)) hZ (ow hw 80 rfl) (ow hw 6 rfl) (by decide) (by decide)) q23a q23c (g := (mkF m 30 #[rv a0, rv w_z2, rv b_1, iv (3 : Int32), iv (1 : Int32), rv w_z4] [(.ref a0), (.ref w_z8)])) rfl (by rw [hml]; rfl) (Steps.refl _) (argsL := [(.ref a0)]) (rest := []) (lenOf pd_13 rfl) rfl (by show 2 * 0 + _ ≤ _; exact Nat.le_of_eq rfl) (hb hby d19_30) (fun _ _ => ⟨rfl, e22, (by decide : 1 + 0 ≤ _), (by decide : 3 + 0 ≤ _)⟩)
  dsimp only [Pt.U, Pt.locs, Pt.cells, Pt.slots] at X23 l23 y23 z23 st23 hQ23
  subst l23 y23 z23
  obtain ⟨rfl, N23q, e23⟩ := hQ23
  have N23 := Fr.app N12 N23q
  obtain ⟨cl24, Ar24, q24, S24, N24, H24, G24⟩ := id u1_0
  have hin24 := own_in (2 : Int32) S24 ⟨by decide, by decide⟩
  have hat24 : cl24.slots[((2 : Int32)).toNatClampNeg]? = some (.ref w_z5) := Has.at H24 hin24 rfl
  obtain ⟨T25, X25, e25, st25⟩ := getF X23 hx hZ hown (host := "") (Or.inl (ow hw 108 rfl)) Via.refl e23 (F_shown_z5.ext O1.2) (g := (mkF m 26 #[rv a0, rv w_z2, rv b_1, iv (3 : Int32), iv (2 : Int32), rv w_z5] [(.ref w_z5)])) rfl rfl (hb hby d19_26)
  obtain ⟨cq26, kq26, q26a, q26b, q26c⟩ := isOf hZ e25 (E_z10.ext O1.2)
  obtain ⟨_, _, ⟨T26, L26, k26, n26⟩, -, X26, ⟨Lc26, hQ26, l26, y26, z26⟩, st26⟩ := X25.virtualBack hx (y := y17) (z := y17) hown (mvT hZ (ow hw 110 rfl)) (mvT hZ (ow hw 77 rfl)) (notFace_of_selects (args := #[]) (mvT hZ (ow hw 79 rfl))) (mvT hZ (ow hw 79 rfl)) (mvT hZ (ow hw 78 rfl)) (by decide) (backOf (W := 0) (rm17_z l Z ar hw [] w_z10 a0 _ _ _ _ _ _ _ _ T1.heap n0 O1 HW (E_z10.ext O1.2) E1_2 (F_coder_z10.ext O1.2) F1_3 (F_value_z10.ext O1.2) F1_4 (V_z11.ext O1.2) V1_5 (Old.ne O1 E_z10.lt pf4) (by decide)) hZ (ow hw 80 rfl) (ow hw 6 rfl) (by decide) (by decide)) q26a q26c (g := (mkF m 30 #[rv a0, rv w_z2, rv b_1, iv (3 : Int32), iv (2 : Int32), rv w_z5] [(.ref a0), (.ref w_z10)])) rfl (by rw [hml]; rfl) (Steps.refl _) (argsL := [(.ref a0)]) (rest := []) (lenOf pd_13 rfl) rfl (by show 2 * 0 + _ ≤ _; exact Nat.le_of_eq rfl) (hb hby d19_30) (fun _ _ => ⟨rfl, e25, (by decide : 1 + 0 ≤ _), (by decide : 3 + 0 ≤ _)⟩)
  dsimp only [Pt.U, Pt.locs, Pt.cells, Pt.slots] at X26 l26 y26 z26 st26 hQ26
  subst l26 y26 z26
  obtain ⟨rfl, N26q, e26⟩ := hQ26
  have N26 := Fr.app N23 N26q
  obtain ⟨fs, hr, hrun, hended, hW, hsame⟩ := X26.leave (v := some (.ref w_z2)) (fun h => by rw [Bd.returns] at h; cases h) hlk
  subst hS0
  refine ⟨_, _, pre13 _ ?_, hrun, hended, _, _, rfl, ?_, ⟨_, rfl⟩, hW, hsame.mono (by decide) (by decide)⟩
  ·
   refine XS.ifNo X12.here hx rfl (hb hby d19_33) rfl (XT.i0_eq_f hc14) ?_
   refine XS.aload X12.here hx rfl (hb hby d19_36) rfl rfl ?_
   refine XS.astoreN X12.here hx rfl (hb hby d19_38) rfl rfl (l' := #[rv a0, rv w_z2, rv b_1, iv (3 : Int32), iv (0 : Int32), rv w_z2]) rfl ?_
   refine XS.iinc X12.here hx rfl (hb hby d19_39) rfl (l' := #[rv a0, rv w_z2, rv b_1, iv (3 : Int32), iv (1 : Int32), rv w_z2]) rfl ?_
   refine XS.goto X12.here hx rfl (pc0 := 42) (pc' := 12) rfl (hb hby d19_42) (by decide) (by decide) ?_
   refine XS.iload X12.here hx rfl (hb hby d19_12) rfl ?_
   refine XS.iloadN X12.here hx rfl (hb hby d19_14) rfl ?_
   show AT p e below T12 m 15 #[rv a0, rv w_z2, rv b_1, iv (3 : Int32), iv (1 : Int32), rv w_z2] [(.int (3 : Int32)), (.int (1 : Int32))] _
   refine XS.icmpNo X12.here hx rfl (hb hby d19_15) rfl (XT.ii_ge_f ((by decide) : (1 : Int32) < (3 : Int32))) ?_
   refine XS.aloadN X12.here hx rfl (hb hby d19_18) rfl rfl ?_
   refine XS.iload X12.here hx rfl (hb hby d19_19) rfl ?_
   refine X12.aaload hx (j := (1 : Int32)) (v := (.ref w_z4)) (by rw [e12]; exact Ar21.1) (State.isArrayOf_alike hZ.alike Ar21.2.1) rfl Ar21.2.2 hin21 hat21 (g := (mkF m 21 #[rv a0, rv w_z2, rv b_1, iv (3 : Int32), iv (1 : Int32), rv w_z2] [(.int (1 : Int32)), (.ref b_1)])) rfl rfl (hb hby d19_21) _ ?_
   refine XS.astore X12.here hx rfl (hb hby d19_22) rfl rfl (l' := #[rv a0, rv w_z2, rv b_1, iv (3 : Int32), iv (1 : Int32), rv w_z4]) rfl ?_
   refine XS.aload X12.here hx rfl (hb hby d19_24) rfl rfl ?_
   show AT p e below T12 m 26 #[rv a0, rv w_z2, rv b_1, iv (3 : Int32), iv (1 : Int32), rv w_z4] [(.ref w_z4)] _
   refine st22 _ ?_
   refine XS.aloadN X22.here hx rfl (hb hby d19_29) rfl rfl ?_
   refine st23.trans ?_
   show AT p e below T23 m 33 #[rv a0, rv w_z2, rv b_1, iv (3 : Int32), iv (1 : Int32), rv w_z4] [(.int (0 : Int32))] _
   refine XS.ifYes X23.here hx rfl (pc0 := 33) (pc' := 39) rfl (hb hby d19_33) rfl (XT.i0_eq_t ((by decide) : (0 : Int32) = (0 : Int32))) (by decide) (by decide) ?_
   refine XS.iinc X23.here hx rfl (hb hby d19_39) rfl (l' := #[rv a0, rv w_z2, rv b_1, iv (3 : Int32), iv (2 : Int32), rv w_z4]) rfl ?_
   refine XS.goto X23.here hx rfl (pc0 := 42) (pc' := 12) rfl (hb hby d19_42) (by decide) (by decide) ?_
   refine XS.iload X23.here hx rfl (hb hby d19_12) rfl ?_
   refine XS.iloadN X23.here hx rfl (hb hby d19_14) rfl ?_
   show AT p e below T23 m 15 #[rv a0, rv w_z2, rv b_1, iv (3 : Int32), iv (2 : Int32), rv w_z4] [(.int (3 : Int32)), (.int (2 : Int32))] _
   refine XS.icmpNo X23.here hx rfl (hb hby d19_15) rfl (XT.ii_ge_f ((by decide) : (2 : Int32) < (3 : Int32))) ?_
   refine XS.aloadN X23.here hx rfl (hb hby d19_18) rfl rfl ?_
   refine XS.iload X23.here hx rfl (hb hby d19_19) rfl ?_
   refine X23.aaload hx (j := (2 : Int32)) (v := (.ref w_z5)) (by rw [e23]; exact Ar24.1) (State.isArrayOf_alike hZ.alike Ar24.2.1) rfl Ar24.2.2 hin24 hat24 (g := (mkF m 21 #[rv a0, rv w_z2, rv b_1, iv (3 : Int32), iv (2 : Int32), rv w_z4] [(.int (2 : Int32)), (.ref b_1)])) rfl rfl (hb hby d19_21) _ ?_
   refine XS.astore X23.here hx rfl (hb hby d19_22) rfl rfl (l' := #[rv a0, rv w_z2, rv b_1, iv (3 : Int32), iv (2 : Int32), rv w_z5]) rfl ?_
   refine XS.aload X23.here hx rfl (hb hby d19_24) rfl rfl ?_
   refine st25 _ ?_
   refine XS.aloadN X25.here hx rfl (hb hby d19_29) rfl rfl ?_
   refine st26.trans ?_
   show AT p e below T26 m 33 #[rv a0, rv w_z2, rv b_1, iv (3 : Int32), iv (2 : Int32), rv w_z5] [(.int (0 : Int32))] _
   refine XS.ifYes X26.here hx rfl (pc0 := 33) (pc' := 39) rfl (hb hby d19_33) rfl (XT.i0_eq_t ((by decide) : (0 : Int32) = (0 : Int32))) (by decide) (by decide) ?_
   refine XS.iinc X26.here hx rfl (hb hby d19_39) rfl (l' := #[rv a0, rv w_z2, rv b_1, iv (3 : Int32), iv (3 : Int32), rv w_z5]) rfl ?_
   refine XS.goto X26.here hx rfl (pc0 := 42) (pc' := 12) rfl (hb hby d19_42) (by decide) (by decide) ?_
   refine XS.iload X26.here hx rfl (hb hby d19_12) rfl ?_
   refine XS.iloadN X26.here hx rfl (hb hby d19_14) rfl ?_
   show AT p e below T26 m 15 #[rv a0, rv w_z2, rv b_1, iv (3 : Int32), iv (3 : Int32), rv w_z5] [(.int (3 : Int32)), (.int (3 : Int32))] _
   refine XS.icmpYes X26.here hx rfl (pc0 := 15) (pc' := 45) rfl (hb hby d19_15) rfl (XT.ii_ge_t ((by decide) : ¬ ((3 : Int32) < (3 : Int32)))) (by decide) (by decide) ?_
   refine XS.aloadN X26.here hx rfl (hb hby d19_45) rfl rfl ?_
   exact retOut X26 hx (t := (.object "com/example/lease/lease/WorkerState")) (i := .areturn) Bd.returns rfl (Or.inr (Or.inr (Or.inr (Or.inr ⟨rfl, rfl, rfl⟩)))) (hb hby d19_46) hr
  ·
   show Q19_7 Z a0 w_z2 u ku y0 y1 y2 y3 y4 y5 y6 h0 n0 _ T26.heap _
   rw [e26]
   exact ⟨(by rw [f19_7, if_neg hc14]), N26, K1⟩

theorem ef_18_9_9 (m : MethodId) (a0 : Addr) (a1 : Addr) : entryFrame m #[(.ref a0), (.ref a1)] 3 = mkF m 0 #[rv a0, rv a1, un] [] := by first | (simp [entryFrame, mkF, argsToLocals, Value.category]; done) | rfl
def f18_9_9 (x0 : Int32) (x1 : Int32) (x2 : Int32) (x3 : Int32) (x4 : Int32) (x5 : Int32) (x6 : Int32) (x7 : Int32) (x8 : Int32) (y0 : Int32) (y1 : Int32) (y2 : Int32) (y3 : Int32) (y4 : Int32) (y5 : Int32) (y6 : Int32) (y7 : Int32) (y8 : Int32) : Int32 := if x0 = y0 then (if x1 = y1 then (if x2 = y2 then (if x3 = y3 then (if x4 = y4 then (if x5 = y5 then (if x6 = y6 then (if x7 = y7 then (if x8 = y8 then (1 : Int32) else (0 : Int32)) else ((0 : Int32))) else ((0 : Int32))) else ((0 : Int32))) else ((0 : Int32))) else ((0 : Int32))) else ((0 : Int32))) else ((0 : Int32))) else ((0 : Int32))
def Q18_9_9 (Z : State) (a0 : Addr) (a1 : Addr) (ka : ClassId) (kb : ClassId) (x0 : Int32) (x1 : Int32) (x2 : Int32) (x3 : Int32) (x4 : Int32) (x5 : Int32) (x6 : Int32) (x7 : Int32) (x8 : Int32) (y0 : Int32) (y1 : Int32) (y2 : Int32) (y3 : Int32) (y4 : Int32) (y5 : Int32) (y6 : Int32) (y7 : Int32) (y8 : Int32) (h0 : Heap) (n0 : Nat) (v : Option Value) (h : Heap) (L : List Loc) : Prop := v = some (.int (f18_9_9 x0 x1 x2 x3 x4 x5 x6 x7 x8 y0 y1 y2 y3 y4 y5 y6 y7 y8)) ∧ Fr n0 L ∧ h = h0
abbrev R18_9_9 : Room := ({ frames := 0, cells := 0, slots := 0, locals := 0 } : Room)
set_option maxRecDepth 65536 in
set_option maxHeartbeats 40000000 in
theorem rm18_9_9 (l : Launch) (Z : State) (ar : Array Value) (hw : ∀ d ∈ tables_1, d.before ar Z = true) (ws : List Jvm.Cond) (a0 : Addr) (a1 : Addr) (ka : ClassId) (kb : ClassId) (x0 : Int32) (x1 : Int32) (x2 : Int32) (x3 : Int32) (x4 : Int32) (x5 : Int32) (x6 : Int32) (x7 : Int32) (x8 : Int32) (y0 : Int32) (y1 : Int32) (y2 : Int32) (y3 : Int32) (y4 : Int32) (y5 : Int32) (y6 : Int32) (y7 : Int32) (y8 : Int32) (h0 : Heap) (n0 : Nat) (O0 : Old Z n0 h0) (pf0 : Arv Z h0 a0 ka .byte (9 : Int32) [(.int x0), (.int x1), (.int x2), (.int x3), (.int x4), (.int x5), (.int x6), (.int x7), (.int x8)] (.int (0 : Int32))) (pf1 : Arv Z h0 a1 kb .byte (9 : Int32) [(.int y0), (.int y1), (.int y2), (.int y3), (.int y4), (.int y5), (.int y6), (.int y7), (.int y8)] (.int (0 : Int32))) :
    MetFree l y18 (head1 (Jvm.Cond.code y18 jdk_43_method_13_code 3 (some .boolean) :: ws) R18_9_9) (fun a U => a = #[(.ref a0), (.ref a1)] ∧ Z.Warmed39 U.vm ∧ U.heap = h0) (fun _ _ _ _ _ => True) (fun _ U o U' => ∃ v L, o = .returned v ∧ Q18_9_9 Z a0 a1 ka kb x0 x1 x2 x3 x4 x5 x6 x7 x8 y0 y1 y2 y3 y4 y5 y6 y7 y8 h0 n0 v U'.heap L ∧ FrameEnd U o U' L R18_9_9.cells R18_9_9.slots) := by
 refine MetFree.of_bodySF (plainFor_of_name pn_2) hisR ?_
 intro p e s m args below meth c s₁ Bd hml0 hP hK
 obtain ⟨rfl, hZ, hh⟩ := hP
 have hx := Bd.exec
 have hby := Bd.bytes
 have hml : c.maxLocals = 3 := hml0
 have hown : s.vm.findClass "java/lang/StringLatin1" = some m.cls := findClass_of_methodNamed Bd.named
 have hnm := (name_of_methodNamed Bd.named Bd.method).1
 have hlk : meth.locks = false := by first | assumption | exact BodyLoose.notSynchronized (by assumption) | exact Body.notSynchronized (by assumption)
 have X0 : Stand p l e R18_9_9 s m #[(.ref a0), (.ref a1)] below meth c s₁ [] 0 0 := Stand.of_body Bd
 have e0 : s₁.heap = h0 := by rw [← hh, Bd.state]; rfl
 have N0 := Fr.nil n0
 have Z0 : n0 ≤ h0.size := Nat.le_trans (Nat.le_of_eq O0.1.symm) O0.2.1
 obtain ⟨S0, hS0⟩ : ∃ z, z = s₁.setTop (entryFrame m #[(.ref a0), (.ref a1)] 3) := ⟨_, rfl⟩
 have pre0 : ∀ tg, AT p e below s₁ m 0 #[rv a0, rv a1, un] [] tg → Steps p.tables e below S0 tg := fun tg kg => by rw [hS0]; exact castTop (ef_18_9_9 m a0 a1) kg
 obtain ⟨cl1, Ar1, q1, S1, N1, H1, G1⟩ := id pf0
 obtain ⟨cl2, Ar2, q2, S2, N2, H2, G2⟩ := id pf1
 obtain ⟨cl3, Ar3, q3, S3, N3, H3, G3⟩ := id pf0
 obtain ⟨cl4, Ar4, q4, S4, N4, H4, G4⟩ := id pf0
 have hin4 := own_in (0 : Int32) S4 ⟨by decide, by decide⟩
 have hat4 : cl4.slots[((0 : Int32)).toNatClampNeg]? = some (.int x0) := Has.at H4 hin4 rfl
 obtain ⟨cl5, Ar5, q5, S5, N5, H5, G5⟩ := id pf1
 have hin5 := own_in (0 : Int32) S5 ⟨by decide, by decide⟩
 have hat5 : cl5.slots[((0 : Int32)).toNatClampNeg]? = some (.int y0) := Has.at H5 hin5 rfl
 have pre6 : ∀ tg, AT p e below s₁ m 21 #[rv a0, rv a1, iv (0 : Int32)] [(.int y0), (.int x0)] tg → Steps p.tables e below S0 tg := fun tg kg => pre0 tg (by
  refine XS.aloadN X0.here hx rfl (hb hby d18_0) rfl rfl ?_
  refine X0.arraylength hx (by rw [e0]; exact Ar1.1) (State.isArrayOf_alike hZ.alike Ar1.2.1) (g := (mkF m 1 #[rv a0, rv a1, un] [(.ref a0)])) rfl rfl (hb hby d18_1) _ ?_
  rw [len_of S1 N1]
  refine XS.aloadN X0.here hx rfl (hb hby d18_2) rfl rfl ?_
  refine X0.arraylength hx (by rw [e0]; exact Ar2.1) (State.isArrayOf_alike hZ.alike Ar2.2.1) (g := (mkF m 3 #[rv a0, rv a1, un] [(.ref a1), (.int (9 : Int32))])) rfl rfl (hb hby d18_3) _ ?_
  rw [len_of S2 N2]
  show AT p e below s₁ m 4 #[rv a0, rv a1, un] [(.int (9 : Int32)), (.int (9 : Int32))] _
  refine XS.icmpNo X0.here hx rfl (hb hby d18_4) rfl (XT.ii_ne_f ((by decide) : (9 : Int32) = (9 : Int32))) ?_
  refine XS.iconst X0.here hx rfl (hb hby d18_7) ?_
  refine XS.istoreN X0.here hx rfl (hb hby d18_8) rfl (l' := #[rv a0, rv a1, iv (0 : Int32)]) rfl ?_
  refine XS.iloadN X0.here hx rfl (hb hby d18_9) rfl ?_
  refine XS.aloadN X0.here hx rfl (hb hby d18_10) rfl rfl ?_
  refine X0.arraylength hx (by rw [e0]; exact Ar3.1) (State.isArrayOf_alike hZ.alike Ar3.2.1) (g := (mkF m 11 #[rv a0, rv a1, iv (0 : Int32)] [(.ref a0), (.int (0 : Int32))])) rfl rfl (hb hby d18_11) _ ?_
  rw [len_of S3 N3]
  show AT p e below s₁ m 12 #[rv a0, rv a1, iv (0 : Int32)] [(.int (9 : Int32)), (.int (0 : Int32))] _
  refine XS.icmpNo X0.here hx rfl (hb hby d18_12) rfl (XT.ii_ge_f ((by decide) : (0 : Int32) < (9 : Int32))) ?_
  refine XS.aloadN X0.here hx rfl (hb hby d18_15) rfl rfl ?_
  refine XS.iloadN X0.here hx rfl (hb hby d18_16) rfl ?_
  refine X0.baloadBytes hx (j := (0 : Int32)) (v := (.int x0)) (by rw [e0]; exact Ar4.1) (State.isArrayOf_alike hZ.alike Ar4.2.1) Ar4.2.2 hin4 hat4 (g := (mkF m 17 #[rv a0, rv a1, iv (0 : Int32)] [(.int (0 : Int32)), (.ref a0)])) rfl rfl (hb hby d18_17) _ ?_
  refine XS.aloadN X0.here hx rfl (hb hby d18_18) rfl rfl ?_
  refine XS.iloadN X0.here hx rfl (hb hby d18_19) rfl ?_
  refine X0.baloadBytes hx (j := (0 : Int32)) (v := (.int y0)) (by rw [e0]; exact Ar5.1) (State.isArrayOf_alike hZ.alike Ar5.2.1) Ar5.2.2 hin5 hat5 (g := (mkF m 20 #[rv a0, rv a1, iv (0 : Int32)] [(.int (0 : Int32)), (.ref a1), (.int x0)])) rfl rfl (hb hby d18_20) _ ?_
  exact kg)
 rcases Decidable.em (x0 = y0) with hc7 | hc7
 ·
  obtain ⟨cl8, Ar8, q8, S8, N8, H8, G8⟩ := id pf0
  obtain ⟨cl9, Ar9, q9, S9, N9, H9, G9⟩ := id pf0
  have hin9 := own_in (1 : Int32) S9 ⟨by decide, by decide⟩
  have hat9 : cl9.slots[((1 : Int32)).toNatClampNeg]? = some (.int x1) := Has.at H9 hin9 rfl
  obtain ⟨cl10, Ar10, q10, S10, N10, H10, G10⟩ := id pf1
  have hin10 := own_in (1 : Int32) S10 ⟨by decide, by decide⟩
  have hat10 : cl10.slots[((1 : Int32)).toNatClampNeg]? = some (.int y1) := Has.at H10 hin10 rfl
  have pre11 : ∀ tg, AT p e below s₁ m 21 #[rv a0, rv a1, iv (1 : Int32)] [(.int y1), (.int x1)] tg → Steps p.tables e below S0 tg := fun tg kg => pre6 tg (by
   refine XS.icmpYes X0.here hx rfl (pc0 := 21) (pc' := 26) rfl (hb hby d18_21) rfl (XT.ii_eq_t hc7) (by decide) (by decide) ?_
   refine XS.iinc X0.here hx rfl (hb hby d18_26) rfl (l' := #[rv a0, rv a1, iv (1 : Int32)]) rfl ?_
   refine XS.goto X0.here hx rfl (pc0 := 29) (pc' := 9) rfl (hb hby d18_29) (by decide) (by decide) ?_
   refine XS.iloadN X0.here hx rfl (hb hby d18_9) rfl ?_
   refine XS.aloadN X0.here hx rfl (hb hby d18_10) rfl rfl ?_
   refine X0.arraylength hx (by rw [e0]; exact Ar8.1) (State.isArrayOf_alike hZ.alike Ar8.2.1) (g := (mkF m 11 #[rv a0, rv a1, iv (1 : Int32)] [(.ref a0), (.int (1 : Int32))])) rfl rfl (hb hby d18_11) _ ?_
   rw [len_of S8 N8]
   show AT p e below s₁ m 12 #[rv a0, rv a1, iv (1 : Int32)] [(.int (9 : Int32)), (.int (1 : Int32))] _
   refine XS.icmpNo X0.here hx rfl (hb hby d18_12) rfl (XT.ii_ge_f ((by decide) : (1 : Int32) < (9 : Int32))) ?_
   refine XS.aloadN X0.here hx rfl (hb hby d18_15) rfl rfl ?_
   refine XS.iloadN X0.here hx rfl (hb hby d18_16) rfl ?_
   refine X0.baloadBytes hx (j := (1 : Int32)) (v := (.int x1)) (by rw [e0]; exact Ar9.1) (State.isArrayOf_alike hZ.alike Ar9.2.1) Ar9.2.2 hin9 hat9 (g := (mkF m 17 #[rv a0, rv a1, iv (1 : Int32)] [(.int (1 : Int32)), (.ref a0)])) rfl rfl (hb hby d18_17) _ ?_
   refine XS.aloadN X0.here hx rfl (hb hby d18_18) rfl rfl ?_
   refine XS.iloadN X0.here hx rfl (hb hby d18_19) rfl ?_
   refine X0.baloadBytes hx (j := (1 : Int32)) (v := (.int y1)) (by rw [e0]; exact Ar10.1) (State.isArrayOf_alike hZ.alike Ar10.2.1) Ar10.2.2 hin10 hat10 (g := (mkF m 20 #[rv a0, rv a1, iv (1 : Int32)] [(.int (1 : Int32)), (.ref a1), (.int x1)])) rfl rfl (hb hby d18_20) _ ?_
   exact kg)
  rcases Decidable.em (x1 = y1) with hc12 | hc12
  ·
   obtain ⟨cl13, Ar13, q13, S13, N13, H13, G13⟩ := id pf0
   obtain ⟨cl14, Ar14, q14, S14, N14, H14, G14⟩ := id pf0
   have hin14 := own_in (2 : Int32) S14 ⟨by decide, by decide⟩
   have hat14 : cl14.slots[((2 : Int32)).toNatClampNeg]? = some (.int x2) := Has.at H14 hin14 rfl
   obtain ⟨cl15, Ar15, q15, S15, N15, H15, G15⟩ := id pf1
   have hin15 := own_in (2 : Int32) S15 ⟨by decide, by decide⟩
   have hat15 : cl15.slots[((2 : Int32)).toNatClampNeg]? = some (.int y2) := Has.at H15 hin15 rfl
   have pre16 : ∀ tg, AT p e below s₁ m 21 #[rv a0, rv a1, iv (2 : Int32)] [(.int y2), (.int x2)] tg → Steps p.tables e below S0 tg := fun tg kg => pre11 tg (by
    refine XS.icmpYes X0.here hx rfl (pc0 := 21) (pc' := 26) rfl (hb hby d18_21) rfl (XT.ii_eq_t hc12) (by decide) (by decide) ?_
    refine XS.iinc X0.here hx rfl (hb hby d18_26) rfl (l' := #[rv a0, rv a1, iv (2 : Int32)]) rfl ?_
    refine XS.goto X0.here hx rfl (pc0 := 29) (pc' := 9) rfl (hb hby d18_29) (by decide) (by decide) ?_
    refine XS.iloadN X0.here hx rfl (hb hby d18_9) rfl ?_
    refine XS.aloadN X0.here hx rfl (hb hby d18_10) rfl rfl ?_
    show AT p e below s₁ m 11 #[rv a0, rv a1, iv (2 : Int32)] [(.ref a0), (.int (2 : Int32))] _
    refine X0.arraylength hx (by rw [e0]; exact Ar13.1) (State.isArrayOf_alike hZ.alike Ar13.2.1) (g := (mkF m 11 #[rv a0, rv a1, iv (2 : Int32)] [(.ref a0), (.int (2 : Int32))])) rfl rfl (hb hby d18_11) _ ?_
    rw [len_of S13 N13]
    show AT p e below s₁ m 12 #[rv a0, rv a1, iv (2 : Int32)] [(.int (9 : Int32)), (.int (2 : Int32))] _
    refine XS.icmpNo X0.here hx rfl (hb hby d18_12) rfl (XT.ii_ge_f ((by decide) : (2 : Int32) < (9 : Int32))) ?_
    refine XS.aloadN X0.here hx rfl (hb hby d18_15) rfl rfl ?_
    refine XS.iloadN X0.here hx rfl (hb hby d18_16) rfl ?_
    refine X0.baloadBytes hx (j := (2 : Int32)) (v := (.int x2)) (by rw [e0]; exact Ar14.1) (State.isArrayOf_alike hZ.alike Ar14.2.1) Ar14.2.2 hin14 hat14 (g := (mkF m 17 #[rv a0, rv a1, iv (2 : Int32)] [(.int (2 : Int32)), (.ref a0)])) rfl rfl (hb hby d18_17) _ ?_
    refine XS.aloadN X0.here hx rfl (hb hby d18_18) rfl rfl ?_
    refine XS.iloadN X0.here hx rfl (hb hby d18_19) rfl ?_
    refine X0.baloadBytes hx (j := (2 : Int32)) (v := (.int y2)) (by rw [e0]; exact Ar15.1) (State.isArrayOf_alike hZ.alike Ar15.2.1) Ar15.2.2 hin15 hat15 (g := (mkF m 20 #[rv a0, rv a1, iv (2 : Int32)] [(.int (2 : Int32)), (.ref a1), (.int x2)])) rfl rfl (hb hby d18_20) _ ?_
    exact kg)
   rcases Decidable.em (x2 = y2) with hc17 | hc17
   ·
    obtain ⟨cl18, Ar18, q18, S18, N18, H18, G18⟩ := id pf0
    obtain ⟨cl19, Ar19, q19, S19, N19, H19, G19⟩ := id pf0
    have hin19 := own_in (3 : Int32) S19 ⟨by decide, by decide⟩
    have hat19 : cl19.slots[((3 : Int32)).toNatClampNeg]? = some (.int x3) := Has.at H19 hin19 rfl
    obtain ⟨cl20, Ar20, q20, S20, N20, H20, G20⟩ := id pf1
    have hin20 := own_in (3 : Int32) S20 ⟨by decide, by decide⟩
    have hat20 : cl20.slots[((3 : Int32)).toNatClampNeg]? = some (.int y3) := Has.at H20 hin20 rfl
    have pre21 : ∀ tg, AT p e below s₁ m 21 #[rv a0, rv a1, iv (3 : Int32)] [(.int y3), (.int x3)] tg → Steps p.tables e below S0 tg := fun tg kg => pre16 tg (by
     refine XS.icmpYes X0.here hx rfl (pc0 := 21) (pc' := 26) rfl (hb hby d18_21) rfl (XT.ii_eq_t hc17) (by decide) (by decide) ?_
     refine XS.iinc X0.here hx rfl (hb hby d18_26) rfl (l' := #[rv a0, rv a1, iv (3 : Int32)]) rfl ?_
     refine XS.goto X0.here hx rfl (pc0 := 29) (pc' := 9) rfl (hb hby d18_29) (by decide) (by decide) ?_
     refine XS.iloadN X0.here hx rfl (hb hby d18_9) rfl ?_
     refine XS.aloadN X0.here hx rfl (hb hby d18_10) rfl rfl ?_
     refine X0.arraylength hx (by rw [e0]; exact Ar18.1) (State.isArrayOf_alike hZ.alike Ar18.2.1) (g := (mkF m 11 #[rv a0, rv a1, iv (3 : Int32)] [(.ref a0), (.int (3 : Int32))])) rfl rfl (hb hby d18_11) _ ?_
     rw [len_of S18 N18]
     show AT p e below s₁ m 12 #[rv a0, rv a1, iv (3 : Int32)] [(.int (9 : Int32)), (.int (3 : Int32))] _
     refine XS.icmpNo X0.here hx rfl (hb hby d18_12) rfl (XT.ii_ge_f ((by decide) : (3 : Int32) < (9 : Int32))) ?_
     refine XS.aloadN X0.here hx rfl (hb hby d18_15) rfl rfl ?_
     refine XS.iloadN X0.here hx rfl (hb hby d18_16) rfl ?_
     refine X0.baloadBytes hx (j := (3 : Int32)) (v := (.int x3)) (by rw [e0]; exact Ar19.1) (State.isArrayOf_alike hZ.alike Ar19.2.1) Ar19.2.2 hin19 hat19 (g := (mkF m 17 #[rv a0, rv a1, iv (3 : Int32)] [(.int (3 : Int32)), (.ref a0)])) rfl rfl (hb hby d18_17) _ ?_
     refine XS.aloadN X0.here hx rfl (hb hby d18_18) rfl rfl ?_
     refine XS.iloadN X0.here hx rfl (hb hby d18_19) rfl ?_
     refine X0.baloadBytes hx (j := (3 : Int32)) (v := (.int y3)) (by rw [e0]; exact Ar20.1) (State.isArrayOf_alike hZ.alike Ar20.2.1) Ar20.2.2 hin20 hat20 (g := (mkF m 20 #[rv a0, rv a1, iv (3 : Int32)] [(.int (3 : Int32)), (.ref a1), (.int x3)])) rfl rfl (hb hby d18_20) _ ?_
     exact kg)
    rcases Decidable.em (x3 = y3) with hc22 | hc22
    ·
     obtain ⟨cl23, Ar23, q23, S23, N23, H23, G23⟩ := id pf0
     obtain ⟨cl24, Ar24, q24, S24, N24, H24, G24⟩ := id pf0
     have hin24 := own_in (4 : Int32) S24 ⟨by decide, by decide⟩
     have hat24 : cl24.slots[((4 : Int32)).toNatClampNeg]? = some (.int x4) := Has.at H24 hin24 rfl
     obtain ⟨cl25, Ar25, q25, S25, N25, H25, G25⟩ := id pf1
     have hin25 := own_in (4 : Int32) S25 ⟨by decide, by decide⟩
     have hat25 : cl25.slots[((4 : Int32)).toNatClampNeg]? = some (.int y4) := Has.at H25 hin25 rfl
     have pre26 : ∀ tg, AT p e below s₁ m 21 #[rv a0, rv a1, iv (4 : Int32)] [(.int y4), (.int x4)] tg → Steps p.tables e below S0 tg := fun tg kg => pre21 tg (by
      refine XS.icmpYes X0.here hx rfl (pc0 := 21) (pc' := 26) rfl (hb hby d18_21) rfl (XT.ii_eq_t hc22) (by decide) (by decide) ?_
      refine XS.iinc X0.here hx rfl (hb hby d18_26) rfl (l' := #[rv a0, rv a1, iv (4 : Int32)]) rfl ?_
      refine XS.goto X0.here hx rfl (pc0 := 29) (pc' := 9) rfl (hb hby d18_29) (by decide) (by decide) ?_
      refine XS.iloadN X0.here hx rfl (hb hby d18_9) rfl ?_
      refine XS.aloadN X0.here hx rfl (hb hby d18_10) rfl rfl ?_
      refine X0.arraylength hx (by rw [e0]; exact Ar23.1) (State.isArrayOf_alike hZ.alike Ar23.2.1) (g := (mkF m 11 #[rv a0, rv a1, iv (4 : Int32)] [(.ref a0), (.int (4 : Int32))])) rfl rfl (hb hby d18_11) _ ?_
      rw [len_of S23 N23]
      show AT p e below s₁ m 12 #[rv a0, rv a1, iv (4 : Int32)] [(.int (9 : Int32)), (.int (4 : Int32))] _
      refine XS.icmpNo X0.here hx rfl (hb hby d18_12) rfl (XT.ii_ge_f ((by decide) : (4 : Int32) < (9 : Int32))) ?_
      refine XS.aloadN X0.here hx rfl (hb hby d18_15) rfl rfl ?_
      refine XS.iloadN X0.here hx rfl (hb hby d18_16) rfl ?_
      refine X0.baloadBytes hx (j := (4 : Int32)) (v := (.int x4)) (by rw [e0]; exact Ar24.1) (State.isArrayOf_alike hZ.alike Ar24.2.1) Ar24.2.2 hin24 hat24 (g := (mkF m 17 #[rv a0, rv a1, iv (4 : Int32)] [(.int (4 : Int32)), (.ref a0)])) rfl rfl (hb hby d18_17) _ ?_
      refine XS.aloadN X0.here hx rfl (hb hby d18_18) rfl rfl ?_
      refine XS.iloadN X0.here hx rfl (hb hby d18_19) rfl ?_
      refine X0.baloadBytes hx (j := (4 : Int32)) (v := (.int y4)) (by rw [e0]; exact Ar25.1) (State.isArrayOf_alike hZ.alike Ar25.2.1) Ar25.2.2 hin25 hat25 (g := (mkF m 20 #[rv a0, rv a1, iv (4 : Int32)] [(.int (4 : Int32)), (.ref a1), (.int x4)])) rfl rfl (hb hby d18_20) _ ?_
      exact kg)
     rcases Decidable.em (x4 = y4) with hc27 | hc27
     ·
      obtain ⟨cl28, Ar28, q28, S28, N28, H28, G28⟩ := id pf0
      obtain ⟨cl29, Ar29, q29, S29, N29, H29, G29⟩ := id pf0
      have hin29 := own_in (5 : Int32) S29 ⟨by decide, by decide⟩
      have hat29 : cl29.slots[((5 : Int32)).toNatClampNeg]? = some (.int x5) := Has.at H29 hin29 rfl
      obtain ⟨cl30, Ar30, q30, S30, N30, H30, G30⟩ := id pf1
      have hin30 := own_in (5 : Int32) S30 ⟨by decide, by decide⟩
      have hat30 : cl30.slots[((5 : Int32)).toNatClampNeg]? = some (.int y5) := Has.at H30 hin30 rfl
      have pre31 : ∀ tg, AT p e below s₁ m 21 #[rv a0, rv a1, iv (5 : Int32)] [(.int y5), (.int x5)] tg → Steps p.tables e below S0 tg := fun tg kg => pre26 tg (by
       refine XS.icmpYes X0.here hx rfl (pc0 := 21) (pc' := 26) rfl (hb hby d18_21) rfl (XT.ii_eq_t hc27) (by decide) (by decide) ?_
       refine XS.iinc X0.here hx rfl (hb hby d18_26) rfl (l' := #[rv a0, rv a1, iv (5 : Int32)]) rfl ?_
       show AT p e below s₁ m 29 #[rv a0, rv a1, iv (5 : Int32)] [] _
       refine XS.goto X0.here hx rfl (pc0 := 29) (pc' := 9) rfl (hb hby d18_29) (by decide) (by decide) ?_
       refine XS.iloadN X0.here hx rfl (hb hby d18_9) rfl ?_
       refine XS.aloadN X0.here hx rfl (hb hby d18_10) rfl rfl ?_
       refine X0.arraylength hx (by rw [e0]; exact Ar28.1) (State.isArrayOf_alike hZ.alike Ar28.2.1) (g := (mkF m 11 #[rv a0, rv a1, iv (5 : Int32)] [(.ref a0), (.int (5 : Int32))])) rfl rfl (hb hby d18_11) _ ?_
       rw [len_of S28 N28]
       show AT p e below s₁ m 12 #[rv a0, rv a1, iv (5 : Int32)] [(.int (9 : Int32)), (.int (5 : Int32))] _
       refine XS.icmpNo X0.here hx rfl (hb hby d18_12) rfl (XT.ii_ge_f ((by decide) : (5 : Int32) < (9 : Int32))) ?_
       refine XS.aloadN X0.here hx rfl (hb hby d18_15) rfl rfl ?_
       refine XS.iloadN X0.here hx rfl (hb hby d18_16) rfl ?_
       refine X0.baloadBytes hx (j := (5 : Int32)) (v := (.int x5)) (by rw [e0]; exact Ar29.1) (State.isArrayOf_alike hZ.alike Ar29.2.1) Ar29.2.2 hin29 hat29 (g := (mkF m 17 #[rv a0, rv a1, iv (5 : Int32)] [(.int (5 : Int32)), (.ref a0)])) rfl rfl (hb hby d18_17) _ ?_
       refine XS.aloadN X0.here hx rfl (hb hby d18_18) rfl rfl ?_
       refine XS.iloadN X0.here hx rfl (hb hby d18_19) rfl ?_
       refine X0.baloadBytes hx (j := (5 : Int32)) (v := (.int y5)) (by rw [e0]; exact Ar30.1) (State.isArrayOf_alike hZ.alike Ar30.2.1) Ar30.2.2 hin30 hat30 (g := (mkF m 20 #[rv a0, rv a1, iv (5 : Int32)] [(.int (5 : Int32)), (.ref a1), (.int x5)])) rfl rfl (hb hby d18_20) _ ?_
       exact kg)
      rcases Decidable.em (x5 = y5) with hc32 | hc32
      ·
       obtain ⟨cl33, Ar33, q33, S33, N33, H33, G33⟩ := id pf0
       obtain ⟨cl34, Ar34, q34, S34, N34, H34, G34⟩ := id pf0
       have hin34 := own_in (6 : Int32) S34 ⟨by decide, by decide⟩
       have hat34 : cl34.slots[((6 : Int32)).toNatClampNeg]? = some (.int x6) := Has.at H34 hin34 rfl
       obtain ⟨cl35, Ar35, q35, S35, N35, H35, G35⟩ := id pf1
       have hin35 := own_in (6 : Int32) S35 ⟨by decide, by decide⟩
       have hat35 : cl35.slots[((6 : Int32)).toNatClampNeg]? = some (.int y6) := Has.at H35 hin35 rfl
       have pre36 : ∀ tg, AT p e below s₁ m 21 #[rv a0, rv a1, iv (6 : Int32)] [(.int y6), (.int x6)] tg → Steps p.tables e below S0 tg := fun tg kg => pre31 tg (by
        refine XS.icmpYes X0.here hx rfl (pc0 := 21) (pc' := 26) rfl (hb hby d18_21) rfl (XT.ii_eq_t hc32) (by decide) (by decide) ?_
        refine XS.iinc X0.here hx rfl (hb hby d18_26) rfl (l' := #[rv a0, rv a1, iv (6 : Int32)]) rfl ?_
        refine XS.goto X0.here hx rfl (pc0 := 29) (pc' := 9) rfl (hb hby d18_29) (by decide) (by decide) ?_
        refine XS.iloadN X0.here hx rfl (hb hby d18_9) rfl ?_
        refine XS.aloadN X0.here hx rfl (hb hby d18_10) rfl rfl ?_
        refine X0.arraylength hx (by rw [e0]; exact Ar33.1) (State.isArrayOf_alike hZ.alike Ar33.2.1) (g := (mkF m 11 #[rv a0, rv a1, iv (6 : Int32)] [(.ref a0), (.int (6 : Int32))])) rfl rfl (hb hby d18_11) _ ?_
        rw [len_of S33 N33]
        show AT p e below s₁ m 12 #[rv a0, rv a1, iv (6 : Int32)] [(.int (9 : Int32)), (.int (6 : Int32))] _
        refine XS.icmpNo X0.here hx rfl (hb hby d18_12) rfl (XT.ii_ge_f ((by decide) : (6 : Int32) < (9 : Int32))) ?_
        refine XS.aloadN X0.here hx rfl (hb hby d18_15) rfl rfl ?_
        refine XS.iloadN X0.here hx rfl (hb hby d18_16) rfl ?_
        refine X0.baloadBytes hx (j := (6 : Int32)) (v := (.int x6)) (by rw [e0]; exact Ar34.1) (State.isArrayOf_alike hZ.alike Ar34.2.1) Ar34.2.2 hin34 hat34 (g := (mkF m 17 #[rv a0, rv a1, iv (6 : Int32)] [(.int (6 : Int32)), (.ref a0)])) rfl rfl (hb hby d18_17) _ ?_
        refine XS.aloadN X0.here hx rfl (hb hby d18_18) rfl rfl ?_
        refine XS.iloadN X0.here hx rfl (hb hby d18_19) rfl ?_
        refine X0.baloadBytes hx (j := (6 : Int32)) (v := (.int y6)) (by rw [e0]; exact Ar35.1) (State.isArrayOf_alike hZ.alike Ar35.2.1) Ar35.2.2 hin35 hat35 (g := (mkF m 20 #[rv a0, rv a1, iv (6 : Int32)] [(.int (6 : Int32)), (.ref a1), (.int x6)])) rfl rfl (hb hby d18_20) _ ?_
        exact kg)
       rcases Decidable.em (x6 = y6) with hc37 | hc37
       ·
        obtain ⟨cl38, Ar38, q38, S38, N38, H38, G38⟩ := id pf0
        obtain ⟨cl39, Ar39, q39, S39, N39, H39, G39⟩ := id pf0
        have hin39 := own_in (7 : Int32) S39 ⟨by decide, by decide⟩
        have hat39 : cl39.slots[((7 : Int32)).toNatClampNeg]? = some (.int x7) := Has.at H39 hin39 rfl
        obtain ⟨cl40, Ar40, q40, S40, N40, H40, G40⟩ := id pf1
        have hin40 := own_in (7 : Int32) S40 ⟨by decide, by decide⟩
        have hat40 : cl40.slots[((7 : Int32)).toNatClampNeg]? = some (.int y7) := Has.at H40 hin40 rfl
        have pre41 : ∀ tg, AT p e below s₁ m 21 #[rv a0, rv a1, iv (7 : Int32)] [(.int y7), (.int x7)] tg → Steps p.tables e below S0 tg := fun tg kg => pre36 tg (by
         refine XS.icmpYes X0.here hx rfl (pc0 := 21) (pc' := 26) rfl (hb hby d18_21) rfl (XT.ii_eq_t hc37) (by decide) (by decide) ?_
         refine XS.iinc X0.here hx rfl (hb hby d18_26) rfl (l' := #[rv a0, rv a1, iv (7 : Int32)]) rfl ?_
         refine XS.goto X0.here hx rfl (pc0 := 29) (pc' := 9) rfl (hb hby d18_29) (by decide) (by decide) ?_
         refine XS.iloadN X0.here hx rfl (hb hby d18_9) rfl ?_
         refine XS.aloadN X0.here hx rfl (hb hby d18_10) rfl rfl ?_
         refine X0.arraylength hx (by rw [e0]; exact Ar38.1) (State.isArrayOf_alike hZ.alike Ar38.2.1) (g := (mkF m 11 #[rv a0, rv a1, iv (7 : Int32)] [(.ref a0), (.int (7 : Int32))])) rfl rfl (hb hby d18_11) _ ?_
         rw [len_of S38 N38]
         show AT p e below s₁ m 12 #[rv a0, rv a1, iv (7 : Int32)] [(.int (9 : Int32)), (.int (7 : Int32))] _
         refine XS.icmpNo X0.here hx rfl (hb hby d18_12) rfl (XT.ii_ge_f ((by decide) : (7 : Int32) < (9 : Int32))) ?_
         refine XS.aloadN X0.here hx rfl (hb hby d18_15) rfl rfl ?_
         refine XS.iloadN X0.here hx rfl (hb hby d18_16) rfl ?_
         refine X0.baloadBytes hx (j := (7 : Int32)) (v := (.int x7)) (by rw [e0]; exact Ar39.1) (State.isArrayOf_alike hZ.alike Ar39.2.1) Ar39.2.2 hin39 hat39 (g := (mkF m 17 #[rv a0, rv a1, iv (7 : Int32)] [(.int (7 : Int32)), (.ref a0)])) rfl rfl (hb hby d18_17) _ ?_
         refine XS.aloadN X0.here hx rfl (hb hby d18_18) rfl rfl ?_
         show AT p e below s₁ m 19 #[rv a0, rv a1, iv (7 : Int32)] [(.ref a1), (.int x7)] _
         refine XS.iloadN X0.here hx rfl (hb hby d18_19) rfl ?_
         refine X0.baloadBytes hx (j := (7 : Int32)) (v := (.int y7)) (by rw [e0]; exact Ar40.1) (State.isArrayOf_alike hZ.alike Ar40.2.1) Ar40.2.2 hin40 hat40 (g := (mkF m 20 #[rv a0, rv a1, iv (7 : Int32)] [(.int (7 : Int32)), (.ref a1), (.int x7)])) rfl rfl (hb hby d18_20) _ ?_
         exact kg)
        rcases Decidable.em (x7 = y7) with hc42 | hc42
        ·
         obtain ⟨cl43, Ar43, q43, S43, N43, H43, G43⟩ := id pf0
         obtain ⟨cl44, Ar44, q44, S44, N44, H44, G44⟩ := id pf0
         have hin44 := own_in (8 : Int32) S44 ⟨by decide, by decide⟩
         have hat44 : cl44.slots[((8 : Int32)).toNatClampNeg]? = some (.int x8) := Has.at H44 hin44 rfl
         obtain ⟨cl45, Ar45, q45, S45, N45, H45, G45⟩ := id pf1
         have hin45 := own_in (8 : Int32) S45 ⟨by decide, by decide⟩
         have hat45 : cl45.slots[((8 : Int32)).toNatClampNeg]? = some (.int y8) := Has.at H45 hin45 rfl
         have pre46 : ∀ tg, AT p e below s₁ m 21 #[rv a0, rv a1, iv (8 : Int32)] [(.int y8), (.int x8)] tg → Steps p.tables e below S0 tg := fun tg kg => pre41 tg (by
          refine XS.icmpYes X0.here hx rfl (pc0 := 21) (pc' := 26) rfl (hb hby d18_21) rfl (XT.ii_eq_t hc42) (by decide) (by decide) ?_
          refine XS.iinc X0.here hx rfl (hb hby d18_26) rfl (l' := #[rv a0, rv a1, iv (8 : Int32)]) rfl ?_
          refine XS.goto X0.here hx rfl (pc0 := 29) (pc' := 9) rfl (hb hby d18_29) (by decide) (by decide) ?_
          refine XS.iloadN X0.here hx rfl (hb hby d18_9) rfl ?_
          refine XS.aloadN X0.here hx rfl (hb hby d18_10) rfl rfl ?_
          refine X0.arraylength hx (by rw [e0]; exact Ar43.1) (State.isArrayOf_alike hZ.alike Ar43.2.1) (g := (mkF m 11 #[rv a0, rv a1, iv (8 : Int32)] [(.ref a0), (.int (8 : Int32))])) rfl rfl (hb hby d18_11) _ ?_
          rw [len_of S43 N43]
          show AT p e below s₁ m 12 #[rv a0, rv a1, iv (8 : Int32)] [(.int (9 : Int32)), (.int (8 : Int32))] _
          refine XS.icmpNo X0.here hx rfl (hb hby d18_12) rfl (XT.ii_ge_f ((by decide) : (8 : Int32) < (9 : Int32))) ?_
          refine XS.aloadN X0.here hx rfl (hb hby d18_15) rfl rfl ?_
          refine XS.iloadN X0.here hx rfl (hb hby d18_16) rfl ?_
          refine X0.baloadBytes hx (j := (8 : Int32)) (v := (.int x8)) (by rw [e0]; exact Ar44.1) (State.isArrayOf_alike hZ.alike Ar44.2.1) Ar44.2.2 hin44 hat44 (g := (mkF m 17 #[rv a0, rv a1, iv (8 : Int32)] [(.int (8 : Int32)), (.ref a0)])) rfl rfl (hb hby d18_17) _ ?_
          refine XS.aloadN X0.here hx rfl (hb hby d18_18) rfl rfl ?_
          refine XS.iloadN X0.here hx rfl (hb hby d18_19) rfl ?_
          refine X0.baloadBytes hx (j := (8 : Int32)) (v := (.int y8)) (by rw [e0]; exact Ar45.1) (State.isArrayOf_alike hZ.alike Ar45.2.1) Ar45.2.2 hin45 hat45 (g := (mkF m 20 #[rv a0, rv a1, iv (8 : Int32)] [(.int (8 : Int32)), (.ref a1), (.int x8)])) rfl rfl (hb hby d18_20) _ ?_
          exact kg)
         rcases Decidable.em (x8 = y8) with hc47 | hc47
         ·
          obtain ⟨cl48, Ar48, q48, S48, N48, H48, G48⟩ := id pf0
          obtain ⟨fs, hr, hrun, hended, hW, hsame⟩ := X0.leave (v := some (.int (1 : Int32))) (fun h => by rw [Bd.returns] at h; cases h) hlk
          subst hS0
          refine ⟨_, _, pre46 _ ?_, hrun, hended, _, _, rfl, ?_, ⟨_, rfl⟩, hW, hsame.mono (by decide) (by decide)⟩
          ·
           refine XS.icmpYes X0.here hx rfl (pc0 := 21) (pc' := 26) rfl (hb hby d18_21) rfl (XT.ii_eq_t hc47) (by decide) (by decide) ?_
           refine XS.iinc X0.here hx rfl (hb hby d18_26) rfl (l' := #[rv a0, rv a1, iv (9 : Int32)]) rfl ?_
           refine XS.goto X0.here hx rfl (pc0 := 29) (pc' := 9) rfl (hb hby d18_29) (by decide) (by decide) ?_
           refine XS.iloadN X0.here hx rfl (hb hby d18_9) rfl ?_
           refine XS.aloadN X0.here hx rfl (hb hby d18_10) rfl rfl ?_
           refine X0.arraylength hx (by rw [e0]; exact Ar48.1) (State.isArrayOf_alike hZ.alike Ar48.2.1) (g := (mkF m 11 #[rv a0, rv a1, iv (9 : Int32)] [(.ref a0), (.int (9 : Int32))])) rfl rfl (hb hby d18_11) _ ?_
           rw [len_of S48 N48]
           show AT p e below s₁ m 12 #[rv a0, rv a1, iv (9 : Int32)] [(.int (9 : Int32)), (.int (9 : Int32))] _
           refine XS.icmpYes X0.here hx rfl (pc0 := 12) (pc' := 32) rfl (hb hby d18_12) rfl (XT.ii_ge_t ((by decide) : ¬ ((9 : Int32) < (9 : Int32)))) (by decide) (by decide) ?_
           refine XS.iconst X0.here hx rfl (hb hby d18_32) ?_
           exact retN X0 hx (t := .boolean) Bd.returns (by simp) (hb hby d18_33) hr
          ·
           show Q18_9_9 Z a0 a1 ka kb x0 x1 x2 x3 x4 x5 x6 x7 x8 y0 y1 y2 y3 y4 y5 y6 y7 y8 h0 n0 _ s₁.heap _
           rw [e0]
           exact ⟨(by rw [f18_9_9, if_pos hc7, if_pos hc12, if_pos hc17, if_pos hc22, if_pos hc27, if_pos hc32, if_pos hc37, if_pos hc42, if_pos hc47]), N0, rfl⟩
         ·
          obtain ⟨fs, hr, hrun, hended, hW, hsame⟩ := X0.leave (v := some (.int (0 : Int32))) (fun h => by rw [Bd.returns] at h; cases h) hlk
          subst hS0
          refine ⟨_, _, pre46 _ ?_, hrun, hended, _, _, rfl, ?_, ⟨_, rfl⟩, hW, hsame.mono (by decide) (by decide)⟩
          ·
           refine XS.icmpNo X0.here hx rfl (hb hby d18_21) rfl (XT.ii_eq_f hc47) ?_
           refine XS.iconst X0.here hx rfl (hb hby d18_24) ?_
           exact retN X0 hx (t := .boolean) Bd.returns (by simp) (hb hby d18_25) hr
          ·
           show Q18_9_9 Z a0 a1 ka kb x0 x1 x2 x3 x4 x5 x6 x7 x8 y0 y1 y2 y3 y4 y5 y6 y7 y8 h0 n0 _ s₁.heap _
           rw [e0]
           exact ⟨(by rw [f18_9_9, if_pos hc7, if_pos hc12, if_pos hc17, if_pos hc22, if_pos hc27, if_pos hc32, if_pos hc37, if_pos hc42, if_neg hc47]), N0, rfl⟩
        ·
         obtain ⟨fs, hr, hrun, hended, hW, hsame⟩ := X0.leave (v := some (.int (0 : Int32))) (fun h => by rw [Bd.returns] at h; cases h) hlk
         subst hS0
         refine ⟨_, _, pre41 _ ?_, hrun, hended, _, _, rfl, ?_, ⟨_, rfl⟩, hW, hsame.mono (by decide) (by decide)⟩
         ·
          refine XS.icmpNo X0.here hx rfl (hb hby d18_21) rfl (XT.ii_eq_f hc42) ?_
          refine XS.iconst X0.here hx rfl (hb hby d18_24) ?_
          exact retN X0 hx (t := .boolean) Bd.returns (by simp) (hb hby d18_25) hr
         ·
          show Q18_9_9 Z a0 a1 ka kb x0 x1 x2 x3 x4 x5 x6 x7 x8 y0 y1 y2 y3 y4 y5 y6 y7 y8 h0 n0 _ s₁.heap _
          rw [e0]
          exact ⟨(by rw [f18_9_9, if_pos hc7, if_pos hc12, if_pos hc17, if_pos hc22, if_pos hc27, if_pos hc32, if_pos hc37, if_neg hc42]), N0, rfl⟩
       ·
        obtain ⟨fs, hr, hrun, hended, hW, hsame⟩ := X0.leave (v := some (.int (0 : Int32))) (fun h => by rw [Bd.returns] at h; cases h) hlk
        subst hS0
        refine ⟨_, _, pre36 _ ?_, hrun, hended, _, _, rfl, ?_, ⟨_, rfl⟩, hW, hsame.mono (by decide) (by decide)⟩
        ·
         refine XS.icmpNo X0.here hx rfl (hb hby d18_21) rfl (XT.ii_eq_f hc37) ?_
         refine XS.iconst X0.here hx rfl (hb hby d18_24) ?_
         exact retN X0 hx (t := .boolean) Bd.returns (by simp) (hb hby d18_25) hr
        ·
         show Q18_9_9 Z a0 a1 ka kb x0 x1 x2 x3 x4 x5 x6 x7 x8 y0 y1 y2 y3 y4 y5 y6 y7 y8 h0 n0 _ s₁.heap _
         rw [e0]
         exact ⟨(by rw [f18_9_9, if_pos hc7, if_pos hc12, if_pos hc17, if_pos hc22, if_pos hc27, if_pos hc32, if_neg hc37]), N0, rfl⟩
      ·
       obtain ⟨fs, hr, hrun, hended, hW, hsame⟩ := X0.leave (v := some (.int (0 : Int32))) (fun h => by rw [Bd.returns] at h; cases h) hlk
       subst hS0
       refine ⟨_, _, pre31 _ ?_, hrun, hended, _, _, rfl, ?_, ⟨_, rfl⟩, hW, hsame.mono (by decide) (by decide)⟩
       ·
        refine XS.icmpNo X0.here hx rfl (hb hby d18_21) rfl (XT.ii_eq_f hc32) ?_
        refine XS.iconst X0.here hx rfl (hb hby d18_24) ?_
        exact retN X0 hx (t := .boolean) Bd.returns (by simp) (hb hby d18_25) hr
       ·
        show Q18_9_9 Z a0 a1 ka kb x0 x1 x2 x3 x4 x5 x6 x7 x8 y0 y1 y2 y3 y4 y5 y6 y7 y8 h0 n0 _ s₁.heap _
        rw [e0]
        exact ⟨(by rw [f18_9_9, if_pos hc7, if_pos hc12, if_pos hc17, if_pos hc22, if_pos hc27, if_neg hc32]), N0, rfl⟩
     ·
      obtain ⟨fs, hr, hrun, hended, hW, hsame⟩ := X0.leave (v := some (.int (0 : Int32))) (fun h => by rw [Bd.returns] at h; cases h) hlk
      subst hS0
      refine ⟨_, _, pre26 _ ?_, hrun, hended, _, _, rfl, ?_, ⟨_, rfl⟩, hW, hsame.mono (by decide) (by decide)⟩
      ·
       refine XS.icmpNo X0.here hx rfl (hb hby d18_21) rfl (XT.ii_eq_f hc27) ?_
       refine XS.iconst X0.here hx rfl (hb hby d18_24) ?_
       show AT p e below s₁ m 25 #[rv a0, rv a1, iv (4 : Int32)] [(.int (0 : Int32))] _
       exact retN X0 hx (t := .boolean) Bd.returns (by simp) (hb hby d18_25) hr
      ·
       show Q18_9_9 Z a0 a1 ka kb x0 x1 x2 x3 x4 x5 x6 x7 x8 y0 y1 y2 y3 y4 y5 y6 y7 y8 h0 n0 _ s₁.heap _
       rw [e0]
       exact ⟨(by rw [f18_9_9, if_pos hc7, if_pos hc12, if_pos hc17, if_pos hc22, if_neg hc27]), N0, rfl⟩
    ·
     obtain ⟨fs, hr, hrun, hended, hW, hsame⟩ := X0.leave (v := some (.int (0 : Int32))) (fun h => by rw [Bd.returns] at h; cases h) hlk
     subst hS0
     refine ⟨_, _, pre21 _ ?_, hrun, hended, _, _, rfl, ?_, ⟨_, rfl⟩, hW, hsame.mono (by decide) (by decide)⟩
     ·
      refine XS.icmpNo X0.here hx rfl (hb hby d18_21) rfl (XT.ii_eq_f hc22) ?_
      refine XS.iconst X0.here hx rfl (hb hby d18_24) ?_
      exact retN X0 hx (t := .boolean) Bd.returns (by simp) (hb hby d18_25) hr
     ·
      show Q18_9_9 Z a0 a1 ka kb x0 x1 x2 x3 x4 x5 x6 x7 x8 y0 y1 y2 y3 y4 y5 y6 y7 y8 h0 n0 _ s₁.heap _
      rw [e0]
      exact ⟨(by rw [f18_9_9, if_pos hc7, if_pos hc12, if_pos hc17, if_neg hc22]), N0, rfl⟩
   ·
    obtain ⟨fs, hr, hrun, hended, hW, hsame⟩ := X0.leave (v := some (.int (0 : Int32))) (fun h => by rw [Bd.returns] at h; cases h) hlk
    subst hS0
    refine ⟨_, _, pre16 _ ?_, hrun, hended, _, _, rfl, ?_, ⟨_, rfl⟩, hW, hsame.mono (by decide) (by decide)⟩
    ·
     refine XS.icmpNo X0.here hx rfl (hb hby d18_21) rfl (XT.ii_eq_f hc17) ?_
     refine XS.iconst X0.here hx rfl (hb hby d18_24) ?_
     exact retN X0 hx (t := .boolean) Bd.returns (by simp) (hb hby d18_25) hr
    ·
     show Q18_9_9 Z a0 a1 ka kb x0 x1 x2 x3 x4 x5 x6 x7 x8 y0 y1 y2 y3 y4 y5 y6 y7 y8 h0 n0 _ s₁.heap _
     rw [e0]
     exact ⟨(by rw [f18_9_9, if_pos hc7, if_pos hc12, if_neg hc17]), N0, rfl⟩
  ·
   obtain ⟨fs, hr, hrun, hended, hW, hsame⟩ := X0.leave (v := some (.int (0 : Int32))) (fun h => by rw [Bd.returns] at h; cases h) hlk
   subst hS0
   refine ⟨_, _, pre11 _ ?_, hrun, hended, _, _, rfl, ?_, ⟨_, rfl⟩, hW, hsame.mono (by decide) (by decide)⟩
   ·
    refine XS.icmpNo X0.here hx rfl (hb hby d18_21) rfl (XT.ii_eq_f hc12) ?_
    refine XS.iconst X0.here hx rfl (hb hby d18_24) ?_
    exact retN X0 hx (t := .boolean) Bd.returns (by simp) (hb hby d18_25) hr
   ·
    show Q18_9_9 Z a0 a1 ka kb x0 x1 x2 x3 x4 x5 x6 x7 x8 y0 y1 y2 y3 y4 y5 y6 y7 y8 h0 n0 _ s₁.heap _
    rw [e0]
    exact ⟨(by rw [f18_9_9, if_pos hc7, if_neg hc12]), N0, rfl⟩
 ·
  obtain ⟨fs, hr, hrun, hended, hW, hsame⟩ := X0.leave (v := some (.int (0 : Int32))) (fun h => by rw [Bd.returns] at h; cases h) hlk
  subst hS0
  refine ⟨_, _, pre6 _ ?_, hrun, hended, _, _, rfl, ?_, ⟨_, rfl⟩, hW, hsame.mono (by decide) (by decide)⟩
  ·
   refine XS.icmpNo X0.here hx rfl (hb hby d18_21) rfl (XT.ii_eq_f hc7) ?_
   refine XS.iconst X0.here hx rfl (hb hby d18_24) ?_
   exact retN X0 hx (t := .boolean) Bd.returns (by simp) (hb hby d18_25) hr
  ·
   show Q18_9_9 Z a0 a1 ka kb x0 x1 x2 x3 x4 x5 x6 x7 x8 y0 y1 y2 y3 y4 y5 y6 y7 y8 h0 n0 _ s₁.heap _
   rw [e0]
   exact ⟨(by rw [f18_9_9, if_neg hc7]), N0, rfl⟩

theorem ef_17_9_9 (m : MethodId) (a0 : Addr) (a1 : Addr) : entryFrame m #[(.ref a0), (.ref a1)] 3 = mkF m 0 #[rv a0, rv a1, un] [] := by first | (simp [entryFrame, mkF, argsToLocals, Value.category]; done) | rfl
def f17_9_9 (x0 : Int32) (x1 : Int32) (x2 : Int32) (x3 : Int32) (x4 : Int32) (x5 : Int32) (x6 : Int32) (x7 : Int32) (x8 : Int32) (y0 : Int32) (y1 : Int32) (y2 : Int32) (y3 : Int32) (y4 : Int32) (y5 : Int32) (y6 : Int32) (y7 : Int32) (y8 : Int32) : Int32 := if (f18_9_9 x0 x1 x2 x3 x4 x5 x6 x7 x8 y0 y1 y2 y3 y4 y5 y6 y7 y8) = (0 : Int32) then (0 : Int32) else (1 : Int32)
def Q17_9_9 (Z : State) (a0 : Addr) (a1 : Addr) (u : Addr) (w : Addr) (ka : ClassId) (kb : ClassId) (x0 : Int32) (x1 : Int32) (x2 : Int32) (x3 : Int32) (x4 : Int32) (x5 : Int32) (x6 : Int32) (x7 : Int32) (x8 : Int32) (y0 : Int32) (y1 : Int32) (y2 : Int32) (y3 : Int32) (y4 : Int32) (y5 : Int32) (y6 : Int32) (y7 : Int32) (y8 : Int32) (h0 : Heap) (n0 : Nat) (v : Option Value) (h : Heap) (L : List Loc) : Prop := v = some (.int (f17_9_9 x0 x1 x2 x3 x4 x5 x6 x7 x8 y0 y1 y2 y3 y4 y5 y6 y7 y8)) ∧ Fr n0 L ∧ h = h0
abbrev R17_9_9 : Room := ({ frames := 1, cells := 0, slots := 0, locals := 14 } : Room)
set_option maxRecDepth 65536 in
set_option maxHeartbeats 40000000 in
theorem rm17_9_9 (l : Launch) (Z : State) (ar : Array Value) (hw : ∀ d ∈ tables_1, d.before ar Z = true) (ws : List Jvm.Cond) (a0 : Addr) (a1 : Addr) (u : Addr) (w : Addr) (ka : ClassId) (kb : ClassId) (x0 : Int32) (x1 : Int32) (x2 : Int32) (x3 : Int32) (x4 : Int32) (x5 : Int32) (x6 : Int32) (x7 : Int32) (x8 : Int32) (y0 : Int32) (y1 : Int32) (y2 : Int32) (y3 : Int32) (y4 : Int32) (y5 : Int32) (y6 : Int32) (y7 : Int32) (y8 : Int32) (h0 : Heap) (n0 : Nat) (O0 : Old Z n0 h0) (HW : Wd Z w_z0 w_z1 w_z2 w_z3 w_z4 w_z5 w_z6 w_z7 w_z8 w_z9 w_z10 w_z11 k_z3 k_z7 k_z9 k_z11) (pf0 : Exa Z h0 a0 "java/lang/String") (pf1 : Exa Z h0 a1 "java/lang/String") (pf2 : Fld Z h0 a0 "java/lang/String" "coder" "B" (.int (0 : Int32))) (pf3 : Fld Z h0 a1 "java/lang/String" "coder" "B" (.int (0 : Int32))) (pf4 : Fld Z h0 a0 "java/lang/String" "value" "[B" (.ref u)) (pf5 : Fld Z h0 a1 "java/lang/String" "value" "[B" (.ref w)) (pf6 : Arv Z h0 u ka .byte (9 : Int32) [(.int x0), (.int x1), (.int x2), (.int x3), (.int x4), (.int x5), (.int x6), (.int x7), (.int x8)] (.int (0 : Int32))) (pf7 : Arv Z h0 w kb .byte (9 : Int32) [(.int y0), (.int y1), (.int y2), (.int y3), (.int y4), (.int y5), (.int y6), (.int y7), (.int y8)] (.int (0 : Int32))) (pf8 : a0 ≠ a1) :
    MetFree l y17 (head1 (Jvm.Cond.code y17 jdk_42_method_66_code 3 (some .boolean) :: ws) R17_9_9) (fun a U => a = #[(.ref a0), (.ref a1)] ∧ Z.Warmed39 U.vm ∧ U.heap = h0) (fun _ _ _ _ _ => True) (fun _ U o U' => ∃ v L, o = .returned v ∧ Q17_9_9 Z a0 a1 u w ka kb x0 x1 x2 x3 x4 x5 x6 x7 x8 y0 y1 y2 y3 y4 y5 y6 y7 y8 h0 n0 v U'.heap L ∧ FrameEnd U o U' L R17_9_9.cells R17_9_9.slots) := by
 refine MetFree.of_bodySF (plainFor_of_name pn_0) hisR ?_
 intro p e s m args below meth c s₁ Bd hml0 hP hK
 obtain ⟨rfl, hZ, hh⟩ := hP
 have hx := Bd.exec
 have hby := Bd.bytes
 have hml : c.maxLocals = 3 := hml0
 have hown : s.vm.findClass "java/lang/String" = some m.cls := findClass_of_methodNamed Bd.named
 have hnm := (name_of_methodNamed Bd.named Bd.method).1
 have hlk : meth.locks = false := by first | assumption | exact BodyLoose.notSynchronized (by assumption) | exact Body.notSynchronized (by assumption)
 have X0 : Stand p l e R17_9_9 s m #[(.ref a0), (.ref a1)] below meth c s₁ [] 0 0 := Stand.of_body Bd
 have e0 : s₁.heap = h0 := by rw [← hh, Bd.state]; rfl
 have N0 := Fr.nil n0
 have Z0 : n0 ≤ h0.size := Nat.le_trans (Nat.le_of_eq O0.1.symm) O0.2.1
 obtain ⟨S0, hS0⟩ : ∃ z, z = s₁.setTop (entryFrame m #[(.ref a0), (.ref a1)] 3) := ⟨_, rfl⟩
 have pre0 : ∀ tg, AT p e below s₁ m 0 #[rv a0, rv a1, un] [] tg → Steps p.tables e below S0 tg := fun tg kg => by rw [hS0]; exact castTop (ef_17_9_9 m a0 a1) kg
 obtain ⟨S_q0, hz_w_z0, -, -, -, -, -, -, -, -, -, -, -, -, -, -, -, -, -, -, -, -, -, -, -, -, -, -⟩ := id HW
 obtain ⟨T1, X1, e1, st1⟩ := instY X0 hx hZ hown (ow hw 81 rfl) e0 (Ins.self pf1) (g := (mkF m 8 #[rv a0, rv a1, un] [(.ref a1)])) rfl rfl (hb hby d17_8)
 obtain ⟨T2, X2, e2, st2⟩ := castY X1 hx hZ hown (ow hw 81 rfl) e1 (Ins.self pf1) (g := (mkF m 15 #[rv a0, rv a1, un] [(.ref a1)])) rfl rfl (hb hby d17_15)
 obtain ⟨T3, X3, e3, st3⟩ := getS2 X2 hx hZ hown (host := "") (Or.inl (ow hw 24 rfl)) Via.refl e2 (S_q0.ext O0.2) (g := (mkF m 19 #[rv a0, rv a1, rv a1] [])) rfl (hb hby d17_19)
 obtain ⟨T4, X4, e4, st4⟩ := getF X3 hx hZ hown (host := "") (Or.inl (ow hw 25 rfl)) Via.refl e3 pf2 (g := (mkF m 26 #[rv a0, rv a1, rv a1] [(.ref a0)])) rfl rfl (hb hby d17_26)
 obtain ⟨T5, X5, e5, st5⟩ := getF X4 hx hZ hown (host := "") (Or.inl (ow hw 25 rfl)) Via.refl e4 pf3 (g := (mkF m 30 #[rv a0, rv a1, rv a1] [(.ref a1), (.int (0 : Int32))])) rfl rfl (hb hby d17_30)
 obtain ⟨T6, X6, e6, st6⟩ := getF X5 hx hZ hown (host := "") (Or.inl (ow hw 18 rfl)) Via.refl e5 pf4 (g := (mkF m 37 #[rv a0, rv a1, rv a1] [(.ref a0)])) rfl rfl (hb hby d17_37)
 obtain ⟨T7, X7, e7, st7⟩ := getF X6 hx hZ hown (host := "") (Or.inl (ow hw 18 rfl)) Via.refl e6 pf5 (g := (mkF m 41 #[rv a0, rv a1, rv a1] [(.ref a1), (.ref u)])) rfl rfl (hb hby d17_41)
 obtain ⟨_, _, ⟨T8, L8, k8, n8⟩, -, X8, ⟨Lc8, hQ8, l8, y8, z8⟩, st8⟩ := Jvm.LawKit.callS X7 hx (y := y18) hown (mvT hZ (ow hw 82 rfl)) (mvT hZ (ow hw 83 rfl)) (mvT hZ (ow hw 46 rfl)) (mvT hZ (ow hw 84 rfl)) (by decide) (backOf (W := 0) (rm18_9_9 l Z ar hw [] u w _ _ _ _ _ _ _ _ _ _ _ _ _ _ _ _ _ _ _ _ h0 n0 O0 pf6 pf7) hZ (ow hw 84 rfl) (ow hw 46 rfl) (by decide) (by decide)) (g := (mkF m 44 #[rv a0, rv a1, rv a1] [(.ref w), (.ref u)])) rfl (by rw [hml]; rfl) (argsL := [(.ref u), (.ref w)]) (rest := []) (lenOf pd_11 rfl) rfl (by show 2 * 0 + _ ≤ _; exact Nat.le_of_eq rfl) (hb hby d17_44) (fun _ _ => ⟨rfl, e7, (by decide : 0 + 0 ≤ _), (by decide : 0 + 0 ≤ _)⟩)
 dsimp only [Pt.U, Pt.locs, Pt.cells, Pt.slots] at X8 l8 y8 z8 st8 hQ8
 subst l8 y8 z8
 obtain ⟨rfl, N8q, e8⟩ := hQ8
 have N8 := Fr.app N0 N8q
 have pre9 : ∀ tg, AT p e below T8 m 47 #[rv a0, rv a1, rv a1] [(.int (f18_9_9 x0 x1 x2 x3 x4 x5 x6 x7 x8 y0 y1 y2 y3 y4 y5 y6 y7 y8))] tg → Steps p.tables e below S0 tg := fun tg kg => pre0 tg (by
  refine XS.aloadN X0.here hx rfl (hb hby d17_0) rfl rfl ?_
  refine XS.aloadN X0.here hx rfl (hb hby d17_1) rfl rfl ?_
  show AT p e below s₁ m 2 #[rv a0, rv a1, un] [(.ref a1), (.ref a0)] _
  refine Jvm.RoadKit.acmp (g := (mkF m 2 #[rv a0, rv a1, un] [(.ref a1), (.ref a0)])) X0 hx rfl rfl rfl (pc0 := 2) (pc' := 7) (same := false) rfl (hb hby d17_2) rfl (decide_eq_false fun q => (pf8 : ¬ (a0 = a1)) (Value.ref.inj q)) (by decide) (by decide) ?_
  refine XS.aloadN X0.here hx rfl (hb hby d17_7) rfl rfl ?_
  refine st1 _ ?_
  show AT p e below T1 m 11 #[rv a0, rv a1, un] [(.int (1 : Int32))] _
  refine XS.ifNo X1.here hx rfl (hb hby d17_11) rfl (XT.i0_eq_f ((by decide) : ¬ ((1 : Int32) = (0 : Int32)))) ?_
  refine XS.aloadN X1.here hx rfl (hb hby d17_14) rfl rfl ?_
  refine st2 _ ?_
  refine XS.astoreN X2.here hx rfl (hb hby d17_18) rfl rfl (l' := #[rv a0, rv a1, rv a1]) rfl ?_
  refine st3 _ ?_
  show AT p e below T3 m 22 #[rv a0, rv a1, rv a1] [(.int w_z0)] _
  refine XS.ifNo X3.here hx rfl (hb hby d17_22) rfl (XT.i0_eq_f (hz_w_z0 : ¬ (w_z0 = (0 : Int32)))) ?_
  refine XS.aloadN X3.here hx rfl (hb hby d17_25) rfl rfl ?_
  refine st4 _ ?_
  refine XS.aloadN X4.here hx rfl (hb hby d17_29) rfl rfl ?_
  refine st5 _ ?_
  show AT p e below T5 m 33 #[rv a0, rv a1, rv a1] [(.int (0 : Int32)), (.int (0 : Int32))] _
  refine XS.icmpNo X5.here hx rfl (hb hby d17_33) rfl (XT.ii_ne_f ((by decide) : (0 : Int32) = (0 : Int32))) ?_
  refine XS.aloadN X5.here hx rfl (hb hby d17_36) rfl rfl ?_
  refine st6 _ ?_
  refine XS.aloadN X6.here hx rfl (hb hby d17_40) rfl rfl ?_
  refine st7 _ ?_
  refine st8 _ ?_
  exact kg)
 rcases Decidable.em ((f18_9_9 x0 x1 x2 x3 x4 x5 x6 x7 x8 y0 y1 y2 y3 y4 y5 y6 y7 y8) = (0 : Int32)) with hc10 | hc10
 ·
  obtain ⟨fs, hr, hrun, hended, hW, hsame⟩ := X8.leave (v := some (.int (0 : Int32))) (fun h => by rw [Bd.returns] at h; cases h) hlk
  subst hS0
  refine ⟨_, _, pre9 _ ?_, hrun, hended, _, _, rfl, ?_, ⟨_, rfl⟩, hW, hsame.mono (by decide) (by decide)⟩
  ·
   refine XS.ifYes X8.here hx rfl (pc0 := 47) (pc' := 54) rfl (hb hby d17_47) rfl (XT.i0_eq_t hc10) (by decide) (by decide) ?_
   refine XS.iconst X8.here hx rfl (hb hby d17_54) ?_
   exact retN X8 hx (t := .boolean) Bd.returns (by simp) (hb hby d17_55) hr
  ·
   show Q17_9_9 Z a0 a1 u w ka kb x0 x1 x2 x3 x4 x5 x6 x7 x8 y0 y1 y2 y3 y4 y5 y6 y7 y8 h0 n0 _ T8.heap _
   rw [e8]
   exact ⟨(by rw [f17_9_9, if_pos hc10]), N8, rfl⟩
 ·
  obtain ⟨fs, hr, hrun, hended, hW, hsame⟩ := X8.leave (v := some (.int (1 : Int32))) (fun h => by rw [Bd.returns] at h; cases h) hlk
  subst hS0
  refine ⟨_, _, pre9 _ ?_, hrun, hended, _, _, rfl, ?_, ⟨_, rfl⟩, hW, hsame.mono (by decide) (by decide)⟩
  ·
   refine XS.ifNo X8.here hx rfl (hb hby d17_47) rfl (XT.i0_eq_f hc10) ?_
   refine XS.iconst X8.here hx rfl (hb hby d17_50) ?_
   refine XS.goto X8.here hx rfl (pc0 := 51) (pc' := 55) rfl (hb hby d17_51) (by decide) (by decide) ?_
   exact retN X8 hx (t := .boolean) Bd.returns (by simp) (hb hby d17_55) hr
  ·
   show Q17_9_9 Z a0 a1 u w ka kb x0 x1 x2 x3 x4 x5 x6 x7 x8 y0 y1 y2 y3 y4 y5 y6 y7 y8 h0 n0 _ T8.heap _
   rw [e8]
   exact ⟨(by rw [f17_9_9, if_neg hc10]), N8, rfl⟩

theorem ef_19_9 (m : MethodId) (a0 : Addr) : entryFrame m #[(.ref a0)] 6 = mkF m 0 #[rv a0, un, un, un, un, un] [] := by first | (simp [entryFrame, mkF, argsToLocals, Value.category]; done) | rfl
def f19_9 (w_z5 : Addr) (y0 : Int32) (y1 : Int32) (y2 : Int32) (y3 : Int32) (y4 : Int32) (y5 : Int32) (y6 : Int32) (y7 : Int32) (y8 : Int32) : Value := if (f17_9_9 (116 : Int32) (101 : Int32) (114 : Int32) (109 : Int32) (105 : Int32) (110 : Int32) (97 : Int32) (116 : Int32) (101 : Int32) y0 y1 y2 y3 y4 y5 y6 y7 y8) = (0 : Int32) then .null else (.ref w_z5)
def Q19_9 (Z : State) (a0 : Addr) (w_z5 : Addr) (u : Addr) (ku : ClassId) (y0 : Int32) (y1 : Int32) (y2 : Int32) (y3 : Int32) (y4 : Int32) (y5 : Int32) (y6 : Int32) (y7 : Int32) (y8 : Int32) (h0 : Heap) (n0 : Nat) (v : Option Value) (h : Heap) (L : List Loc) : Prop := v = some (f19_9 w_z5 y0 y1 y2 y3 y4 y5 y6 y7 y8) ∧ Fr n0 L ∧ Keep h0 h []
abbrev R19_9 : Room := ({ frames := 2, cells := 1, slots := 3, locals := 28 } : Room)
set_option maxRecDepth 65536 in
set_option maxHeartbeats 40000000 in
theorem rm19_9 (l : Launch) (Z : State) (ar : Array Value) (hw : ∀ d ∈ tables_1, d.before ar Z = true) (ws : List Jvm.Cond) (a0 : Addr) (u : Addr) (ku : ClassId) (y0 : Int32) (y1 : Int32) (y2 : Int32) (y3 : Int32) (y4 : Int32) (y5 : Int32) (y6 : Int32) (y7 : Int32) (y8 : Int32) (h0 : Heap) (n0 : Nat) (O0 : Old Z n0 h0) (HW : Wd Z w_z0 w_z1 w_z2 w_z3 w_z4 w_z5 w_z6 w_z7 w_z8 w_z9 w_z10 w_z11 k_z3 k_z7 k_z9 k_z11) (pf0 : Exa Z h0 a0 "java/lang/String") (pf1 : Fld Z h0 a0 "java/lang/String" "coder" "B" (.int (0 : Int32))) (pf2 : Fld Z h0 a0 "java/lang/String" "value" "[B" (.ref u)) (pf3 : Arv Z h0 u ku .byte (9 : Int32) [(.int y0), (.int y1), (.int y2), (.int y3), (.int y4), (.int y5), (.int y6), (.int y7), (.int y8)] (.int (0 : Int32))) (pf4 : n0 ≤ a0) :
    MetFree l y19 (head1 (Jvm.Cond.code y19 prog_10_method_6_code 6 (some (.object "com/example/lease/lease/WorkerState")) :: ws) R19_9) (fun a U => a = #[(.ref a0)] ∧ Z.Warmed39 U.vm ∧ U.heap = h0) (fun _ _ _ _ _ => True) (fun _ U o U' => ∃ v L, o = .returned v ∧ Q19_9 Z a0 w_z5 u ku y0 y1 y2 y3 y4 y5 y6 y7 y8 h0 n0 v U'.heap L ∧ FrameEnd U o U' L R19_9.cells R19_9.slots) := by
 refine MetFree.of_bodySF (plainFor_of_name pn_4) hisR ?_
 intro p e s m args below meth c s₁ Bd hml0 hP hK
 obtain ⟨rfl, hZ, hh⟩ := hP
 have hx := Bd.exec
 have hby := Bd.bytes
 have hml : c.maxLocals = 6 := hml0
 have hown : s.vm.findClass "com/example/lease/lease/WorkerState" = some m.cls := findClass_of_methodNamed Bd.named
 have hnm := (name_of_methodNamed Bd.named Bd.method).1
 have hlk : meth.locks = false := by first | assumption | exact BodyLoose.notSynchronized (by assumption) | exact Body.notSynchronized (by assumption)
 have X0 : Stand p l e R19_9 s m #[(.ref a0)] below meth c s₁ [] 0 0 := Stand.of_body Bd
 have e0 : s₁.heap = h0 := by rw [← hh, Bd.state]; rfl
 have N0 := Fr.nil n0
 have Z0 : n0 ≤ h0.size := Nat.le_trans (Nat.le_of_eq O0.1.symm) O0.2.1
 obtain ⟨S0, hS0⟩ : ∃ z, z = s₁.setTop (entryFrame m #[(.ref a0)] 6) := ⟨_, rfl⟩
 have pre0 : ∀ tg, AT p e below s₁ m 0 #[rv a0, un, un, un, un, un] [] tg → Steps p.tables e below S0 tg := fun tg kg => by rw [hS0]; exact castTop (ef_19_9 m a0) kg
 obtain ⟨-, -, -, -, -, -, -, -, -, -, -, -, F_shown_z2, E_z6, F_coder_z6, F_value_z6, F_shown_z4, E_z8, F_coder_z8, F_value_z8, F_shown_z5, E_z10, F_coder_z10, F_value_z10, -, V_z7, V_z9, V_z11⟩ := id HW
 obtain ⟨_, _, ⟨T1, L1, k1, n1⟩, -, X1, ⟨Lc1, hQ1, l1, y1, z1⟩, st1⟩ := Jvm.LawKit.callS X0 hx (y := y20) hown (mvT hZ (ow hw 91 rfl)) (mvT hZ (ow hw 92 rfl)) (mvT hZ (ow hw 86 rfl)) (mvT hZ (ow hw 93 rfl)) (by decide) (backOf (W := 0) (rm20 l Z ar hw []  h0 n0 O0 HW) hZ (ow hw 93 rfl) (ow hw 86 rfl) (by decide) (by decide)) (g := (mkF m 2 #[rv a0, .val .null, un, un, un, un] [])) rfl (by rw [hml]; rfl) (argsL := []) (rest := []) (lenOf pd_12 rfl) rfl (by show 2 * 0 + _ ≤ _; exact Nat.le_of_eq rfl) (hb hby d19_2) (fun _ _ => ⟨rfl, e0, (by decide : 0 + 1 ≤ _), (by decide : 0 + 3 ≤ _)⟩)
 dsimp only [Pt.U, Pt.locs, Pt.cells, Pt.slots] at X1 l1 y1 z1 st1 hQ1
 subst l1 y1 z1
 obtain ⟨b_1, kb_1, rfl, N1q, Kq1, u1_0, u1_1, u1_2⟩ := hQ1
 have N1 := Fr.app N0 N1q
 have E1_2 := pf0.keep Kq1
 have F1_3 := pf1.keep Kq1 nin0
 have F1_4 := pf2.keep Kq1 nin0
 have V1_5 := pf3.keep Kq1 nin0
 have K1 := (Keep.refl h0 []).trans Kq1 all0
 have O1 := O0.keep Kq1 all0
 have sz6 : h0.size ≤ b_1 := Nat.le_trans (Keep.refl h0 []).1 u1_1
 have gn6 : n0 ≤ b_1 := Nat.le_trans (Nat.le_trans (Nat.le_of_eq O0.1.symm) O0.2.1) u1_1
 have ne7 : a0 ≠ b_1 := Nat.ne_of_lt (Nat.lt_of_lt_of_le (pf0).lt u1_1)
 have ne8 : u ≠ b_1 := Nat.ne_of_lt (Nat.lt_of_lt_of_le (pf3).lt u1_1)
 obtain ⟨cl9, Ar9, q9, S9, N9, H9, G9⟩ := id u1_0
 obtain ⟨cl10, Ar10, q10, S10, N10, H10, G10⟩ := id u1_0
 have hin10 := own_in (0 : Int32) S10 ⟨by decide, by decide⟩
 have hat10 : cl10.slots[((0 : Int32)).toNatClampNeg]? = some (.ref w_z2) := Has.at H10 hin10 rfl
 obtain ⟨T11, X11, e11, st11⟩ := getF X1 hx hZ hown (host := "") (Or.inl (ow hw 108 rfl)) Via.refl rfl (F_shown_z2.ext O1.2) (g := (mkF m 26 #[rv a0, .val .null, rv b_1, iv (3 : Int32), iv (0 : Int32), rv w_z2] [(.ref w_z2)])) rfl rfl (hb hby d19_26)
 obtain ⟨cq12, kq12, q12a, q12b, q12c⟩ := isOf hZ e11 (E_z6.ext O1.2)
 obtain ⟨_, _, ⟨T12, L12, k12, n12⟩, -, X12, ⟨Lc12, hQ12, l12, y12, z12⟩, st12⟩ := X11.virtualBack hx (y := y17) (z := y17) hown (mvT hZ (ow hw 110 rfl)) (mvT hZ (ow hw 77 rfl)) (notFace_of_selects (args := #[]) (mvT hZ (ow hw 79 rfl))) (mvT hZ (ow hw 79 rfl)) (mvT hZ (ow hw 78 rfl)) (by decide) (backOf (W := 0) (rm17_z l Z ar hw [] w_z6 a0 _ _ _ _ _ _ _ _ T1.heap n0 O1 HW (E_z6.ext O1.2) E1_2 (F_coder_z6.ext O1.2) F1_3 (F_value_z6.ext O1.2) F1_4 (V_z7.ext O1.2) V1_5 (Old.ne O1 E_z6.lt pf4) (by decide)) hZ (ow hw 80 rfl) (ow hw 6 rfl) (by decide) (by decide)) q12a q12c (g := (mkF m 30 #[rv a0, .val .null, rv b_1, iv (3 : Int32), iv (0 : Int32), rv w_z2] [(.ref a0), (.ref w_z6)])) rfl (by rw [hml]; rfl) (Steps.refl _) (argsL := [(.ref a0)]) (rest := []) (lenOf pd_13 rfl) rfl (by show 2 * 0 + _ ≤ _; exact Nat.le_of_eq rfl) (hb hby d19_30) (fun _ _ => ⟨rfl, e11, (by decide : 1 + 0 ≤ _), (by decide : 3 + 0 ≤ _)⟩)
 dsimp only [Pt.U, Pt.locs, Pt.cells, Pt.slots] at X12 l12 y12 z12 st12 hQ12
 subst l12 y12 z12
 obtain ⟨rfl, N12q, e12⟩ := hQ12
 have N12 := Fr.app N1 N12q
 obtain ⟨cl13, Ar13, q13, S13, N13, H13, G13⟩ := id u1_0
 have hin13 := own_in (1 : Int32) S13 ⟨by decide, by decide⟩
 have hat13 : cl13.slots[((1 : Int32)).toNatClampNeg]? = some (.ref w_z4) := Has.at H13 hin13 rfl
 obtain ⟨T14, X14, e14, st14⟩ := getF X12 hx hZ hown (host := "") (Or.inl (ow hw 108 rfl)) Via.refl e12 (F_shown_z4.ext O1.2) (g := (mkF m 26 #[rv a0, .val .null, rv b_1, iv (3 : Int32), iv (1 : Int32), rv w_z4] [(.ref w_z4)])) rfl rfl (hb hby d19_26)
 obtain ⟨cq15, kq15, q15a, q15b, q15c⟩ := isOf hZ e14 (E_z8.ext O1.2)
 obtain ⟨_, _, ⟨T15, L15, k15, n15⟩, -, X15, ⟨Lc15, hQ15, l15, y15, z15⟩, st15⟩ := X14.virtualBack hx (y := y17) (z := y17) hown (mvT hZ (ow hw 110 rfl)) (mvT hZ (ow hw 77 rfl)) (notFace_of_selects (args := #[]) (mvT hZ (ow hw 79 rfl))) (mvT hZ (ow hw 79 rfl)) (mvT hZ (ow hw 78 rfl)) (by decide) (backOf (W := 0) (rm17_z l Z ar hw [] w_z8 a0 _ _ _ _ _ _ _ _ T1.heap n0 O1 HW (E_z8.ext O1.2) E1_2 (F_coder_z8.ext O1.2) F1_3 (F_value_z8.ext O1.2) F1_4 (V_z9.ext O1.2) V1_5 (Old.ne O1 E_z8.lt pf4) (by decide)) hZ (ow hw 80 rfl) (ow hw 6 rfl) (by decide) (by decide)) q15a q15c (g := (mkF m 30 #[rv a0, .val .null, rv b_1, iv (3 : Int32), iv (1 : Int32), rv w_z4] [(.ref a0), (.ref w_z8)])) rfl (by rw [hml]; rfl) (Steps.refl _) (argsL := [(.ref a0)]) (rest := []) (lenOf pd_13 rfl) rfl (by show 2 * 0 + _ ≤ _; exact Nat.le_of_eq rfl) (hb hby d19_30) (fun _ _ => ⟨rfl, e14, (by decide : 1 + 0 ≤ _), (by decide : 3 + 0 ≤ _)⟩)
 dsimp only [Pt.U, Pt.locs, Pt.cells, Pt.slots] at X15 l15 y15 z15 st15 hQ15
 subst l15 y15 z15
 obtain ⟨rfl, N15q, e15⟩ := hQ15
 have N15 := Fr.app N12 N15q
 obtain ⟨cl16, Ar16, q16, S16, N16, H16, G16⟩ := id u1_0
 have hin16 := own_in (2 : Int32) S16 ⟨by decide, by decide⟩
 have hat16 : cl16.slots[((2 : Int32)).toNatClampNeg]? = some (.ref w_z5) := Has.at H16 hin16 rfl
 obtain ⟨T17, X17, e17, st17⟩ := getF X15 hx hZ hown (host := "") (Or.inl (ow hw 108 rfl)) Via.refl e15 (F_shown_z5.ext O1.2) (g := (mkF m 26 #[rv a0, .val .null, rv b_1, iv (3 : Int32), iv (2 : Int32), rv w_z5] [(.ref w_z5)])) rfl rfl (hb hby d19_26)
 obtain ⟨cq18, kq18, q18a, q18b, q18c⟩ := isOf hZ e17 (E_z10.ext O1.2)
 obtain ⟨_, _, ⟨T18, L18, k18, n18⟩, -, X18, ⟨Lc18, hQ18, l18, y18, z18⟩, st18⟩ := X17.virtualBack hx (y := y17) (z := y17) hown (mvT hZ (ow hw 110 rfl)) (mvT hZ (ow hw 77 rfl)) (notFace_of_selects (args := #[]) (mvT hZ (ow hw 79 rfl))) (mvT hZ (ow hw 79 rfl)) (mvT hZ (ow hw 78 rfl)) (by decide) (backOf (W := 0) (rm17_9_9 l Z ar hw [] w_z10 a0 _ _ _ _ _ _ _ _ _ _ _ _ _ _ _ _ _ _ _ _ _ _ T1.heap n0 O1 HW (E_z10.ext O1.2) E1_2 (F_coder_z10.ext O1.2) F1_3 (F_value_z10.ext O1.2) F1_4 (V_z11.ext O1.2) V1_5 (Old.ne O1 E_z10.lt pf4)) hZ (ow hw 80 rfl) (ow hw 6 rfl) (by decide) (by decide)) q18a q18c (g := (mkF m 30 #[rv a0, .val .null, rv b_1, iv (3 : Int32), iv (2 : Int32), rv w_z5] [(.ref a0), (.ref w_z10)])) rfl (by rw [hml]; rfl) (Steps.refl _) (argsL := [(.ref a0)]) (rest := []) (lenOf pd_13 rfl) rfl (by show 2 * 0 + _ ≤ _; exact Nat.le_of_eq rfl) (hb hby d19_30) (fun _ _ => ⟨rfl, e17, (by decide : 1 + 0 ≤ _), (by decide : 3 + 0 ≤ _)⟩)
 dsimp only [Pt.U, Pt.locs, Pt.cells, Pt.slots] at X18 l18 y18 z18 st18 hQ18
 subst l18 y18 z18
 obtain ⟨rfl, N18q, e18⟩ := hQ18
 have N18 := Fr.app N15 N18q
 have pre19 : ∀ tg, AT p e below T18 m 33 #[rv a0, .val .null, rv b_1, iv (3 : Int32), iv (2 : Int32), rv w_z5] [(.int (f17_9_9 (116 : Int32) (101 : Int32) (114 : Int32) (109 : Int32) (105 : Int32) (110 : Int32) (97 : Int32) (116 : Int32) (101 : Int32) y0 y1 y2 y3 y4 y5 y6 y7 y8))] tg → Steps p.tables e below S0 tg := fun tg kg => pre0 tg (by
  refine XS.aconstNull X0.here hx rfl (hb hby d19_0) ?_
  refine XS.astoreN X0.here hx rfl (hb hby d19_1) rfl rfl (l' := #[rv a0, .val .null, un, un, un, un]) rfl ?_
  refine st1 _ ?_
  refine XS.astoreN X1.here hx rfl (hb hby d19_5) rfl rfl (l' := #[rv a0, .val .null, rv b_1, un, un, un]) rfl ?_
  refine XS.aloadN X1.here hx rfl (hb hby d19_6) rfl rfl ?_
  refine X1.arraylength hx Ar9.1 (State.isArrayOf_alike hZ.alike Ar9.2.1) (g := (mkF m 7 #[rv a0, .val .null, rv b_1, un, un, un] [(.ref b_1)])) rfl rfl (hb hby d19_7) _ ?_
  rw [len_of S9 N9]
  refine XS.istoreN X1.here hx rfl (hb hby d19_8) rfl (l' := #[rv a0, .val .null, rv b_1, iv (3 : Int32), un, un]) rfl ?_
  refine XS.iconst X1.here hx rfl (hb hby d19_9) ?_
  refine XS.istore X1.here hx rfl (hb hby d19_10) rfl (l' := #[rv a0, .val .null, rv b_1, iv (3 : Int32), iv (0 : Int32), un]) rfl ?_
  refine XS.iload X1.here hx rfl (hb hby d19_12) rfl ?_
  refine XS.iloadN X1.here hx rfl (hb hby d19_14) rfl ?_
  show AT p e below T1 m 15 #[rv a0, .val .null, rv b_1, iv (3 : Int32), iv (0 : Int32), un] [(.int (3 : Int32)), (.int (0 : Int32))] _
  refine XS.icmpNo X1.here hx rfl (hb hby d19_15) rfl (XT.ii_ge_f ((by decide) : (0 : Int32) < (3 : Int32))) ?_
  refine XS.aloadN X1.here hx rfl (hb hby d19_18) rfl rfl ?_
  refine XS.iload X1.here hx rfl (hb hby d19_19) rfl ?_
  refine X1.aaload hx (j := (0 : Int32)) (v := (.ref w_z2)) Ar10.1 (State.isArrayOf_alike hZ.alike Ar10.2.1) rfl Ar10.2.2 hin10 hat10 (g := (mkF m 21 #[rv a0, .val .null, rv b_1, iv (3 : Int32), iv (0 : Int32), un] [(.int (0 : Int32)), (.ref b_1)])) rfl rfl (hb hby d19_21) _ ?_
  refine XS.astore X1.here hx rfl (hb hby d19_22) rfl rfl (l' := #[rv a0, .val .null, rv b_1, iv (3 : Int32), iv (0 : Int32), rv w_z2]) rfl ?_
  refine XS.aload X1.here hx rfl (hb hby d19_24) rfl rfl ?_
  refine st11 _ ?_
  refine XS.aloadN X11.here hx rfl (hb hby d19_29) rfl rfl ?_
  refine st12.trans ?_
  show AT p e below T12 m 33 #[rv a0, .val .null, rv b_1, iv (3 : Int32), iv (0 : Int32), rv w_z2] [(.int (0 : Int32))] _
  refine XS.ifYes X12.here hx rfl (pc0 := 33) (pc' := 39) rfl (hb hby d19_33) rfl (XT.i0_eq_t ((by decide) : (0 : Int32) = (0 : Int32))) (by decide) (by decide) ?_
  refine XS.iinc X12.here hx rfl (hb hby d19_39) rfl (l' := #[rv a0, .val .null, rv b_1, iv (3 : Int32), iv (1 : Int32), rv w_z2]) rfl ?_
  refine XS.goto X12.here hx rfl (pc0 := 42) (pc' := 12) rfl (hb hby d19_42) (by decide) (by decide) ?_
  refine XS.iload X12.here hx rfl (hb hby d19_12) rfl ?_
  refine XS.iloadN X12.here hx rfl (hb hby d19_14) rfl ?_
  show AT p e below T12 m 15 #[rv a0, .val .null, rv b_1, iv (3 : Int32), iv (1 : Int32), rv w_z2] [(.int (3 : Int32)), (.int (1 : Int32))] _
  refine XS.icmpNo X12.here hx rfl (hb hby d19_15) rfl (XT.ii_ge_f ((by decide) : (1 : Int32) < (3 : Int32))) ?_
  refine XS.aloadN X12.here hx rfl (hb hby d19_18) rfl rfl ?_
  refine XS.iload X12.here hx rfl (hb hby d19_19) rfl ?_
  refine X12.aaload hx (j := (1 : Int32)) (v := (.ref w_z4)) (by rw [e12]; exact Ar13.1) (State.isArrayOf_alike hZ.alike Ar13.2.1) rfl Ar13.2.2 hin13 hat13 (g := (mkF m 21 #[rv a0, .val .null, rv b_1, iv (3 : Int32), iv (1 : Int32), rv w_z2] [(.int (1 : Int32)), (.ref b_1)])) rfl rfl (hb hby d19_21) _ ?_
  refine XS.astore X12.here hx rfl (hb hby d19_22) rfl rfl (l' := #[rv a0, .val .null, rv b_1, iv (3 : Int32), iv (1 : Int32), rv w_z4]) rfl ?_
  refine XS.aload X12.here hx rfl (hb hby d19_24) rfl rfl ?_
  refine st14 _ ?_
  refine XS.aloadN X14.here hx rfl (hb hby d19_29) rfl rfl ?_
  show AT p e below T14 m 30 #[rv a0, .val .null, rv b_1, iv (3 : Int32), iv (1 : Int32), rv w_z4] [(.ref a0), (.ref w_z8)] _
  refine st15.trans ?_
  show AT p e below T15 m 33 #[rv a0, .val .null, rv b_1, iv (3 : Int32), iv (1 : Int32), rv w_z4] [(.int (0 : Int32))] _
  refine XS.ifYes X15.here hx rfl (pc0 := 33) (pc' := 39) rfl (hb hby d19_33) rfl (XT.i0_eq_t ((by decide) : (0 : Int32) = (0 : Int32))) (by decide) (by decide) ?_
  refine XS.iinc X15.here hx rfl (hb hby d19_39) rfl (l' := #[rv a0, .val .null, rv b_1, iv (3 : Int32), iv (2 : Int32), rv w_z4]) rfl ?_
  refine XS.goto X15.here hx rfl (pc0 := 42) (pc' := 12) rfl (hb hby d19_42) (by decide) (by decide) ?_
  refine XS.iload X15.here hx rfl (hb hby d19_12) rfl ?_
  refine XS.iloadN X15.here hx rfl (hb hby d19_14) rfl ?_
  show AT p e below T15 m 15 #[rv a0, .val .null, rv b_1, iv (3 : Int32), iv (2 : Int32), rv w_z4] [(.int (3 : Int32)), (.int (2 : Int32))] _
  refine XS.icmpNo X15.here hx rfl (hb hby d19_15) rfl (XT.ii_ge_f ((by decide) : (2 : Int32) < (3 : Int32))) ?_
  refine XS.aloadN X15.here hx rfl (hb hby d19_18) rfl rfl ?_
  refine XS.iload X15.here hx rfl (hb hby d19_19) rfl ?_
  refine X15.aaload hx (j := (2 : Int32)) (v := (.ref w_z5)) (by rw [e15]; exact Ar16.1) (State.isArrayOf_alike hZ.alike Ar16.2.1) rfl Ar16.2.2 hin16 hat16 (g := (mkF m 21 #[rv a0, .val .null, rv b_1, iv (3 : Int32), iv (2 : Int32), rv w_z4] [(.int (2 : Int32)), (.ref b_1)])) rfl rfl (hb hby d19_21) _ ?_
  refine XS.astore X15.here hx rfl (hb hby d19_22) rfl rfl (l' := #[rv a0, .val .null, rv b_1, iv (3 : Int32), iv (2 : Int32), rv w_z5]) rfl ?_
  refine XS.aload X15.here hx rfl (hb hby d19_24) rfl rfl ?_
  refine st17 _ ?_
  refine XS.aloadN X17.here hx rfl (hb hby d19_29) rfl rfl ?_
  refine st18.trans ?_
  exact kg)
 rcases Decidable.em ((f17_9_9 (116 : Int32) (101 : Int32) (114 : Int32) (109 : Int32) (105 : Int32) (110 : Int32) (97 : Int32) (116 : Int32) (101 : Int32) y0 y1 y2 y3 y4 y5 y6 y7 y8) = (0 : Int32)) with hc20 | hc20
 ·
  obtain ⟨fs, hr, hrun, hended, hW, hsame⟩ := X18.leave (v := some .null) (fun h => by rw [Bd.returns] at h; cases h) hlk
  subst hS0
  refine ⟨_, _, pre19 _ ?_, hrun, hended, _, _, rfl, ?_, ⟨_, rfl⟩, hW, hsame.mono (by decide) (by decide)⟩
  ·
   refine XS.ifYes X18.here hx rfl (pc0 := 33) (pc' := 39) rfl (hb hby d19_33) rfl (XT.i0_eq_t hc20) (by decide) (by decide) ?_
   refine XS.iinc X18.here hx rfl (hb hby d19_39) rfl (l' := #[rv a0, .val .null, rv b_1, iv (3 : Int32), iv (3 : Int32), rv w_z5]) rfl ?_
   refine XS.goto X18.here hx rfl (pc0 := 42) (pc' := 12) rfl (hb hby d19_42) (by decide) (by decide) ?_
   refine XS.iload X18.here hx rfl (hb hby d19_12) rfl ?_
   refine XS.iloadN X18.here hx rfl (hb hby d19_14) rfl ?_
   show AT p e below T18 m 15 #[rv a0, .val .null, rv b_1, iv (3 : Int32), iv (3 : Int32), rv w_z5] [(.int (3 : Int32)), (.int (3 : Int32))] _
   refine XS.icmpYes X18.here hx rfl (pc0 := 15) (pc' := 45) rfl (hb hby d19_15) rfl (XT.ii_ge_t ((by decide) : ¬ ((3 : Int32) < (3 : Int32)))) (by decide) (by decide) ?_
   refine XS.aloadN X18.here hx rfl (hb hby d19_45) rfl rfl ?_
   exact retOut X18 hx (t := (.object "com/example/lease/lease/WorkerState")) (i := .areturn) Bd.returns rfl (Or.inr (Or.inr (Or.inr (Or.inr ⟨rfl, rfl, rfl⟩)))) (hb hby d19_46) hr
  ·
   show Q19_9 Z a0 w_z5 u ku y0 y1 y2 y3 y4 y5 y6 y7 y8 h0 n0 _ T18.heap _
   rw [e18]
   exact ⟨(by rw [f19_9, if_pos hc20]), N18, K1⟩
 ·
  obtain ⟨fs, hr, hrun, hended, hW, hsame⟩ := X18.leave (v := some (.ref w_z5)) (fun h => by rw [Bd.returns] at h; cases h) hlk
  subst hS0
  refine ⟨_, _, pre19 _ ?_, hrun, hended, _, _, rfl, ?_, ⟨_, rfl⟩, hW, hsame.mono (by decide) (by decide)⟩
  ·
   refine XS.ifNo X18.here hx rfl (hb hby d19_33) rfl (XT.i0_eq_f hc20) ?_
   refine XS.aload X18.here hx rfl (hb hby d19_36) rfl rfl ?_
   refine XS.astoreN X18.here hx rfl (hb hby d19_38) rfl rfl (l' := #[rv a0, rv w_z5, rv b_1, iv (3 : Int32), iv (2 : Int32), rv w_z5]) rfl ?_
   refine XS.iinc X18.here hx rfl (hb hby d19_39) rfl (l' := #[rv a0, rv w_z5, rv b_1, iv (3 : Int32), iv (3 : Int32), rv w_z5]) rfl ?_
   refine XS.goto X18.here hx rfl (pc0 := 42) (pc' := 12) rfl (hb hby d19_42) (by decide) (by decide) ?_
   refine XS.iload X18.here hx rfl (hb hby d19_12) rfl ?_
   refine XS.iloadN X18.here hx rfl (hb hby d19_14) rfl ?_
   show AT p e below T18 m 15 #[rv a0, rv w_z5, rv b_1, iv (3 : Int32), iv (3 : Int32), rv w_z5] [(.int (3 : Int32)), (.int (3 : Int32))] _
   refine XS.icmpYes X18.here hx rfl (pc0 := 15) (pc' := 45) rfl (hb hby d19_15) rfl (XT.ii_ge_t ((by decide) : ¬ ((3 : Int32) < (3 : Int32)))) (by decide) (by decide) ?_
   refine XS.aloadN X18.here hx rfl (hb hby d19_45) rfl rfl ?_
   exact retOut X18 hx (t := (.object "com/example/lease/lease/WorkerState")) (i := .areturn) Bd.returns rfl (Or.inr (Or.inr (Or.inr (Or.inr ⟨rfl, rfl, rfl⟩)))) (hb hby d19_46) hr
  ·
   show Q19_9 Z a0 w_z5 u ku y0 y1 y2 y3 y4 y5 y6 y7 y8 h0 n0 _ T18.heap _
   rw [e18]
   exact ⟨(by rw [f19_9, if_neg hc20]), N18, K1⟩

theorem d17_5 : decode jdk_42_method_66_code 5 = .ok (.iconst 1, 1) := by decide +kernel
theorem d17_6 : decode jdk_42_method_66_code 6 = .ok (.ireturn, 1) := by decide +kernel
theorem ef_17_7_7q (m : MethodId) (a0 : Addr) (a1 : Addr) : entryFrame m #[(.ref a0), (.ref a1)] 3 = mkF m 0 #[rv a0, rv a1, un] [] := by first | (simp [entryFrame, mkF, argsToLocals, Value.category]; done) | rfl
def f17_7_7q (a0 : Addr) (a1 : Addr) (x0 : Int32) (x1 : Int32) (x2 : Int32) (x3 : Int32) (x4 : Int32) (x5 : Int32) (x6 : Int32) (y0 : Int32) (y1 : Int32) (y2 : Int32) (y3 : Int32) (y4 : Int32) (y5 : Int32) (y6 : Int32) : Int32 := if a0 = a1 then (1 : Int32) else (if (f18_7_7 x0 x1 x2 x3 x4 x5 x6 y0 y1 y2 y3 y4 y5 y6) = (0 : Int32) then (0 : Int32) else (1 : Int32))
def Q17_7_7q (Z : State) (a0 : Addr) (a1 : Addr) (u : Addr) (w : Addr) (ka : ClassId) (kb : ClassId) (x0 : Int32) (x1 : Int32) (x2 : Int32) (x3 : Int32) (x4 : Int32) (x5 : Int32) (x6 : Int32) (y0 : Int32) (y1 : Int32) (y2 : Int32) (y3 : Int32) (y4 : Int32) (y5 : Int32) (y6 : Int32) (h0 : Heap) (n0 : Nat) (v : Option Value) (h : Heap) (L : List Loc) : Prop := v = some (.int (f17_7_7q a0 a1 x0 x1 x2 x3 x4 x5 x6 y0 y1 y2 y3 y4 y5 y6)) ∧ Fr n0 L ∧ h = h0
abbrev R17_7_7q : Room := ({ frames := 1, cells := 0, slots := 0, locals := 14 } : Room)
set_option maxRecDepth 65536 in
set_option maxHeartbeats 40000000 in
theorem rm17_7_7q (l : Launch) (Z : State) (ar : Array Value) (hw : ∀ d ∈ tables_1, d.before ar Z = true) (ws : List Jvm.Cond) (a0 : Addr) (a1 : Addr) (u : Addr) (w : Addr) (ka : ClassId) (kb : ClassId) (x0 : Int32) (x1 : Int32) (x2 : Int32) (x3 : Int32) (x4 : Int32) (x5 : Int32) (x6 : Int32) (y0 : Int32) (y1 : Int32) (y2 : Int32) (y3 : Int32) (y4 : Int32) (y5 : Int32) (y6 : Int32) (h0 : Heap) (n0 : Nat) (O0 : Old Z n0 h0) (HW : Wd Z w_z0 w_z1 w_z2 w_z3 w_z4 w_z5 w_z6 w_z7 w_z8 w_z9 w_z10 w_z11 k_z3 k_z7 k_z9 k_z11) (pf0 : Exa Z h0 a0 "java/lang/String") (pf1 : Exa Z h0 a1 "java/lang/String") (pf2 : Fld Z h0 a0 "java/lang/String" "coder" "B" (.int (0 : Int32))) (pf3 : Fld Z h0 a1 "java/lang/String" "coder" "B" (.int (0 : Int32))) (pf4 : Fld Z h0 a0 "java/lang/String" "value" "[B" (.ref u)) (pf5 : Fld Z h0 a1 "java/lang/String" "value" "[B" (.ref w)) (pf6 : Arv Z h0 u ka .byte (7 : Int32) [(.int x0), (.int x1), (.int x2), (.int x3), (.int x4), (.int x5), (.int x6)] (.int (0 : Int32))) (pf7 : Arv Z h0 w kb .byte (7 : Int32) [(.int y0), (.int y1), (.int y2), (.int y3), (.int y4), (.int y5), (.int y6)] (.int (0 : Int32))) :
    MetFree l y17 (head1 (Jvm.Cond.code y17 jdk_42_method_66_code 3 (some .boolean) :: ws) R17_7_7q) (fun a U => a = #[(.ref a0), (.ref a1)] ∧ Z.Warmed39 U.vm ∧ U.heap = h0) (fun _ _ _ _ _ => True) (fun _ U o U' => ∃ v L, o = .returned v ∧ Q17_7_7q Z a0 a1 u w ka kb x0 x1 x2 x3 x4 x5 x6 y0 y1 y2 y3 y4 y5 y6 h0 n0 v U'.heap L ∧ FrameEnd U o U' L R17_7_7q.cells R17_7_7q.slots) := by
 refine MetFree.of_bodySF (plainFor_of_name pn_0) hisR ?_
 intro p e s m args below meth c s₁ Bd hml0 hP hK
 obtain ⟨rfl, hZ, hh⟩ := hP
 have hx := Bd.exec
 have hby := Bd.bytes
 have hml : c.maxLocals = 3 := hml0
 have hown : s.vm.findClass "java/lang/String" = some m.cls := findClass_of_methodNamed Bd.named
 have hnm := (name_of_methodNamed Bd.named Bd.method).1
 have hlk : meth.locks = false := by first | assumption | exact BodyLoose.notSynchronized (by assumption) | exact Body.notSynchronized (by assumption)
 have X0 : Stand p l e R17_7_7q s m #[(.ref a0), (.ref a1)] below meth c s₁ [] 0 0 := Stand.of_body Bd
 have e0 : s₁.heap = h0 := by rw [← hh, Bd.state]; rfl
 have N0 := Fr.nil n0
 have Z0 : n0 ≤ h0.size := Nat.le_trans (Nat.le_of_eq O0.1.symm) O0.2.1
 obtain ⟨S0, hS0⟩ : ∃ z, z = s₁.setTop (entryFrame m #[(.ref a0), (.ref a1)] 3) := ⟨_, rfl⟩
 have pre0 : ∀ tg, AT p e below s₁ m 0 #[rv a0, rv a1, un] [] tg → Steps p.tables e below S0 tg := fun tg kg => by rw [hS0]; exact castTop (ef_17_7_7q m a0 a1) kg
 obtain ⟨S_q0, hz_w_z0, -, -, -, -, -, -, -, -, -, -, -, -, -, -, -, -, -, -, -, -, -, -, -, -, -, -⟩ := id HW
 have pre1 : ∀ tg, AT p e below s₁ m 2 #[rv a0, rv a1, un] [(.ref a1), (.ref a0)] tg → Steps p.tables e below S0 tg := fun tg kg => pre0 tg (by
  refine XS.aloadN X0.here hx rfl (hb hby d17_0) rfl rfl ?_
  refine XS.aloadN X0.here hx rfl (hb hby d17_1) rfl rfl ?_
  exact kg)
 rcases Decidable.em (a0 = a1) with hc2 | hc2
 ·
  obtain ⟨fs, hr, hrun, hended, hW, hsame⟩ := X0.leave (v := some (.int (1 : Int32))) (fun h => by rw [Bd.returns] at h; cases h) hlk
  subst hS0
  refine ⟨_, _, pre1 _ ?_, hrun, hended, _, _, rfl, ?_, ⟨_, rfl⟩, hW, hsame.mono (by decide) (by decide)⟩
  ·
   refine Jvm.RoadKit.acmp (g := (mkF m 2 #[rv a0, rv a1, un] [(.ref a1), (.ref a0)])) X0 hx rfl rfl rfl (pc0 := 2) (pc' := 5) (same := true) rfl (hb hby d17_2) rfl (decide_eq_true (congrArg Value.ref hc2)) (by decide) (by decide) ?_
   refine XS.iconst X0.here hx rfl (hb hby d17_5) ?_
   exact retN X0 hx (t := .boolean) Bd.returns (by simp) (hb hby d17_6) hr
  ·
   show Q17_7_7q Z a0 a1 u w ka kb x0 x1 x2 x3 x4 x5 x6 y0 y1 y2 y3 y4 y5 y6 h0 n0 _ s₁.heap _
   rw [e0]
   exact ⟨(by rw [f17_7_7q, if_pos hc2]), N0, rfl⟩
 ·
  obtain ⟨T3, X3, e3, st3⟩ := instY X0 hx hZ hown (ow hw 81 rfl) e0 (Ins.self pf1) (g := (mkF m 8 #[rv a0, rv a1, un] [(.ref a1)])) rfl rfl (hb hby d17_8)
  obtain ⟨T4, X4, e4, st4⟩ := castY X3 hx hZ hown (ow hw 81 rfl) e3 (Ins.self pf1) (g := (mkF m 15 #[rv a0, rv a1, un] [(.ref a1)])) rfl rfl (hb hby d17_15)
  obtain ⟨T5, X5, e5, st5⟩ := getS2 X4 hx hZ hown (host := "") (Or.inl (ow hw 24 rfl)) Via.refl e4 (S_q0.ext O0.2) (g := (mkF m 19 #[rv a0, rv a1, rv a1] [])) rfl (hb hby d17_19)
  obtain ⟨T6, X6, e6, st6⟩ := getF X5 hx hZ hown (host := "") (Or.inl (ow hw 25 rfl)) Via.refl e5 pf2 (g := (mkF m 26 #[rv a0, rv a1, rv a1] [(.ref a0)])) rfl rfl (hb hby d17_26)
  obtain ⟨T7, X7, e7, st7⟩ := getF X6 hx hZ hown (host := "") (Or.inl (ow hw 25 rfl)) Via.refl e6 pf3 (g := (mkF m 30 #[rv a0, rv a1, rv a1] [(.ref a1), (.int (0 : Int32))])) rfl rfl (hb hby d17_30)
  obtain ⟨T8, X8, e8, st8⟩ := getF X7 hx hZ hown (host := "") (Or.inl (ow hw 18 rfl)) Via.refl e7 pf4 (g := (mkF m 37 #[rv a0, rv a1, rv a1] [(.ref a0)])) rfl rfl (hb hby d17_37)
  obtain ⟨T9, X9, e9, st9⟩ := getF X8 hx hZ hown (host := "") (Or.inl (ow hw 18 rfl)) Via.refl e8 pf5 (g := (mkF m 41 #[rv a0, rv a1, rv a1] [(.ref a1), (.ref u)])) rfl rfl (hb hby d17_41)
  obtain ⟨_, _, ⟨T10, L10, k10, n10⟩, -, X10, ⟨Lc10, hQ10, l10, y10, z10⟩, st10⟩ := Jvm.LawKit.callS X9 hx (y := y18) hown (mvT hZ (ow hw 82 rfl)) (mvT hZ (ow hw 83 rfl)) (mvT hZ (ow hw 46 rfl)) (mvT hZ (ow hw 84 rfl)) (by decide) (backOf (W := 0) (rm18_7_7 l Z ar hw [] u w _ _ _ _ _ _ _ _ _ _ _ _ _ _ _ _ h0 n0 O0 pf6 pf7) hZ (ow hw 84 rfl) (ow hw 46 rfl) (by decide) (by decide)) (g := (mkF m 44 #[rv a0, rv a1, rv a1] [(.ref w), (.ref u)])) rfl (by rw [hml]; rfl) (argsL := [(.ref u), (.ref w)]) (rest := []) (lenOf pd_11 rfl) rfl (by show 2 * 0 + _ ≤ _; exact Nat.le_of_eq rfl) (hb hby d17_44) (fun _ _ => ⟨rfl, e9, (by decide : 0 + 0 ≤ _), (by decide : 0 + 0 ≤ _)⟩)
  dsimp only [Pt.U, Pt.locs, Pt.cells, Pt.slots] at X10 l10 y10 z10 st10 hQ10
  subst l10 y10 z10
  obtain ⟨rfl, N10q, e10⟩ := hQ10
  have N10 := Fr.app N0 N10q
  have pre11 : ∀ tg, AT p e below T10 m 47 #[rv a0, rv a1, rv a1] [(.int (f18_7_7 x0 x1 x2 x3 x4 x5 x6 y0 y1 y2 y3 y4 y5 y6))] tg → Steps p.tables e below S0 tg := fun tg kg => pre1 tg (by
   refine Jvm.RoadKit.acmp (g := (mkF m 2 #[rv a0, rv a1, un] [(.ref a1), (.ref a0)])) X0 hx rfl rfl rfl (pc0 := 2) (pc' := 7) (same := false) rfl (hb hby d17_2) rfl (decide_eq_false fun q => hc2 (Value.ref.inj q)) (by decide) (by decide) ?_
   refine XS.aloadN X0.here hx rfl (hb hby d17_7) rfl rfl ?_
   refine st3 _ ?_
   show AT p e below T3 m 11 #[rv a0, rv a1, un] [(.int (1 : Int32))] _
   refine XS.ifNo X3.here hx rfl (hb hby d17_11) rfl (XT.i0_eq_f ((by decide) : ¬ ((1 : Int32) = (0 : Int32)))) ?_
   refine XS.aloadN X3.here hx rfl (hb hby d17_14) rfl rfl ?_
   refine st4 _ ?_
   refine XS.astoreN X4.here hx rfl (hb hby d17_18) rfl rfl (l' := #[rv a0, rv a1, rv a1]) rfl ?_
   refine st5 _ ?_
   show AT p e below T5 m 22 #[rv a0, rv a1, rv a1] [(.int w_z0)] _
   refine XS.ifNo X5.here hx rfl (hb hby d17_22) rfl (XT.i0_eq_f (hz_w_z0 : ¬ (w_z0 = (0 : Int32)))) ?_
   refine XS.aloadN X5.here hx rfl (hb hby d17_25) rfl rfl ?_
   refine st6 _ ?_
   refine XS.aloadN X6.here hx rfl (hb hby d17_29) rfl rfl ?_
   refine st7 _ ?_
   show AT p e below T7 m 33 #[rv a0, rv a1, rv a1] [(.int (0 : Int32)), (.int (0 : Int32))] _
   refine XS.icmpNo X7.here hx rfl (hb hby d17_33) rfl (XT.ii_ne_f ((by decide) : (0 : Int32) = (0 : Int32))) ?_
   refine XS.aloadN X7.here hx rfl (hb hby d17_36) rfl rfl ?_
   refine st8 _ ?_
   refine XS.aloadN X8.here hx rfl (hb hby d17_40) rfl rfl ?_
   refine st9 _ ?_
   refine st10 _ ?_
   exact kg)
  rcases Decidable.em ((f18_7_7 x0 x1 x2 x3 x4 x5 x6 y0 y1 y2 y3 y4 y5 y6) = (0 : Int32)) with hc12 | hc12
  ·
   obtain ⟨fs, hr, hrun, hended, hW, hsame⟩ := X10.leave (v := some (.int (0 : Int32))) (fun h => by rw [Bd.returns] at h; cases h) hlk
   subst hS0
   refine ⟨_, _, pre11 _ ?_, hrun, hended, _, _, rfl, ?_, ⟨_, rfl⟩, hW, hsame.mono (by decide) (by decide)⟩
   ·
    refine XS.ifYes X10.here hx rfl (pc0 := 47) (pc' := 54) rfl (hb hby d17_47) rfl (XT.i0_eq_t hc12) (by decide) (by decide) ?_
    refine XS.iconst X10.here hx rfl (hb hby d17_54) ?_
    exact retN X10 hx (t := .boolean) Bd.returns (by simp) (hb hby d17_55) hr
   ·
    show Q17_7_7q Z a0 a1 u w ka kb x0 x1 x2 x3 x4 x5 x6 y0 y1 y2 y3 y4 y5 y6 h0 n0 _ T10.heap _
    rw [e10]
    exact ⟨(by rw [f17_7_7q, if_neg hc2, if_pos hc12]), N10, rfl⟩
  ·
   obtain ⟨fs, hr, hrun, hended, hW, hsame⟩ := X10.leave (v := some (.int (1 : Int32))) (fun h => by rw [Bd.returns] at h; cases h) hlk
   subst hS0
   refine ⟨_, _, pre11 _ ?_, hrun, hended, _, _, rfl, ?_, ⟨_, rfl⟩, hW, hsame.mono (by decide) (by decide)⟩
   ·
    refine XS.ifNo X10.here hx rfl (hb hby d17_47) rfl (XT.i0_eq_f hc12) ?_
    refine XS.iconst X10.here hx rfl (hb hby d17_50) ?_
    refine XS.goto X10.here hx rfl (pc0 := 51) (pc' := 55) rfl (hb hby d17_51) (by decide) (by decide) ?_
    exact retN X10 hx (t := .boolean) Bd.returns (by simp) (hb hby d17_55) hr
   ·
    show Q17_7_7q Z a0 a1 u w ka kb x0 x1 x2 x3 x4 x5 x6 y0 y1 y2 y3 y4 y5 y6 h0 n0 _ T10.heap _
    rw [e10]
    exact ⟨(by rw [f17_7_7q, if_neg hc2, if_neg hc12]), N10, rfl⟩

theorem ef_17_5_5q (m : MethodId) (a0 : Addr) (a1 : Addr) : entryFrame m #[(.ref a0), (.ref a1)] 3 = mkF m 0 #[rv a0, rv a1, un] [] := by first | (simp [entryFrame, mkF, argsToLocals, Value.category]; done) | rfl
def f17_5_5q (a0 : Addr) (a1 : Addr) (x0 : Int32) (x1 : Int32) (x2 : Int32) (x3 : Int32) (x4 : Int32) (y0 : Int32) (y1 : Int32) (y2 : Int32) (y3 : Int32) (y4 : Int32) : Int32 := if a0 = a1 then (1 : Int32) else (if (f18_5_5 x0 x1 x2 x3 x4 y0 y1 y2 y3 y4) = (0 : Int32) then (0 : Int32) else (1 : Int32))
def Q17_5_5q (Z : State) (a0 : Addr) (a1 : Addr) (u : Addr) (w : Addr) (ka : ClassId) (kb : ClassId) (x0 : Int32) (x1 : Int32) (x2 : Int32) (x3 : Int32) (x4 : Int32) (y0 : Int32) (y1 : Int32) (y2 : Int32) (y3 : Int32) (y4 : Int32) (h0 : Heap) (n0 : Nat) (v : Option Value) (h : Heap) (L : List Loc) : Prop := v = some (.int (f17_5_5q a0 a1 x0 x1 x2 x3 x4 y0 y1 y2 y3 y4)) ∧ Fr n0 L ∧ h = h0
abbrev R17_5_5q : Room := ({ frames := 1, cells := 0, slots := 0, locals := 14 } : Room)
set_option maxRecDepth 65536 in
set_option maxHeartbeats 40000000 in
theorem rm17_5_5q (l : Launch) (Z : State) (ar : Array Value) (hw : ∀ d ∈ tables_1, d.before ar Z = true) (ws : List Jvm.Cond) (a0 : Addr) (a1 : Addr) (u : Addr) (w : Addr) (ka : ClassId) (kb : ClassId) (x0 : Int32) (x1 : Int32) (x2 : Int32) (x3 : Int32) (x4 : Int32) (y0 : Int32) (y1 : Int32) (y2 : Int32) (y3 : Int32) (y4 : Int32) (h0 : Heap) (n0 : Nat) (O0 : Old Z n0 h0) (HW : Wd Z w_z0 w_z1 w_z2 w_z3 w_z4 w_z5 w_z6 w_z7 w_z8 w_z9 w_z10 w_z11 k_z3 k_z7 k_z9 k_z11) (pf0 : Exa Z h0 a0 "java/lang/String") (pf1 : Exa Z h0 a1 "java/lang/String") (pf2 : Fld Z h0 a0 "java/lang/String" "coder" "B" (.int (0 : Int32))) (pf3 : Fld Z h0 a1 "java/lang/String" "coder" "B" (.int (0 : Int32))) (pf4 : Fld Z h0 a0 "java/lang/String" "value" "[B" (.ref u)) (pf5 : Fld Z h0 a1 "java/lang/String" "value" "[B" (.ref w)) (pf6 : Arv Z h0 u ka .byte (5 : Int32) [(.int x0), (.int x1), (.int x2), (.int x3), (.int x4)] (.int (0 : Int32))) (pf7 : Arv Z h0 w kb .byte (5 : Int32) [(.int y0), (.int y1), (.int y2), (.int y3), (.int y4)] (.int (0 : Int32))) :
    MetFree l y17 (head1 (Jvm.Cond.code y17 jdk_42_method_66_code 3 (some .boolean) :: ws) R17_5_5q) (fun a U => a = #[(.ref a0), (.ref a1)] ∧ Z.Warmed39 U.vm ∧ U.heap = h0) (fun _ _ _ _ _ => True) (fun _ U o U' => ∃ v L, o = .returned v ∧ Q17_5_5q Z a0 a1 u w ka kb x0 x1 x2 x3 x4 y0 y1 y2 y3 y4 h0 n0 v U'.heap L ∧ FrameEnd U o U' L R17_5_5q.cells R17_5_5q.slots) := by
 refine MetFree.of_bodySF (plainFor_of_name pn_0) hisR ?_
 intro p e s m args below meth c s₁ Bd hml0 hP hK
 obtain ⟨rfl, hZ, hh⟩ := hP
 have hx := Bd.exec
 have hby := Bd.bytes
 have hml : c.maxLocals = 3 := hml0
 have hown : s.vm.findClass "java/lang/String" = some m.cls := findClass_of_methodNamed Bd.named
 have hnm := (name_of_methodNamed Bd.named Bd.method).1
 have hlk : meth.locks = false := by first | assumption | exact BodyLoose.notSynchronized (by assumption) | exact Body.notSynchronized (by assumption)
 have X0 : Stand p l e R17_5_5q s m #[(.ref a0), (.ref a1)] below meth c s₁ [] 0 0 := Stand.of_body Bd
 have e0 : s₁.heap = h0 := by rw [← hh, Bd.state]; rfl
 have N0 := Fr.nil n0
 have Z0 : n0 ≤ h0.size := Nat.le_trans (Nat.le_of_eq O0.1.symm) O0.2.1
 obtain ⟨S0, hS0⟩ : ∃ z, z = s₁.setTop (entryFrame m #[(.ref a0), (.ref a1)] 3) := ⟨_, rfl⟩
 have pre0 : ∀ tg, AT p e below s₁ m 0 #[rv a0, rv a1, un] [] tg → Steps p.tables e below S0 tg := fun tg kg => by rw [hS0]; exact castTop (ef_17_5_5q m a0 a1) kg
 obtain ⟨S_q0, hz_w_z0, -, -, -, -, -, -, -, -, -, -, -, -, -, -, -, -, -, -, -, -, -, -, -, -, -, -⟩ := id HW
 have pre1 : ∀ tg, AT p e below s₁ m 2 #[rv a0, rv a1, un] [(.ref a1), (.ref a0)] tg → Steps p.tables e below S0 tg := fun tg kg => pre0 tg (by
  refine XS.aloadN X0.here hx rfl (hb hby d17_0) rfl rfl ?_
  refine XS.aloadN X0.here hx rfl (hb hby d17_1) rfl rfl ?_
  exact kg)
 rcases Decidable.em (a0 = a1) with hc2 | hc2
 ·
  obtain ⟨fs, hr, hrun, hended, hW, hsame⟩ := X0.leave (v := some (.int (1 : Int32))) (fun h => by rw [Bd.returns] at h; cases h) hlk
  subst hS0
  refine ⟨_, _, pre1 _ ?_, hrun, hended, _, _, rfl, ?_, ⟨_, rfl⟩, hW, hsame.mono (by decide) (by decide)⟩
  ·
   refine Jvm.RoadKit.acmp (g := (mkF m 2 #[rv a0, rv a1, un] [(.ref a1), (.ref a0)])) X0 hx rfl rfl rfl (pc0 := 2) (pc' := 5) (same := true) rfl (hb hby d17_2) rfl (decide_eq_true (congrArg Value.ref hc2)) (by decide) (by decide) ?_
   refine XS.iconst X0.here hx rfl (hb hby d17_5) ?_
   exact retN X0 hx (t := .boolean) Bd.returns (by simp) (hb hby d17_6) hr
  ·
   show Q17_5_5q Z a0 a1 u w ka kb x0 x1 x2 x3 x4 y0 y1 y2 y3 y4 h0 n0 _ s₁.heap _
   rw [e0]
   exact ⟨(by rw [f17_5_5q, if_pos hc2]), N0, rfl⟩
 ·
  obtain ⟨T3, X3, e3, st3⟩ := instY X0 hx hZ hown (ow hw 81 rfl) e0 (Ins.self pf1) (g := (mkF m 8 #[rv a0, rv a1, un] [(.ref a1)])) rfl rfl (hb hby d17_8)
  obtain ⟨T4, X4, e4, st4⟩ := castY X3 hx hZ hown (ow hw 81 rfl) e3 (Ins.self pf1) (g := (mkF m 15 #[rv a0, rv a1, un] [(.ref a1)])) rfl rfl (hb hby d17_15)
  obtain ⟨T5, X5, e5, st5⟩ := getS2 X4 hx hZ hown (host := "") (Or.inl (ow hw 24 rfl)) Via.refl e4 (S_q0.ext O0.2) (g := (mkF m 19 #[rv a0, rv a1, rv a1] [])) rfl (hb hby d17_19)
  obtain ⟨T6, X6, e6, st6⟩ := getF X5 hx hZ hown (host := "") (Or.inl (ow hw 25 rfl)) Via.refl e5 pf2 (g := (mkF m 26 #[rv a0, rv a1, rv a1] [(.ref a0)])) rfl rfl (hb hby d17_26)
  obtain ⟨T7, X7, e7, st7⟩ := getF X6 hx hZ hown (host := "") (Or.inl (ow hw 25 rfl)) Via.refl e6 pf3 (g := (mkF m 30 #[rv a0, rv a1, rv a1] [(.ref a1), (.int (0 : Int32))])) rfl rfl (hb hby d17_30)
  obtain ⟨T8, X8, e8, st8⟩ := getF X7 hx hZ hown (host := "") (Or.inl (ow hw 18 rfl)) Via.refl e7 pf4 (g := (mkF m 37 #[rv a0, rv a1, rv a1] [(.ref a0)])) rfl rfl (hb hby d17_37)
  obtain ⟨T9, X9, e9, st9⟩ := getF X8 hx hZ hown (host := "") (Or.inl (ow hw 18 rfl)) Via.refl e8 pf5 (g := (mkF m 41 #[rv a0, rv a1, rv a1] [(.ref a1), (.ref u)])) rfl rfl (hb hby d17_41)
  obtain ⟨_, _, ⟨T10, L10, k10, n10⟩, -, X10, ⟨Lc10, hQ10, l10, y10, z10⟩, st10⟩ := Jvm.LawKit.callS X9 hx (y := y18) hown (mvT hZ (ow hw 82 rfl)) (mvT hZ (ow hw 83 rfl)) (mvT hZ (ow hw 46 rfl)) (mvT hZ (ow hw 84 rfl)) (by decide) (backOf (W := 0) (rm18_5_5 l Z ar hw [] u w _ _ _ _ _ _ _ _ _ _ _ _ h0 n0 O0 pf6 pf7) hZ (ow hw 84 rfl) (ow hw 46 rfl) (by decide) (by decide)) (g := (mkF m 44 #[rv a0, rv a1, rv a1] [(.ref w), (.ref u)])) rfl (by rw [hml]; rfl) (argsL := [(.ref u), (.ref w)]) (rest := []) (lenOf pd_11 rfl) rfl (by show 2 * 0 + _ ≤ _; exact Nat.le_of_eq rfl) (hb hby d17_44) (fun _ _ => ⟨rfl, e9, (by decide : 0 + 0 ≤ _), (by decide : 0 + 0 ≤ _)⟩)
  dsimp only [Pt.U, Pt.locs, Pt.cells, Pt.slots] at X10 l10 y10 z10 st10 hQ10
  subst l10 y10 z10
  obtain ⟨rfl, N10q, e10⟩ := hQ10
  have N10 := Fr.app N0 N10q
  have pre11 : ∀ tg, AT p e below T10 m 47 #[rv a0, rv a1, rv a1] [(.int (f18_5_5 x0 x1 x2 x3 x4 y0 y1 y2 y3 y4))] tg → Steps p.tables e below S0 tg := fun tg kg => pre1 tg (by
   refine Jvm.RoadKit.acmp (g := (mkF m 2 #[rv a0, rv a1, un] [(.ref a1), (.ref a0)])) X0 hx rfl rfl rfl (pc0 := 2) (pc' := 7) (same := false) rfl (hb hby d17_2) rfl (decide_eq_false fun q => hc2 (Value.ref.inj q)) (by decide) (by decide) ?_
   refine XS.aloadN X0.here hx rfl (hb hby d17_7) rfl rfl ?_
   refine st3 _ ?_
   show AT p e below T3 m 11 #[rv a0, rv a1, un] [(.int (1 : Int32))] _
   refine XS.ifNo X3.here hx rfl (hb hby d17_11) rfl (XT.i0_eq_f ((by decide) : ¬ ((1 : Int32) = (0 : Int32)))) ?_
   refine XS.aloadN X3.here hx rfl (hb hby d17_14) rfl rfl ?_
   refine st4 _ ?_
   refine XS.astoreN X4.here hx rfl (hb hby d17_18) rfl rfl (l' := #[rv a0, rv a1, rv a1]) rfl ?_
   refine st5 _ ?_
   show AT p e below T5 m 22 #[rv a0, rv a1, rv a1] [(.int w_z0)] _
   refine XS.ifNo X5.here hx rfl (hb hby d17_22) rfl (XT.i0_eq_f (hz_w_z0 : ¬ (w_z0 = (0 : Int32)))) ?_
   refine XS.aloadN X5.here hx rfl (hb hby d17_25) rfl rfl ?_
   refine st6 _ ?_
   refine XS.aloadN X6.here hx rfl (hb hby d17_29) rfl rfl ?_
   refine st7 _ ?_
   show AT p e below T7 m 33 #[rv a0, rv a1, rv a1] [(.int (0 : Int32)), (.int (0 : Int32))] _
   refine XS.icmpNo X7.here hx rfl (hb hby d17_33) rfl (XT.ii_ne_f ((by decide) : (0 : Int32) = (0 : Int32))) ?_
   refine XS.aloadN X7.here hx rfl (hb hby d17_36) rfl rfl ?_
   refine st8 _ ?_
   refine XS.aloadN X8.here hx rfl (hb hby d17_40) rfl rfl ?_
   refine st9 _ ?_
   refine st10 _ ?_
   exact kg)
  rcases Decidable.em ((f18_5_5 x0 x1 x2 x3 x4 y0 y1 y2 y3 y4) = (0 : Int32)) with hc12 | hc12
  ·
   obtain ⟨fs, hr, hrun, hended, hW, hsame⟩ := X10.leave (v := some (.int (0 : Int32))) (fun h => by rw [Bd.returns] at h; cases h) hlk
   subst hS0
   refine ⟨_, _, pre11 _ ?_, hrun, hended, _, _, rfl, ?_, ⟨_, rfl⟩, hW, hsame.mono (by decide) (by decide)⟩
   ·
    refine XS.ifYes X10.here hx rfl (pc0 := 47) (pc' := 54) rfl (hb hby d17_47) rfl (XT.i0_eq_t hc12) (by decide) (by decide) ?_
    refine XS.iconst X10.here hx rfl (hb hby d17_54) ?_
    exact retN X10 hx (t := .boolean) Bd.returns (by simp) (hb hby d17_55) hr
   ·
    show Q17_5_5q Z a0 a1 u w ka kb x0 x1 x2 x3 x4 y0 y1 y2 y3 y4 h0 n0 _ T10.heap _
    rw [e10]
    exact ⟨(by rw [f17_5_5q, if_neg hc2, if_pos hc12]), N10, rfl⟩
  ·
   obtain ⟨fs, hr, hrun, hended, hW, hsame⟩ := X10.leave (v := some (.int (1 : Int32))) (fun h => by rw [Bd.returns] at h; cases h) hlk
   subst hS0
   refine ⟨_, _, pre11 _ ?_, hrun, hended, _, _, rfl, ?_, ⟨_, rfl⟩, hW, hsame.mono (by decide) (by decide)⟩
   ·
    refine XS.ifNo X10.here hx rfl (hb hby d17_47) rfl (XT.i0_eq_f hc12) ?_
    refine XS.iconst X10.here hx rfl (hb hby d17_50) ?_
    refine XS.goto X10.here hx rfl (pc0 := 51) (pc' := 55) rfl (hb hby d17_51) (by decide) (by decide) ?_
    exact retN X10 hx (t := .boolean) Bd.returns (by simp) (hb hby d17_55) hr
   ·
    show Q17_5_5q Z a0 a1 u w ka kb x0 x1 x2 x3 x4 y0 y1 y2 y3 y4 h0 n0 _ T10.heap _
    rw [e10]
    exact ⟨(by rw [f17_5_5q, if_neg hc2, if_neg hc12]), N10, rfl⟩

theorem ef_17_9_9q (m : MethodId) (a0 : Addr) (a1 : Addr) : entryFrame m #[(.ref a0), (.ref a1)] 3 = mkF m 0 #[rv a0, rv a1, un] [] := by first | (simp [entryFrame, mkF, argsToLocals, Value.category]; done) | rfl
def f17_9_9q (a0 : Addr) (a1 : Addr) (x0 : Int32) (x1 : Int32) (x2 : Int32) (x3 : Int32) (x4 : Int32) (x5 : Int32) (x6 : Int32) (x7 : Int32) (x8 : Int32) (y0 : Int32) (y1 : Int32) (y2 : Int32) (y3 : Int32) (y4 : Int32) (y5 : Int32) (y6 : Int32) (y7 : Int32) (y8 : Int32) : Int32 := if a0 = a1 then (1 : Int32) else (if (f18_9_9 x0 x1 x2 x3 x4 x5 x6 x7 x8 y0 y1 y2 y3 y4 y5 y6 y7 y8) = (0 : Int32) then (0 : Int32) else (1 : Int32))
def Q17_9_9q (Z : State) (a0 : Addr) (a1 : Addr) (u : Addr) (w : Addr) (ka : ClassId) (kb : ClassId) (x0 : Int32) (x1 : Int32) (x2 : Int32) (x3 : Int32) (x4 : Int32) (x5 : Int32) (x6 : Int32) (x7 : Int32) (x8 : Int32) (y0 : Int32) (y1 : Int32) (y2 : Int32) (y3 : Int32) (y4 : Int32) (y5 : Int32) (y6 : Int32) (y7 : Int32) (y8 : Int32) (h0 : Heap) (n0 : Nat) (v : Option Value) (h : Heap) (L : List Loc) : Prop := v = some (.int (f17_9_9q a0 a1 x0 x1 x2 x3 x4 x5 x6 x7 x8 y0 y1 y2 y3 y4 y5 y6 y7 y8)) ∧ Fr n0 L ∧ h = h0
abbrev R17_9_9q : Room := ({ frames := 1, cells := 0, slots := 0, locals := 14 } : Room)
set_option maxRecDepth 65536 in
set_option maxHeartbeats 40000000 in
theorem rm17_9_9q (l : Launch) (Z : State) (ar : Array Value) (hw : ∀ d ∈ tables_1, d.before ar Z = true) (ws : List Jvm.Cond) (a0 : Addr) (a1 : Addr) (u : Addr) (w : Addr) (ka : ClassId) (kb : ClassId) (x0 : Int32) (x1 : Int32) (x2 : Int32) (x3 : Int32) (x4 : Int32) (x5 : Int32) (x6 : Int32) (x7 : Int32) (x8 : Int32) (y0 : Int32) (y1 : Int32) (y2 : Int32) (y3 : Int32) (y4 : Int32) (y5 : Int32) (y6 : Int32) (y7 : Int32) (y8 : Int32) (h0 : Heap) (n0 : Nat) (O0 : Old Z n0 h0) (HW : Wd Z w_z0 w_z1 w_z2 w_z3 w_z4 w_z5 w_z6 w_z7 w_z8 w_z9 w_z10 w_z11 k_z3 k_z7 k_z9 k_z11) (pf0 : Exa Z h0 a0 "java/lang/String") (pf1 : Exa Z h0 a1 "java/lang/String") (pf2 : Fld Z h0 a0 "java/lang/String" "coder" "B" (.int (0 : Int32))) (pf3 : Fld Z h0 a1 "java/lang/String" "coder" "B" (.int (0 : Int32))) (pf4 : Fld Z h0 a0 "java/lang/String" "value" "[B" (.ref u)) (pf5 : Fld Z h0 a1 "java/lang/String" "value" "[B" (.ref w)) (pf6 : Arv Z h0 u ka .byte (9 : Int32) [(.int x0), (.int x1), (.int x2), (.int x3), (.int x4), (.int x5), (.int x6), (.int x7), (.int x8)] (.int (0 : Int32))) (pf7 : Arv Z h0 w kb .byte (9 : Int32) [(.int y0), (.int y1), (.int y2), (.int y3), (.int y4), (.int y5), (.int y6), (.int y7), (.int y8)] (.int (0 : Int32))) :
    MetFree l y17 (head1 (Jvm.Cond.code y17 jdk_42_method_66_code 3 (some .boolean) :: ws) R17_9_9q) (fun a U => a = #[(.ref a0), (.ref a1)] ∧ Z.Warmed39 U.vm ∧ U.heap = h0) (fun _ _ _ _ _ => True) (fun _ U o U' => ∃ v L, o = .returned v ∧ Q17_9_9q Z a0 a1 u w ka kb x0 x1 x2 x3 x4 x5 x6 x7 x8 y0 y1 y2 y3 y4 y5 y6 y7 y8 h0 n0 v U'.heap L ∧ FrameEnd U o U' L R17_9_9q.cells R17_9_9q.slots) := by
 refine MetFree.of_bodySF (plainFor_of_name pn_0) hisR ?_
 intro p e s m args below meth c s₁ Bd hml0 hP hK
 obtain ⟨rfl, hZ, hh⟩ := hP
 have hx := Bd.exec
 have hby := Bd.bytes
 have hml : c.maxLocals = 3 := hml0
 have hown : s.vm.findClass "java/lang/String" = some m.cls := findClass_of_methodNamed Bd.named
 have hnm := (name_of_methodNamed Bd.named Bd.method).1
 have hlk : meth.locks = false := by first | assumption | exact BodyLoose.notSynchronized (by assumption) | exact Body.notSynchronized (by assumption)
 have X0 : Stand p l e R17_9_9q s m #[(.ref a0), (.ref a1)] below meth c s₁ [] 0 0 := Stand.of_body Bd
 have e0 : s₁.heap = h0 := by rw [← hh, Bd.state]; rfl
 have N0 := Fr.nil n0
 have Z0 : n0 ≤ h0.size := Nat.le_trans (Nat.le_of_eq O0.1.symm) O0.2.1
 obtain ⟨S0, hS0⟩ : ∃ z, z = s₁.setTop (entryFrame m #[(.ref a0), (.ref a1)] 3) := ⟨_, rfl⟩
 have pre0 : ∀ tg, AT p e below s₁ m 0 #[rv a0, rv a1, un] [] tg → Steps p.tables e below S0 tg := fun tg kg => by rw [hS0]; exact castTop (ef_17_9_9q m a0 a1) kg
 obtain ⟨S_q0, hz_w_z0, -, -, -, -, -, -, -, -, -, -, -, -, -, -, -, -, -, -, -, -, -, -, -, -, -, -⟩ := id HW
 have pre1 : ∀ tg, AT p e below s₁ m 2 #[rv a0, rv a1, un] [(.ref a1), (.ref a0)] tg → Steps p.tables e below S0 tg := fun tg kg => pre0 tg (by
  refine XS.aloadN X0.here hx rfl (hb hby d17_0) rfl rfl ?_
  refine XS.aloadN X0.here hx rfl (hb hby d17_1) rfl rfl ?_
  exact kg)
 rcases Decidable.em (a0 = a1) with hc2 | hc2
 ·
  obtain ⟨fs, hr, hrun, hended, hW, hsame⟩ := X0.leave (v := some (.int (1 : Int32))) (fun h => by rw [Bd.returns] at h; cases h) hlk
  subst hS0
  refine ⟨_, _, pre1 _ ?_, hrun, hended, _, _, rfl, ?_, ⟨_, rfl⟩, hW, hsame.mono (by decide) (by decide)⟩
  ·
   refine Jvm.RoadKit.acmp (g := (mkF m 2 #[rv a0, rv a1, un] [(.ref a1), (.ref a0)])) X0 hx rfl rfl rfl (pc0 := 2) (pc' := 5) (same := true) rfl (hb hby d17_2) rfl (decide_eq_true (congrArg Value.ref hc2)) (by decide) (by decide) ?_
   refine XS.iconst X0.here hx rfl (hb hby d17_5) ?_
   exact retN X0 hx (t := .boolean) Bd.returns (by simp) (hb hby d17_6) hr
  ·
   show Q17_9_9q Z a0 a1 u w ka kb x0 x1 x2 x3 x4 x5 x6 x7 x8 y0 y1 y2 y3 y4 y5 y6 y7 y8 h0 n0 _ s₁.heap _
   rw [e0]
   exact ⟨(by rw [f17_9_9q, if_pos hc2]), N0, rfl⟩
 ·
  obtain ⟨T3, X3, e3, st3⟩ := instY X0 hx hZ hown (ow hw 81 rfl) e0 (Ins.self pf1) (g := (mkF m 8 #[rv a0, rv a1, un] [(.ref a1)])) rfl rfl (hb hby d17_8)
  obtain ⟨T4, X4, e4, st4⟩ := castY X3 hx hZ hown (ow hw 81 rfl) e3 (Ins.self pf1) (g := (mkF m 15 #[rv a0, rv a1, un] [(.ref a1)])) rfl rfl (hb hby d17_15)
  obtain ⟨T5, X5, e5, st5⟩ := getS2 X4 hx hZ hown (host := "") (Or.inl (ow hw 24 rfl)) Via.refl e4 (S_q0.ext O0.2) (g := (mkF m 19 #[rv a0, rv a1, rv a1] [])) rfl (hb hby d17_19)
  obtain ⟨T6, X6, e6, st6⟩ := getF X5 hx hZ hown (host := "") (Or.inl (ow hw 25 rfl)) Via.refl e5 pf2 (g := (mkF m 26 #[rv a0, rv a1, rv a1] [(.ref a0)])) rfl rfl (hb hby d17_26)
  obtain ⟨T7, X7, e7, st7⟩ := getF X6 hx hZ hown (host := "") (Or.inl (ow hw 25 rfl)) Via.refl e6 pf3 (g := (mkF m 30 #[rv a0, rv a1, rv a1] [(.ref a1), (.int (0 : Int32))])) rfl rfl (hb hby d17_30)
  obtain ⟨T8, X8, e8, st8⟩ := getF X7 hx hZ hown (host := "") (Or.inl (ow hw 18 rfl)) Via.refl e7 pf4 (g := (mkF m 37 #[rv a0, rv a1, rv a1] [(.ref a0)])) rfl rfl (hb hby d17_37)
  obtain ⟨T9, X9, e9, st9⟩ := getF X8 hx hZ hown (host := "") (Or.inl (ow hw 18 rfl)) Via.refl e8 pf5 (g := (mkF m 41 #[rv a0, rv a1, rv a1] [(.ref a1), (.ref u)])) rfl rfl (hb hby d17_41)
  obtain ⟨_, _, ⟨T10, L10, k10, n10⟩, -, X10, ⟨Lc10, hQ10, l10, y10, z10⟩, st10⟩ := Jvm.LawKit.callS X9 hx (y := y18) hown (mvT hZ (ow hw 82 rfl)) (mvT hZ (ow hw 83 rfl)) (mvT hZ (ow hw 46 rfl)) (mvT hZ (ow hw 84 rfl)) (by decide) (backOf (W := 0) (rm18_9_9 l Z ar hw [] u w _ _ _ _ _ _ _ _ _ _ _ _ _ _ _ _ _ _ _ _ h0 n0 O0 pf6 pf7) hZ (ow hw 84 rfl) (ow hw 46 rfl) (by decide) (by decide)) (g := (mkF m 44 #[rv a0, rv a1, rv a1] [(.ref w), (.ref u)])) rfl (by rw [hml]; rfl) (argsL := [(.ref u), (.ref w)]) (rest := []) (lenOf pd_11 rfl) rfl (by show 2 * 0 + _ ≤ _; exact Nat.le_of_eq rfl) (hb hby d17_44) (fun _ _ => ⟨rfl, e9, (by decide : 0 + 0 ≤ _), (by decide : 0 + 0 ≤ _)⟩)
  dsimp only [Pt.U, Pt.locs, Pt.cells, Pt.slots] at X10 l10 y10 z10 st10 hQ10
  subst l10 y10 z10
  obtain ⟨rfl, N10q, e10⟩ := hQ10
  have N10 := Fr.app N0 N10q
  have pre11 : ∀ tg, AT p e below T10 m 47 #[rv a0, rv a1, rv a1] [(.int (f18_9_9 x0 x1 x2 x3 x4 x5 x6 x7 x8 y0 y1 y2 y3 y4 y5 y6 y7 y8))] tg → Steps p.tables e below S0 tg := fun tg kg => pre1 tg (by
   refine Jvm.RoadKit.acmp (g := (mkF m 2 #[rv a0, rv a1, un] [(.ref a1), (.ref a0)])) X0 hx rfl rfl rfl (pc0 := 2) (pc' := 7) (same := false) rfl (hb hby d17_2) rfl (decide_eq_false fun q => hc2 (Value.ref.inj q)) (by decide) (by decide) ?_
   refine XS.aloadN X0.here hx rfl (hb hby d17_7) rfl rfl ?_
   refine st3 _ ?_
   show AT p e below T3 m 11 #[rv a0, rv a1, un] [(.int (1 : Int32))] _
   refine XS.ifNo X3.here hx rfl (hb hby d17_11) rfl (XT.i0_eq_f ((by decide) : ¬ ((1 : Int32) = (0 : Int32)))) ?_
   refine XS.aloadN X3.here hx rfl (hb hby d17_14) rfl rfl ?_
   refine st4 _ ?_
   refine XS.astoreN X4.here hx rfl (hb hby d17_18) rfl rfl (l' := #[rv a0, rv a1, rv a1]) rfl ?_
   refine st5 _ ?_
   show AT p e below T5 m 22 #[rv a0, rv a1, rv a1] [(.int w_z0)] _
   refine XS.ifNo X5.here hx rfl (hb hby d17_22) rfl (XT.i0_eq_f (hz_w_z0 : ¬ (w_z0 = (0 : Int32)))) ?_
   refine XS.aloadN X5.here hx rfl (hb hby d17_25) rfl rfl ?_
   refine st6 _ ?_
   refine XS.aloadN X6.here hx rfl (hb hby d17_29) rfl rfl ?_
   refine st7 _ ?_
   show AT p e below T7 m 33 #[rv a0, rv a1, rv a1] [(.int (0 : Int32)), (.int (0 : Int32))] _
   refine XS.icmpNo X7.here hx rfl (hb hby d17_33) rfl (XT.ii_ne_f ((by decide) : (0 : Int32) = (0 : Int32))) ?_
   refine XS.aloadN X7.here hx rfl (hb hby d17_36) rfl rfl ?_
   refine st8 _ ?_
   refine XS.aloadN X8.here hx rfl (hb hby d17_40) rfl rfl ?_
   refine st9 _ ?_
   refine st10 _ ?_
   exact kg)
  rcases Decidable.em ((f18_9_9 x0 x1 x2 x3 x4 x5 x6 x7 x8 y0 y1 y2 y3 y4 y5 y6 y7 y8) = (0 : Int32)) with hc12 | hc12
  ·
   obtain ⟨fs, hr, hrun, hended, hW, hsame⟩ := X10.leave (v := some (.int (0 : Int32))) (fun h => by rw [Bd.returns] at h; cases h) hlk
   subst hS0
   refine ⟨_, _, pre11 _ ?_, hrun, hended, _, _, rfl, ?_, ⟨_, rfl⟩, hW, hsame.mono (by decide) (by decide)⟩
   ·
    refine XS.ifYes X10.here hx rfl (pc0 := 47) (pc' := 54) rfl (hb hby d17_47) rfl (XT.i0_eq_t hc12) (by decide) (by decide) ?_
    refine XS.iconst X10.here hx rfl (hb hby d17_54) ?_
    exact retN X10 hx (t := .boolean) Bd.returns (by simp) (hb hby d17_55) hr
   ·
    show Q17_9_9q Z a0 a1 u w ka kb x0 x1 x2 x3 x4 x5 x6 x7 x8 y0 y1 y2 y3 y4 y5 y6 y7 y8 h0 n0 _ T10.heap _
    rw [e10]
    exact ⟨(by rw [f17_9_9q, if_neg hc2, if_pos hc12]), N10, rfl⟩
  ·
   obtain ⟨fs, hr, hrun, hended, hW, hsame⟩ := X10.leave (v := some (.int (1 : Int32))) (fun h => by rw [Bd.returns] at h; cases h) hlk
   subst hS0
   refine ⟨_, _, pre11 _ ?_, hrun, hended, _, _, rfl, ?_, ⟨_, rfl⟩, hW, hsame.mono (by decide) (by decide)⟩
   ·
    refine XS.ifNo X10.here hx rfl (hb hby d17_47) rfl (XT.i0_eq_f hc12) ?_
    refine XS.iconst X10.here hx rfl (hb hby d17_50) ?_
    refine XS.goto X10.here hx rfl (pc0 := 51) (pc' := 55) rfl (hb hby d17_51) (by decide) (by decide) ?_
    exact retN X10 hx (t := .boolean) Bd.returns (by simp) (hb hby d17_55) hr
   ·
    show Q17_9_9q Z a0 a1 u w ka kb x0 x1 x2 x3 x4 x5 x6 x7 x8 y0 y1 y2 y3 y4 y5 y6 y7 y8 h0 n0 _ T10.heap _
    rw [e10]
    exact ⟨(by rw [f17_9_9q, if_neg hc2, if_neg hc12]), N10, rfl⟩

theorem own_t7 {t a w : Addr} {y0 y1 y2 y3 y4 y5 y6 : Int32} (hid : t = a → y0 = (114 : Int32) ∧ y1 = (117 : Int32) ∧ y2 = (110 : Int32) ∧ y3 = (110 : Int32) ∧ y4 = (105 : Int32) ∧ y5 = (110 : Int32) ∧ y6 = (103 : Int32)) : (f17_7_7q t a y0 y1 y2 y3 y4 y5 y6 (114 : Int32) (117 : Int32) (110 : Int32) (110 : Int32) (105 : Int32) (110 : Int32) (103 : Int32) = (0 : Int32) → f19_7 w y0 y1 y2 y3 y4 y5 y6 = .null) ∧ (¬ f17_7_7q t a y0 y1 y2 y3 y4 y5 y6 (114 : Int32) (117 : Int32) (110 : Int32) (110 : Int32) (105 : Int32) (110 : Int32) (103 : Int32) = (0 : Int32) → f19_7 w y0 y1 y2 y3 y4 y5 y6 = .ref w) := by
  rcases Classical.em (y0 = (114 : Int32) ∧ y1 = (117 : Int32) ∧ y2 = (110 : Int32) ∧ y3 = (110 : Int32) ∧ y4 = (105 : Int32) ∧ y5 = (110 : Int32) ∧ y6 = (103 : Int32)) with q | q
  · obtain ⟨rfl, rfl, rfl, rfl, rfl, rfl, rfl⟩ := q
    have h2 : f19_7 w (114 : Int32) (117 : Int32) (110 : Int32) (110 : Int32) (105 : Int32) (110 : Int32) (103 : Int32) = .ref w := by
      unfold f19_7
      rw [if_neg (by decide)]
    have h3 : ¬ f17_7_7q t a (114 : Int32) (117 : Int32) (110 : Int32) (110 : Int32) (105 : Int32) (110 : Int32) (103 : Int32) (114 : Int32) (117 : Int32) (110 : Int32) (110 : Int32) (105 : Int32) (110 : Int32) (103 : Int32) = (0 : Int32) := by
      unfold f17_7_7q
      rcases Decidable.em (t = a) with c | c
      · rw [if_pos c]; decide
      · rw [if_neg c, if_neg (by decide)]; decide
    exact ⟨fun h => absurd h h3, fun _ => h2⟩
  · have hne : ¬ t = a := fun e => q (hid e)
    have g1 : f18_7_7 y0 y1 y2 y3 y4 y5 y6 (114 : Int32) (117 : Int32) (110 : Int32) (110 : Int32) (105 : Int32) (110 : Int32) (103 : Int32) = (0 : Int32) := by
     unfold f18_7_7
     rcases Decidable.em (y0 = (114 : Int32)) with c0 | c0
     · rw [if_pos c0]
       rcases Decidable.em (y1 = (117 : Int32)) with c1 | c1
       · rw [if_pos c1]
         rcases Decidable.em (y2 = (110 : Int32)) with c2 | c2
         · rw [if_pos c2]
           rcases Decidable.em (y3 = (110 : Int32)) with c3 | c3
           · rw [if_pos c3]
             rcases Decidable.em (y4 = (105 : Int32)) with c4 | c4
             · rw [if_pos c4]
               rcases Decidable.em (y5 = (110 : Int32)) with c5 | c5
               · rw [if_pos c5]
                 rcases Decidable.em (y6 = (103 : Int32)) with c6 | c6
                 · exact absurd ⟨c0, c1, c2, c3, c4, c5, c6⟩ q
                 · rw [if_neg c6]
               · rw [if_neg c5]
             · rw [if_neg c4]
           · rw [if_neg c3]
         · rw [if_neg c2]
       · rw [if_neg c1]
     · rw [if_neg c0]
    have g2 : f18_7_7 (114 : Int32) (117 : Int32) (110 : Int32) (110 : Int32) (105 : Int32) (110 : Int32) (103 : Int32) y0 y1 y2 y3 y4 y5 y6 = (0 : Int32) := by
     unfold f18_7_7
     rcases Decidable.em ((114 : Int32) = y0) with c0 | c0
     · rw [if_pos c0]
       rcases Decidable.em ((117 : Int32) = y1) with c1 | c1
       · rw [if_pos c1]
         rcases Decidable.em ((110 : Int32) = y2) with c2 | c2
         · rw [if_pos c2]
           rcases Decidable.em ((110 : Int32) = y3) with c3 | c3
           · rw [if_pos c3]
             rcases Decidable.em ((105 : Int32) = y4) with c4 | c4
             · rw [if_pos c4]
               rcases Decidable.em ((110 : Int32) = y5) with c5 | c5
               · rw [if_pos c5]
                 rcases Decidable.em ((103 : Int32) = y6) with c6 | c6
                 · exact absurd ⟨c0.symm, c1.symm, c2.symm, c3.symm, c4.symm, c5.symm, c6.symm⟩ q
                 · rw [if_neg c6]
               · rw [if_neg c5]
             · rw [if_neg c4]
           · rw [if_neg c3]
         · rw [if_neg c2]
       · rw [if_neg c1]
     · rw [if_neg c0]
    have h1 : f17_7_7q t a y0 y1 y2 y3 y4 y5 y6 (114 : Int32) (117 : Int32) (110 : Int32) (110 : Int32) (105 : Int32) (110 : Int32) (103 : Int32) = (0 : Int32) := by unfold f17_7_7q; rw [if_neg hne, if_pos g1]
    have h2 : f19_7 w y0 y1 y2 y3 y4 y5 y6 = .null := by
      unfold f19_7
      rw [if_pos (by unfold f17_7_7; rw [if_pos g2])]
    exact ⟨fun _ => h2, fun h => absurd h1 h⟩

theorem own_t5 {t a w : Addr} {y0 y1 y2 y3 y4 : Int32} (hid : t = a → y0 = (113 : Int32) ∧ y1 = (117 : Int32) ∧ y2 = (105 : Int32) ∧ y3 = (101 : Int32) ∧ y4 = (116 : Int32)) : (f17_5_5q t a y0 y1 y2 y3 y4 (113 : Int32) (117 : Int32) (105 : Int32) (101 : Int32) (116 : Int32) = (0 : Int32) → f19_5 w y0 y1 y2 y3 y4 = .null) ∧ (¬ f17_5_5q t a y0 y1 y2 y3 y4 (113 : Int32) (117 : Int32) (105 : Int32) (101 : Int32) (116 : Int32) = (0 : Int32) → f19_5 w y0 y1 y2 y3 y4 = .ref w) := by
  rcases Classical.em (y0 = (113 : Int32) ∧ y1 = (117 : Int32) ∧ y2 = (105 : Int32) ∧ y3 = (101 : Int32) ∧ y4 = (116 : Int32)) with q | q
  · obtain ⟨rfl, rfl, rfl, rfl, rfl⟩ := q
    have h2 : f19_5 w (113 : Int32) (117 : Int32) (105 : Int32) (101 : Int32) (116 : Int32) = .ref w := by
      unfold f19_5
      rw [if_neg (by decide)]
    have h3 : ¬ f17_5_5q t a (113 : Int32) (117 : Int32) (105 : Int32) (101 : Int32) (116 : Int32) (113 : Int32) (117 : Int32) (105 : Int32) (101 : Int32) (116 : Int32) = (0 : Int32) := by
      unfold f17_5_5q
      rcases Decidable.em (t = a) with c | c
      · rw [if_pos c]; decide
      · rw [if_neg c, if_neg (by decide)]; decide
    exact ⟨fun h => absurd h h3, fun _ => h2⟩
  · have hne : ¬ t = a := fun e => q (hid e)
    have g1 : f18_5_5 y0 y1 y2 y3 y4 (113 : Int32) (117 : Int32) (105 : Int32) (101 : Int32) (116 : Int32) = (0 : Int32) := by
     unfold f18_5_5
     rcases Decidable.em (y0 = (113 : Int32)) with c0 | c0
     · rw [if_pos c0]
       rcases Decidable.em (y1 = (117 : Int32)) with c1 | c1
       · rw [if_pos c1]
         rcases Decidable.em (y2 = (105 : Int32)) with c2 | c2
         · rw [if_pos c2]
           rcases Decidable.em (y3 = (101 : Int32)) with c3 | c3
           · rw [if_pos c3]
             rcases Decidable.em (y4 = (116 : Int32)) with c4 | c4
             · exact absurd ⟨c0, c1, c2, c3, c4⟩ q
             · rw [if_neg c4]
           · rw [if_neg c3]
         · rw [if_neg c2]
       · rw [if_neg c1]
     · rw [if_neg c0]
    have g2 : f18_5_5 (113 : Int32) (117 : Int32) (105 : Int32) (101 : Int32) (116 : Int32) y0 y1 y2 y3 y4 = (0 : Int32) := by
     unfold f18_5_5
     rcases Decidable.em ((113 : Int32) = y0) with c0 | c0
     · rw [if_pos c0]
       rcases Decidable.em ((117 : Int32) = y1) with c1 | c1
       · rw [if_pos c1]
         rcases Decidable.em ((105 : Int32) = y2) with c2 | c2
         · rw [if_pos c2]
           rcases Decidable.em ((101 : Int32) = y3) with c3 | c3
           · rw [if_pos c3]
             rcases Decidable.em ((116 : Int32) = y4) with c4 | c4
             · exact absurd ⟨c0.symm, c1.symm, c2.symm, c3.symm, c4.symm⟩ q
             · rw [if_neg c4]
           · rw [if_neg c3]
         · rw [if_neg c2]
       · rw [if_neg c1]
     · rw [if_neg c0]
    have h1 : f17_5_5q t a y0 y1 y2 y3 y4 (113 : Int32) (117 : Int32) (105 : Int32) (101 : Int32) (116 : Int32) = (0 : Int32) := by unfold f17_5_5q; rw [if_neg hne, if_pos g1]
    have h2 : f19_5 w y0 y1 y2 y3 y4 = .null := by
      unfold f19_5
      rw [if_pos (by unfold f17_5_5; rw [if_pos g2])]
    exact ⟨fun _ => h2, fun h => absurd h1 h⟩

theorem own_t9 {t a w : Addr} {y0 y1 y2 y3 y4 y5 y6 y7 y8 : Int32} (hid : t = a → y0 = (116 : Int32) ∧ y1 = (101 : Int32) ∧ y2 = (114 : Int32) ∧ y3 = (109 : Int32) ∧ y4 = (105 : Int32) ∧ y5 = (110 : Int32) ∧ y6 = (97 : Int32) ∧ y7 = (116 : Int32) ∧ y8 = (101 : Int32)) : (f17_9_9q t a y0 y1 y2 y3 y4 y5 y6 y7 y8 (116 : Int32) (101 : Int32) (114 : Int32) (109 : Int32) (105 : Int32) (110 : Int32) (97 : Int32) (116 : Int32) (101 : Int32) = (0 : Int32) → f19_9 w y0 y1 y2 y3 y4 y5 y6 y7 y8 = .null) ∧ (¬ f17_9_9q t a y0 y1 y2 y3 y4 y5 y6 y7 y8 (116 : Int32) (101 : Int32) (114 : Int32) (109 : Int32) (105 : Int32) (110 : Int32) (97 : Int32) (116 : Int32) (101 : Int32) = (0 : Int32) → f19_9 w y0 y1 y2 y3 y4 y5 y6 y7 y8 = .ref w) := by
  rcases Classical.em (y0 = (116 : Int32) ∧ y1 = (101 : Int32) ∧ y2 = (114 : Int32) ∧ y3 = (109 : Int32) ∧ y4 = (105 : Int32) ∧ y5 = (110 : Int32) ∧ y6 = (97 : Int32) ∧ y7 = (116 : Int32) ∧ y8 = (101 : Int32)) with q | q
  · obtain ⟨rfl, rfl, rfl, rfl, rfl, rfl, rfl, rfl, rfl⟩ := q
    have h2 : f19_9 w (116 : Int32) (101 : Int32) (114 : Int32) (109 : Int32) (105 : Int32) (110 : Int32) (97 : Int32) (116 : Int32) (101 : Int32) = .ref w := by
      unfold f19_9
      rw [if_neg (by decide)]
    have h3 : ¬ f17_9_9q t a (116 : Int32) (101 : Int32) (114 : Int32) (109 : Int32) (105 : Int32) (110 : Int32) (97 : Int32) (116 : Int32) (101 : Int32) (116 : Int32) (101 : Int32) (114 : Int32) (109 : Int32) (105 : Int32) (110 : Int32) (97 : Int32) (116 : Int32) (101 : Int32) = (0 : Int32) := by
      unfold f17_9_9q
      rcases Decidable.em (t = a) with c | c
      · rw [if_pos c]; decide
      · rw [if_neg c, if_neg (by decide)]; decide
    exact ⟨fun h => absurd h h3, fun _ => h2⟩
  · have hne : ¬ t = a := fun e => q (hid e)
    have g1 : f18_9_9 y0 y1 y2 y3 y4 y5 y6 y7 y8 (116 : Int32) (101 : Int32) (114 : Int32) (109 : Int32) (105 : Int32) (110 : Int32) (97 : Int32) (116 : Int32) (101 : Int32) = (0 : Int32) := by
     unfold f18_9_9
     rcases Decidable.em (y0 = (116 : Int32)) with c0 | c0
     · rw [if_pos c0]
       rcases Decidable.em (y1 = (101 : Int32)) with c1 | c1
       · rw [if_pos c1]
         rcases Decidable.em (y2 = (114 : Int32)) with c2 | c2
         · rw [if_pos c2]
           rcases Decidable.em (y3 = (109 : Int32)) with c3 | c3
           · rw [if_pos c3]
             rcases Decidable.em (y4 = (105 : Int32)) with c4 | c4
             · rw [if_pos c4]
               rcases Decidable.em (y5 = (110 : Int32)) with c5 | c5
               · rw [if_pos c5]
                 rcases Decidable.em (y6 = (97 : Int32)) with c6 | c6
                 · rw [if_pos c6]
                   rcases Decidable.em (y7 = (116 : Int32)) with c7 | c7
                   · rw [if_pos c7]
                     rcases Decidable.em (y8 = (101 : Int32)) with c8 | c8
                     · exact absurd ⟨c0, c1, c2, c3, c4, c5, c6, c7, c8⟩ q
                     · rw [if_neg c8]
                   · rw [if_neg c7]
                 · rw [if_neg c6]
               · rw [if_neg c5]
             · rw [if_neg c4]
           · rw [if_neg c3]
         · rw [if_neg c2]
       · rw [if_neg c1]
     · rw [if_neg c0]
    have g2 : f18_9_9 (116 : Int32) (101 : Int32) (114 : Int32) (109 : Int32) (105 : Int32) (110 : Int32) (97 : Int32) (116 : Int32) (101 : Int32) y0 y1 y2 y3 y4 y5 y6 y7 y8 = (0 : Int32) := by
     unfold f18_9_9
     rcases Decidable.em ((116 : Int32) = y0) with c0 | c0
     · rw [if_pos c0]
       rcases Decidable.em ((101 : Int32) = y1) with c1 | c1
       · rw [if_pos c1]
         rcases Decidable.em ((114 : Int32) = y2) with c2 | c2
         · rw [if_pos c2]
           rcases Decidable.em ((109 : Int32) = y3) with c3 | c3
           · rw [if_pos c3]
             rcases Decidable.em ((105 : Int32) = y4) with c4 | c4
             · rw [if_pos c4]
               rcases Decidable.em ((110 : Int32) = y5) with c5 | c5
               · rw [if_pos c5]
                 rcases Decidable.em ((97 : Int32) = y6) with c6 | c6
                 · rw [if_pos c6]
                   rcases Decidable.em ((116 : Int32) = y7) with c7 | c7
                   · rw [if_pos c7]
                     rcases Decidable.em ((101 : Int32) = y8) with c8 | c8
                     · exact absurd ⟨c0.symm, c1.symm, c2.symm, c3.symm, c4.symm, c5.symm, c6.symm, c7.symm, c8.symm⟩ q
                     · rw [if_neg c8]
                   · rw [if_neg c7]
                 · rw [if_neg c6]
               · rw [if_neg c5]
             · rw [if_neg c4]
           · rw [if_neg c3]
         · rw [if_neg c2]
       · rw [if_neg c1]
     · rw [if_neg c0]
    have h1 : f17_9_9q t a y0 y1 y2 y3 y4 y5 y6 y7 y8 (116 : Int32) (101 : Int32) (114 : Int32) (109 : Int32) (105 : Int32) (110 : Int32) (97 : Int32) (116 : Int32) (101 : Int32) = (0 : Int32) := by unfold f17_9_9q; rw [if_neg hne, if_pos g1]
    have h2 : f19_9 w y0 y1 y2 y3 y4 y5 y6 y7 y8 = .null := by
      unfold f19_9
      rw [if_pos (by unfold f17_9_9; rw [if_pos g2])]
    exact ⟨fun _ => h2, fun h => absurd h1 h⟩

theorem own_m4 (x : Int32) : (x &&& (2147483647 : Int32)) % (4 : Int32) = (0 : Int32) ∨ (x &&& (2147483647 : Int32)) % (4 : Int32) = (1 : Int32) ∨ (x &&& (2147483647 : Int32)) % (4 : Int32) = (2 : Int32) ∨ (x &&& (2147483647 : Int32)) % (4 : Int32) = (3 : Int32) := by
  have h1 := c_mask x (2147483647 : Int32) 31 (by decide) (by decide)
  have h0 : 0 ≤ x.toInt % (2 ^ 31 : Nat) := Int.emod_nonneg _ (by decide)
  have h2 := (c_irem (x &&& (2147483647 : Int32)) (4 : Int32) 4 rfl).1 (by rw [h1]; exact h0)
  have l0 : ((0 : Int32)).toInt = 0 := rfl
  have l1 : ((1 : Int32)).toInt = 1 := rfl
  have l2 : ((2 : Int32)).toInt = 2 := rfl
  have l3 : ((3 : Int32)).toInt = 3 := rfl
  simp only [← Int32.toInt_inj, l0, l1, l2, l3]
  omega

theorem ef_0 (m : MethodId) (p0 : Int32) (p1 : Int32) (p2 : Int32) (p3 : Int32) : entryFrame m #[(.int p0), (.int p1), (.int p2), (.int p3)] maxLocals = mkF m 0 #[iv p0, iv p1, iv p2, iv p3, un, un, un, un, un, un, un, un] [] := by first | (simp [entryFrame, mkF, argsToLocals, Value.category, maxLocals]; done) | rfl
def Q0 (Z : State) (p0 : Int32) (p1 : Int32) (p2 : Int32) (p3 : Int32) (h0 : Heap) (n0 : Nat) (v : Option Value) (h : Heap) (L : List Loc) : Prop := v = some (.int 1) ∧ Fr n0 L
set_option maxRecDepth 65536 in
set_option maxHeartbeats 40000000 in
theorem rm0 (l : Launch) (Z : State) (ar : Array Value) (hw : ∀ d ∈ tables_1, d.before ar Z = true) (ws : List Jvm.Cond) (p0 : Int32) (p1 : Int32) (p2 : Int32) (p3 : Int32) (h0 : Heap) (n0 : Nat) (O0 : Old Z n0 h0) (hEL : EW Z ar EL0) (HW : Wd Z w_z0 w_z1 w_z2 w_z3 w_z4 w_z5 w_z6 w_z7 w_z8 w_z9 w_z10 w_z11 k_z3 k_z7 k_z9 k_z11) :
    MetFree l x (head1 (Jvm.Cond.code x code maxLocals ret :: ws) room_1) (fun a U => a = #[(.int p0), (.int p1), (.int p2), (.int p3)] ∧ Z.Warmed39 U.vm ∧ U.heap = h0 ∧ CHv Z EL0 U.vm h0) (fun _ _ _ _ _ => True) (fun _ U o U' => ∃ v L, o = .returned v ∧ Q0 Z p0 p1 p2 p3 h0 n0 v U'.heap L ∧ CHr Z EL0 U.vm U.heap U'.vm U'.heap ∧ ReturnedEndW U o U' L 32 5312) := by
 refine MetFree.of_bodySF (plainFor_of_name pn_3) hisR ?_
 intro p e s m args below meth c s₁ Bd hml0 hP hK
 obtain ⟨rfl, hZ, hh, hCH⟩ := hP
 have hx := Bd.exec
 have hby := Bd.bytes
 have hml : c.maxLocals = 12 := hml0
 have hown : s.vm.findClass "com/example/lease/lease/WorkerStateNamedPinLaw" = some m.cls := findClass_of_methodNamed Bd.named
 have hnm := (name_of_methodNamed Bd.named Bd.method).1
 have hlk : meth.locks = false := by first | assumption | exact BodyLoose.notSynchronized (by assumption) | exact Body.notSynchronized (by assumption)
 have X0 : Stand p l e room_1 (s.setVm s.vm) m #[(.int p0), (.int p1), (.int p2), (.int p3)] below meth c s₁ [] 0 0 := Stand.of_body Bd
 have e0 : s₁.heap = h0 := by rw [← hh, Bd.state]; rfl
 have N0 := Fr.nil n0
 have Z0 : n0 ≤ h0.size := Nat.le_trans (Nat.le_of_eq O0.1.symm) O0.2.1
 obtain ⟨S0, hS0⟩ : ∃ z, z = s₁.setTop (entryFrame m #[(.int p0), (.int p1), (.int p2), (.int p3)] maxLocals) := ⟨_, rfl⟩
 have pre0 : ∀ tg, AT p e below s₁ m 0 #[iv p0, iv p1, iv p2, iv p3, un, un, un, un, un, un, un, un] [] tg → Steps p.tables e below S0 tg := fun tg kg => by rw [hS0]; exact castTop (ef_0 m p0 p1 p2 p3) kg
 have hS : s.Since s.vm 0 := (State.WarmedH.refl s).since 0
 have hk : 0 ≤ h0.size := Nat.zero_le _
 have CR0 : CHr Z EL0 s.vm h0 s.vm h0 := CHr.refl hCH
 obtain ⟨-, -, -, -, S_q4, -, -, -, S_q8, -, S_q10, -, -, -, -, -, -, -, -, -, -, -, -, -, -, -, -, -⟩ := id HW
 refine own_goal fun G toG => ?_
 have tail_null : ∀ (Tt : State) (vmt : Vm) (ht : Heap) (Lt : List Loc) (kt : Nat), Stand p l e room_1 (s.setVm vmt) m #[(.int p0), (.int p1), (.int p2), (.int p3)] below meth c Tt Lt 2 40 → Tt.heap = ht → Fr n0 Lt → Keep h0 ht [] → Old Z n0 ht → s.Since vmt kt → kt ≤ ht.size → Z.Warmed39 (s.setVm vmt).vm → (s.setVm vmt).vm.findClass "com/example/lease/lease/WorkerStateNamedPinLaw" = some m.cls → CHr Z EL0 s.vm h0 vmt ht → ∀ (l4 l5 l6 l7 l8 l9 : Int32), (∀ tg, AT p e below Tt m 116 #[iv p0, iv p1, iv p2, iv p3, iv l4, iv l5, iv l6, iv l7, iv l8, iv l9, .val .null, un] [] tg → Steps p.tables e below S0 tg) → G := by
  intro Tt vmt ht Lt kt Xt et Nt Kt Ot hS hk hZ hown CRt l4 l5 l6 l7 l8 l9 pret
  obtain ⟨_, _, ⟨T171, L171, k171, n171⟩, -, X171, ⟨Lc171, hQ171, l171, y171, z171⟩, st171⟩ := Jvm.LawKit.callS Xt hx (y := y19) hown (mvT hZ (ow hw 88 rfl)) (mvT hZ (ow hw 89 rfl)) (mvT hZ (ow hw 86 rfl)) (mvT hZ (ow hw 90 rfl)) (by decide) (backOf (W := 0) (rm19n l Z ar hw []  ht n0 Ot HW) hZ (ow hw 90 rfl) (ow hw 86 rfl) (by decide) (by decide)) (g := (mkF m 177 #[iv p0, iv p1, iv p2, iv p3, iv l4, iv l5, iv l6, iv l7, iv l8, iv l9, .val .null, .val .null] [.null])) rfl (by rw [hml]; rfl) (argsL := [.null]) (rest := []) (lenOf pd_16 rfl) rfl (by show 2 * 0 + _ ≤ _; exact Nat.le_of_eq rfl) (hb hby at_177) (fun _ _ => ⟨rfl, et, (by decide : 2 + 1 ≤ _), (by decide : 40 + 3 ≤ _)⟩)
  dsimp only [Pt.U, Pt.locs, Pt.cells, Pt.slots] at X171 l171 y171 z171 st171 hQ171
  subst l171 y171 z171
  obtain ⟨rfl, N171q, Kq171⟩ := hQ171
  have N171 := Fr.app Nt N171q
  have K171 := Kt.trans Kq171 all0
  have O171 := Ot.keep Kq171 all0
  have CR171 : CHr Z EL0 s.vm h0 vmt T171.heap := CRt.trans (CHr.keep Kq171 all0 CRt.1)
  have hk := Nat.le_trans hk Kq171.1
  obtain ⟨fs, hr, hrun, hended, hRE⟩ := X171.leaveW hS hk (v := some (.int (1 : Int32))) (fun h => by rw [Bd.returns] at h; cases h)
  have CRf : CHr Z EL0 s.vm s.heap (T171.setFrames fs).vm (T171.setFrames fs).heap := by
    show CHr Z EL0 s.vm s.heap T171.vm T171.heap
    rw [hh]
    exact CR171.trans (CHv.at X171 hZ hEL CR171.1)
  subst hS0
  refine toG ⟨_, _, pret _ ?_, hrun, hended, _, _, rfl, ?_, CRf, hRE.1, hRE.2.1, hRE.2.2.1, hRE.2.2.2.mono (by decide) (by decide)⟩
  ·
   refine XS.aconstNull Xt.here hx rfl (hb hby at_116) ?_
   refine XS.astore Xt.here hx rfl (hb hby at_117) rfl rfl (l' := #[iv p0, iv p1, iv p2, iv p3, iv l4, iv l5, iv l6, iv l7, iv l8, iv l9, .val .null, .val .null]) rfl ?_
   refine XS.aload Xt.here hx rfl (hb hby at_119) rfl rfl ?_
   show AT p e below Tt m 121 #[iv p0, iv p1, iv p2, iv p3, iv l4, iv l5, iv l6, iv l7, iv l8, iv l9, .val .null, .val .null] [.null] _
   refine XS.ifnullYes Xt.here hx rfl (pc0 := 121) (pc' := 175) rfl (hb hby at_121) rfl (by decide) (by decide) ?_
   refine XS.aload Xt.here hx rfl (hb hby at_175) rfl rfl ?_
   refine st171 _ ?_
   refine XS.aload X171.here hx rfl (hb hby at_180) rfl rfl ?_
   show AT p e below T171 m 182 #[iv p0, iv p1, iv p2, iv p3, iv l4, iv l5, iv l6, iv l7, iv l8, iv l9, .val .null, .val .null] [.null, .null] _
   refine Jvm.RoadKit.acmp (g := (mkF m 182 #[iv p0, iv p1, iv p2, iv p3, iv l4, iv l5, iv l6, iv l7, iv l8, iv l9, .val .null, .val .null] [.null, .null])) X171 hx rfl rfl rfl (pc0 := 182) (pc' := 185) (same := true) rfl (hb hby at_182) rfl (decide_eq_true rfl) (by decide) (by decide) ?_
   refine XS.iconst X171.here hx rfl (hb hby at_185) ?_
   refine XS.goto X171.here hx rfl (pc0 := 186) (pc' := 190) rfl (hb hby at_186) (by decide) (by decide) ?_
   exact retN X171 hx (t := .boolean) Bd.returns (by simp) (hb hby at_190) hr
  ·
   show Q0 Z p0 p1 p2 p3 h0 n0 _ T171.heap _
   exact ⟨rfl, N171⟩
 have tail_x : ∀ (Tt : State) (vmt : Vm) (ht : Heap) (Lt : List Loc) (kt : Nat), Stand p l e room_1 (s.setVm vmt) m #[(.int p0), (.int p1), (.int p2), (.int p3)] below meth c Tt Lt 25 464 → Tt.heap = ht → Fr n0 Lt → Keep h0 ht [] → Old Z n0 ht → s.Since vmt kt → kt ≤ ht.size → Z.Warmed39 (s.setVm vmt).vm → (s.setVm vmt).vm.findClass "com/example/lease/lease/WorkerStateNamedPinLaw" = some m.cls → CHr Z EL0 s.vm h0 vmt ht → ∀ (l4 l5 l6 l7 l8 l9 : Int32) (t u : Addr) (ku : ClassId) (zn : Int32) (vs : List Value), Exa Z ht t "java/lang/String" → Fld Z ht t "java/lang/String" "coder" "B" (.int (0 : Int32)) → Fld Z ht t "java/lang/String" "value" "[B" (.ref u) → Arv Z ht u ku .byte zn vs (.int (0 : Int32)) → n0 ≤ t → ¬ (5 : Int32) = zn → ¬ (7 : Int32) = zn → ¬ (9 : Int32) = zn → (∀ tg, AT p e below Tt m 116 #[iv p0, iv p1, iv p2, iv p3, iv l4, iv l5, iv l6, iv l7, iv l8, iv l9, rv t, un] [] tg → Steps p.tables e below S0 tg) → G := by
  intro Tt vmt ht Lt kt Xt et Nt Kt Ot hS hk hZ hown CRt l4 l5 l6 l7 l8 l9 t u ku zn vs Et Ct Ft Vt Gt hn5 hn7 hn9 pret
  obtain ⟨al172, T172, h172, q172, b172, kb172, X172, e172, E172, hS, hk, hZ, hown, A172, C172, F172, V172, -, -, CRq172, Li172, Sx172, st172⟩ := ldcCH Xt hx hZ hown (ow hw 5 rfl) (own_sa hw) et hS hk hEL (List.mem_of_getElem? (i := 0) rfl) CRt.1 (vs := [(.int (114 : Int32)), (.int (117 : Int32)), (.int (110 : Int32)), (.int (110 : Int32)), (.int (105 : Int32)), (.int (110 : Int32)), (.int (103 : Int32))]) (z := (7 : Int32)) ⟨by decide, by decide⟩ (by decide) rfl (g := (mkF m 126 #[iv p0, iv p1, iv p2, iv p3, iv l4, iv l5, iv l6, iv l7, iv l8, iv l9, rv t, .val .null] [(.ref t)])) rfl (hb hby at_126) (n := 28) (by decide) (by decide) (by decide) (by decide)
  have E172_173 := Et.ext E172
  have F172_174 := Ct.ext E172
  have F172_175 := Ft.ext E172
  have V172_176 := Vt.ext E172
  have K172 := Kt.ext E172
  have O172 : Old Z n0 h172 := Ot.ext E172
  have CR172 : CHr Z EL0 s.vm h0 T172.vm h172 := CRt.trans CRq172
  obtain ⟨cq177, kq177, q177a, q177b, q177c⟩ := isOf hZ e172 E172_173
  obtain ⟨_, _, ⟨T177, L177, k177, n177⟩, -, X177, ⟨Lc177, hQ177, l177, y177, z177⟩, st177⟩ := X172.virtualBack hx (y := y17) (z := y17) hown (mvT hZ (ow hw 76 rfl)) (mvT hZ (ow hw 77 rfl)) (notFace_of_selects (args := #[]) (mvT hZ (ow hw 79 rfl))) (mvT hZ (ow hw 79 rfl)) (mvT hZ (ow hw 78 rfl)) (by decide) (backOf (W := 0) (rm17_z l Z ar hw [] t al172 _ _ _ _ _ _ _ _ h172 n0 O172 HW E172_173 A172 F172_174 C172 F172_175 F172 V172_176 V172 (own_neS F172_175 V172_176 F172 V172 (Or.inl (Ne.symm hn7))) (Ne.symm hn7)) hZ (ow hw 80 rfl) (ow hw 6 rfl) (by decide) (by decide)) q177a q177c (g := (mkF m 128 #[iv p0, iv p1, iv p2, iv p3, iv l4, iv l5, iv l6, iv l7, iv l8, iv l9, rv t, .val .null] [(.ref al172), (.ref t)])) rfl (by rw [hml]; rfl) (Steps.refl _) (argsL := [(.ref al172)]) (rest := []) (lenOf pd_13 rfl) rfl (by show 2 * 0 + _ ≤ _; exact Nat.le_of_eq rfl) (hb hby at_128) (fun _ _ => ⟨rfl, e172, (by decide : 27 + 0 ≤ _), (by decide : 496 + 0 ≤ _)⟩)
  dsimp only [Pt.U, Pt.locs, Pt.cells, Pt.slots] at X177 l177 y177 z177 st177 hQ177
  subst l177 y177 z177
  obtain ⟨rfl, N177q, e177⟩ := hQ177
  have N177 := Fr.app Nt N177q
  obtain ⟨al178, T178, h178, q178, b178, kb178, X178, e178, E178, hS, hk, hZ, hown, A178, C178, F178, V178, -, -, CRq178, Li178, Sx178, st178⟩ := ldcCH X177 hx hZ hown (ow hw 117 rfl) (own_sa hw) e177 hS hk hEL (List.mem_of_getElem? (i := 1) rfl) CR172.1 (vs := [(.int (113 : Int32)), (.int (117 : Int32)), (.int (105 : Int32)), (.int (101 : Int32)), (.int (116 : Int32))]) (z := (5 : Int32)) ⟨by decide, by decide⟩ (by decide) rfl (g := (mkF m 144 #[iv p0, iv p1, iv p2, iv p3, iv l4, iv l5, iv l6, iv l7, iv l8, iv l9, rv t, .val .null] [(.ref t)])) rfl (hb hby at_144) (n := 20) (by decide) (by decide) (by decide) (by decide)
  have E178_179 := E172_173.ext E178
  have F178_180 := F172_174.ext E178
  have F178_181 := F172_175.ext E178
  have V178_182 := V172_176.ext E178
  have E178_183 := A172.ext E178
  have F178_184 := C172.ext E178
  have F178_185 := F172.ext E178
  have V178_186 := V172.ext E178
  have K178 := K172.ext E178
  have O178 : Old Z n0 h178 := O172.ext E178
  have CR178 : CHr Z EL0 s.vm h0 T178.vm h178 := CR172.trans CRq178
  obtain ⟨cq187, kq187, q187a, q187b, q187c⟩ := isOf hZ e178 E178_179
  obtain ⟨_, _, ⟨T187, L187, k187, n187⟩, -, X187, ⟨Lc187, hQ187, l187, y187, z187⟩, st187⟩ := X178.virtualBack hx (y := y17) (z := y17) hown (mvT hZ (ow hw 76 rfl)) (mvT hZ (ow hw 77 rfl)) (notFace_of_selects (args := #[]) (mvT hZ (ow hw 79 rfl))) (mvT hZ (ow hw 79 rfl)) (mvT hZ (ow hw 78 rfl)) (by decide) (backOf (W := 0) (rm17_z l Z ar hw [] t al178 _ _ _ _ _ _ _ _ h178 n0 O178 HW E178_179 A178 F178_180 C178 F178_181 F178 V178_182 V178 (own_neS F178_181 V178_182 F178 V178 (Or.inl (Ne.symm hn5))) (Ne.symm hn5)) hZ (ow hw 80 rfl) (ow hw 6 rfl) (by decide) (by decide)) q187a q187c (g := (mkF m 146 #[iv p0, iv p1, iv p2, iv p3, iv l4, iv l5, iv l6, iv l7, iv l8, iv l9, rv t, .val .null] [(.ref al178), (.ref t)])) rfl (by rw [hml]; rfl) (Steps.refl _) (argsL := [(.ref al178)]) (rest := []) (lenOf pd_13 rfl) rfl (by show 2 * 0 + _ ≤ _; exact Nat.le_of_eq rfl) (hb hby at_146) (fun _ _ => ⟨rfl, e178, (by decide : 29 + 0 ≤ _), (by decide : 520 + 0 ≤ _)⟩)
  dsimp only [Pt.U, Pt.locs, Pt.cells, Pt.slots] at X187 l187 y187 z187 st187 hQ187
  subst l187 y187 z187
  obtain ⟨rfl, N187q, e187⟩ := hQ187
  have N187 := Fr.app N177 N187q
  obtain ⟨al188, T188, h188, q188, b188, kb188, X188, e188, E188, hS, hk, hZ, hown, A188, C188, F188, V188, -, -, CRq188, Li188, Sx188, st188⟩ := ldcCH X187 hx hZ hown (ow hw 112 rfl) (own_sa hw) e187 hS hk hEL (List.mem_of_getElem? (i := 2) rfl) CR178.1 (vs := [(.int (116 : Int32)), (.int (101 : Int32)), (.int (114 : Int32)), (.int (109 : Int32)), (.int (105 : Int32)), (.int (110 : Int32)), (.int (97 : Int32)), (.int (116 : Int32)), (.int (101 : Int32))]) (z := (9 : Int32)) ⟨by decide, by decide⟩ (by decide) rfl (g := (mkF m 162 #[iv p0, iv p1, iv p2, iv p3, iv l4, iv l5, iv l6, iv l7, iv l8, iv l9, rv t, .val .null] [(.ref t)])) rfl (hb hby at_162) (n := 36) (by decide) (by decide) (by decide) (by decide)
  have E188_189 := E178_179.ext E188
  have F188_190 := F178_180.ext E188
  have F188_191 := F178_181.ext E188
  have V188_192 := V178_182.ext E188
  have E188_193 := E178_183.ext E188
  have F188_194 := F178_184.ext E188
  have F188_195 := F178_185.ext E188
  have V188_196 := V178_186.ext E188
  have E188_197 := A178.ext E188
  have F188_198 := C178.ext E188
  have F188_199 := F178.ext E188
  have V188_200 := V178.ext E188
  have K188 := K178.ext E188
  have O188 : Old Z n0 h188 := O178.ext E188
  have CR188 : CHr Z EL0 s.vm h0 T188.vm h188 := CR178.trans CRq188
  obtain ⟨cq201, kq201, q201a, q201b, q201c⟩ := isOf hZ e188 E188_189
  obtain ⟨_, _, ⟨T201, L201, k201, n201⟩, -, X201, ⟨Lc201, hQ201, l201, y201, z201⟩, st201⟩ := X188.virtualBack hx (y := y17) (z := y17) hown (mvT hZ (ow hw 76 rfl)) (mvT hZ (ow hw 77 rfl)) (notFace_of_selects (args := #[]) (mvT hZ (ow hw 79 rfl))) (mvT hZ (ow hw 79 rfl)) (mvT hZ (ow hw 78 rfl)) (by decide) (backOf (W := 0) (rm17_z l Z ar hw [] t al188 _ _ _ _ _ _ _ _ h188 n0 O188 HW E188_189 A188 F188_190 C188 F188_191 F188 V188_192 V188 (own_neS F188_191 V188_192 F188 V188 (Or.inl (Ne.symm hn9))) (Ne.symm hn9)) hZ (ow hw 80 rfl) (ow hw 6 rfl) (by decide) (by decide)) q201a q201c (g := (mkF m 164 #[iv p0, iv p1, iv p2, iv p3, iv l4, iv l5, iv l6, iv l7, iv l8, iv l9, rv t, .val .null] [(.ref al188), (.ref t)])) rfl (by rw [hml]; rfl) (Steps.refl _) (argsL := [(.ref al188)]) (rest := []) (lenOf pd_13 rfl) rfl (by show 2 * 0 + _ ≤ _; exact Nat.le_of_eq rfl) (hb hby at_164) (fun _ _ => ⟨rfl, e188, (by decide : 31 + 0 ≤ _), (by decide : 560 + 0 ≤ _)⟩)
  dsimp only [Pt.U, Pt.locs, Pt.cells, Pt.slots] at X201 l201 y201 z201 st201 hQ201
  subst l201 y201 z201
  obtain ⟨rfl, N201q, e201⟩ := hQ201
  have N201 := Fr.app N187 N201q
  obtain ⟨_, _, ⟨T202, L202, k202, n202⟩, -, X202, ⟨Lc202, hQ202, l202, y202, z202⟩, st202⟩ := Jvm.LawKit.callS X201 hx (y := y19) hown (mvT hZ (ow hw 88 rfl)) (mvT hZ (ow hw 89 rfl)) (mvT hZ (ow hw 86 rfl)) (mvT hZ (ow hw 90 rfl)) (by decide) (backOf (W := 0) (rm19x l Z ar hw [] t _ _ _ _ h188 n0 O188 HW E188_189 F188_190 F188_191 V188_192 Gt hn5 hn7 hn9) hZ (ow hw 90 rfl) (ow hw 86 rfl) (by decide) (by decide)) (g := (mkF m 177 #[iv p0, iv p1, iv p2, iv p3, iv l4, iv l5, iv l6, iv l7, iv l8, iv l9, rv t, .val .null] [(.ref t)])) rfl (by rw [hml]; rfl) (argsL := [(.ref t)]) (rest := []) (lenOf pd_16 rfl) rfl (by show 2 * 0 + _ ≤ _; exact Nat.le_of_eq rfl) (hb hby at_177) (fun _ _ => ⟨rfl, e201, (by decide : 31 + 1 ≤ _), (by decide : 560 + 3 ≤ _)⟩)
  dsimp only [Pt.U, Pt.locs, Pt.cells, Pt.slots] at X202 l202 y202 z202 st202 hQ202
  subst l202 y202 z202
  obtain ⟨rfl, N202q, Kq202⟩ := hQ202
  have N202 := Fr.app N201 N202q
  have E202_203 := E188_189.keep Kq202
  have F202_204 := F188_190.keep Kq202 nin0
  have F202_205 := F188_191.keep Kq202 nin0
  have V202_206 := V188_192.keep Kq202 nin0
  have E202_207 := E188_193.keep Kq202
  have F202_208 := F188_194.keep Kq202 nin0
  have F202_209 := F188_195.keep Kq202 nin0
  have V202_210 := V188_196.keep Kq202 nin0
  have E202_211 := E188_197.keep Kq202
  have F202_212 := F188_198.keep Kq202 nin0
  have F202_213 := F188_199.keep Kq202 nin0
  have V202_214 := V188_200.keep Kq202 nin0
  have E202_215 := A188.keep Kq202
  have F202_216 := C188.keep Kq202 nin0
  have F202_217 := F188.keep Kq202 nin0
  have V202_218 := V188.keep Kq202 nin0
  have K202 := K188.trans Kq202 all0
  have O202 := O188.keep Kq202 all0
  have CR202 : CHr Z EL0 s.vm h0 T188.vm T202.heap := CR188.trans (CHr.keep Kq202 all0 CR188.1)
  have hk := Nat.le_trans hk Kq202.1
  obtain ⟨fs, hr, hrun, hended, hRE⟩ := X202.leaveW hS hk (v := some (.int (1 : Int32))) (fun h => by rw [Bd.returns] at h; cases h)
  have CRf : CHr Z EL0 s.vm s.heap (T202.setFrames fs).vm (T202.setFrames fs).heap := by
    show CHr Z EL0 s.vm s.heap T202.vm T202.heap
    rw [hh]
    exact CR202.trans (CHv.at X202 hZ hEL CR202.1)
  subst hS0
  refine toG ⟨_, _, pret _ ?_, hrun, hended, _, _, rfl, ?_, CRf, hRE.1, hRE.2.1, hRE.2.2.1, hRE.2.2.2.mono (by decide) (by decide)⟩
  ·
   refine XS.aconstNull Xt.here hx rfl (hb hby at_116) ?_
   refine XS.astore Xt.here hx rfl (hb hby at_117) rfl rfl (l' := #[iv p0, iv p1, iv p2, iv p3, iv l4, iv l5, iv l6, iv l7, iv l8, iv l9, rv t, .val .null]) rfl ?_
   refine XS.aload Xt.here hx rfl (hb hby at_119) rfl rfl ?_
   show AT p e below Tt m 121 #[iv p0, iv p1, iv p2, iv p3, iv l4, iv l5, iv l6, iv l7, iv l8, iv l9, rv t, .val .null] [(.ref t)] _
   refine XS.ifnullNo Xt.here hx rfl (hb hby at_121) rfl ?_
   refine XS.aload Xt.here hx rfl (hb hby at_124) rfl rfl ?_
   refine st172 _ ?_
   refine st177.trans ?_
   show AT p e below T177 m 131 #[iv p0, iv p1, iv p2, iv p3, iv l4, iv l5, iv l6, iv l7, iv l8, iv l9, rv t, .val .null] [(.int (0 : Int32))] _
   refine XS.ifYes X177.here hx rfl (pc0 := 131) (pc' := 142) rfl (hb hby at_131) rfl (XT.i0_eq_t ((by decide) : (0 : Int32) = (0 : Int32))) (by decide) (by decide) ?_
   refine XS.aload X177.here hx rfl (hb hby at_142) rfl rfl ?_
   refine st178 _ ?_
   refine st187.trans ?_
   show AT p e below T187 m 149 #[iv p0, iv p1, iv p2, iv p3, iv l4, iv l5, iv l6, iv l7, iv l8, iv l9, rv t, .val .null] [(.int (0 : Int32))] _
   refine XS.ifYes X187.here hx rfl (pc0 := 149) (pc' := 160) rfl (hb hby at_149) rfl (XT.i0_eq_t ((by decide) : (0 : Int32) = (0 : Int32))) (by decide) (by decide) ?_
   refine XS.aload X187.here hx rfl (hb hby at_160) rfl rfl ?_
   refine st188 _ ?_
   refine st201.trans ?_
   show AT p e below T201 m 167 #[iv p0, iv p1, iv p2, iv p3, iv l4, iv l5, iv l6, iv l7, iv l8, iv l9, rv t, .val .null] [(.int (0 : Int32))] _
   refine XS.ifYes X201.here hx rfl (pc0 := 167) (pc' := 175) rfl (hb hby at_167) rfl (XT.i0_eq_t ((by decide) : (0 : Int32) = (0 : Int32))) (by decide) (by decide) ?_
   refine XS.aload X201.here hx rfl (hb hby at_175) rfl rfl ?_
   refine st202 _ ?_
   refine XS.aload X202.here hx rfl (hb hby at_180) rfl rfl ?_
   show AT p e below T202 m 182 #[iv p0, iv p1, iv p2, iv p3, iv l4, iv l5, iv l6, iv l7, iv l8, iv l9, rv t, .val .null] [.null, .null] _
   refine Jvm.RoadKit.acmp (g := (mkF m 182 #[iv p0, iv p1, iv p2, iv p3, iv l4, iv l5, iv l6, iv l7, iv l8, iv l9, rv t, .val .null] [.null, .null])) X202 hx rfl rfl rfl (pc0 := 182) (pc' := 185) (same := true) rfl (hb hby at_182) rfl (decide_eq_true rfl) (by decide) (by decide) ?_
   refine XS.iconst X202.here hx rfl (hb hby at_185) ?_
   refine XS.goto X202.here hx rfl (pc0 := 186) (pc' := 190) rfl (hb hby at_186) (by decide) (by decide) ?_
   exact retN X202 hx (t := .boolean) Bd.returns (by simp) (hb hby at_190) hr
  ·
   show Q0 Z p0 p1 p2 p3 h0 n0 _ T202.heap _
   exact ⟨rfl, N202⟩
 have tail_5 : ∀ (Tt : State) (vmt : Vm) (ht : Heap) (Lt : List Loc) (kt : Nat), Stand p l e room_1 (s.setVm vmt) m #[(.int p0), (.int p1), (.int p2), (.int p3)] below meth c Tt Lt 15 238 → Tt.heap = ht → Fr n0 Lt → Keep h0 ht [] → Old Z n0 ht → s.Since vmt kt → kt ≤ ht.size → Z.Warmed39 (s.setVm vmt).vm → (s.setVm vmt).vm.findClass "com/example/lease/lease/WorkerStateNamedPinLaw" = some m.cls → CHr Z EL0 s.vm h0 vmt ht → ∀ (l4 l5 l6 l7 l8 l9 : Int32) (t u : Addr) (ku : ClassId) (y0 y1 y2 y3 y4 : Int32), Exa Z ht t "java/lang/String" → Fld Z ht t "java/lang/String" "coder" "B" (.int (0 : Int32)) → Fld Z ht t "java/lang/String" "value" "[B" (.ref u) → Arv Z ht u ku .byte (5 : Int32) [(.int y0), (.int y1), (.int y2), (.int y3), (.int y4)] (.int (0 : Int32)) → n0 ≤ t → (∀ tg, AT p e below Tt m 116 #[iv p0, iv p1, iv p2, iv p3, iv l4, iv l5, iv l6, iv l7, iv l8, iv l9, rv t, un] [] tg → Steps p.tables e below S0 tg) → G := by
  intro Tt vmt ht Lt kt Xt et Nt Kt Ot hS hk hZ hown CRt l4 l5 l6 l7 l8 l9 t u ku y0 y1 y2 y3 y4 Et Ct Ft Vt Gt pret
  obtain ⟨al219, T219, h219, q219, b219, kb219, X219, e219, E219, hS, hk, hZ, hown, A219, C219, F219, V219, -, -, CRq219, Li219, Sx219, st219⟩ := ldcCH Xt hx hZ hown (ow hw 5 rfl) (own_sa hw) et hS hk hEL (List.mem_of_getElem? (i := 0) rfl) CRt.1 (vs := [(.int (114 : Int32)), (.int (117 : Int32)), (.int (110 : Int32)), (.int (110 : Int32)), (.int (105 : Int32)), (.int (110 : Int32)), (.int (103 : Int32))]) (z := (7 : Int32)) ⟨by decide, by decide⟩ (by decide) rfl (g := (mkF m 126 #[iv p0, iv p1, iv p2, iv p3, iv l4, iv l5, iv l6, iv l7, iv l8, iv l9, rv t, .val .null] [(.ref t)])) rfl (hb hby at_126) (n := 28) (by decide) (by decide) (by decide) (by decide)
  have E219_220 := Et.ext E219
  have F219_221 := Ct.ext E219
  have F219_222 := Ft.ext E219
  have V219_223 := Vt.ext E219
  have K219 := Kt.ext E219
  have O219 : Old Z n0 h219 := Ot.ext E219
  have CR219 : CHr Z EL0 s.vm h0 T219.vm h219 := CRt.trans CRq219
  obtain ⟨cq224, kq224, q224a, q224b, q224c⟩ := isOf hZ e219 E219_220
  obtain ⟨_, _, ⟨T224, L224, k224, n224⟩, -, X224, ⟨Lc224, hQ224, l224, y224, z224⟩, st224⟩ := X219.virtualBack hx (y := y17) (z := y17) hown (mvT hZ (ow hw 76 rfl)) (mvT hZ (ow hw 77 rfl)) (notFace_of_selects (args := #[]) (mvT hZ (ow hw 79 rfl))) (mvT hZ (ow hw 79 rfl)) (mvT hZ (ow hw 78 rfl)) (by decide) (backOf (W := 0) (rm17_z l Z ar hw [] t al219 _ _ _ _ _ _ _ _ h219 n0 O219 HW E219_220 A219 F219_221 C219 F219_222 F219 V219_223 V219 (own_neS F219_222 V219_223 F219 V219 (Or.inl (by decide))) (by decide)) hZ (ow hw 80 rfl) (ow hw 6 rfl) (by decide) (by decide)) q224a q224c (g := (mkF m 128 #[iv p0, iv p1, iv p2, iv p3, iv l4, iv l5, iv l6, iv l7, iv l8, iv l9, rv t, .val .null] [(.ref al219), (.ref t)])) rfl (by rw [hml]; rfl) (Steps.refl _) (argsL := [(.ref al219)]) (rest := []) (lenOf pd_13 rfl) rfl (by show 2 * 0 + _ ≤ _; exact Nat.le_of_eq rfl) (hb hby at_128) (fun _ _ => ⟨rfl, e219, (by decide : 17 + 0 ≤ _), (by decide : 270 + 0 ≤ _)⟩)
  dsimp only [Pt.U, Pt.locs, Pt.cells, Pt.slots] at X224 l224 y224 z224 st224 hQ224
  subst l224 y224 z224
  obtain ⟨rfl, N224q, e224⟩ := hQ224
  have N224 := Fr.app Nt N224q
  obtain ⟨al225, T225, h225, q225, b225, kb225, X225, e225, E225, hS, hk, hZ, hown, A225, C225, F225, V225, -, -, CRq225, Li225, Sx225, st225⟩ := ldcCH X224 hx hZ hown (ow hw 117 rfl) (own_sa hw) e224 hS hk hEL (List.mem_of_getElem? (i := 1) rfl) CR219.1 (vs := [(.int (113 : Int32)), (.int (117 : Int32)), (.int (105 : Int32)), (.int (101 : Int32)), (.int (116 : Int32))]) (z := (5 : Int32)) ⟨by decide, by decide⟩ (by decide) rfl (g := (mkF m 144 #[iv p0, iv p1, iv p2, iv p3, iv l4, iv l5, iv l6, iv l7, iv l8, iv l9, rv t, .val .null] [(.ref t)])) rfl (hb hby at_144) (n := 20) (by decide) (by decide) (by decide) (by decide)
  have E225_226 := E219_220.ext E225
  have F225_227 := F219_221.ext E225
  have F225_228 := F219_222.ext E225
  have V225_229 := V219_223.ext E225
  have E225_230 := A219.ext E225
  have F225_231 := C219.ext E225
  have F225_232 := F219.ext E225
  have V225_233 := V219.ext E225
  have K225 := K219.ext E225
  have O225 : Old Z n0 h225 := O219.ext E225
  have CR225 : CHr Z EL0 s.vm h0 T225.vm h225 := CR219.trans CRq225
  obtain ⟨cq234, kq234, q234a, q234b, q234c⟩ := isOf hZ e225 E225_226
  obtain ⟨_, _, ⟨T234, L234, k234, n234⟩, -, X234, ⟨Lc234, hQ234, l234, y234, z234⟩, st234⟩ := X225.virtualBack hx (y := y17) (z := y17) hown (mvT hZ (ow hw 76 rfl)) (mvT hZ (ow hw 77 rfl)) (notFace_of_selects (args := #[]) (mvT hZ (ow hw 79 rfl))) (mvT hZ (ow hw 79 rfl)) (mvT hZ (ow hw 78 rfl)) (by decide) (backOf (W := 0) (rm17_5_5q l Z ar hw [] t al225 _ _ _ _ _ _ _ _ _ _ _ _ _ _ h225 n0 O225 HW E225_226 A225 F225_227 C225 F225_228 F225 V225_229 V225) hZ (ow hw 80 rfl) (ow hw 6 rfl) (by decide) (by decide)) q234a q234c (g := (mkF m 146 #[iv p0, iv p1, iv p2, iv p3, iv l4, iv l5, iv l6, iv l7, iv l8, iv l9, rv t, .val .null] [(.ref al225), (.ref t)])) rfl (by rw [hml]; rfl) (Steps.refl _) (argsL := [(.ref al225)]) (rest := []) (lenOf pd_13 rfl) rfl (by show 2 * 0 + _ ≤ _; exact Nat.le_of_eq rfl) (hb hby at_146) (fun _ _ => ⟨rfl, e225, (by decide : 19 + 0 ≤ _), (by decide : 294 + 0 ≤ _)⟩)
  dsimp only [Pt.U, Pt.locs, Pt.cells, Pt.slots] at X234 l234 y234 z234 st234 hQ234
  subst l234 y234 z234
  obtain ⟨rfl, N234q, e234⟩ := hQ234
  have N234 := Fr.app N224 N234q
  have hid : t = al225 → y0 = (113 : Int32) ∧ y1 = (117 : Int32) ∧ y2 = (105 : Int32) ∧ y3 = (101 : Int32) ∧ y4 = (116 : Int32) := fun q => ⟨Value.int.inj (show (Value.int y0) = (Value.int (113 : Int32)) from own_eqB F225_228 V225_229 F225 V225 q 0 (by decide)), Value.int.inj (show (Value.int y1) = (Value.int (117 : Int32)) from own_eqB F225_228 V225_229 F225 V225 q 1 (by decide)), Value.int.inj (show (Value.int y2) = (Value.int (105 : Int32)) from own_eqB F225_228 V225_229 F225 V225 q 2 (by decide)), Value.int.inj (show (Value.int y3) = (Value.int (101 : Int32)) from own_eqB F225_228 V225_229 F225 V225 q 3 (by decide)), Value.int.inj (show (Value.int y4) = (Value.int (116 : Int32)) from own_eqB F225_228 V225_229 F225 V225 q 4 (by decide))⟩
  have pre235 : ∀ tg, AT p e below T234 m 149 #[iv p0, iv p1, iv p2, iv p3, iv l4, iv l5, iv l6, iv l7, iv l8, iv l9, rv t, .val .null] [(.int (f17_5_5q t al225 y0 y1 y2 y3 y4 (113 : Int32) (117 : Int32) (105 : Int32) (101 : Int32) (116 : Int32)))] tg → Steps p.tables e below S0 tg := fun tg kg => pret tg (by
   refine XS.aconstNull Xt.here hx rfl (hb hby at_116) ?_
   refine XS.astore Xt.here hx rfl (hb hby at_117) rfl rfl (l' := #[iv p0, iv p1, iv p2, iv p3, iv l4, iv l5, iv l6, iv l7, iv l8, iv l9, rv t, .val .null]) rfl ?_
   refine XS.aload Xt.here hx rfl (hb hby at_119) rfl rfl ?_
   show AT p e below Tt m 121 #[iv p0, iv p1, iv p2, iv p3, iv l4, iv l5, iv l6, iv l7, iv l8, iv l9, rv t, .val .null] [(.ref t)] _
   refine XS.ifnullNo Xt.here hx rfl (hb hby at_121) rfl ?_
   refine XS.aload Xt.here hx rfl (hb hby at_124) rfl rfl ?_
   refine st219 _ ?_
   refine st224.trans ?_
   show AT p e below T224 m 131 #[iv p0, iv p1, iv p2, iv p3, iv l4, iv l5, iv l6, iv l7, iv l8, iv l9, rv t, .val .null] [(.int (0 : Int32))] _
   refine XS.ifYes X224.here hx rfl (pc0 := 131) (pc' := 142) rfl (hb hby at_131) rfl (XT.i0_eq_t ((by decide) : (0 : Int32) = (0 : Int32))) (by decide) (by decide) ?_
   refine XS.aload X224.here hx rfl (hb hby at_142) rfl rfl ?_
   refine st225 _ ?_
   refine st234.trans ?_
   exact kg)
  rcases Decidable.em ((f17_5_5q t al225 y0 y1 y2 y3 y4 (113 : Int32) (117 : Int32) (105 : Int32) (101 : Int32) (116 : Int32)) = (0 : Int32)) with hc236 | hc236
  ·
   obtain ⟨al237, T237, h237, q237, b237, kb237, X237, e237, E237, hS, hk, hZ, hown, A237, C237, F237, V237, -, -, CRq237, Li237, Sx237, st237⟩ := ldcCH X234 hx hZ hown (ow hw 112 rfl) (own_sa hw) e234 hS hk hEL (List.mem_of_getElem? (i := 2) rfl) CR225.1 (vs := [(.int (116 : Int32)), (.int (101 : Int32)), (.int (114 : Int32)), (.int (109 : Int32)), (.int (105 : Int32)), (.int (110 : Int32)), (.int (97 : Int32)), (.int (116 : Int32)), (.int (101 : Int32))]) (z := (9 : Int32)) ⟨by decide, by decide⟩ (by decide) rfl (g := (mkF m 162 #[iv p0, iv p1, iv p2, iv p3, iv l4, iv l5, iv l6, iv l7, iv l8, iv l9, rv t, .val .null] [(.ref t)])) rfl (hb hby at_162) (n := 36) (by decide) (by decide) (by decide) (by decide)
   have E237_238 := E225_226.ext E237
   have F237_239 := F225_227.ext E237
   have F237_240 := F225_228.ext E237
   have V237_241 := V225_229.ext E237
   have E237_242 := E225_230.ext E237
   have F237_243 := F225_231.ext E237
   have F237_244 := F225_232.ext E237
   have V237_245 := V225_233.ext E237
   have E237_246 := A225.ext E237
   have F237_247 := C225.ext E237
   have F237_248 := F225.ext E237
   have V237_249 := V225.ext E237
   have K237 := K225.ext E237
   have O237 : Old Z n0 h237 := O225.ext E237
   have CR237 : CHr Z EL0 s.vm h0 T237.vm h237 := CR225.trans CRq237
   obtain ⟨cq250, kq250, q250a, q250b, q250c⟩ := isOf hZ e237 E237_238
   obtain ⟨_, _, ⟨T250, L250, k250, n250⟩, -, X250, ⟨Lc250, hQ250, l250, y250, z250⟩, st250⟩ := X237.virtualBack hx (y := y17) (z := y17) hown (mvT hZ (ow hw 76 rfl)) (mvT hZ (ow hw 77 rfl)) (notFace_of_selects (args := #[]) (mvT hZ (ow hw 79 rfl))) (mvT hZ (ow hw 79 rfl)) (mvT hZ (ow hw 78 rfl)) (by decide) (backOf (W := 0) (rm17_z l Z ar hw [] t al237 _ _ _ _ _ _ _ _ h237 n0 O237 HW E237_238 A237 F237_239 C237 F237_240 F237 V237_241 V237 (own_neS F237_240 V237_241 F237 V237 (Or.inl (by decide))) (by decide)) hZ (ow hw 80 rfl) (ow hw 6 rfl) (by decide) (by decide)) q250a q250c (g := (mkF m 164 #[iv p0, iv p1, iv p2, iv p3, iv l4, iv l5, iv l6, iv l7, iv l8, iv l9, rv t, .val .null] [(.ref al237), (.ref t)])) rfl (by rw [hml]; rfl) (Steps.refl _) (argsL := [(.ref al237)]) (rest := []) (lenOf pd_13 rfl) rfl (by show 2 * 0 + _ ≤ _; exact Nat.le_of_eq rfl) (hb hby at_164) (fun _ _ => ⟨rfl, e237, (by decide : 21 + 0 ≤ _), (by decide : 334 + 0 ≤ _)⟩)
   dsimp only [Pt.U, Pt.locs, Pt.cells, Pt.slots] at X250 l250 y250 z250 st250 hQ250
   subst l250 y250 z250
   obtain ⟨rfl, N250q, e250⟩ := hQ250
   have N250 := Fr.app N234 N250q
   obtain ⟨_, _, ⟨T251, L251, k251, n251⟩, -, X251, ⟨Lc251, hQ251, l251, y251, z251⟩, st251⟩ := Jvm.LawKit.callS X250 hx (y := y19) hown (mvT hZ (ow hw 88 rfl)) (mvT hZ (ow hw 89 rfl)) (mvT hZ (ow hw 86 rfl)) (mvT hZ (ow hw 90 rfl)) (by decide) (backOf (W := 0) (rm19_5 l Z ar hw [] t _ _ _ _ _ _ _ h237 n0 O237 HW E237_238 F237_239 F237_240 V237_241 Gt) hZ (ow hw 90 rfl) (ow hw 86 rfl) (by decide) (by decide)) (g := (mkF m 177 #[iv p0, iv p1, iv p2, iv p3, iv l4, iv l5, iv l6, iv l7, iv l8, iv l9, rv t, .val .null] [(.ref t)])) rfl (by rw [hml]; rfl) (argsL := [(.ref t)]) (rest := []) (lenOf pd_16 rfl) rfl (by show 2 * 0 + _ ≤ _; exact Nat.le_of_eq rfl) (hb hby at_177) (fun _ _ => ⟨rfl, e250, (by decide : 21 + 1 ≤ _), (by decide : 334 + 3 ≤ _)⟩)
   dsimp only [Pt.U, Pt.locs, Pt.cells, Pt.slots] at X251 l251 y251 z251 st251 hQ251
   subst l251 y251 z251
   obtain ⟨rfl, N251q, Kq251⟩ := hQ251
   have N251 := Fr.app N250 N251q
   have E251_252 := E237_238.keep Kq251
   have F251_253 := F237_239.keep Kq251 nin0
   have F251_254 := F237_240.keep Kq251 nin0
   have V251_255 := V237_241.keep Kq251 nin0
   have E251_256 := E237_242.keep Kq251
   have F251_257 := F237_243.keep Kq251 nin0
   have F251_258 := F237_244.keep Kq251 nin0
   have V251_259 := V237_245.keep Kq251 nin0
   have E251_260 := E237_246.keep Kq251
   have F251_261 := F237_247.keep Kq251 nin0
   have F251_262 := F237_248.keep Kq251 nin0
   have V251_263 := V237_249.keep Kq251 nin0
   have E251_264 := A237.keep Kq251
   have F251_265 := C237.keep Kq251 nin0
   have F251_266 := F237.keep Kq251 nin0
   have V251_267 := V237.keep Kq251 nin0
   have K251 := K237.trans Kq251 all0
   have O251 := O237.keep Kq251 all0
   have CR251 : CHr Z EL0 s.vm h0 T237.vm T251.heap := CR237.trans (CHr.keep Kq251 all0 CR237.1)
   have hk := Nat.le_trans hk Kq251.1
   have ir251 : (f19_5 w_z4 y0 y1 y2 y3 y4).isRef = true := (by unfold f19_5; (repeat' split) <;> rfl)
   have hans : (f19_5 w_z4 y0 y1 y2 y3 y4) = .null := (own_t5 hid).1 hc236
   obtain ⟨fs, hr, hrun, hended, hRE⟩ := X251.leaveW hS hk (v := some (.int (1 : Int32))) (fun h => by rw [Bd.returns] at h; cases h)
   have CRf : CHr Z EL0 s.vm s.heap (T251.setFrames fs).vm (T251.setFrames fs).heap := by
     show CHr Z EL0 s.vm s.heap T251.vm T251.heap
     rw [hh]
     exact CR251.trans (CHv.at X251 hZ hEL CR251.1)
   subst hS0
   refine toG ⟨_, _, pre235 _ ?_, hrun, hended, _, _, rfl, ?_, CRf, hRE.1, hRE.2.1, hRE.2.2.1, hRE.2.2.2.mono (by decide) (by decide)⟩
   ·
    refine XS.ifYes X234.here hx rfl (pc0 := 149) (pc' := 160) rfl (hb hby at_149) rfl (XT.i0_eq_t hc236) (by decide) (by decide) ?_
    refine XS.aload X234.here hx rfl (hb hby at_160) rfl rfl ?_
    refine st237 _ ?_
    refine st250.trans ?_
    show AT p e below T250 m 167 #[iv p0, iv p1, iv p2, iv p3, iv l4, iv l5, iv l6, iv l7, iv l8, iv l9, rv t, .val .null] [(.int (0 : Int32))] _
    refine XS.ifYes X250.here hx rfl (pc0 := 167) (pc' := 175) rfl (hb hby at_167) rfl (XT.i0_eq_t ((by decide) : (0 : Int32) = (0 : Int32))) (by decide) (by decide) ?_
    refine XS.aload X250.here hx rfl (hb hby at_175) rfl rfl ?_
    refine st251 _ ?_
    refine XS.aload X251.here hx rfl (hb hby at_180) rfl rfl ?_
    show AT p e below T251 m 182 #[iv p0, iv p1, iv p2, iv p3, iv l4, iv l5, iv l6, iv l7, iv l8, iv l9, rv t, .val .null] [.null, (f19_5 w_z4 y0 y1 y2 y3 y4)] _
    refine Jvm.RoadKit.acmp (g := (mkF m 182 #[iv p0, iv p1, iv p2, iv p3, iv l4, iv l5, iv l6, iv l7, iv l8, iv l9, rv t, .val .null] [.null, (f19_5 w_z4 y0 y1 y2 y3 y4)])) X251 hx rfl ir251 rfl (pc0 := 182) (pc' := 185) (same := true) rfl (hb hby at_182) rfl (decide_eq_true (hans : (f19_5 w_z4 y0 y1 y2 y3 y4) = .null)) (by decide) (by decide) ?_
    refine XS.iconst X251.here hx rfl (hb hby at_185) ?_
    refine XS.goto X251.here hx rfl (pc0 := 186) (pc' := 190) rfl (hb hby at_186) (by decide) (by decide) ?_
    exact retN X251 hx (t := .boolean) Bd.returns (by simp) (hb hby at_190) hr
   ·
    show Q0 Z p0 p1 p2 p3 h0 n0 _ T251.heap _
    exact ⟨rfl, N251⟩
  ·
   obtain ⟨T268, X268, e268, st268⟩ := getS2 X234 hx hZ hown (host := "") (Or.inl (ow hw 118 rfl)) Via.refl e234 (S_q8.ext O225.2) (g := (mkF m 152 #[iv p0, iv p1, iv p2, iv p3, iv l4, iv l5, iv l6, iv l7, iv l8, iv l9, rv t, .val .null] [])) rfl (hb hby at_152)
   obtain ⟨_, _, ⟨T269, L269, k269, n269⟩, -, X269, ⟨Lc269, hQ269, l269, y269, z269⟩, st269⟩ := Jvm.LawKit.callS X268 hx (y := y19) hown (mvT hZ (ow hw 88 rfl)) (mvT hZ (ow hw 89 rfl)) (mvT hZ (ow hw 86 rfl)) (mvT hZ (ow hw 90 rfl)) (by decide) (backOf (W := 0) (rm19_5 l Z ar hw [] t _ _ _ _ _ _ _ h225 n0 O225 HW E225_226 F225_227 F225_228 V225_229 Gt) hZ (ow hw 90 rfl) (ow hw 86 rfl) (by decide) (by decide)) (g := (mkF m 177 #[iv p0, iv p1, iv p2, iv p3, iv l4, iv l5, iv l6, iv l7, iv l8, iv l9, rv t, rv w_z4] [(.ref t)])) rfl (by rw [hml]; rfl) (argsL := [(.ref t)]) (rest := []) (lenOf pd_16 rfl) rfl (by show 2 * 0 + _ ≤ _; exact Nat.le_of_eq rfl) (hb hby at_177) (fun _ _ => ⟨rfl, e268, (by decide : 19 + 1 ≤ _), (by decide : 294 + 3 ≤ _)⟩)
   dsimp only [Pt.U, Pt.locs, Pt.cells, Pt.slots] at X269 l269 y269 z269 st269 hQ269
   subst l269 y269 z269
   obtain ⟨rfl, N269q, Kq269⟩ := hQ269
   have N269 := Fr.app N234 N269q
   have E269_270 := E225_226.keep Kq269
   have F269_271 := F225_227.keep Kq269 nin0
   have F269_272 := F225_228.keep Kq269 nin0
   have V269_273 := V225_229.keep Kq269 nin0
   have E269_274 := E225_230.keep Kq269
   have F269_275 := F225_231.keep Kq269 nin0
   have F269_276 := F225_232.keep Kq269 nin0
   have V269_277 := V225_233.keep Kq269 nin0
   have E269_278 := A225.keep Kq269
   have F269_279 := C225.keep Kq269 nin0
   have F269_280 := F225.keep Kq269 nin0
   have V269_281 := V225.keep Kq269 nin0
   have K269 := K225.trans Kq269 all0
   have O269 := O225.keep Kq269 all0
   have CR269 : CHr Z EL0 s.vm h0 T225.vm T269.heap := CR225.trans (CHr.keep Kq269 all0 CR225.1)
   have hk := Nat.le_trans hk Kq269.1
   have ir269 : (f19_5 w_z4 y0 y1 y2 y3 y4).isRef = true := (by unfold f19_5; (repeat' split) <;> rfl)
   have hans : (f19_5 w_z4 y0 y1 y2 y3 y4) = (.ref w_z4) := (own_t5 hid).2 hc236
   obtain ⟨fs, hr, hrun, hended, hRE⟩ := X269.leaveW hS hk (v := some (.int (1 : Int32))) (fun h => by rw [Bd.returns] at h; cases h)
   have CRf : CHr Z EL0 s.vm s.heap (T269.setFrames fs).vm (T269.setFrames fs).heap := by
     show CHr Z EL0 s.vm s.heap T269.vm T269.heap
     rw [hh]
     exact CR269.trans (CHv.at X269 hZ hEL CR269.1)
   subst hS0
   refine toG ⟨_, _, pre235 _ ?_, hrun, hended, _, _, rfl, ?_, CRf, hRE.1, hRE.2.1, hRE.2.2.1, hRE.2.2.2.mono (by decide) (by decide)⟩
   ·
    refine XS.ifNo X234.here hx rfl (hb hby at_149) rfl (XT.i0_eq_f hc236) ?_
    refine st268 _ ?_
    refine XS.astore X268.here hx rfl (hb hby at_155) rfl rfl (l' := #[iv p0, iv p1, iv p2, iv p3, iv l4, iv l5, iv l6, iv l7, iv l8, iv l9, rv t, rv w_z4]) rfl ?_
    refine XS.goto X268.here hx rfl (pc0 := 157) (pc' := 175) rfl (hb hby at_157) (by decide) (by decide) ?_
    refine XS.aload X268.here hx rfl (hb hby at_175) rfl rfl ?_
    refine st269 _ ?_
    refine XS.aload X269.here hx rfl (hb hby at_180) rfl rfl ?_
    show AT p e below T269 m 182 #[iv p0, iv p1, iv p2, iv p3, iv l4, iv l5, iv l6, iv l7, iv l8, iv l9, rv t, rv w_z4] [(.ref w_z4), (f19_5 w_z4 y0 y1 y2 y3 y4)] _
    refine Jvm.RoadKit.acmp (g := (mkF m 182 #[iv p0, iv p1, iv p2, iv p3, iv l4, iv l5, iv l6, iv l7, iv l8, iv l9, rv t, rv w_z4] [(.ref w_z4), (f19_5 w_z4 y0 y1 y2 y3 y4)])) X269 hx rfl ir269 rfl (pc0 := 182) (pc' := 185) (same := true) rfl (hb hby at_182) rfl (decide_eq_true (hans : (f19_5 w_z4 y0 y1 y2 y3 y4) = (.ref w_z4))) (by decide) (by decide) ?_
    refine XS.iconst X269.here hx rfl (hb hby at_185) ?_
    refine XS.goto X269.here hx rfl (pc0 := 186) (pc' := 190) rfl (hb hby at_186) (by decide) (by decide) ?_
    exact retN X269 hx (t := .boolean) Bd.returns (by simp) (hb hby at_190) hr
   ·
    show Q0 Z p0 p1 p2 p3 h0 n0 _ T269.heap _
    exact ⟨rfl, N269⟩
 have tail_7 : ∀ (Tt : State) (vmt : Vm) (ht : Heap) (Lt : List Loc) (kt : Nat), Stand p l e room_1 (s.setVm vmt) m #[(.int p0), (.int p1), (.int p2), (.int p3)] below meth c Tt Lt 19 330 → Tt.heap = ht → Fr n0 Lt → Keep h0 ht [] → Old Z n0 ht → s.Since vmt kt → kt ≤ ht.size → Z.Warmed39 (s.setVm vmt).vm → (s.setVm vmt).vm.findClass "com/example/lease/lease/WorkerStateNamedPinLaw" = some m.cls → CHr Z EL0 s.vm h0 vmt ht → ∀ (l4 l5 l6 l7 l8 l9 : Int32) (t u : Addr) (ku : ClassId) (y0 y1 y2 y3 y4 y5 y6 : Int32), Exa Z ht t "java/lang/String" → Fld Z ht t "java/lang/String" "coder" "B" (.int (0 : Int32)) → Fld Z ht t "java/lang/String" "value" "[B" (.ref u) → Arv Z ht u ku .byte (7 : Int32) [(.int y0), (.int y1), (.int y2), (.int y3), (.int y4), (.int y5), (.int y6)] (.int (0 : Int32)) → n0 ≤ t → (∀ tg, AT p e below Tt m 116 #[iv p0, iv p1, iv p2, iv p3, iv l4, iv l5, iv l6, iv l7, iv l8, iv l9, rv t, un] [] tg → Steps p.tables e below S0 tg) → G := by
  intro Tt vmt ht Lt kt Xt et Nt Kt Ot hS hk hZ hown CRt l4 l5 l6 l7 l8 l9 t u ku y0 y1 y2 y3 y4 y5 y6 Et Ct Ft Vt Gt pret
  obtain ⟨al282, T282, h282, q282, b282, kb282, X282, e282, E282, hS, hk, hZ, hown, A282, C282, F282, V282, -, -, CRq282, Li282, Sx282, st282⟩ := ldcCH Xt hx hZ hown (ow hw 5 rfl) (own_sa hw) et hS hk hEL (List.mem_of_getElem? (i := 0) rfl) CRt.1 (vs := [(.int (114 : Int32)), (.int (117 : Int32)), (.int (110 : Int32)), (.int (110 : Int32)), (.int (105 : Int32)), (.int (110 : Int32)), (.int (103 : Int32))]) (z := (7 : Int32)) ⟨by decide, by decide⟩ (by decide) rfl (g := (mkF m 126 #[iv p0, iv p1, iv p2, iv p3, iv l4, iv l5, iv l6, iv l7, iv l8, iv l9, rv t, .val .null] [(.ref t)])) rfl (hb hby at_126) (n := 28) (by decide) (by decide) (by decide) (by decide)
  have E282_283 := Et.ext E282
  have F282_284 := Ct.ext E282
  have F282_285 := Ft.ext E282
  have V282_286 := Vt.ext E282
  have K282 := Kt.ext E282
  have O282 : Old Z n0 h282 := Ot.ext E282
  have CR282 : CHr Z EL0 s.vm h0 T282.vm h282 := CRt.trans CRq282
  obtain ⟨cq287, kq287, q287a, q287b, q287c⟩ := isOf hZ e282 E282_283
  obtain ⟨_, _, ⟨T287, L287, k287, n287⟩, -, X287, ⟨Lc287, hQ287, l287, y287, z287⟩, st287⟩ := X282.virtualBack hx (y := y17) (z := y17) hown (mvT hZ (ow hw 76 rfl)) (mvT hZ (ow hw 77 rfl)) (notFace_of_selects (args := #[]) (mvT hZ (ow hw 79 rfl))) (mvT hZ (ow hw 79 rfl)) (mvT hZ (ow hw 78 rfl)) (by decide) (backOf (W := 0) (rm17_7_7q l Z ar hw [] t al282 _ _ _ _ _ _ _ _ _ _ _ _ _ _ _ _ _ _ h282 n0 O282 HW E282_283 A282 F282_284 C282 F282_285 F282 V282_286 V282) hZ (ow hw 80 rfl) (ow hw 6 rfl) (by decide) (by decide)) q287a q287c (g := (mkF m 128 #[iv p0, iv p1, iv p2, iv p3, iv l4, iv l5, iv l6, iv l7, iv l8, iv l9, rv t, .val .null] [(.ref al282), (.ref t)])) rfl (by rw [hml]; rfl) (Steps.refl _) (argsL := [(.ref al282)]) (rest := []) (lenOf pd_13 rfl) rfl (by show 2 * 0 + _ ≤ _; exact Nat.le_of_eq rfl) (hb hby at_128) (fun _ _ => ⟨rfl, e282, (by decide : 21 + 0 ≤ _), (by decide : 362 + 0 ≤ _)⟩)
  dsimp only [Pt.U, Pt.locs, Pt.cells, Pt.slots] at X287 l287 y287 z287 st287 hQ287
  subst l287 y287 z287
  obtain ⟨rfl, N287q, e287⟩ := hQ287
  have N287 := Fr.app Nt N287q
  have hid : t = al282 → y0 = (114 : Int32) ∧ y1 = (117 : Int32) ∧ y2 = (110 : Int32) ∧ y3 = (110 : Int32) ∧ y4 = (105 : Int32) ∧ y5 = (110 : Int32) ∧ y6 = (103 : Int32) := fun q => ⟨Value.int.inj (show (Value.int y0) = (Value.int (114 : Int32)) from own_eqB F282_285 V282_286 F282 V282 q 0 (by decide)), Value.int.inj (show (Value.int y1) = (Value.int (117 : Int32)) from own_eqB F282_285 V282_286 F282 V282 q 1 (by decide)), Value.int.inj (show (Value.int y2) = (Value.int (110 : Int32)) from own_eqB F282_285 V282_286 F282 V282 q 2 (by decide)), Value.int.inj (show (Value.int y3) = (Value.int (110 : Int32)) from own_eqB F282_285 V282_286 F282 V282 q 3 (by decide)), Value.int.inj (show (Value.int y4) = (Value.int (105 : Int32)) from own_eqB F282_285 V282_286 F282 V282 q 4 (by decide)), Value.int.inj (show (Value.int y5) = (Value.int (110 : Int32)) from own_eqB F282_285 V282_286 F282 V282 q 5 (by decide)), Value.int.inj (show (Value.int y6) = (Value.int (103 : Int32)) from own_eqB F282_285 V282_286 F282 V282 q 6 (by decide))⟩
  have pre288 : ∀ tg, AT p e below T287 m 131 #[iv p0, iv p1, iv p2, iv p3, iv l4, iv l5, iv l6, iv l7, iv l8, iv l9, rv t, .val .null] [(.int (f17_7_7q t al282 y0 y1 y2 y3 y4 y5 y6 (114 : Int32) (117 : Int32) (110 : Int32) (110 : Int32) (105 : Int32) (110 : Int32) (103 : Int32)))] tg → Steps p.tables e below S0 tg := fun tg kg => pret tg (by
   refine XS.aconstNull Xt.here hx rfl (hb hby at_116) ?_
   refine XS.astore Xt.here hx rfl (hb hby at_117) rfl rfl (l' := #[iv p0, iv p1, iv p2, iv p3, iv l4, iv l5, iv l6, iv l7, iv l8, iv l9, rv t, .val .null]) rfl ?_
   refine XS.aload Xt.here hx rfl (hb hby at_119) rfl rfl ?_
   show AT p e below Tt m 121 #[iv p0, iv p1, iv p2, iv p3, iv l4, iv l5, iv l6, iv l7, iv l8, iv l9, rv t, .val .null] [(.ref t)] _
   refine XS.ifnullNo Xt.here hx rfl (hb hby at_121) rfl ?_
   refine XS.aload Xt.here hx rfl (hb hby at_124) rfl rfl ?_
   refine st282 _ ?_
   refine st287.trans ?_
   exact kg)
  rcases Decidable.em ((f17_7_7q t al282 y0 y1 y2 y3 y4 y5 y6 (114 : Int32) (117 : Int32) (110 : Int32) (110 : Int32) (105 : Int32) (110 : Int32) (103 : Int32)) = (0 : Int32)) with hc289 | hc289
  ·
   obtain ⟨al290, T290, h290, q290, b290, kb290, X290, e290, E290, hS, hk, hZ, hown, A290, C290, F290, V290, -, -, CRq290, Li290, Sx290, st290⟩ := ldcCH X287 hx hZ hown (ow hw 117 rfl) (own_sa hw) e287 hS hk hEL (List.mem_of_getElem? (i := 1) rfl) CR282.1 (vs := [(.int (113 : Int32)), (.int (117 : Int32)), (.int (105 : Int32)), (.int (101 : Int32)), (.int (116 : Int32))]) (z := (5 : Int32)) ⟨by decide, by decide⟩ (by decide) rfl (g := (mkF m 144 #[iv p0, iv p1, iv p2, iv p3, iv l4, iv l5, iv l6, iv l7, iv l8, iv l9, rv t, .val .null] [(.ref t)])) rfl (hb hby at_144) (n := 20) (by decide) (by decide) (by decide) (by decide)
   have E290_291 := E282_283.ext E290
   have F290_292 := F282_284.ext E290
   have F290_293 := F282_285.ext E290
   have V290_294 := V282_286.ext E290
   have E290_295 := A282.ext E290
   have F290_296 := C282.ext E290
   have F290_297 := F282.ext E290
   have V290_298 := V282.ext E290
   have K290 := K282.ext E290
   have O290 : Old Z n0 h290 := O282.ext E290
   have CR290 : CHr Z EL0 s.vm h0 T290.vm h290 := CR282.trans CRq290
   obtain ⟨cq299, kq299, q299a, q299b, q299c⟩ := isOf hZ e290 E290_291
   obtain ⟨_, _, ⟨T299, L299, k299, n299⟩, -, X299, ⟨Lc299, hQ299, l299, y299, z299⟩, st299⟩ := X290.virtualBack hx (y := y17) (z := y17) hown (mvT hZ (ow hw 76 rfl)) (mvT hZ (ow hw 77 rfl)) (notFace_of_selects (args := #[]) (mvT hZ (ow hw 79 rfl))) (mvT hZ (ow hw 79 rfl)) (mvT hZ (ow hw 78 rfl)) (by decide) (backOf (W := 0) (rm17_z l Z ar hw [] t al290 _ _ _ _ _ _ _ _ h290 n0 O290 HW E290_291 A290 F290_292 C290 F290_293 F290 V290_294 V290 (own_neS F290_293 V290_294 F290 V290 (Or.inl (by decide))) (by decide)) hZ (ow hw 80 rfl) (ow hw 6 rfl) (by decide) (by decide)) q299a q299c (g := (mkF m 146 #[iv p0, iv p1, iv p2, iv p3, iv l4, iv l5, iv l6, iv l7, iv l8, iv l9, rv t, .val .null] [(.ref al290), (.ref t)])) rfl (by rw [hml]; rfl) (Steps.refl _) (argsL := [(.ref al290)]) (rest := []) (lenOf pd_13 rfl) rfl (by show 2 * 0 + _ ≤ _; exact Nat.le_of_eq rfl) (hb hby at_146) (fun _ _ => ⟨rfl, e290, (by decide : 23 + 0 ≤ _), (by decide : 386 + 0 ≤ _)⟩)
   dsimp only [Pt.U, Pt.locs, Pt.cells, Pt.slots] at X299 l299 y299 z299 st299 hQ299
   subst l299 y299 z299
   obtain ⟨rfl, N299q, e299⟩ := hQ299
   have N299 := Fr.app N287 N299q
   obtain ⟨al300, T300, h300, q300, b300, kb300, X300, e300, E300, hS, hk, hZ, hown, A300, C300, F300, V300, -, -, CRq300, Li300, Sx300, st300⟩ := ldcCH X299 hx hZ hown (ow hw 112 rfl) (own_sa hw) e299 hS hk hEL (List.mem_of_getElem? (i := 2) rfl) CR290.1 (vs := [(.int (116 : Int32)), (.int (101 : Int32)), (.int (114 : Int32)), (.int (109 : Int32)), (.int (105 : Int32)), (.int (110 : Int32)), (.int (97 : Int32)), (.int (116 : Int32)), (.int (101 : Int32))]) (z := (9 : Int32)) ⟨by decide, by decide⟩ (by decide) rfl (g := (mkF m 162 #[iv p0, iv p1, iv p2, iv p3, iv l4, iv l5, iv l6, iv l7, iv l8, iv l9, rv t, .val .null] [(.ref t)])) rfl (hb hby at_162) (n := 36) (by decide) (by decide) (by decide) (by decide)
   have E300_301 := E290_291.ext E300
   have F300_302 := F290_292.ext E300
   have F300_303 := F290_293.ext E300
   have V300_304 := V290_294.ext E300
   have E300_305 := E290_295.ext E300
   have F300_306 := F290_296.ext E300
   have F300_307 := F290_297.ext E300
   have V300_308 := V290_298.ext E300
   have E300_309 := A290.ext E300
   have F300_310 := C290.ext E300
   have F300_311 := F290.ext E300
   have V300_312 := V290.ext E300
   have K300 := K290.ext E300
   have O300 : Old Z n0 h300 := O290.ext E300
   have CR300 : CHr Z EL0 s.vm h0 T300.vm h300 := CR290.trans CRq300
   obtain ⟨cq313, kq313, q313a, q313b, q313c⟩ := isOf hZ e300 E300_301
   obtain ⟨_, _, ⟨T313, L313, k313, n313⟩, -, X313, ⟨Lc313, hQ313, l313, y313, z313⟩, st313⟩ := X300.virtualBack hx (y := y17) (z := y17) hown (mvT hZ (ow hw 76 rfl)) (mvT hZ (ow hw 77 rfl)) (notFace_of_selects (args := #[]) (mvT hZ (ow hw 79 rfl))) (mvT hZ (ow hw 79 rfl)) (mvT hZ (ow hw 78 rfl)) (by decide) (backOf (W := 0) (rm17_z l Z ar hw [] t al300 _ _ _ _ _ _ _ _ h300 n0 O300 HW E300_301 A300 F300_302 C300 F300_303 F300 V300_304 V300 (own_neS F300_303 V300_304 F300 V300 (Or.inl (by decide))) (by decide)) hZ (ow hw 80 rfl) (ow hw 6 rfl) (by decide) (by decide)) q313a q313c (g := (mkF m 164 #[iv p0, iv p1, iv p2, iv p3, iv l4, iv l5, iv l6, iv l7, iv l8, iv l9, rv t, .val .null] [(.ref al300), (.ref t)])) rfl (by rw [hml]; rfl) (Steps.refl _) (argsL := [(.ref al300)]) (rest := []) (lenOf pd_13 rfl) rfl (by show 2 * 0 + _ ≤ _; exact Nat.le_of_eq rfl) (hb hby at_164) (fun _ _ => ⟨rfl, e300, (by decide : 25 + 0 ≤ _), (by decide : 426 + 0 ≤ _)⟩)
   dsimp only [Pt.U, Pt.locs, Pt.cells, Pt.slots] at X313 l313 y313 z313 st313 hQ313
   subst l313 y313 z313
   obtain ⟨rfl, N313q, e313⟩ := hQ313
   have N313 := Fr.app N299 N313q
   obtain ⟨_, _, ⟨T314, L314, k314, n314⟩, -, X314, ⟨Lc314, hQ314, l314, y314, z314⟩, st314⟩ := Jvm.LawKit.callS X313 hx (y := y19) hown (mvT hZ (ow hw 88 rfl)) (mvT hZ (ow hw 89 rfl)) (mvT hZ (ow hw 86 rfl)) (mvT hZ (ow hw 90 rfl)) (by decide) (backOf (W := 0) (rm19_7 l Z ar hw [] t _ _ _ _ _ _ _ _ _ h300 n0 O300 HW E300_301 F300_302 F300_303 V300_304 Gt) hZ (ow hw 90 rfl) (ow hw 86 rfl) (by decide) (by decide)) (g := (mkF m 177 #[iv p0, iv p1, iv p2, iv p3, iv l4, iv l5, iv l6, iv l7, iv l8, iv l9, rv t, .val .null] [(.ref t)])) rfl (by rw [hml]; rfl) (argsL := [(.ref t)]) (rest := []) (lenOf pd_16 rfl) rfl (by show 2 * 0 + _ ≤ _; exact Nat.le_of_eq rfl) (hb hby at_177) (fun _ _ => ⟨rfl, e313, (by decide : 25 + 1 ≤ _), (by decide : 426 + 3 ≤ _)⟩)
   dsimp only [Pt.U, Pt.locs, Pt.cells, Pt.slots] at X314 l314 y314 z314 st314 hQ314
   subst l314 y314 z314
   obtain ⟨rfl, N314q, Kq314⟩ := hQ314
   have N314 := Fr.app N313 N314q
   have E314_315 := E300_301.keep Kq314
   have F314_316 := F300_302.keep Kq314 nin0
   have F314_317 := F300_303.keep Kq314 nin0
   have V314_318 := V300_304.keep Kq314 nin0
   have E314_319 := E300_305.keep Kq314
   have F314_320 := F300_306.keep Kq314 nin0
   have F314_321 := F300_307.keep Kq314 nin0
   have V314_322 := V300_308.keep Kq314 nin0
   have E314_323 := E300_309.keep Kq314
   have F314_324 := F300_310.keep Kq314 nin0
   have F314_325 := F300_311.keep Kq314 nin0
   have V314_326 := V300_312.keep Kq314 nin0
   have E314_327 := A300.keep Kq314
   have F314_328 := C300.keep Kq314 nin0
   have F314_329 := F300.keep Kq314 nin0
   have V314_330 := V300.keep Kq314 nin0
   have K314 := K300.trans Kq314 all0
   have O314 := O300.keep Kq314 all0
   have CR314 : CHr Z EL0 s.vm h0 T300.vm T314.heap := CR300.trans (CHr.keep Kq314 all0 CR300.1)
   have hk := Nat.le_trans hk Kq314.1
   have ir314 : (f19_7 w_z2 y0 y1 y2 y3 y4 y5 y6).isRef = true := (by unfold f19_7; (repeat' split) <;> rfl)
   have hans : (f19_7 w_z2 y0 y1 y2 y3 y4 y5 y6) = .null := (own_t7 hid).1 hc289
   obtain ⟨fs, hr, hrun, hended, hRE⟩ := X314.leaveW hS hk (v := some (.int (1 : Int32))) (fun h => by rw [Bd.returns] at h; cases h)
   have CRf : CHr Z EL0 s.vm s.heap (T314.setFrames fs).vm (T314.setFrames fs).heap := by
     show CHr Z EL0 s.vm s.heap T314.vm T314.heap
     rw [hh]
     exact CR314.trans (CHv.at X314 hZ hEL CR314.1)
   subst hS0
   refine toG ⟨_, _, pre288 _ ?_, hrun, hended, _, _, rfl, ?_, CRf, hRE.1, hRE.2.1, hRE.2.2.1, hRE.2.2.2.mono (by decide) (by decide)⟩
   ·
    refine XS.ifYes X287.here hx rfl (pc0 := 131) (pc' := 142) rfl (hb hby at_131) rfl (XT.i0_eq_t hc289) (by decide) (by decide) ?_
    refine XS.aload X287.here hx rfl (hb hby at_142) rfl rfl ?_
    refine st290 _ ?_
    refine st299.trans ?_
    show AT p e below T299 m 149 #[iv p0, iv p1, iv p2, iv p3, iv l4, iv l5, iv l6, iv l7, iv l8, iv l9, rv t, .val .null] [(.int (0 : Int32))] _
    refine XS.ifYes X299.here hx rfl (pc0 := 149) (pc' := 160) rfl (hb hby at_149) rfl (XT.i0_eq_t ((by decide) : (0 : Int32) = (0 : Int32))) (by decide) (by decide) ?_
    refine XS.aload X299.here hx rfl (hb hby at_160) rfl rfl ?_
    refine st300 _ ?_
    refine st313.trans ?_
    show AT p e below T313 m 167 #[iv p0, iv p1, iv p2, iv p3, iv l4, iv l5, iv l6, iv l7, iv l8, iv l9, rv t, .val .null] [(.int (0 : Int32))] _
    refine XS.ifYes X313.here hx rfl (pc0 := 167) (pc' := 175) rfl (hb hby at_167) rfl (XT.i0_eq_t ((by decide) : (0 : Int32) = (0 : Int32))) (by decide) (by decide) ?_
    refine XS.aload X313.here hx rfl (hb hby at_175) rfl rfl ?_
    refine st314 _ ?_
    refine XS.aload X314.here hx rfl (hb hby at_180) rfl rfl ?_
    show AT p e below T314 m 182 #[iv p0, iv p1, iv p2, iv p3, iv l4, iv l5, iv l6, iv l7, iv l8, iv l9, rv t, .val .null] [.null, (f19_7 w_z2 y0 y1 y2 y3 y4 y5 y6)] _
    refine Jvm.RoadKit.acmp (g := (mkF m 182 #[iv p0, iv p1, iv p2, iv p3, iv l4, iv l5, iv l6, iv l7, iv l8, iv l9, rv t, .val .null] [.null, (f19_7 w_z2 y0 y1 y2 y3 y4 y5 y6)])) X314 hx rfl ir314 rfl (pc0 := 182) (pc' := 185) (same := true) rfl (hb hby at_182) rfl (decide_eq_true (hans : (f19_7 w_z2 y0 y1 y2 y3 y4 y5 y6) = .null)) (by decide) (by decide) ?_
    refine XS.iconst X314.here hx rfl (hb hby at_185) ?_
    refine XS.goto X314.here hx rfl (pc0 := 186) (pc' := 190) rfl (hb hby at_186) (by decide) (by decide) ?_
    exact retN X314 hx (t := .boolean) Bd.returns (by simp) (hb hby at_190) hr
   ·
    show Q0 Z p0 p1 p2 p3 h0 n0 _ T314.heap _
    exact ⟨rfl, N314⟩
  ·
   obtain ⟨T331, X331, e331, st331⟩ := getS2 X287 hx hZ hown (host := "") (Or.inl (ow hw 85 rfl)) Via.refl e287 (S_q4.ext O282.2) (g := (mkF m 134 #[iv p0, iv p1, iv p2, iv p3, iv l4, iv l5, iv l6, iv l7, iv l8, iv l9, rv t, .val .null] [])) rfl (hb hby at_134)
   obtain ⟨_, _, ⟨T332, L332, k332, n332⟩, -, X332, ⟨Lc332, hQ332, l332, y332, z332⟩, st332⟩ := Jvm.LawKit.callS X331 hx (y := y19) hown (mvT hZ (ow hw 88 rfl)) (mvT hZ (ow hw 89 rfl)) (mvT hZ (ow hw 86 rfl)) (mvT hZ (ow hw 90 rfl)) (by decide) (backOf (W := 0) (rm19_7 l Z ar hw [] t _ _ _ _ _ _ _ _ _ h282 n0 O282 HW E282_283 F282_284 F282_285 V282_286 Gt) hZ (ow hw 90 rfl) (ow hw 86 rfl) (by decide) (by decide)) (g := (mkF m 177 #[iv p0, iv p1, iv p2, iv p3, iv l4, iv l5, iv l6, iv l7, iv l8, iv l9, rv t, rv w_z2] [(.ref t)])) rfl (by rw [hml]; rfl) (argsL := [(.ref t)]) (rest := []) (lenOf pd_16 rfl) rfl (by show 2 * 0 + _ ≤ _; exact Nat.le_of_eq rfl) (hb hby at_177) (fun _ _ => ⟨rfl, e331, (by decide : 21 + 1 ≤ _), (by decide : 362 + 3 ≤ _)⟩)
   dsimp only [Pt.U, Pt.locs, Pt.cells, Pt.slots] at X332 l332 y332 z332 st332 hQ332
   subst l332 y332 z332
   obtain ⟨rfl, N332q, Kq332⟩ := hQ332
   have N332 := Fr.app N287 N332q
   have E332_333 := E282_283.keep Kq332
   have F332_334 := F282_284.keep Kq332 nin0
   have F332_335 := F282_285.keep Kq332 nin0
   have V332_336 := V282_286.keep Kq332 nin0
   have E332_337 := A282.keep Kq332
   have F332_338 := C282.keep Kq332 nin0
   have F332_339 := F282.keep Kq332 nin0
   have V332_340 := V282.keep Kq332 nin0
   have K332 := K282.trans Kq332 all0
   have O332 := O282.keep Kq332 all0
   have CR332 : CHr Z EL0 s.vm h0 T282.vm T332.heap := CR282.trans (CHr.keep Kq332 all0 CR282.1)
   have hk := Nat.le_trans hk Kq332.1
   have ir332 : (f19_7 w_z2 y0 y1 y2 y3 y4 y5 y6).isRef = true := (by unfold f19_7; (repeat' split) <;> rfl)
   have hans : (f19_7 w_z2 y0 y1 y2 y3 y4 y5 y6) = (.ref w_z2) := (own_t7 hid).2 hc289
   obtain ⟨fs, hr, hrun, hended, hRE⟩ := X332.leaveW hS hk (v := some (.int (1 : Int32))) (fun h => by rw [Bd.returns] at h; cases h)
   have CRf : CHr Z EL0 s.vm s.heap (T332.setFrames fs).vm (T332.setFrames fs).heap := by
     show CHr Z EL0 s.vm s.heap T332.vm T332.heap
     rw [hh]
     exact CR332.trans (CHv.at X332 hZ hEL CR332.1)
   subst hS0
   refine toG ⟨_, _, pre288 _ ?_, hrun, hended, _, _, rfl, ?_, CRf, hRE.1, hRE.2.1, hRE.2.2.1, hRE.2.2.2.mono (by decide) (by decide)⟩
   ·
    refine XS.ifNo X287.here hx rfl (hb hby at_131) rfl (XT.i0_eq_f hc289) ?_
    refine st331 _ ?_
    refine XS.astore X331.here hx rfl (hb hby at_137) rfl rfl (l' := #[iv p0, iv p1, iv p2, iv p3, iv l4, iv l5, iv l6, iv l7, iv l8, iv l9, rv t, rv w_z2]) rfl ?_
    refine XS.goto X331.here hx rfl (pc0 := 139) (pc' := 175) rfl (hb hby at_139) (by decide) (by decide) ?_
    refine XS.aload X331.here hx rfl (hb hby at_175) rfl rfl ?_
    refine st332 _ ?_
    refine XS.aload X332.here hx rfl (hb hby at_180) rfl rfl ?_
    show AT p e below T332 m 182 #[iv p0, iv p1, iv p2, iv p3, iv l4, iv l5, iv l6, iv l7, iv l8, iv l9, rv t, rv w_z2] [(.ref w_z2), (f19_7 w_z2 y0 y1 y2 y3 y4 y5 y6)] _
    refine Jvm.RoadKit.acmp (g := (mkF m 182 #[iv p0, iv p1, iv p2, iv p3, iv l4, iv l5, iv l6, iv l7, iv l8, iv l9, rv t, rv w_z2] [(.ref w_z2), (f19_7 w_z2 y0 y1 y2 y3 y4 y5 y6)])) X332 hx rfl ir332 rfl (pc0 := 182) (pc' := 185) (same := true) rfl (hb hby at_182) rfl (decide_eq_true (hans : (f19_7 w_z2 y0 y1 y2 y3 y4 y5 y6) = (.ref w_z2))) (by decide) (by decide) ?_
    refine XS.iconst X332.here hx rfl (hb hby at_185) ?_
    refine XS.goto X332.here hx rfl (pc0 := 186) (pc' := 190) rfl (hb hby at_186) (by decide) (by decide) ?_
    exact retN X332 hx (t := .boolean) Bd.returns (by simp) (hb hby at_190) hr
   ·
    show Q0 Z p0 p1 p2 p3 h0 n0 _ T332.heap _
    exact ⟨rfl, N332⟩
 have tail_9 : ∀ (Tt : State) (vmt : Vm) (ht : Heap) (Lt : List Loc) (kt : Nat), Stand p l e room_1 (s.setVm vmt) m #[(.int p0), (.int p1), (.int p2), (.int p3)] below meth c Tt Lt 23 422 → Tt.heap = ht → Fr n0 Lt → Keep h0 ht [] → Old Z n0 ht → s.Since vmt kt → kt ≤ ht.size → Z.Warmed39 (s.setVm vmt).vm → (s.setVm vmt).vm.findClass "com/example/lease/lease/WorkerStateNamedPinLaw" = some m.cls → CHr Z EL0 s.vm h0 vmt ht → ∀ (l4 l5 l6 l7 l8 l9 : Int32) (t u : Addr) (ku : ClassId) (y0 y1 y2 y3 y4 y5 y6 y7 y8 : Int32), Exa Z ht t "java/lang/String" → Fld Z ht t "java/lang/String" "coder" "B" (.int (0 : Int32)) → Fld Z ht t "java/lang/String" "value" "[B" (.ref u) → Arv Z ht u ku .byte (9 : Int32) [(.int y0), (.int y1), (.int y2), (.int y3), (.int y4), (.int y5), (.int y6), (.int y7), (.int y8)] (.int (0 : Int32)) → n0 ≤ t → (∀ tg, AT p e below Tt m 116 #[iv p0, iv p1, iv p2, iv p3, iv l4, iv l5, iv l6, iv l7, iv l8, iv l9, rv t, un] [] tg → Steps p.tables e below S0 tg) → G := by
  intro Tt vmt ht Lt kt Xt et Nt Kt Ot hS hk hZ hown CRt l4 l5 l6 l7 l8 l9 t u ku y0 y1 y2 y3 y4 y5 y6 y7 y8 Et Ct Ft Vt Gt pret
  obtain ⟨al341, T341, h341, q341, b341, kb341, X341, e341, E341, hS, hk, hZ, hown, A341, C341, F341, V341, -, -, CRq341, Li341, Sx341, st341⟩ := ldcCH Xt hx hZ hown (ow hw 5 rfl) (own_sa hw) et hS hk hEL (List.mem_of_getElem? (i := 0) rfl) CRt.1 (vs := [(.int (114 : Int32)), (.int (117 : Int32)), (.int (110 : Int32)), (.int (110 : Int32)), (.int (105 : Int32)), (.int (110 : Int32)), (.int (103 : Int32))]) (z := (7 : Int32)) ⟨by decide, by decide⟩ (by decide) rfl (g := (mkF m 126 #[iv p0, iv p1, iv p2, iv p3, iv l4, iv l5, iv l6, iv l7, iv l8, iv l9, rv t, .val .null] [(.ref t)])) rfl (hb hby at_126) (n := 28) (by decide) (by decide) (by decide) (by decide)
  have E341_342 := Et.ext E341
  have F341_343 := Ct.ext E341
  have F341_344 := Ft.ext E341
  have V341_345 := Vt.ext E341
  have K341 := Kt.ext E341
  have O341 : Old Z n0 h341 := Ot.ext E341
  have CR341 : CHr Z EL0 s.vm h0 T341.vm h341 := CRt.trans CRq341
  obtain ⟨cq346, kq346, q346a, q346b, q346c⟩ := isOf hZ e341 E341_342
  obtain ⟨_, _, ⟨T346, L346, k346, n346⟩, -, X346, ⟨Lc346, hQ346, l346, y346, z346⟩, st346⟩ := X341.virtualBack hx (y := y17) (z := y17) hown (mvT hZ (ow hw 76 rfl)) (mvT hZ (ow hw 77 rfl)) (notFace_of_selects (args := #[]) (mvT hZ (ow hw 79 rfl))) (mvT hZ (ow hw 79 rfl)) (mvT hZ (ow hw 78 rfl)) (by decide) (backOf (W := 0) (rm17_z l Z ar hw [] t al341 _ _ _ _ _ _ _ _ h341 n0 O341 HW E341_342 A341 F341_343 C341 F341_344 F341 V341_345 V341 (own_neS F341_344 V341_345 F341 V341 (Or.inl (by decide))) (by decide)) hZ (ow hw 80 rfl) (ow hw 6 rfl) (by decide) (by decide)) q346a q346c (g := (mkF m 128 #[iv p0, iv p1, iv p2, iv p3, iv l4, iv l5, iv l6, iv l7, iv l8, iv l9, rv t, .val .null] [(.ref al341), (.ref t)])) rfl (by rw [hml]; rfl) (Steps.refl _) (argsL := [(.ref al341)]) (rest := []) (lenOf pd_13 rfl) rfl (by show 2 * 0 + _ ≤ _; exact Nat.le_of_eq rfl) (hb hby at_128) (fun _ _ => ⟨rfl, e341, (by decide : 25 + 0 ≤ _), (by decide : 454 + 0 ≤ _)⟩)
  dsimp only [Pt.U, Pt.locs, Pt.cells, Pt.slots] at X346 l346 y346 z346 st346 hQ346
  subst l346 y346 z346
  obtain ⟨rfl, N346q, e346⟩ := hQ346
  have N346 := Fr.app Nt N346q
  obtain ⟨al347, T347, h347, q347, b347, kb347, X347, e347, E347, hS, hk, hZ, hown, A347, C347, F347, V347, -, -, CRq347, Li347, Sx347, st347⟩ := ldcCH X346 hx hZ hown (ow hw 117 rfl) (own_sa hw) e346 hS hk hEL (List.mem_of_getElem? (i := 1) rfl) CR341.1 (vs := [(.int (113 : Int32)), (.int (117 : Int32)), (.int (105 : Int32)), (.int (101 : Int32)), (.int (116 : Int32))]) (z := (5 : Int32)) ⟨by decide, by decide⟩ (by decide) rfl (g := (mkF m 144 #[iv p0, iv p1, iv p2, iv p3, iv l4, iv l5, iv l6, iv l7, iv l8, iv l9, rv t, .val .null] [(.ref t)])) rfl (hb hby at_144) (n := 20) (by decide) (by decide) (by decide) (by decide)
  have E347_348 := E341_342.ext E347
  have F347_349 := F341_343.ext E347
  have F347_350 := F341_344.ext E347
  have V347_351 := V341_345.ext E347
  have E347_352 := A341.ext E347
  have F347_353 := C341.ext E347
  have F347_354 := F341.ext E347
  have V347_355 := V341.ext E347
  have K347 := K341.ext E347
  have O347 : Old Z n0 h347 := O341.ext E347
  have CR347 : CHr Z EL0 s.vm h0 T347.vm h347 := CR341.trans CRq347
  obtain ⟨cq356, kq356, q356a, q356b, q356c⟩ := isOf hZ e347 E347_348
  obtain ⟨_, _, ⟨T356, L356, k356, n356⟩, -, X356, ⟨Lc356, hQ356, l356, y356, z356⟩, st356⟩ := X347.virtualBack hx (y := y17) (z := y17) hown (mvT hZ (ow hw 76 rfl)) (mvT hZ (ow hw 77 rfl)) (notFace_of_selects (args := #[]) (mvT hZ (ow hw 79 rfl))) (mvT hZ (ow hw 79 rfl)) (mvT hZ (ow hw 78 rfl)) (by decide) (backOf (W := 0) (rm17_z l Z ar hw [] t al347 _ _ _ _ _ _ _ _ h347 n0 O347 HW E347_348 A347 F347_349 C347 F347_350 F347 V347_351 V347 (own_neS F347_350 V347_351 F347 V347 (Or.inl (by decide))) (by decide)) hZ (ow hw 80 rfl) (ow hw 6 rfl) (by decide) (by decide)) q356a q356c (g := (mkF m 146 #[iv p0, iv p1, iv p2, iv p3, iv l4, iv l5, iv l6, iv l7, iv l8, iv l9, rv t, .val .null] [(.ref al347), (.ref t)])) rfl (by rw [hml]; rfl) (Steps.refl _) (argsL := [(.ref al347)]) (rest := []) (lenOf pd_13 rfl) rfl (by show 2 * 0 + _ ≤ _; exact Nat.le_of_eq rfl) (hb hby at_146) (fun _ _ => ⟨rfl, e347, (by decide : 27 + 0 ≤ _), (by decide : 478 + 0 ≤ _)⟩)
  dsimp only [Pt.U, Pt.locs, Pt.cells, Pt.slots] at X356 l356 y356 z356 st356 hQ356
  subst l356 y356 z356
  obtain ⟨rfl, N356q, e356⟩ := hQ356
  have N356 := Fr.app N346 N356q
  obtain ⟨al357, T357, h357, q357, b357, kb357, X357, e357, E357, hS, hk, hZ, hown, A357, C357, F357, V357, -, -, CRq357, Li357, Sx357, st357⟩ := ldcCH X356 hx hZ hown (ow hw 112 rfl) (own_sa hw) e356 hS hk hEL (List.mem_of_getElem? (i := 2) rfl) CR347.1 (vs := [(.int (116 : Int32)), (.int (101 : Int32)), (.int (114 : Int32)), (.int (109 : Int32)), (.int (105 : Int32)), (.int (110 : Int32)), (.int (97 : Int32)), (.int (116 : Int32)), (.int (101 : Int32))]) (z := (9 : Int32)) ⟨by decide, by decide⟩ (by decide) rfl (g := (mkF m 162 #[iv p0, iv p1, iv p2, iv p3, iv l4, iv l5, iv l6, iv l7, iv l8, iv l9, rv t, .val .null] [(.ref t)])) rfl (hb hby at_162) (n := 36) (by decide) (by decide) (by decide) (by decide)
  have E357_358 := E347_348.ext E357
  have F357_359 := F347_349.ext E357
  have F357_360 := F347_350.ext E357
  have V357_361 := V347_351.ext E357
  have E357_362 := E347_352.ext E357
  have F357_363 := F347_353.ext E357
  have F357_364 := F347_354.ext E357
  have V357_365 := V347_355.ext E357
  have E357_366 := A347.ext E357
  have F357_367 := C347.ext E357
  have F357_368 := F347.ext E357
  have V357_369 := V347.ext E357
  have K357 := K347.ext E357
  have O357 : Old Z n0 h357 := O347.ext E357
  have CR357 : CHr Z EL0 s.vm h0 T357.vm h357 := CR347.trans CRq357
  obtain ⟨cq370, kq370, q370a, q370b, q370c⟩ := isOf hZ e357 E357_358
  obtain ⟨_, _, ⟨T370, L370, k370, n370⟩, -, X370, ⟨Lc370, hQ370, l370, y370, z370⟩, st370⟩ := X357.virtualBack hx (y := y17) (z := y17) hown (mvT hZ (ow hw 76 rfl)) (mvT hZ (ow hw 77 rfl)) (notFace_of_selects (args := #[]) (mvT hZ (ow hw 79 rfl))) (mvT hZ (ow hw 79 rfl)) (mvT hZ (ow hw 78 rfl)) (by decide) (backOf (W := 0) (rm17_9_9q l Z ar hw [] t al357 _ _ _ _ _ _ _ _ _ _ _ _ _ _ _ _ _ _ _ _ _ _ h357 n0 O357 HW E357_358 A357 F357_359 C357 F357_360 F357 V357_361 V357) hZ (ow hw 80 rfl) (ow hw 6 rfl) (by decide) (by decide)) q370a q370c (g := (mkF m 164 #[iv p0, iv p1, iv p2, iv p3, iv l4, iv l5, iv l6, iv l7, iv l8, iv l9, rv t, .val .null] [(.ref al357), (.ref t)])) rfl (by rw [hml]; rfl) (Steps.refl _) (argsL := [(.ref al357)]) (rest := []) (lenOf pd_13 rfl) rfl (by show 2 * 0 + _ ≤ _; exact Nat.le_of_eq rfl) (hb hby at_164) (fun _ _ => ⟨rfl, e357, (by decide : 29 + 0 ≤ _), (by decide : 518 + 0 ≤ _)⟩)
  dsimp only [Pt.U, Pt.locs, Pt.cells, Pt.slots] at X370 l370 y370 z370 st370 hQ370
  subst l370 y370 z370
  obtain ⟨rfl, N370q, e370⟩ := hQ370
  have N370 := Fr.app N356 N370q
  have hid : t = al357 → y0 = (116 : Int32) ∧ y1 = (101 : Int32) ∧ y2 = (114 : Int32) ∧ y3 = (109 : Int32) ∧ y4 = (105 : Int32) ∧ y5 = (110 : Int32) ∧ y6 = (97 : Int32) ∧ y7 = (116 : Int32) ∧ y8 = (101 : Int32) := fun q => ⟨Value.int.inj (show (Value.int y0) = (Value.int (116 : Int32)) from own_eqB F357_360 V357_361 F357 V357 q 0 (by decide)), Value.int.inj (show (Value.int y1) = (Value.int (101 : Int32)) from own_eqB F357_360 V357_361 F357 V357 q 1 (by decide)), Value.int.inj (show (Value.int y2) = (Value.int (114 : Int32)) from own_eqB F357_360 V357_361 F357 V357 q 2 (by decide)), Value.int.inj (show (Value.int y3) = (Value.int (109 : Int32)) from own_eqB F357_360 V357_361 F357 V357 q 3 (by decide)), Value.int.inj (show (Value.int y4) = (Value.int (105 : Int32)) from own_eqB F357_360 V357_361 F357 V357 q 4 (by decide)), Value.int.inj (show (Value.int y5) = (Value.int (110 : Int32)) from own_eqB F357_360 V357_361 F357 V357 q 5 (by decide)), Value.int.inj (show (Value.int y6) = (Value.int (97 : Int32)) from own_eqB F357_360 V357_361 F357 V357 q 6 (by decide)), Value.int.inj (show (Value.int y7) = (Value.int (116 : Int32)) from own_eqB F357_360 V357_361 F357 V357 q 7 (by decide)), Value.int.inj (show (Value.int y8) = (Value.int (101 : Int32)) from own_eqB F357_360 V357_361 F357 V357 q 8 (by decide))⟩
  have pre371 : ∀ tg, AT p e below T370 m 167 #[iv p0, iv p1, iv p2, iv p3, iv l4, iv l5, iv l6, iv l7, iv l8, iv l9, rv t, .val .null] [(.int (f17_9_9q t al357 y0 y1 y2 y3 y4 y5 y6 y7 y8 (116 : Int32) (101 : Int32) (114 : Int32) (109 : Int32) (105 : Int32) (110 : Int32) (97 : Int32) (116 : Int32) (101 : Int32)))] tg → Steps p.tables e below S0 tg := fun tg kg => pret tg (by
   refine XS.aconstNull Xt.here hx rfl (hb hby at_116) ?_
   refine XS.astore Xt.here hx rfl (hb hby at_117) rfl rfl (l' := #[iv p0, iv p1, iv p2, iv p3, iv l4, iv l5, iv l6, iv l7, iv l8, iv l9, rv t, .val .null]) rfl ?_
   refine XS.aload Xt.here hx rfl (hb hby at_119) rfl rfl ?_
   show AT p e below Tt m 121 #[iv p0, iv p1, iv p2, iv p3, iv l4, iv l5, iv l6, iv l7, iv l8, iv l9, rv t, .val .null] [(.ref t)] _
   refine XS.ifnullNo Xt.here hx rfl (hb hby at_121) rfl ?_
   refine XS.aload Xt.here hx rfl (hb hby at_124) rfl rfl ?_
   refine st341 _ ?_
   refine st346.trans ?_
   show AT p e below T346 m 131 #[iv p0, iv p1, iv p2, iv p3, iv l4, iv l5, iv l6, iv l7, iv l8, iv l9, rv t, .val .null] [(.int (0 : Int32))] _
   refine XS.ifYes X346.here hx rfl (pc0 := 131) (pc' := 142) rfl (hb hby at_131) rfl (XT.i0_eq_t ((by decide) : (0 : Int32) = (0 : Int32))) (by decide) (by decide) ?_
   refine XS.aload X346.here hx rfl (hb hby at_142) rfl rfl ?_
   refine st347 _ ?_
   refine st356.trans ?_
   show AT p e below T356 m 149 #[iv p0, iv p1, iv p2, iv p3, iv l4, iv l5, iv l6, iv l7, iv l8, iv l9, rv t, .val .null] [(.int (0 : Int32))] _
   refine XS.ifYes X356.here hx rfl (pc0 := 149) (pc' := 160) rfl (hb hby at_149) rfl (XT.i0_eq_t ((by decide) : (0 : Int32) = (0 : Int32))) (by decide) (by decide) ?_
   refine XS.aload X356.here hx rfl (hb hby at_160) rfl rfl ?_
   refine st357 _ ?_
   refine st370.trans ?_
   exact kg)
  rcases Decidable.em ((f17_9_9q t al357 y0 y1 y2 y3 y4 y5 y6 y7 y8 (116 : Int32) (101 : Int32) (114 : Int32) (109 : Int32) (105 : Int32) (110 : Int32) (97 : Int32) (116 : Int32) (101 : Int32)) = (0 : Int32)) with hc372 | hc372
  ·
   obtain ⟨_, _, ⟨T373, L373, k373, n373⟩, -, X373, ⟨Lc373, hQ373, l373, y373, z373⟩, st373⟩ := Jvm.LawKit.callS X370 hx (y := y19) hown (mvT hZ (ow hw 88 rfl)) (mvT hZ (ow hw 89 rfl)) (mvT hZ (ow hw 86 rfl)) (mvT hZ (ow hw 90 rfl)) (by decide) (backOf (W := 0) (rm19_9 l Z ar hw [] t _ _ _ _ _ _ _ _ _ _ _ h357 n0 O357 HW E357_358 F357_359 F357_360 V357_361 Gt) hZ (ow hw 90 rfl) (ow hw 86 rfl) (by decide) (by decide)) (g := (mkF m 177 #[iv p0, iv p1, iv p2, iv p3, iv l4, iv l5, iv l6, iv l7, iv l8, iv l9, rv t, .val .null] [(.ref t)])) rfl (by rw [hml]; rfl) (argsL := [(.ref t)]) (rest := []) (lenOf pd_16 rfl) rfl (by show 2 * 0 + _ ≤ _; exact Nat.le_of_eq rfl) (hb hby at_177) (fun _ _ => ⟨rfl, e370, (by decide : 29 + 1 ≤ _), (by decide : 518 + 3 ≤ _)⟩)
   dsimp only [Pt.U, Pt.locs, Pt.cells, Pt.slots] at X373 l373 y373 z373 st373 hQ373
   subst l373 y373 z373
   obtain ⟨rfl, N373q, Kq373⟩ := hQ373
   have N373 := Fr.app N370 N373q
   have E373_374 := E357_358.keep Kq373
   have F373_375 := F357_359.keep Kq373 nin0
   have F373_376 := F357_360.keep Kq373 nin0
   have V373_377 := V357_361.keep Kq373 nin0
   have E373_378 := E357_362.keep Kq373
   have F373_379 := F357_363.keep Kq373 nin0
   have F373_380 := F357_364.keep Kq373 nin0
   have V373_381 := V357_365.keep Kq373 nin0
   have E373_382 := E357_366.keep Kq373
   have F373_383 := F357_367.keep Kq373 nin0
   have F373_384 := F357_368.keep Kq373 nin0
   have V373_385 := V357_369.keep Kq373 nin0
   have E373_386 := A357.keep Kq373
   have F373_387 := C357.keep Kq373 nin0
   have F373_388 := F357.keep Kq373 nin0
   have V373_389 := V357.keep Kq373 nin0
   have K373 := K357.trans Kq373 all0
   have O373 := O357.keep Kq373 all0
   have CR373 : CHr Z EL0 s.vm h0 T357.vm T373.heap := CR357.trans (CHr.keep Kq373 all0 CR357.1)
   have hk := Nat.le_trans hk Kq373.1
   have ir373 : (f19_9 w_z5 y0 y1 y2 y3 y4 y5 y6 y7 y8).isRef = true := (by unfold f19_9; (repeat' split) <;> rfl)
   have hans : (f19_9 w_z5 y0 y1 y2 y3 y4 y5 y6 y7 y8) = .null := (own_t9 hid).1 hc372
   obtain ⟨fs, hr, hrun, hended, hRE⟩ := X373.leaveW hS hk (v := some (.int (1 : Int32))) (fun h => by rw [Bd.returns] at h; cases h)
   have CRf : CHr Z EL0 s.vm s.heap (T373.setFrames fs).vm (T373.setFrames fs).heap := by
     show CHr Z EL0 s.vm s.heap T373.vm T373.heap
     rw [hh]
     exact CR373.trans (CHv.at X373 hZ hEL CR373.1)
   subst hS0
   refine toG ⟨_, _, pre371 _ ?_, hrun, hended, _, _, rfl, ?_, CRf, hRE.1, hRE.2.1, hRE.2.2.1, hRE.2.2.2.mono (by decide) (by decide)⟩
   ·
    refine XS.ifYes X370.here hx rfl (pc0 := 167) (pc' := 175) rfl (hb hby at_167) rfl (XT.i0_eq_t hc372) (by decide) (by decide) ?_
    refine XS.aload X370.here hx rfl (hb hby at_175) rfl rfl ?_
    refine st373 _ ?_
    refine XS.aload X373.here hx rfl (hb hby at_180) rfl rfl ?_
    show AT p e below T373 m 182 #[iv p0, iv p1, iv p2, iv p3, iv l4, iv l5, iv l6, iv l7, iv l8, iv l9, rv t, .val .null] [.null, (f19_9 w_z5 y0 y1 y2 y3 y4 y5 y6 y7 y8)] _
    refine Jvm.RoadKit.acmp (g := (mkF m 182 #[iv p0, iv p1, iv p2, iv p3, iv l4, iv l5, iv l6, iv l7, iv l8, iv l9, rv t, .val .null] [.null, (f19_9 w_z5 y0 y1 y2 y3 y4 y5 y6 y7 y8)])) X373 hx rfl ir373 rfl (pc0 := 182) (pc' := 185) (same := true) rfl (hb hby at_182) rfl (decide_eq_true (hans : (f19_9 w_z5 y0 y1 y2 y3 y4 y5 y6 y7 y8) = .null)) (by decide) (by decide) ?_
    refine XS.iconst X373.here hx rfl (hb hby at_185) ?_
    refine XS.goto X373.here hx rfl (pc0 := 186) (pc' := 190) rfl (hb hby at_186) (by decide) (by decide) ?_
    exact retN X373 hx (t := .boolean) Bd.returns (by simp) (hb hby at_190) hr
   ·
    show Q0 Z p0 p1 p2 p3 h0 n0 _ T373.heap _
    exact ⟨rfl, N373⟩
  ·
   obtain ⟨T390, X390, e390, st390⟩ := getS2 X370 hx hZ hown (host := "") (Or.inl (ow hw 120 rfl)) Via.refl e370 (S_q10.ext O357.2) (g := (mkF m 170 #[iv p0, iv p1, iv p2, iv p3, iv l4, iv l5, iv l6, iv l7, iv l8, iv l9, rv t, .val .null] [])) rfl (hb hby at_170)
   obtain ⟨_, _, ⟨T391, L391, k391, n391⟩, -, X391, ⟨Lc391, hQ391, l391, y391, z391⟩, st391⟩ := Jvm.LawKit.callS X390 hx (y := y19) hown (mvT hZ (ow hw 88 rfl)) (mvT hZ (ow hw 89 rfl)) (mvT hZ (ow hw 86 rfl)) (mvT hZ (ow hw 90 rfl)) (by decide) (backOf (W := 0) (rm19_9 l Z ar hw [] t _ _ _ _ _ _ _ _ _ _ _ h357 n0 O357 HW E357_358 F357_359 F357_360 V357_361 Gt) hZ (ow hw 90 rfl) (ow hw 86 rfl) (by decide) (by decide)) (g := (mkF m 177 #[iv p0, iv p1, iv p2, iv p3, iv l4, iv l5, iv l6, iv l7, iv l8, iv l9, rv t, rv w_z5] [(.ref t)])) rfl (by rw [hml]; rfl) (argsL := [(.ref t)]) (rest := []) (lenOf pd_16 rfl) rfl (by show 2 * 0 + _ ≤ _; exact Nat.le_of_eq rfl) (hb hby at_177) (fun _ _ => ⟨rfl, e390, (by decide : 29 + 1 ≤ _), (by decide : 518 + 3 ≤ _)⟩)
   dsimp only [Pt.U, Pt.locs, Pt.cells, Pt.slots] at X391 l391 y391 z391 st391 hQ391
   subst l391 y391 z391
   obtain ⟨rfl, N391q, Kq391⟩ := hQ391
   have N391 := Fr.app N370 N391q
   have E391_392 := E357_358.keep Kq391
   have F391_393 := F357_359.keep Kq391 nin0
   have F391_394 := F357_360.keep Kq391 nin0
   have V391_395 := V357_361.keep Kq391 nin0
   have E391_396 := E357_362.keep Kq391
   have F391_397 := F357_363.keep Kq391 nin0
   have F391_398 := F357_364.keep Kq391 nin0
   have V391_399 := V357_365.keep Kq391 nin0
   have E391_400 := E357_366.keep Kq391
   have F391_401 := F357_367.keep Kq391 nin0
   have F391_402 := F357_368.keep Kq391 nin0
   have V391_403 := V357_369.keep Kq391 nin0
   have E391_404 := A357.keep Kq391
   have F391_405 := C357.keep Kq391 nin0
   have F391_406 := F357.keep Kq391 nin0
   have V391_407 := V357.keep Kq391 nin0
   have K391 := K357.trans Kq391 all0
   have O391 := O357.keep Kq391 all0
   have CR391 : CHr Z EL0 s.vm h0 T357.vm T391.heap := CR357.trans (CHr.keep Kq391 all0 CR357.1)
   have hk := Nat.le_trans hk Kq391.1
   have ir391 : (f19_9 w_z5 y0 y1 y2 y3 y4 y5 y6 y7 y8).isRef = true := (by unfold f19_9; (repeat' split) <;> rfl)
   have hans : (f19_9 w_z5 y0 y1 y2 y3 y4 y5 y6 y7 y8) = (.ref w_z5) := (own_t9 hid).2 hc372
   obtain ⟨fs, hr, hrun, hended, hRE⟩ := X391.leaveW hS hk (v := some (.int (1 : Int32))) (fun h => by rw [Bd.returns] at h; cases h)
   have CRf : CHr Z EL0 s.vm s.heap (T391.setFrames fs).vm (T391.setFrames fs).heap := by
     show CHr Z EL0 s.vm s.heap T391.vm T391.heap
     rw [hh]
     exact CR391.trans (CHv.at X391 hZ hEL CR391.1)
   subst hS0
   refine toG ⟨_, _, pre371 _ ?_, hrun, hended, _, _, rfl, ?_, CRf, hRE.1, hRE.2.1, hRE.2.2.1, hRE.2.2.2.mono (by decide) (by decide)⟩
   ·
    refine XS.ifNo X370.here hx rfl (hb hby at_167) rfl (XT.i0_eq_f hc372) ?_
    refine st390 _ ?_
    refine XS.astore X390.here hx rfl (hb hby at_173) rfl rfl (l' := #[iv p0, iv p1, iv p2, iv p3, iv l4, iv l5, iv l6, iv l7, iv l8, iv l9, rv t, rv w_z5]) rfl ?_
    refine XS.aload X390.here hx rfl (hb hby at_175) rfl rfl ?_
    refine st391 _ ?_
    refine XS.aload X391.here hx rfl (hb hby at_180) rfl rfl ?_
    show AT p e below T391 m 182 #[iv p0, iv p1, iv p2, iv p3, iv l4, iv l5, iv l6, iv l7, iv l8, iv l9, rv t, rv w_z5] [(.ref w_z5), (f19_9 w_z5 y0 y1 y2 y3 y4 y5 y6 y7 y8)] _
    refine Jvm.RoadKit.acmp (g := (mkF m 182 #[iv p0, iv p1, iv p2, iv p3, iv l4, iv l5, iv l6, iv l7, iv l8, iv l9, rv t, rv w_z5] [(.ref w_z5), (f19_9 w_z5 y0 y1 y2 y3 y4 y5 y6 y7 y8)])) X391 hx rfl ir391 rfl (pc0 := 182) (pc' := 185) (same := true) rfl (hb hby at_182) rfl (decide_eq_true (hans : (f19_9 w_z5 y0 y1 y2 y3 y4 y5 y6 y7 y8) = (.ref w_z5))) (by decide) (by decide) ?_
    refine XS.iconst X391.here hx rfl (hb hby at_185) ?_
    refine XS.goto X391.here hx rfl (pc0 := 186) (pc' := 190) rfl (hb hby at_186) (by decide) (by decide) ?_
    exact retN X391 hx (t := .boolean) Bd.returns (by simp) (hb hby at_190) hr
   ·
    show Q0 Z p0 p1 p2 p3 h0 n0 _ T391.heap _
    exact ⟨rfl, N391⟩
 have pre1 : ∀ tg, AT p e below s₁ m 8 #[iv p0, iv p1, iv p2, iv p3, iv ((p0 &&& (2147483647 : Int32)) % (4 : Int32)), un, un, un, un, un, un, un] [] tg → Steps p.tables e below S0 tg := fun tg kg => pre0 tg (by
  refine XS.iloadN X0.here hx rfl (hb hby at_0) rfl ?_
  refine X0.ldcInt hx hown (mvT hZ (ow hw 0 rfl)) (g := (mkF m 1 #[iv p0, iv p1, iv p2, iv p3, un, un, un, un, un, un, un, un] [(.int p0)])) rfl (hb hby at_1) _ ?_
  refine XS.iand X0.here hx rfl (hb hby at_3) rfl ?_
  refine XS.iconst X0.here hx rfl (hb hby at_4) ?_
  refine iremM X0 hx rfl (hb hby at_5) rfl (by decide) ?_
  refine XS.istore X0.here hx rfl (hb hby at_6) rfl (l' := #[iv p0, iv p1, iv p2, iv p3, iv ((p0 &&& (2147483647 : Int32)) % (4 : Int32)), un, un, un, un, un, un, un]) rfl ?_
  exact kg)
 obtain ⟨kz, hkz⟩ : ∃ z, z = ((p0 &&& (2147483647 : Int32)) % (4 : Int32)) := ⟨_, rfl⟩
 have pre2 : ∀ tg, AT p e below s₁ m 8 #[iv p0, iv p1, iv p2, iv p3, iv kz, un, un, un, un, un, un, un] [] tg → Steps p.tables e below S0 tg := by rw [hkz]; exact pre1
 have hskz : kz = (0 : Int32) ∨ kz = (1 : Int32) ∨ kz = (2 : Int32) ∨ kz = (3 : Int32) := by rw [hkz]; exact own_m4 p0
 rcases hskz with rfl | rfl | rfl | rfl
 ·
  have pre3 : ∀ tg, AT p e below s₁ m 14 #[iv p0, iv p1, iv p2, iv p3, iv (0 : Int32), iv (p1 &&& (7 : Int32)), un, un, un, un, un, un] [] tg → Steps p.tables e below S0 tg := fun tg kg => pre2 tg (by
   refine XS.iloadN X0.here hx rfl (hb hby at_8) rfl ?_
   refine XS.bipush X0.here hx rfl (hb hby at_9) ?_
   refine XS.iand X0.here hx rfl (hb hby at_11) rfl ?_
   refine XS.istore X0.here hx rfl (hb hby at_12) rfl (l' := #[iv p0, iv p1, iv p2, iv p3, iv (0 : Int32), iv (p1 &&& (7 : Int32)), un, un, un, un, un, un]) rfl ?_
   exact kg)
  obtain ⟨mz, hmz⟩ : ∃ z, z = (p1 &&& (7 : Int32)) := ⟨_, rfl⟩
  have pre4 : ∀ tg, AT p e below s₁ m 14 #[iv p0, iv p1, iv p2, iv p3, iv (0 : Int32), iv mz, un, un, un, un, un, un] [] tg → Steps p.tables e below S0 tg := by rw [hmz]; exact pre3
  have pre5 : ∀ tg, AT p e below s₁ m 22 #[iv p0, iv p1, iv p2, iv p3, iv (0 : Int32), iv mz, iv ((p3 &&& (255 : Int32)).toUInt32.toUInt16.toUInt32.toInt32), un, un, un, un, un] [] tg → Steps p.tables e below S0 tg := fun tg kg => pre4 tg (by
   refine XS.iloadN X0.here hx rfl (hb hby at_14) rfl ?_
   refine XS.sipush X0.here hx rfl (hb hby at_15) ?_
   refine XS.iand X0.here hx rfl (hb hby at_18) rfl ?_
   refine XS.i2c X0.here hx rfl (hb hby at_19) rfl ?_
   refine XS.istore X0.here hx rfl (hb hby at_20) rfl (l' := #[iv p0, iv p1, iv p2, iv p3, iv (0 : Int32), iv mz, iv ((p3 &&& (255 : Int32)).toUInt32.toUInt16.toUInt32.toInt32), un, un, un, un, un]) rfl ?_
   exact kg)
  obtain ⟨cz, hcz⟩ : ∃ z, z = ((p3 &&& (255 : Int32)).toUInt32.toUInt16.toUInt32.toInt32) := ⟨_, rfl⟩
  have pre6 : ∀ tg, AT p e below s₁ m 22 #[iv p0, iv p1, iv p2, iv p3, iv (0 : Int32), iv mz, iv cz, un, un, un, un, un] [] tg → Steps p.tables e below S0 tg := by rw [hcz]; exact pre5
  have hcb : 0 ≤ cz.toInt ∧ cz.toInt ≤ 255 := by rw [hcz]; exact own_cz p3
  obtain ⟨_, _, ⟨T7, L7, k7, n7⟩, -, X7, hS7, hg7, ⟨Lc7, hQ7, l7, y7, z7, CRq7⟩, st7⟩ := callSS X0 hx (y := y1) hown (mvT hZ (ow hw 1 rfl)) (mvT hZ (ow hw 2 rfl)) (mvT hZ (ow hw 3 rfl)) (mvT hZ (ow hw 4 rfl)) (by decide) (backOfSH (W := 0) (rm1_0 l Z ar hw []  h0 n0 O0 hEL) hZ (ow hw 4 rfl) (ow hw 3 rfl) (by decide) (by decide) hEL CR0.1) (g := (mkF m 24 #[iv p0, iv p1, iv p2, iv p3, iv (0 : Int32), iv mz, iv cz, un, un, un, un, un] [(.int (0 : Int32))])) rfl (by rw [hml]; rfl) (argsL := [(.int (0 : Int32))]) (rest := []) (lenOf pd_5 rfl) rfl (by show 2 * 0 + _ ≤ _; exact Nat.le_of_eq rfl) (hb hby at_24) (fun _ _ => ⟨rfl, e0, (by decide : 0 + 2 ≤ _), (by decide : 0 + 32 ≤ _)⟩)
  dsimp only [Pt.U, Pt.locs, Pt.cells, Pt.slots] at X7 l7 y7 z7 st7 hQ7 hS7 hg7 CRq7
  subst l7 y7 z7
  obtain ⟨X7, hS, hZ, hown⟩ := rebS hS (by rw [e0]; exact hk) X7 hS7 hg7 hZ hown
  have CR7 : CHr Z EL0 s.vm h0 T7.vm T7.heap := CR0.trans CRq7
  obtain ⟨sr_7, sb_7, kb_7, rfl, N7q, Kq7, u7_0, u7_1, u7_2, u7_3⟩ := hQ7
  have N7 := Fr.app N0 N7q
  have K7 := (Keep.refl h0 []).trans Kq7 all0
  have O7 := O0.keep Kq7 all0
  have hk := Nat.le_trans hk Kq7.1
  have hk := Nat.le_refl (Array.size T7.heap)
  obtain ⟨cq8, kq8, q8a, q8b, q8c⟩ := isOf hZ rfl u7_0
  obtain ⟨_, _, ⟨T8, L8, k8, n8⟩, -, X8, ⟨Lc8, hQ8, l8, y8, z8⟩, st8⟩ := X7.virtualBack hx (y := y2) (z := y2) hown (mvT hZ (ow hw 13 rfl)) (mvT hZ (ow hw 14 rfl)) (notFace_of_selects (args := #[]) (mvT hZ (ow hw 16 rfl))) (mvT hZ (ow hw 16 rfl)) (mvT hZ (ow hw 15 rfl)) (by decide) (backOf (W := 0) (rm2_7 l Z ar hw [] sr_7 _ _ _ T7.heap n0 O7 HW u7_0 u7_1 u7_2 u7_3) hZ (ow hw 17 rfl) (ow hw 6 rfl) (by decide) (by decide)) q8a q8c (g := (mkF m 27 #[iv p0, iv p1, iv p2, iv p3, iv (0 : Int32), iv mz, iv cz, un, un, un, un, un] [(.ref sr_7)])) rfl (by rw [hml]; rfl) (Steps.refl _) (argsL := []) (rest := []) (lenOf pd_6 rfl) rfl (by show 2 * 0 + _ ≤ _; exact Nat.le_of_eq rfl) (hb hby at_27) (fun _ _ => ⟨rfl, rfl, (by decide : 2 + 0 ≤ _), (by decide : 32 + 0 ≤ _)⟩)
  dsimp only [Pt.U, Pt.locs, Pt.cells, Pt.slots] at X8 l8 y8 z8 st8 hQ8
  subst l8 y8 z8
  obtain ⟨rfl, N8q, e8⟩ := hQ8
  have N8 := Fr.app N7 N8q
  have pre9 : ∀ tg, AT p e below T8 m 42 #[iv p0, iv p1, iv p2, iv p3, iv (0 : Int32), iv mz, iv cz, iv (7 : Int32), iv (7 : Int32), iv (-1 : Int32), un, un] [(.int (4 : Int32)), (.int mz)] tg → Steps p.tables e below S0 tg := fun tg kg => pre6 tg (by
   refine XS.iload X0.here hx rfl (hb hby at_22) rfl ?_
   refine st7.trans ?_
   refine st8.trans ?_
   refine XS.istore X8.here hx rfl (hb hby at_30) rfl (l' := #[iv p0, iv p1, iv p2, iv p3, iv (0 : Int32), iv mz, iv cz, iv (7 : Int32), un, un, un, un]) rfl ?_
   refine XS.iload X8.here hx rfl (hb hby at_32) rfl ?_
   refine XS.istore X8.here hx rfl (hb hby at_34) rfl (l' := #[iv p0, iv p1, iv p2, iv p3, iv (0 : Int32), iv mz, iv cz, iv (7 : Int32), iv (7 : Int32), un, un, un]) rfl ?_
   refine XS.iconst X8.here hx rfl (hb hby at_36) ?_
   refine XS.istore X8.here hx rfl (hb hby at_37) rfl (l' := #[iv p0, iv p1, iv p2, iv p3, iv (0 : Int32), iv mz, iv cz, iv (7 : Int32), iv (7 : Int32), iv (-1 : Int32), un, un]) rfl ?_
   refine XS.iload X8.here hx rfl (hb hby at_39) rfl ?_
   refine XS.iconst X8.here hx rfl (hb hby at_41) ?_
   exact kg)
  rcases Decidable.em (mz = (4 : Int32)) with hc10 | hc10
  ·
   have pre11 : ∀ tg, AT p e below T8 m 52 #[iv p0, iv p1, iv p2, iv p3, iv (0 : Int32), iv mz, iv cz, iv (7 : Int32), iv (7 : Int32), iv (-1 : Int32), un, un] [(.int (7 : Int32)), (.int (1 : Int32)), (.int (p2 &&& (2147483647 : Int32)))] tg → Steps p.tables e below S0 tg := fun tg kg => pre9 tg (by
    refine XS.icmpNo X8.here hx rfl (hb hby at_42) rfl (XT.ii_ne_f hc10) ?_
    refine XS.iloadN X8.here hx rfl (hb hby at_45) rfl ?_
    refine X8.ldcInt hx hown (mvT hZ (ow hw 0 rfl)) (g := (mkF m 46 #[iv p0, iv p1, iv p2, iv p3, iv (0 : Int32), iv mz, iv cz, iv (7 : Int32), iv (7 : Int32), iv (-1 : Int32), un, un] [(.int p2)])) rfl (hb hby at_46) _ ?_
    refine XS.iand X8.here hx rfl (hb hby at_48) rfl ?_
    refine XS.iconst X8.here hx rfl (hb hby at_49) ?_
    refine XS.iload X8.here hx rfl (hb hby at_50) rfl ?_
    exact kg)
   obtain ⟨_, _, ⟨T12, L12, k12, n12⟩, -, X12, ⟨Lc12, hQ12, l12, y12, z12⟩, st12⟩ := Jvm.LawKit.callS X8 hx (y := y21) hown (mvT hZ (ow hw 113 rfl)) (mvT hZ (ow hw 114 rfl)) (mvT hZ (ow hw 115 rfl)) (mvT hZ (ow hw 116 rfl)) (by decide) (backOf (W := 1) (rm21 l Z ar hw [] (1 : Int32) (7 : Int32) T7.heap n0 O7) hZ (ow hw 116 rfl) (ow hw 115 rfl) (by decide) (by decide)) (g := (mkF m 52 #[iv p0, iv p1, iv p2, iv p3, iv (0 : Int32), iv mz, iv cz, iv (7 : Int32), iv (7 : Int32), iv (-1 : Int32), un, un] [(.int (7 : Int32)), (.int (1 : Int32)), (.int (p2 &&& (2147483647 : Int32)))])) rfl (by rw [hml]; rfl) (argsL := [(.int (1 : Int32)), (.int (7 : Int32))]) (rest := [(.int (p2 &&& (2147483647 : Int32)))]) (lenOf pd_14 rfl) rfl (by show 2 * 0 + _ ≤ _; exact Nat.le_of_eq rfl) (hb hby at_52) (fun _ _ => ⟨rfl, e8, (by decide : 2 + 0 ≤ _), (by decide : 32 + 0 ≤ _)⟩)
   dsimp only [Pt.U, Pt.locs, Pt.cells, Pt.slots] at X12 l12 y12 z12 st12 hQ12
   subst l12 y12 z12
   obtain ⟨rfl, N12q, e12⟩ := hQ12
   have N12 := Fr.app N8 N12q
   have r12 : (f21 (1 : Int32) (7 : Int32)) = (7 : Int32) := by rw [f21, if_pos ((by decide) : (1 : Int32) < (7 : Int32))] <;> decide
   rw [r12] at st12
   obtain ⟨_, _, ⟨T13, L13, k13, n13⟩, -, X13, hS13, hg13, ⟨Lc13, hQ13, l13, y13, z13, CRq13⟩, st13⟩ := callSS X12 hx (y := y4) hown (mvT hZ (ow hw 26 rfl)) (mvT hZ (ow hw 27 rfl)) (mvT hZ (ow hw 3 rfl)) (mvT hZ (ow hw 28 rfl)) (by decide) (backOfSH (W := 0) (rm4_7 l Z ar hw [] (0 : Int32) ((p2 &&& (2147483647 : Int32)) % (7 : Int32)) cz T7.heap n0 O7 hEL HW hcb (by decide)) hZ (ow hw 28 rfl) (ow hw 3 rfl) (by decide) (by decide) hEL CR7.1) (g := (mkF m 111 #[iv p0, iv p1, iv p2, iv p3, iv (0 : Int32), iv mz, iv cz, iv (7 : Int32), iv (7 : Int32), iv ((p2 &&& (2147483647 : Int32)) % (7 : Int32)), .val .null, un] [(.int cz), (.int ((p2 &&& (2147483647 : Int32)) % (7 : Int32))), (.int (0 : Int32)), (.int (7 : Int32))])) rfl (by rw [hml]; rfl) (argsL := [(.int (7 : Int32)), (.int (0 : Int32)), (.int ((p2 &&& (2147483647 : Int32)) % (7 : Int32))), (.int cz)]) (rest := []) (lenOf pd_15 rfl) rfl (by show 2 * 0 + _ ≤ _; exact Nat.le_of_eq rfl) (hb hby at_111) (fun _ _ => ⟨rfl, e12, (by decide : 2 + 17 ≤ _), (by decide : 32 + 298 ≤ _)⟩)
   dsimp only [Pt.U, Pt.locs, Pt.cells, Pt.slots] at X13 l13 y13 z13 st13 hQ13 hS13 hg13 CRq13
   subst l13 y13 z13
   obtain ⟨X13, hS, hZ, hown⟩ := rebS hS (by rw [e12]; exact hk) X13 hS13 hg13 hZ hown
   have CR13 : CHr Z EL0 s.vm h0 T13.vm T13.heap := CR7.trans CRq13
   obtain ⟨t_13, tb_13, kb_13, y0_13, y1_13, y2_13, y3_13, y4_13, y5_13, y6_13, rfl, N13q, Kq13, u13_0, u13_1, u13_2, u13_3, u13_4⟩ := hQ13
   have N13 := Fr.app N12 N13q
   have E13_14 := u7_0.keep Kq13
   have F13_15 := u7_1.keep Kq13 nin0
   have F13_16 := u7_2.keep Kq13 nin0
   have V13_17 := u7_3.keep Kq13 nin0
   have K13 := K7.trans Kq13 all0
   have O13 := O7.keep Kq13 all0
   have hk := Nat.le_trans hk Kq13.1
   have hk := Nat.le_refl (Array.size T13.heap)
   have pre18 : ∀ tg, AT p e below T13 m 116 #[iv p0, iv p1, iv p2, iv p3, iv (0 : Int32), iv mz, iv cz, iv (7 : Int32), iv (7 : Int32), iv ((p2 &&& (2147483647 : Int32)) % (7 : Int32)), rv t_13, un] [] tg → Steps p.tables e below S0 tg := fun tg kg => pre11 tg (by
    refine st12 _ ?_
    refine iremM X12 hx rfl (hb hby at_55) rfl (by decide) ?_
    refine XS.istore X12.here hx rfl (hb hby at_56) rfl (l' := #[iv p0, iv p1, iv p2, iv p3, iv (0 : Int32), iv mz, iv cz, iv (7 : Int32), iv (7 : Int32), iv ((p2 &&& (2147483647 : Int32)) % (7 : Int32)), un, un]) rfl ?_
    refine XS.goto X12.here hx rfl (pc0 := 58) (pc' := 93) rfl (hb hby at_58) (by decide) (by decide) ?_
    refine XS.aconstNull X12.here hx rfl (hb hby at_93) ?_
    refine XS.astore X12.here hx rfl (hb hby at_94) rfl rfl (l' := #[iv p0, iv p1, iv p2, iv p3, iv (0 : Int32), iv mz, iv cz, iv (7 : Int32), iv (7 : Int32), iv ((p2 &&& (2147483647 : Int32)) % (7 : Int32)), .val .null, un]) rfl ?_
    refine XS.iload X12.here hx rfl (hb hby at_96) rfl ?_
    refine XS.bipush X12.here hx rfl (hb hby at_98) ?_
    show AT p e below T12 m 100 #[iv p0, iv p1, iv p2, iv p3, iv (0 : Int32), iv mz, iv cz, iv (7 : Int32), iv (7 : Int32), iv ((p2 &&& (2147483647 : Int32)) % (7 : Int32)), .val .null, un] [(.int (7 : Int32)), (.int mz)] _
    refine XS.icmpNo X12.here hx rfl (hb hby at_100) rfl (XT.ii_eq_f ((by rw [hc10]; decide) : ¬ (mz = (7 : Int32)))) ?_
    refine XS.iload X12.here hx rfl (hb hby at_103) rfl ?_
    refine XS.iload X12.here hx rfl (hb hby at_105) rfl ?_
    refine XS.iload X12.here hx rfl (hb hby at_107) rfl ?_
    refine XS.iload X12.here hx rfl (hb hby at_109) rfl ?_
    refine st13.trans ?_
    refine XS.astore X13.here hx rfl (hb hby at_114) rfl rfl (l' := #[iv p0, iv p1, iv p2, iv p3, iv (0 : Int32), iv mz, iv cz, iv (7 : Int32), iv (7 : Int32), iv ((p2 &&& (2147483647 : Int32)) % (7 : Int32)), rv t_13, un]) rfl ?_
    exact kg)
   exact tail_7 _ _ _ _ _ (own_mono X13 (by decide) (by decide)) rfl N13 K13 O13 hS hk hZ hown CR13 _ _ _ _ _ _ _ _ _ _ _ _ _ _ _ _ u13_0 u13_1 u13_2 u13_3 u13_4 pre18
  ·
   have pre19 : ∀ tg, AT p e below T8 m 64 #[iv p0, iv p1, iv p2, iv p3, iv (0 : Int32), iv mz, iv cz, iv (7 : Int32), iv (7 : Int32), iv (-1 : Int32), un, un] [(.int (5 : Int32)), (.int mz)] tg → Steps p.tables e below S0 tg := fun tg kg => pre9 tg (by
    refine XS.icmpYes X8.here hx rfl (pc0 := 42) (pc' := 61) rfl (hb hby at_42) rfl (XT.ii_ne_t hc10) (by decide) (by decide) ?_
    refine XS.iload X8.here hx rfl (hb hby at_61) rfl ?_
    refine XS.iconst X8.here hx rfl (hb hby at_63) ?_
    exact kg)
   rcases Decidable.em (mz = (5 : Int32)) with hc20 | hc20
   ·
    obtain ⟨_, _, ⟨T21, L21, k21, n21⟩, -, X21, hS21, hg21, ⟨Lc21, hQ21, l21, y21, z21, CRq21⟩, st21⟩ := callSS X8 hx (y := y4) hown (mvT hZ (ow hw 26 rfl)) (mvT hZ (ow hw 27 rfl)) (mvT hZ (ow hw 3 rfl)) (mvT hZ (ow hw 28 rfl)) (by decide) (backOfSH (W := 0) (rm4_8 l Z ar hw [] (0 : Int32) (-1 : Int32) cz T7.heap n0 O7 hEL HW hcb (by decide)) hZ (ow hw 28 rfl) (ow hw 3 rfl) (by decide) (by decide) hEL CR7.1) (g := (mkF m 111 #[iv p0, iv p1, iv p2, iv p3, iv (0 : Int32), iv mz, iv cz, iv (7 : Int32), iv (8 : Int32), iv (-1 : Int32), .val .null, un] [(.int cz), (.int (-1 : Int32)), (.int (0 : Int32)), (.int (8 : Int32))])) rfl (by rw [hml]; rfl) (argsL := [(.int (8 : Int32)), (.int (0 : Int32)), (.int (-1 : Int32)), (.int cz)]) (rest := []) (lenOf pd_15 rfl) rfl (by show 2 * 0 + _ ≤ _; exact Nat.le_of_eq rfl) (hb hby at_111) (fun _ _ => ⟨rfl, e8, (by decide : 2 + 19 ≤ _), (by decide : 32 + 340 ≤ _)⟩)
    dsimp only [Pt.U, Pt.locs, Pt.cells, Pt.slots] at X21 l21 y21 z21 st21 hQ21 hS21 hg21 CRq21
    subst l21 y21 z21
    obtain ⟨X21, hS, hZ, hown⟩ := rebS hS (by rw [e8]; exact hk) X21 hS21 hg21 hZ hown
    have CR21 : CHr Z EL0 s.vm h0 T21.vm T21.heap := CR7.trans CRq21
    obtain ⟨t_21, tb_21, kb_21, y0_21, y1_21, y2_21, y3_21, y4_21, y5_21, y6_21, y7_21, rfl, N21q, Kq21, u21_0, u21_1, u21_2, u21_3, u21_4⟩ := hQ21
    have N21 := Fr.app N8 N21q
    have E21_22 := u7_0.keep Kq21
    have F21_23 := u7_1.keep Kq21 nin0
    have F21_24 := u7_2.keep Kq21 nin0
    have V21_25 := u7_3.keep Kq21 nin0
    have K21 := K7.trans Kq21 all0
    have O21 := O7.keep Kq21 all0
    have hk := Nat.le_trans hk Kq21.1
    have hk := Nat.le_refl (Array.size T21.heap)
    have pre26 : ∀ tg, AT p e below T21 m 116 #[iv p0, iv p1, iv p2, iv p3, iv (0 : Int32), iv mz, iv cz, iv (7 : Int32), iv (8 : Int32), iv (-1 : Int32), rv t_21, un] [] tg → Steps p.tables e below S0 tg := fun tg kg => pre19 tg (by
     refine XS.icmpNo X8.here hx rfl (hb hby at_64) rfl (XT.ii_ne_f hc20) ?_
     refine XS.iload X8.here hx rfl (hb hby at_67) rfl ?_
     refine XS.iconst X8.here hx rfl (hb hby at_69) ?_
     refine XS.iadd X8.here hx rfl (hb hby at_70) rfl ?_
     refine XS.istore X8.here hx rfl (hb hby at_71) rfl (l' := #[iv p0, iv p1, iv p2, iv p3, iv (0 : Int32), iv mz, iv cz, iv (7 : Int32), iv (8 : Int32), iv (-1 : Int32), un, un]) rfl ?_
     refine XS.goto X8.here hx rfl (pc0 := 73) (pc' := 93) rfl (hb hby at_73) (by decide) (by decide) ?_
     refine XS.aconstNull X8.here hx rfl (hb hby at_93) ?_
     refine XS.astore X8.here hx rfl (hb hby at_94) rfl rfl (l' := #[iv p0, iv p1, iv p2, iv p3, iv (0 : Int32), iv mz, iv cz, iv (7 : Int32), iv (8 : Int32), iv (-1 : Int32), .val .null, un]) rfl ?_
     refine XS.iload X8.here hx rfl (hb hby at_96) rfl ?_
     refine XS.bipush X8.here hx rfl (hb hby at_98) ?_
     show AT p e below T8 m 100 #[iv p0, iv p1, iv p2, iv p3, iv (0 : Int32), iv mz, iv cz, iv (7 : Int32), iv (8 : Int32), iv (-1 : Int32), .val .null, un] [(.int (7 : Int32)), (.int mz)] _
     refine XS.icmpNo X8.here hx rfl (hb hby at_100) rfl (XT.ii_eq_f ((by rw [hc20]; decide) : ¬ (mz = (7 : Int32)))) ?_
     refine XS.iload X8.here hx rfl (hb hby at_103) rfl ?_
     refine XS.iload X8.here hx rfl (hb hby at_105) rfl ?_
     refine XS.iload X8.here hx rfl (hb hby at_107) rfl ?_
     refine XS.iload X8.here hx rfl (hb hby at_109) rfl ?_
     refine st21.trans ?_
     refine XS.astore X21.here hx rfl (hb hby at_114) rfl rfl (l' := #[iv p0, iv p1, iv p2, iv p3, iv (0 : Int32), iv mz, iv cz, iv (7 : Int32), iv (8 : Int32), iv (-1 : Int32), rv t_21, un]) rfl ?_
     exact kg)
    exact tail_x _ _ _ _ _ (own_mono X21 (by decide) (by decide)) rfl N21 K21 O21 hS hk hZ hown CR21 _ _ _ _ _ _ _ _ _ _ _ u21_0 u21_1 u21_2 u21_3 u21_4 (by decide) (by decide) (by decide) pre26
   ·
    have pre27 : ∀ tg, AT p e below T8 m 80 #[iv p0, iv p1, iv p2, iv p3, iv (0 : Int32), iv mz, iv cz, iv (7 : Int32), iv (7 : Int32), iv (-1 : Int32), un, un] [(.int (6 : Int32)), (.int mz)] tg → Steps p.tables e below S0 tg := fun tg kg => pre19 tg (by
     refine XS.icmpYes X8.here hx rfl (pc0 := 64) (pc' := 76) rfl (hb hby at_64) rfl (XT.ii_ne_t hc20) (by decide) (by decide) ?_
     refine XS.iload X8.here hx rfl (hb hby at_76) rfl ?_
     refine XS.bipush X8.here hx rfl (hb hby at_78) ?_
     exact kg)
    rcases Decidable.em (mz = (6 : Int32)) with hc28 | hc28
    ·
     obtain ⟨_, _, ⟨T29, L29, k29, n29⟩, -, X29, ⟨Lc29, hQ29, l29, y29, z29⟩, st29⟩ := Jvm.LawKit.callS X8 hx (y := y21) hown (mvT hZ (ow hw 113 rfl)) (mvT hZ (ow hw 114 rfl)) (mvT hZ (ow hw 115 rfl)) (mvT hZ (ow hw 116 rfl)) (by decide) (backOf (W := 0) (rm21 l Z ar hw [] (0 : Int32) (6 : Int32) T7.heap n0 O7) hZ (ow hw 116 rfl) (ow hw 115 rfl) (by decide) (by decide)) (g := (mkF m 88 #[iv p0, iv p1, iv p2, iv p3, iv (0 : Int32), iv mz, iv cz, iv (7 : Int32), iv (7 : Int32), iv (-1 : Int32), un, un] [(.int (6 : Int32)), (.int (0 : Int32))])) rfl (by rw [hml]; rfl) (argsL := [(.int (0 : Int32)), (.int (6 : Int32))]) (rest := []) (lenOf pd_14 rfl) rfl (by show 2 * 0 + _ ≤ _; exact Nat.le_of_eq rfl) (hb hby at_88) (fun _ _ => ⟨rfl, e8, (by decide : 2 + 0 ≤ _), (by decide : 32 + 0 ≤ _)⟩)
     dsimp only [Pt.U, Pt.locs, Pt.cells, Pt.slots] at X29 l29 y29 z29 st29 hQ29
     subst l29 y29 z29
     obtain ⟨rfl, N29q, e29⟩ := hQ29
     have N29 := Fr.app N8 N29q
     have r29 : (f21 (0 : Int32) (6 : Int32)) = (6 : Int32) := by rw [f21, if_pos ((by decide) : (0 : Int32) < (6 : Int32))] <;> decide
     rw [r29] at st29
     obtain ⟨_, _, ⟨T30, L30, k30, n30⟩, -, X30, hS30, hg30, ⟨Lc30, hQ30, l30, y30, z30, CRq30⟩, st30⟩ := callSS X29 hx (y := y4) hown (mvT hZ (ow hw 26 rfl)) (mvT hZ (ow hw 27 rfl)) (mvT hZ (ow hw 3 rfl)) (mvT hZ (ow hw 28 rfl)) (by decide) (backOfSH (W := 0) (rm4_6 l Z ar hw [] (0 : Int32) (-1 : Int32) cz T7.heap n0 O7 hEL HW hcb (by decide)) hZ (ow hw 28 rfl) (ow hw 3 rfl) (by decide) (by decide) hEL CR7.1) (g := (mkF m 111 #[iv p0, iv p1, iv p2, iv p3, iv (0 : Int32), iv mz, iv cz, iv (7 : Int32), iv (6 : Int32), iv (-1 : Int32), .val .null, un] [(.int cz), (.int (-1 : Int32)), (.int (0 : Int32)), (.int (6 : Int32))])) rfl (by rw [hml]; rfl) (argsL := [(.int (6 : Int32)), (.int (0 : Int32)), (.int (-1 : Int32)), (.int cz)]) (rest := []) (lenOf pd_15 rfl) rfl (by show 2 * 0 + _ ≤ _; exact Nat.le_of_eq rfl) (hb hby at_111) (fun _ _ => ⟨rfl, e29, (by decide : 2 + 15 ≤ _), (by decide : 32 + 256 ≤ _)⟩)
     dsimp only [Pt.U, Pt.locs, Pt.cells, Pt.slots] at X30 l30 y30 z30 st30 hQ30 hS30 hg30 CRq30
     subst l30 y30 z30
     obtain ⟨X30, hS, hZ, hown⟩ := rebS hS (by rw [e29]; exact hk) X30 hS30 hg30 hZ hown
     have CR30 : CHr Z EL0 s.vm h0 T30.vm T30.heap := CR7.trans CRq30
     obtain ⟨t_30, tb_30, kb_30, y0_30, y1_30, y2_30, y3_30, y4_30, y5_30, rfl, N30q, Kq30, u30_0, u30_1, u30_2, u30_3, u30_4⟩ := hQ30
     have N30 := Fr.app N29 N30q
     have E30_31 := u7_0.keep Kq30
     have F30_32 := u7_1.keep Kq30 nin0
     have F30_33 := u7_2.keep Kq30 nin0
     have V30_34 := u7_3.keep Kq30 nin0
     have K30 := K7.trans Kq30 all0
     have O30 := O7.keep Kq30 all0
     have hk := Nat.le_trans hk Kq30.1
     have hk := Nat.le_refl (Array.size T30.heap)
     have pre35 : ∀ tg, AT p e below T30 m 116 #[iv p0, iv p1, iv p2, iv p3, iv (0 : Int32), iv mz, iv cz, iv (7 : Int32), iv (6 : Int32), iv (-1 : Int32), rv t_30, un] [] tg → Steps p.tables e below S0 tg := fun tg kg => pre27 tg (by
      refine XS.icmpNo X8.here hx rfl (hb hby at_80) rfl (XT.ii_ne_f hc28) ?_
      refine XS.iconst X8.here hx rfl (hb hby at_83) ?_
      refine XS.iload X8.here hx rfl (hb hby at_84) rfl ?_
      refine XS.iconst X8.here hx rfl (hb hby at_86) ?_
      refine XS.isub X8.here hx rfl (hb hby at_87) rfl ?_
      refine st29 _ ?_
      refine XS.istore X29.here hx rfl (hb hby at_91) rfl (l' := #[iv p0, iv p1, iv p2, iv p3, iv (0 : Int32), iv mz, iv cz, iv (7 : Int32), iv (6 : Int32), iv (-1 : Int32), un, un]) rfl ?_
      refine XS.aconstNull X29.here hx rfl (hb hby at_93) ?_
      refine XS.astore X29.here hx rfl (hb hby at_94) rfl rfl (l' := #[iv p0, iv p1, iv p2, iv p3, iv (0 : Int32), iv mz, iv cz, iv (7 : Int32), iv (6 : Int32), iv (-1 : Int32), .val .null, un]) rfl ?_
      refine XS.iload X29.here hx rfl (hb hby at_96) rfl ?_
      refine XS.bipush X29.here hx rfl (hb hby at_98) ?_
      show AT p e below T29 m 100 #[iv p0, iv p1, iv p2, iv p3, iv (0 : Int32), iv mz, iv cz, iv (7 : Int32), iv (6 : Int32), iv (-1 : Int32), .val .null, un] [(.int (7 : Int32)), (.int mz)] _
      refine XS.icmpNo X29.here hx rfl (hb hby at_100) rfl (XT.ii_eq_f ((by rw [hc28]; decide) : ¬ (mz = (7 : Int32)))) ?_
      refine XS.iload X29.here hx rfl (hb hby at_103) rfl ?_
      refine XS.iload X29.here hx rfl (hb hby at_105) rfl ?_
      refine XS.iload X29.here hx rfl (hb hby at_107) rfl ?_
      refine XS.iload X29.here hx rfl (hb hby at_109) rfl ?_
      refine st30.trans ?_
      refine XS.astore X30.here hx rfl (hb hby at_114) rfl rfl (l' := #[iv p0, iv p1, iv p2, iv p3, iv (0 : Int32), iv mz, iv cz, iv (7 : Int32), iv (6 : Int32), iv (-1 : Int32), rv t_30, un]) rfl ?_
      exact kg)
     exact tail_x _ _ _ _ _ (own_mono X30 (by decide) (by decide)) rfl N30 K30 O30 hS hk hZ hown CR30 _ _ _ _ _ _ _ _ _ _ _ u30_0 u30_1 u30_2 u30_3 u30_4 (by decide) (by decide) (by decide) pre35
    ·
     have pre36 : ∀ tg, AT p e below T8 m 100 #[iv p0, iv p1, iv p2, iv p3, iv (0 : Int32), iv mz, iv cz, iv (7 : Int32), iv (7 : Int32), iv (-1 : Int32), .val .null, un] [(.int (7 : Int32)), (.int mz)] tg → Steps p.tables e below S0 tg := fun tg kg => pre27 tg (by
      refine XS.icmpYes X8.here hx rfl (pc0 := 80) (pc' := 93) rfl (hb hby at_80) rfl (XT.ii_ne_t hc28) (by decide) (by decide) ?_
      refine XS.aconstNull X8.here hx rfl (hb hby at_93) ?_
      refine XS.astore X8.here hx rfl (hb hby at_94) rfl rfl (l' := #[iv p0, iv p1, iv p2, iv p3, iv (0 : Int32), iv mz, iv cz, iv (7 : Int32), iv (7 : Int32), iv (-1 : Int32), .val .null, un]) rfl ?_
      refine XS.iload X8.here hx rfl (hb hby at_96) rfl ?_
      refine XS.bipush X8.here hx rfl (hb hby at_98) ?_
      exact kg)
     rcases Decidable.em (mz = (7 : Int32)) with hc37 | hc37
     ·
      have pre38 : ∀ tg, AT p e below T8 m 116 #[iv p0, iv p1, iv p2, iv p3, iv (0 : Int32), iv mz, iv cz, iv (7 : Int32), iv (7 : Int32), iv (-1 : Int32), .val .null, un] [] tg → Steps p.tables e below S0 tg := fun tg kg => pre36 tg (by
       refine XS.icmpYes X8.here hx rfl (pc0 := 100) (pc' := 116) rfl (hb hby at_100) rfl (XT.ii_eq_t hc37) (by decide) (by decide) ?_
       exact kg)
      exact tail_null _ _ _ _ _ (own_mono X8 (by decide) (by decide)) e8 N8 K7 O7 hS hk hZ hown CR7 _ _ _ _ _ _ pre38
     ·
      obtain ⟨_, _, ⟨T39, L39, k39, n39⟩, -, X39, hS39, hg39, ⟨Lc39, hQ39, l39, y39, z39, CRq39⟩, st39⟩ := callSS X8 hx (y := y4) hown (mvT hZ (ow hw 26 rfl)) (mvT hZ (ow hw 27 rfl)) (mvT hZ (ow hw 3 rfl)) (mvT hZ (ow hw 28 rfl)) (by decide) (backOfSH (W := 0) (rm4_7 l Z ar hw [] (0 : Int32) (-1 : Int32) cz T7.heap n0 O7 hEL HW hcb (by decide)) hZ (ow hw 28 rfl) (ow hw 3 rfl) (by decide) (by decide) hEL CR7.1) (g := (mkF m 111 #[iv p0, iv p1, iv p2, iv p3, iv (0 : Int32), iv mz, iv cz, iv (7 : Int32), iv (7 : Int32), iv (-1 : Int32), .val .null, un] [(.int cz), (.int (-1 : Int32)), (.int (0 : Int32)), (.int (7 : Int32))])) rfl (by rw [hml]; rfl) (argsL := [(.int (7 : Int32)), (.int (0 : Int32)), (.int (-1 : Int32)), (.int cz)]) (rest := []) (lenOf pd_15 rfl) rfl (by show 2 * 0 + _ ≤ _; exact Nat.le_of_eq rfl) (hb hby at_111) (fun _ _ => ⟨rfl, e8, (by decide : 2 + 17 ≤ _), (by decide : 32 + 298 ≤ _)⟩)
      dsimp only [Pt.U, Pt.locs, Pt.cells, Pt.slots] at X39 l39 y39 z39 st39 hQ39 hS39 hg39 CRq39
      subst l39 y39 z39
      obtain ⟨X39, hS, hZ, hown⟩ := rebS hS (by rw [e8]; exact hk) X39 hS39 hg39 hZ hown
      have CR39 : CHr Z EL0 s.vm h0 T39.vm T39.heap := CR7.trans CRq39
      obtain ⟨t_39, tb_39, kb_39, y0_39, y1_39, y2_39, y3_39, y4_39, y5_39, y6_39, rfl, N39q, Kq39, u39_0, u39_1, u39_2, u39_3, u39_4⟩ := hQ39
      have N39 := Fr.app N8 N39q
      have E39_40 := u7_0.keep Kq39
      have F39_41 := u7_1.keep Kq39 nin0
      have F39_42 := u7_2.keep Kq39 nin0
      have V39_43 := u7_3.keep Kq39 nin0
      have K39 := K7.trans Kq39 all0
      have O39 := O7.keep Kq39 all0
      have hk := Nat.le_trans hk Kq39.1
      have hk := Nat.le_refl (Array.size T39.heap)
      have pre44 : ∀ tg, AT p e below T39 m 116 #[iv p0, iv p1, iv p2, iv p3, iv (0 : Int32), iv mz, iv cz, iv (7 : Int32), iv (7 : Int32), iv (-1 : Int32), rv t_39, un] [] tg → Steps p.tables e below S0 tg := fun tg kg => pre36 tg (by
       refine XS.icmpNo X8.here hx rfl (hb hby at_100) rfl (XT.ii_eq_f hc37) ?_
       refine XS.iload X8.here hx rfl (hb hby at_103) rfl ?_
       refine XS.iload X8.here hx rfl (hb hby at_105) rfl ?_
       refine XS.iload X8.here hx rfl (hb hby at_107) rfl ?_
       refine XS.iload X8.here hx rfl (hb hby at_109) rfl ?_
       refine st39.trans ?_
       refine XS.astore X39.here hx rfl (hb hby at_114) rfl rfl (l' := #[iv p0, iv p1, iv p2, iv p3, iv (0 : Int32), iv mz, iv cz, iv (7 : Int32), iv (7 : Int32), iv (-1 : Int32), rv t_39, un]) rfl ?_
       exact kg)
      exact tail_7 _ _ _ _ _ (own_mono X39 (by decide) (by decide)) rfl N39 K39 O39 hS hk hZ hown CR39 _ _ _ _ _ _ _ _ _ _ _ _ _ _ _ _ u39_0 u39_1 u39_2 u39_3 u39_4 pre44
 ·
  have pre45 : ∀ tg, AT p e below s₁ m 14 #[iv p0, iv p1, iv p2, iv p3, iv (1 : Int32), iv (p1 &&& (7 : Int32)), un, un, un, un, un, un] [] tg → Steps p.tables e below S0 tg := fun tg kg => pre2 tg (by
   refine XS.iloadN X0.here hx rfl (hb hby at_8) rfl ?_
   refine XS.bipush X0.here hx rfl (hb hby at_9) ?_
   refine XS.iand X0.here hx rfl (hb hby at_11) rfl ?_
   refine XS.istore X0.here hx rfl (hb hby at_12) rfl (l' := #[iv p0, iv p1, iv p2, iv p3, iv (1 : Int32), iv (p1 &&& (7 : Int32)), un, un, un, un, un, un]) rfl ?_
   exact kg)
  obtain ⟨mz, hmz⟩ : ∃ z, z = (p1 &&& (7 : Int32)) := ⟨_, rfl⟩
  have pre46 : ∀ tg, AT p e below s₁ m 14 #[iv p0, iv p1, iv p2, iv p3, iv (1 : Int32), iv mz, un, un, un, un, un, un] [] tg → Steps p.tables e below S0 tg := by rw [hmz]; exact pre45
  have pre47 : ∀ tg, AT p e below s₁ m 22 #[iv p0, iv p1, iv p2, iv p3, iv (1 : Int32), iv mz, iv ((p3 &&& (255 : Int32)).toUInt32.toUInt16.toUInt32.toInt32), un, un, un, un, un] [] tg → Steps p.tables e below S0 tg := fun tg kg => pre46 tg (by
   refine XS.iloadN X0.here hx rfl (hb hby at_14) rfl ?_
   refine XS.sipush X0.here hx rfl (hb hby at_15) ?_
   refine XS.iand X0.here hx rfl (hb hby at_18) rfl ?_
   refine XS.i2c X0.here hx rfl (hb hby at_19) rfl ?_
   refine XS.istore X0.here hx rfl (hb hby at_20) rfl (l' := #[iv p0, iv p1, iv p2, iv p3, iv (1 : Int32), iv mz, iv ((p3 &&& (255 : Int32)).toUInt32.toUInt16.toUInt32.toInt32), un, un, un, un, un]) rfl ?_
   exact kg)
  obtain ⟨cz, hcz⟩ : ∃ z, z = ((p3 &&& (255 : Int32)).toUInt32.toUInt16.toUInt32.toInt32) := ⟨_, rfl⟩
  have pre48 : ∀ tg, AT p e below s₁ m 22 #[iv p0, iv p1, iv p2, iv p3, iv (1 : Int32), iv mz, iv cz, un, un, un, un, un] [] tg → Steps p.tables e below S0 tg := by rw [hcz]; exact pre47
  have hcb : 0 ≤ cz.toInt ∧ cz.toInt ≤ 255 := by rw [hcz]; exact own_cz p3
  obtain ⟨_, _, ⟨T49, L49, k49, n49⟩, -, X49, hS49, hg49, ⟨Lc49, hQ49, l49, y49, z49, CRq49⟩, st49⟩ := callSS X0 hx (y := y1) hown (mvT hZ (ow hw 1 rfl)) (mvT hZ (ow hw 2 rfl)) (mvT hZ (ow hw 3 rfl)) (mvT hZ (ow hw 4 rfl)) (by decide) (backOfSH (W := 0) (rm1_1 l Z ar hw []  h0 n0 O0 hEL) hZ (ow hw 4 rfl) (ow hw 3 rfl) (by decide) (by decide) hEL CR0.1) (g := (mkF m 24 #[iv p0, iv p1, iv p2, iv p3, iv (1 : Int32), iv mz, iv cz, un, un, un, un, un] [(.int (1 : Int32))])) rfl (by rw [hml]; rfl) (argsL := [(.int (1 : Int32))]) (rest := []) (lenOf pd_5 rfl) rfl (by show 2 * 0 + _ ≤ _; exact Nat.le_of_eq rfl) (hb hby at_24) (fun _ _ => ⟨rfl, e0, (by decide : 0 + 2 ≤ _), (by decide : 0 + 24 ≤ _)⟩)
  dsimp only [Pt.U, Pt.locs, Pt.cells, Pt.slots] at X49 l49 y49 z49 st49 hQ49 hS49 hg49 CRq49
  subst l49 y49 z49
  obtain ⟨X49, hS, hZ, hown⟩ := rebS hS (by rw [e0]; exact hk) X49 hS49 hg49 hZ hown
  have CR49 : CHr Z EL0 s.vm h0 T49.vm T49.heap := CR0.trans CRq49
  obtain ⟨sr_49, sb_49, kb_49, rfl, N49q, Kq49, u49_0, u49_1, u49_2, u49_3⟩ := hQ49
  have N49 := Fr.app N0 N49q
  have K49 := (Keep.refl h0 []).trans Kq49 all0
  have O49 := O0.keep Kq49 all0
  have hk := Nat.le_trans hk Kq49.1
  have hk := Nat.le_refl (Array.size T49.heap)
  obtain ⟨cq50, kq50, q50a, q50b, q50c⟩ := isOf hZ rfl u49_0
  obtain ⟨_, _, ⟨T50, L50, k50, n50⟩, -, X50, ⟨Lc50, hQ50, l50, y50, z50⟩, st50⟩ := X49.virtualBack hx (y := y2) (z := y2) hown (mvT hZ (ow hw 13 rfl)) (mvT hZ (ow hw 14 rfl)) (notFace_of_selects (args := #[]) (mvT hZ (ow hw 16 rfl))) (mvT hZ (ow hw 16 rfl)) (mvT hZ (ow hw 15 rfl)) (by decide) (backOf (W := 0) (rm2_5 l Z ar hw [] sr_49 _ _ _ T49.heap n0 O49 HW u49_0 u49_1 u49_2 u49_3) hZ (ow hw 17 rfl) (ow hw 6 rfl) (by decide) (by decide)) q50a q50c (g := (mkF m 27 #[iv p0, iv p1, iv p2, iv p3, iv (1 : Int32), iv mz, iv cz, un, un, un, un, un] [(.ref sr_49)])) rfl (by rw [hml]; rfl) (Steps.refl _) (argsL := []) (rest := []) (lenOf pd_6 rfl) rfl (by show 2 * 0 + _ ≤ _; exact Nat.le_of_eq rfl) (hb hby at_27) (fun _ _ => ⟨rfl, rfl, (by decide : 2 + 0 ≤ _), (by decide : 24 + 0 ≤ _)⟩)
  dsimp only [Pt.U, Pt.locs, Pt.cells, Pt.slots] at X50 l50 y50 z50 st50 hQ50
  subst l50 y50 z50
  obtain ⟨rfl, N50q, e50⟩ := hQ50
  have N50 := Fr.app N49 N50q
  have pre51 : ∀ tg, AT p e below T50 m 42 #[iv p0, iv p1, iv p2, iv p3, iv (1 : Int32), iv mz, iv cz, iv (5 : Int32), iv (5 : Int32), iv (-1 : Int32), un, un] [(.int (4 : Int32)), (.int mz)] tg → Steps p.tables e below S0 tg := fun tg kg => pre48 tg (by
   refine XS.iload X0.here hx rfl (hb hby at_22) rfl ?_
   refine st49.trans ?_
   refine st50.trans ?_
   refine XS.istore X50.here hx rfl (hb hby at_30) rfl (l' := #[iv p0, iv p1, iv p2, iv p3, iv (1 : Int32), iv mz, iv cz, iv (5 : Int32), un, un, un, un]) rfl ?_
   refine XS.iload X50.here hx rfl (hb hby at_32) rfl ?_
   refine XS.istore X50.here hx rfl (hb hby at_34) rfl (l' := #[iv p0, iv p1, iv p2, iv p3, iv (1 : Int32), iv mz, iv cz, iv (5 : Int32), iv (5 : Int32), un, un, un]) rfl ?_
   refine XS.iconst X50.here hx rfl (hb hby at_36) ?_
   refine XS.istore X50.here hx rfl (hb hby at_37) rfl (l' := #[iv p0, iv p1, iv p2, iv p3, iv (1 : Int32), iv mz, iv cz, iv (5 : Int32), iv (5 : Int32), iv (-1 : Int32), un, un]) rfl ?_
   refine XS.iload X50.here hx rfl (hb hby at_39) rfl ?_
   refine XS.iconst X50.here hx rfl (hb hby at_41) ?_
   exact kg)
  rcases Decidable.em (mz = (4 : Int32)) with hc52 | hc52
  ·
   have pre53 : ∀ tg, AT p e below T50 m 52 #[iv p0, iv p1, iv p2, iv p3, iv (1 : Int32), iv mz, iv cz, iv (5 : Int32), iv (5 : Int32), iv (-1 : Int32), un, un] [(.int (5 : Int32)), (.int (1 : Int32)), (.int (p2 &&& (2147483647 : Int32)))] tg → Steps p.tables e below S0 tg := fun tg kg => pre51 tg (by
    refine XS.icmpNo X50.here hx rfl (hb hby at_42) rfl (XT.ii_ne_f hc52) ?_
    refine XS.iloadN X50.here hx rfl (hb hby at_45) rfl ?_
    refine X50.ldcInt hx hown (mvT hZ (ow hw 0 rfl)) (g := (mkF m 46 #[iv p0, iv p1, iv p2, iv p3, iv (1 : Int32), iv mz, iv cz, iv (5 : Int32), iv (5 : Int32), iv (-1 : Int32), un, un] [(.int p2)])) rfl (hb hby at_46) _ ?_
    refine XS.iand X50.here hx rfl (hb hby at_48) rfl ?_
    refine XS.iconst X50.here hx rfl (hb hby at_49) ?_
    refine XS.iload X50.here hx rfl (hb hby at_50) rfl ?_
    exact kg)
   obtain ⟨_, _, ⟨T54, L54, k54, n54⟩, -, X54, ⟨Lc54, hQ54, l54, y54, z54⟩, st54⟩ := Jvm.LawKit.callS X50 hx (y := y21) hown (mvT hZ (ow hw 113 rfl)) (mvT hZ (ow hw 114 rfl)) (mvT hZ (ow hw 115 rfl)) (mvT hZ (ow hw 116 rfl)) (by decide) (backOf (W := 1) (rm21 l Z ar hw [] (1 : Int32) (5 : Int32) T49.heap n0 O49) hZ (ow hw 116 rfl) (ow hw 115 rfl) (by decide) (by decide)) (g := (mkF m 52 #[iv p0, iv p1, iv p2, iv p3, iv (1 : Int32), iv mz, iv cz, iv (5 : Int32), iv (5 : Int32), iv (-1 : Int32), un, un] [(.int (5 : Int32)), (.int (1 : Int32)), (.int (p2 &&& (2147483647 : Int32)))])) rfl (by rw [hml]; rfl) (argsL := [(.int (1 : Int32)), (.int (5 : Int32))]) (rest := [(.int (p2 &&& (2147483647 : Int32)))]) (lenOf pd_14 rfl) rfl (by show 2 * 0 + _ ≤ _; exact Nat.le_of_eq rfl) (hb hby at_52) (fun _ _ => ⟨rfl, e50, (by decide : 2 + 0 ≤ _), (by decide : 24 + 0 ≤ _)⟩)
   dsimp only [Pt.U, Pt.locs, Pt.cells, Pt.slots] at X54 l54 y54 z54 st54 hQ54
   subst l54 y54 z54
   obtain ⟨rfl, N54q, e54⟩ := hQ54
   have N54 := Fr.app N50 N54q
   have r54 : (f21 (1 : Int32) (5 : Int32)) = (5 : Int32) := by rw [f21, if_pos ((by decide) : (1 : Int32) < (5 : Int32))] <;> decide
   rw [r54] at st54
   obtain ⟨_, _, ⟨T55, L55, k55, n55⟩, -, X55, hS55, hg55, ⟨Lc55, hQ55, l55, y55, z55, CRq55⟩, st55⟩ := callSS X54 hx (y := y4) hown (mvT hZ (ow hw 26 rfl)) (mvT hZ (ow hw 27 rfl)) (mvT hZ (ow hw 3 rfl)) (mvT hZ (ow hw 28 rfl)) (by decide) (backOfSH (W := 0) (rm4_5 l Z ar hw [] (1 : Int32) ((p2 &&& (2147483647 : Int32)) % (5 : Int32)) cz T49.heap n0 O49 hEL HW hcb (by decide)) hZ (ow hw 28 rfl) (ow hw 3 rfl) (by decide) (by decide) hEL CR49.1) (g := (mkF m 111 #[iv p0, iv p1, iv p2, iv p3, iv (1 : Int32), iv mz, iv cz, iv (5 : Int32), iv (5 : Int32), iv ((p2 &&& (2147483647 : Int32)) % (5 : Int32)), .val .null, un] [(.int cz), (.int ((p2 &&& (2147483647 : Int32)) % (5 : Int32))), (.int (1 : Int32)), (.int (5 : Int32))])) rfl (by rw [hml]; rfl) (argsL := [(.int (5 : Int32)), (.int (1 : Int32)), (.int ((p2 &&& (2147483647 : Int32)) % (5 : Int32))), (.int cz)]) (rest := []) (lenOf pd_15 rfl) rfl (by show 2 * 0 + _ ≤ _; exact Nat.le_of_eq rfl) (hb hby at_111) (fun _ _ => ⟨rfl, e54, (by decide : 2 + 13 ≤ _), (by decide : 24 + 214 ≤ _)⟩)
   dsimp only [Pt.U, Pt.locs, Pt.cells, Pt.slots] at X55 l55 y55 z55 st55 hQ55 hS55 hg55 CRq55
   subst l55 y55 z55
   obtain ⟨X55, hS, hZ, hown⟩ := rebS hS (by rw [e54]; exact hk) X55 hS55 hg55 hZ hown
   have CR55 : CHr Z EL0 s.vm h0 T55.vm T55.heap := CR49.trans CRq55
   obtain ⟨t_55, tb_55, kb_55, y0_55, y1_55, y2_55, y3_55, y4_55, rfl, N55q, Kq55, u55_0, u55_1, u55_2, u55_3, u55_4⟩ := hQ55
   have N55 := Fr.app N54 N55q
   have E55_56 := u49_0.keep Kq55
   have F55_57 := u49_1.keep Kq55 nin0
   have F55_58 := u49_2.keep Kq55 nin0
   have V55_59 := u49_3.keep Kq55 nin0
   have K55 := K49.trans Kq55 all0
   have O55 := O49.keep Kq55 all0
   have hk := Nat.le_trans hk Kq55.1
   have hk := Nat.le_refl (Array.size T55.heap)
   have pre60 : ∀ tg, AT p e below T55 m 116 #[iv p0, iv p1, iv p2, iv p3, iv (1 : Int32), iv mz, iv cz, iv (5 : Int32), iv (5 : Int32), iv ((p2 &&& (2147483647 : Int32)) % (5 : Int32)), rv t_55, un] [] tg → Steps p.tables e below S0 tg := fun tg kg => pre53 tg (by
    refine st54 _ ?_
    refine iremM X54 hx rfl (hb hby at_55) rfl (by decide) ?_
    refine XS.istore X54.here hx rfl (hb hby at_56) rfl (l' := #[iv p0, iv p1, iv p2, iv p3, iv (1 : Int32), iv mz, iv cz, iv (5 : Int32), iv (5 : Int32), iv ((p2 &&& (2147483647 : Int32)) % (5 : Int32)), un, un]) rfl ?_
    refine XS.goto X54.here hx rfl (pc0 := 58) (pc' := 93) rfl (hb hby at_58) (by decide) (by decide) ?_
    refine XS.aconstNull X54.here hx rfl (hb hby at_93) ?_
    refine XS.astore X54.here hx rfl (hb hby at_94) rfl rfl (l' := #[iv p0, iv p1, iv p2, iv p3, iv (1 : Int32), iv mz, iv cz, iv (5 : Int32), iv (5 : Int32), iv ((p2 &&& (2147483647 : Int32)) % (5 : Int32)), .val .null, un]) rfl ?_
    refine XS.iload X54.here hx rfl (hb hby at_96) rfl ?_
    refine XS.bipush X54.here hx rfl (hb hby at_98) ?_
    show AT p e below T54 m 100 #[iv p0, iv p1, iv p2, iv p3, iv (1 : Int32), iv mz, iv cz, iv (5 : Int32), iv (5 : Int32), iv ((p2 &&& (2147483647 : Int32)) % (5 : Int32)), .val .null, un] [(.int (7 : Int32)), (.int mz)] _
    refine XS.icmpNo X54.here hx rfl (hb hby at_100) rfl (XT.ii_eq_f ((by rw [hc52]; decide) : ¬ (mz = (7 : Int32)))) ?_
    refine XS.iload X54.here hx rfl (hb hby at_103) rfl ?_
    refine XS.iload X54.here hx rfl (hb hby at_105) rfl ?_
    refine XS.iload X54.here hx rfl (hb hby at_107) rfl ?_
    refine XS.iload X54.here hx rfl (hb hby at_109) rfl ?_
    refine st55.trans ?_
    refine XS.astore X55.here hx rfl (hb hby at_114) rfl rfl (l' := #[iv p0, iv p1, iv p2, iv p3, iv (1 : Int32), iv mz, iv cz, iv (5 : Int32), iv (5 : Int32), iv ((p2 &&& (2147483647 : Int32)) % (5 : Int32)), rv t_55, un]) rfl ?_
    exact kg)
   exact tail_5 _ _ _ _ _ (own_mono X55 (by decide) (by decide)) rfl N55 K55 O55 hS hk hZ hown CR55 _ _ _ _ _ _ _ _ _ _ _ _ _ _ u55_0 u55_1 u55_2 u55_3 u55_4 pre60
  ·
   have pre61 : ∀ tg, AT p e below T50 m 64 #[iv p0, iv p1, iv p2, iv p3, iv (1 : Int32), iv mz, iv cz, iv (5 : Int32), iv (5 : Int32), iv (-1 : Int32), un, un] [(.int (5 : Int32)), (.int mz)] tg → Steps p.tables e below S0 tg := fun tg kg => pre51 tg (by
    refine XS.icmpYes X50.here hx rfl (pc0 := 42) (pc' := 61) rfl (hb hby at_42) rfl (XT.ii_ne_t hc52) (by decide) (by decide) ?_
    refine XS.iload X50.here hx rfl (hb hby at_61) rfl ?_
    refine XS.iconst X50.here hx rfl (hb hby at_63) ?_
    exact kg)
   rcases Decidable.em (mz = (5 : Int32)) with hc62 | hc62
   ·
    obtain ⟨_, _, ⟨T63, L63, k63, n63⟩, -, X63, hS63, hg63, ⟨Lc63, hQ63, l63, y63, z63, CRq63⟩, st63⟩ := callSS X50 hx (y := y4) hown (mvT hZ (ow hw 26 rfl)) (mvT hZ (ow hw 27 rfl)) (mvT hZ (ow hw 3 rfl)) (mvT hZ (ow hw 28 rfl)) (by decide) (backOfSH (W := 0) (rm4_6 l Z ar hw [] (1 : Int32) (-1 : Int32) cz T49.heap n0 O49 hEL HW hcb (by decide)) hZ (ow hw 28 rfl) (ow hw 3 rfl) (by decide) (by decide) hEL CR49.1) (g := (mkF m 111 #[iv p0, iv p1, iv p2, iv p3, iv (1 : Int32), iv mz, iv cz, iv (5 : Int32), iv (6 : Int32), iv (-1 : Int32), .val .null, un] [(.int cz), (.int (-1 : Int32)), (.int (1 : Int32)), (.int (6 : Int32))])) rfl (by rw [hml]; rfl) (argsL := [(.int (6 : Int32)), (.int (1 : Int32)), (.int (-1 : Int32)), (.int cz)]) (rest := []) (lenOf pd_15 rfl) rfl (by show 2 * 0 + _ ≤ _; exact Nat.le_of_eq rfl) (hb hby at_111) (fun _ _ => ⟨rfl, e50, (by decide : 2 + 15 ≤ _), (by decide : 24 + 256 ≤ _)⟩)
    dsimp only [Pt.U, Pt.locs, Pt.cells, Pt.slots] at X63 l63 y63 z63 st63 hQ63 hS63 hg63 CRq63
    subst l63 y63 z63
    obtain ⟨X63, hS, hZ, hown⟩ := rebS hS (by rw [e50]; exact hk) X63 hS63 hg63 hZ hown
    have CR63 : CHr Z EL0 s.vm h0 T63.vm T63.heap := CR49.trans CRq63
    obtain ⟨t_63, tb_63, kb_63, y0_63, y1_63, y2_63, y3_63, y4_63, y5_63, rfl, N63q, Kq63, u63_0, u63_1, u63_2, u63_3, u63_4⟩ := hQ63
    have N63 := Fr.app N50 N63q
    have E63_64 := u49_0.keep Kq63
    have F63_65 := u49_1.keep Kq63 nin0
    have F63_66 := u49_2.keep Kq63 nin0
    have V63_67 := u49_3.keep Kq63 nin0
    have K63 := K49.trans Kq63 all0
    have O63 := O49.keep Kq63 all0
    have hk := Nat.le_trans hk Kq63.1
    have hk := Nat.le_refl (Array.size T63.heap)
    have pre68 : ∀ tg, AT p e below T63 m 116 #[iv p0, iv p1, iv p2, iv p3, iv (1 : Int32), iv mz, iv cz, iv (5 : Int32), iv (6 : Int32), iv (-1 : Int32), rv t_63, un] [] tg → Steps p.tables e below S0 tg := fun tg kg => pre61 tg (by
     refine XS.icmpNo X50.here hx rfl (hb hby at_64) rfl (XT.ii_ne_f hc62) ?_
     refine XS.iload X50.here hx rfl (hb hby at_67) rfl ?_
     refine XS.iconst X50.here hx rfl (hb hby at_69) ?_
     refine XS.iadd X50.here hx rfl (hb hby at_70) rfl ?_
     refine XS.istore X50.here hx rfl (hb hby at_71) rfl (l' := #[iv p0, iv p1, iv p2, iv p3, iv (1 : Int32), iv mz, iv cz, iv (5 : Int32), iv (6 : Int32), iv (-1 : Int32), un, un]) rfl ?_
     refine XS.goto X50.here hx rfl (pc0 := 73) (pc' := 93) rfl (hb hby at_73) (by decide) (by decide) ?_
     refine XS.aconstNull X50.here hx rfl (hb hby at_93) ?_
     refine XS.astore X50.here hx rfl (hb hby at_94) rfl rfl (l' := #[iv p0, iv p1, iv p2, iv p3, iv (1 : Int32), iv mz, iv cz, iv (5 : Int32), iv (6 : Int32), iv (-1 : Int32), .val .null, un]) rfl ?_
     refine XS.iload X50.here hx rfl (hb hby at_96) rfl ?_
     refine XS.bipush X50.here hx rfl (hb hby at_98) ?_
     show AT p e below T50 m 100 #[iv p0, iv p1, iv p2, iv p3, iv (1 : Int32), iv mz, iv cz, iv (5 : Int32), iv (6 : Int32), iv (-1 : Int32), .val .null, un] [(.int (7 : Int32)), (.int mz)] _
     refine XS.icmpNo X50.here hx rfl (hb hby at_100) rfl (XT.ii_eq_f ((by rw [hc62]; decide) : ¬ (mz = (7 : Int32)))) ?_
     refine XS.iload X50.here hx rfl (hb hby at_103) rfl ?_
     refine XS.iload X50.here hx rfl (hb hby at_105) rfl ?_
     refine XS.iload X50.here hx rfl (hb hby at_107) rfl ?_
     refine XS.iload X50.here hx rfl (hb hby at_109) rfl ?_
     refine st63.trans ?_
     refine XS.astore X63.here hx rfl (hb hby at_114) rfl rfl (l' := #[iv p0, iv p1, iv p2, iv p3, iv (1 : Int32), iv mz, iv cz, iv (5 : Int32), iv (6 : Int32), iv (-1 : Int32), rv t_63, un]) rfl ?_
     exact kg)
    exact tail_x _ _ _ _ _ (own_mono X63 (by decide) (by decide)) rfl N63 K63 O63 hS hk hZ hown CR63 _ _ _ _ _ _ _ _ _ _ _ u63_0 u63_1 u63_2 u63_3 u63_4 (by decide) (by decide) (by decide) pre68
   ·
    have pre69 : ∀ tg, AT p e below T50 m 80 #[iv p0, iv p1, iv p2, iv p3, iv (1 : Int32), iv mz, iv cz, iv (5 : Int32), iv (5 : Int32), iv (-1 : Int32), un, un] [(.int (6 : Int32)), (.int mz)] tg → Steps p.tables e below S0 tg := fun tg kg => pre61 tg (by
     refine XS.icmpYes X50.here hx rfl (pc0 := 64) (pc' := 76) rfl (hb hby at_64) rfl (XT.ii_ne_t hc62) (by decide) (by decide) ?_
     refine XS.iload X50.here hx rfl (hb hby at_76) rfl ?_
     refine XS.bipush X50.here hx rfl (hb hby at_78) ?_
     exact kg)
    rcases Decidable.em (mz = (6 : Int32)) with hc70 | hc70
    ·
     obtain ⟨_, _, ⟨T71, L71, k71, n71⟩, -, X71, ⟨Lc71, hQ71, l71, y71, z71⟩, st71⟩ := Jvm.LawKit.callS X50 hx (y := y21) hown (mvT hZ (ow hw 113 rfl)) (mvT hZ (ow hw 114 rfl)) (mvT hZ (ow hw 115 rfl)) (mvT hZ (ow hw 116 rfl)) (by decide) (backOf (W := 0) (rm21 l Z ar hw [] (0 : Int32) (4 : Int32) T49.heap n0 O49) hZ (ow hw 116 rfl) (ow hw 115 rfl) (by decide) (by decide)) (g := (mkF m 88 #[iv p0, iv p1, iv p2, iv p3, iv (1 : Int32), iv mz, iv cz, iv (5 : Int32), iv (5 : Int32), iv (-1 : Int32), un, un] [(.int (4 : Int32)), (.int (0 : Int32))])) rfl (by rw [hml]; rfl) (argsL := [(.int (0 : Int32)), (.int (4 : Int32))]) (rest := []) (lenOf pd_14 rfl) rfl (by show 2 * 0 + _ ≤ _; exact Nat.le_of_eq rfl) (hb hby at_88) (fun _ _ => ⟨rfl, e50, (by decide : 2 + 0 ≤ _), (by decide : 24 + 0 ≤ _)⟩)
     dsimp only [Pt.U, Pt.locs, Pt.cells, Pt.slots] at X71 l71 y71 z71 st71 hQ71
     subst l71 y71 z71
     obtain ⟨rfl, N71q, e71⟩ := hQ71
     have N71 := Fr.app N50 N71q
     have r71 : (f21 (0 : Int32) (4 : Int32)) = (4 : Int32) := by rw [f21, if_pos ((by decide) : (0 : Int32) < (4 : Int32))] <;> decide
     rw [r71] at st71
     obtain ⟨_, _, ⟨T72, L72, k72, n72⟩, -, X72, hS72, hg72, ⟨Lc72, hQ72, l72, y72, z72, CRq72⟩, st72⟩ := callSS X71 hx (y := y4) hown (mvT hZ (ow hw 26 rfl)) (mvT hZ (ow hw 27 rfl)) (mvT hZ (ow hw 3 rfl)) (mvT hZ (ow hw 28 rfl)) (by decide) (backOfSH (W := 0) (rm4_4 l Z ar hw [] (1 : Int32) (-1 : Int32) cz T49.heap n0 O49 hEL HW hcb (by decide)) hZ (ow hw 28 rfl) (ow hw 3 rfl) (by decide) (by decide) hEL CR49.1) (g := (mkF m 111 #[iv p0, iv p1, iv p2, iv p3, iv (1 : Int32), iv mz, iv cz, iv (5 : Int32), iv (4 : Int32), iv (-1 : Int32), .val .null, un] [(.int cz), (.int (-1 : Int32)), (.int (1 : Int32)), (.int (4 : Int32))])) rfl (by rw [hml]; rfl) (argsL := [(.int (4 : Int32)), (.int (1 : Int32)), (.int (-1 : Int32)), (.int cz)]) (rest := []) (lenOf pd_15 rfl) rfl (by show 2 * 0 + _ ≤ _; exact Nat.le_of_eq rfl) (hb hby at_111) (fun _ _ => ⟨rfl, e71, (by decide : 2 + 11 ≤ _), (by decide : 24 + 172 ≤ _)⟩)
     dsimp only [Pt.U, Pt.locs, Pt.cells, Pt.slots] at X72 l72 y72 z72 st72 hQ72 hS72 hg72 CRq72
     subst l72 y72 z72
     obtain ⟨X72, hS, hZ, hown⟩ := rebS hS (by rw [e71]; exact hk) X72 hS72 hg72 hZ hown
     have CR72 : CHr Z EL0 s.vm h0 T72.vm T72.heap := CR49.trans CRq72
     obtain ⟨t_72, tb_72, kb_72, y0_72, y1_72, y2_72, y3_72, rfl, N72q, Kq72, u72_0, u72_1, u72_2, u72_3, u72_4⟩ := hQ72
     have N72 := Fr.app N71 N72q
     have E72_73 := u49_0.keep Kq72
     have F72_74 := u49_1.keep Kq72 nin0
     have F72_75 := u49_2.keep Kq72 nin0
     have V72_76 := u49_3.keep Kq72 nin0
     have K72 := K49.trans Kq72 all0
     have O72 := O49.keep Kq72 all0
     have hk := Nat.le_trans hk Kq72.1
     have hk := Nat.le_refl (Array.size T72.heap)
     have pre77 : ∀ tg, AT p e below T72 m 116 #[iv p0, iv p1, iv p2, iv p3, iv (1 : Int32), iv mz, iv cz, iv (5 : Int32), iv (4 : Int32), iv (-1 : Int32), rv t_72, un] [] tg → Steps p.tables e below S0 tg := fun tg kg => pre69 tg (by
      refine XS.icmpNo X50.here hx rfl (hb hby at_80) rfl (XT.ii_ne_f hc70) ?_
      refine XS.iconst X50.here hx rfl (hb hby at_83) ?_
      refine XS.iload X50.here hx rfl (hb hby at_84) rfl ?_
      refine XS.iconst X50.here hx rfl (hb hby at_86) ?_
      refine XS.isub X50.here hx rfl (hb hby at_87) rfl ?_
      refine st71 _ ?_
      refine XS.istore X71.here hx rfl (hb hby at_91) rfl (l' := #[iv p0, iv p1, iv p2, iv p3, iv (1 : Int32), iv mz, iv cz, iv (5 : Int32), iv (4 : Int32), iv (-1 : Int32), un, un]) rfl ?_
      refine XS.aconstNull X71.here hx rfl (hb hby at_93) ?_
      refine XS.astore X71.here hx rfl (hb hby at_94) rfl rfl (l' := #[iv p0, iv p1, iv p2, iv p3, iv (1 : Int32), iv mz, iv cz, iv (5 : Int32), iv (4 : Int32), iv (-1 : Int32), .val .null, un]) rfl ?_
      refine XS.iload X71.here hx rfl (hb hby at_96) rfl ?_
      refine XS.bipush X71.here hx rfl (hb hby at_98) ?_
      show AT p e below T71 m 100 #[iv p0, iv p1, iv p2, iv p3, iv (1 : Int32), iv mz, iv cz, iv (5 : Int32), iv (4 : Int32), iv (-1 : Int32), .val .null, un] [(.int (7 : Int32)), (.int mz)] _
      refine XS.icmpNo X71.here hx rfl (hb hby at_100) rfl (XT.ii_eq_f ((by rw [hc70]; decide) : ¬ (mz = (7 : Int32)))) ?_
      refine XS.iload X71.here hx rfl (hb hby at_103) rfl ?_
      refine XS.iload X71.here hx rfl (hb hby at_105) rfl ?_
      refine XS.iload X71.here hx rfl (hb hby at_107) rfl ?_
      refine XS.iload X71.here hx rfl (hb hby at_109) rfl ?_
      refine st72.trans ?_
      refine XS.astore X72.here hx rfl (hb hby at_114) rfl rfl (l' := #[iv p0, iv p1, iv p2, iv p3, iv (1 : Int32), iv mz, iv cz, iv (5 : Int32), iv (4 : Int32), iv (-1 : Int32), rv t_72, un]) rfl ?_
      exact kg)
     exact tail_x _ _ _ _ _ (own_mono X72 (by decide) (by decide)) rfl N72 K72 O72 hS hk hZ hown CR72 _ _ _ _ _ _ _ _ _ _ _ u72_0 u72_1 u72_2 u72_3 u72_4 (by decide) (by decide) (by decide) pre77
    ·
     have pre78 : ∀ tg, AT p e below T50 m 100 #[iv p0, iv p1, iv p2, iv p3, iv (1 : Int32), iv mz, iv cz, iv (5 : Int32), iv (5 : Int32), iv (-1 : Int32), .val .null, un] [(.int (7 : Int32)), (.int mz)] tg → Steps p.tables e below S0 tg := fun tg kg => pre69 tg (by
      refine XS.icmpYes X50.here hx rfl (pc0 := 80) (pc' := 93) rfl (hb hby at_80) rfl (XT.ii_ne_t hc70) (by decide) (by decide) ?_
      refine XS.aconstNull X50.here hx rfl (hb hby at_93) ?_
      refine XS.astore X50.here hx rfl (hb hby at_94) rfl rfl (l' := #[iv p0, iv p1, iv p2, iv p3, iv (1 : Int32), iv mz, iv cz, iv (5 : Int32), iv (5 : Int32), iv (-1 : Int32), .val .null, un]) rfl ?_
      refine XS.iload X50.here hx rfl (hb hby at_96) rfl ?_
      refine XS.bipush X50.here hx rfl (hb hby at_98) ?_
      exact kg)
     rcases Decidable.em (mz = (7 : Int32)) with hc79 | hc79
     ·
      have pre80 : ∀ tg, AT p e below T50 m 116 #[iv p0, iv p1, iv p2, iv p3, iv (1 : Int32), iv mz, iv cz, iv (5 : Int32), iv (5 : Int32), iv (-1 : Int32), .val .null, un] [] tg → Steps p.tables e below S0 tg := fun tg kg => pre78 tg (by
       refine XS.icmpYes X50.here hx rfl (pc0 := 100) (pc' := 116) rfl (hb hby at_100) rfl (XT.ii_eq_t hc79) (by decide) (by decide) ?_
       exact kg)
      exact tail_null _ _ _ _ _ (own_mono X50 (by decide) (by decide)) e50 N50 K49 O49 hS hk hZ hown CR49 _ _ _ _ _ _ pre80
     ·
      obtain ⟨_, _, ⟨T81, L81, k81, n81⟩, -, X81, hS81, hg81, ⟨Lc81, hQ81, l81, y81, z81, CRq81⟩, st81⟩ := callSS X50 hx (y := y4) hown (mvT hZ (ow hw 26 rfl)) (mvT hZ (ow hw 27 rfl)) (mvT hZ (ow hw 3 rfl)) (mvT hZ (ow hw 28 rfl)) (by decide) (backOfSH (W := 0) (rm4_5 l Z ar hw [] (1 : Int32) (-1 : Int32) cz T49.heap n0 O49 hEL HW hcb (by decide)) hZ (ow hw 28 rfl) (ow hw 3 rfl) (by decide) (by decide) hEL CR49.1) (g := (mkF m 111 #[iv p0, iv p1, iv p2, iv p3, iv (1 : Int32), iv mz, iv cz, iv (5 : Int32), iv (5 : Int32), iv (-1 : Int32), .val .null, un] [(.int cz), (.int (-1 : Int32)), (.int (1 : Int32)), (.int (5 : Int32))])) rfl (by rw [hml]; rfl) (argsL := [(.int (5 : Int32)), (.int (1 : Int32)), (.int (-1 : Int32)), (.int cz)]) (rest := []) (lenOf pd_15 rfl) rfl (by show 2 * 0 + _ ≤ _; exact Nat.le_of_eq rfl) (hb hby at_111) (fun _ _ => ⟨rfl, e50, (by decide : 2 + 13 ≤ _), (by decide : 24 + 214 ≤ _)⟩)
      dsimp only [Pt.U, Pt.locs, Pt.cells, Pt.slots] at X81 l81 y81 z81 st81 hQ81 hS81 hg81 CRq81
      subst l81 y81 z81
      obtain ⟨X81, hS, hZ, hown⟩ := rebS hS (by rw [e50]; exact hk) X81 hS81 hg81 hZ hown
      have CR81 : CHr Z EL0 s.vm h0 T81.vm T81.heap := CR49.trans CRq81
      obtain ⟨t_81, tb_81, kb_81, y0_81, y1_81, y2_81, y3_81, y4_81, rfl, N81q, Kq81, u81_0, u81_1, u81_2, u81_3, u81_4⟩ := hQ81
      have N81 := Fr.app N50 N81q
      have E81_82 := u49_0.keep Kq81
      have F81_83 := u49_1.keep Kq81 nin0
      have F81_84 := u49_2.keep Kq81 nin0
      have V81_85 := u49_3.keep Kq81 nin0
      have K81 := K49.trans Kq81 all0
      have O81 := O49.keep Kq81 all0
      have hk := Nat.le_trans hk Kq81.1
      have hk := Nat.le_refl (Array.size T81.heap)
      have pre86 : ∀ tg, AT p e below T81 m 116 #[iv p0, iv p1, iv p2, iv p3, iv (1 : Int32), iv mz, iv cz, iv (5 : Int32), iv (5 : Int32), iv (-1 : Int32), rv t_81, un] [] tg → Steps p.tables e below S0 tg := fun tg kg => pre78 tg (by
       refine XS.icmpNo X50.here hx rfl (hb hby at_100) rfl (XT.ii_eq_f hc79) ?_
       refine XS.iload X50.here hx rfl (hb hby at_103) rfl ?_
       refine XS.iload X50.here hx rfl (hb hby at_105) rfl ?_
       refine XS.iload X50.here hx rfl (hb hby at_107) rfl ?_
       refine XS.iload X50.here hx rfl (hb hby at_109) rfl ?_
       refine st81.trans ?_
       refine XS.astore X81.here hx rfl (hb hby at_114) rfl rfl (l' := #[iv p0, iv p1, iv p2, iv p3, iv (1 : Int32), iv mz, iv cz, iv (5 : Int32), iv (5 : Int32), iv (-1 : Int32), rv t_81, un]) rfl ?_
       exact kg)
      exact tail_5 _ _ _ _ _ (own_mono X81 (by decide) (by decide)) rfl N81 K81 O81 hS hk hZ hown CR81 _ _ _ _ _ _ _ _ _ _ _ _ _ _ u81_0 u81_1 u81_2 u81_3 u81_4 pre86
 ·
  have pre87 : ∀ tg, AT p e below s₁ m 14 #[iv p0, iv p1, iv p2, iv p3, iv (2 : Int32), iv (p1 &&& (7 : Int32)), un, un, un, un, un, un] [] tg → Steps p.tables e below S0 tg := fun tg kg => pre2 tg (by
   refine XS.iloadN X0.here hx rfl (hb hby at_8) rfl ?_
   refine XS.bipush X0.here hx rfl (hb hby at_9) ?_
   refine XS.iand X0.here hx rfl (hb hby at_11) rfl ?_
   refine XS.istore X0.here hx rfl (hb hby at_12) rfl (l' := #[iv p0, iv p1, iv p2, iv p3, iv (2 : Int32), iv (p1 &&& (7 : Int32)), un, un, un, un, un, un]) rfl ?_
   exact kg)
  obtain ⟨mz, hmz⟩ : ∃ z, z = (p1 &&& (7 : Int32)) := ⟨_, rfl⟩
  have pre88 : ∀ tg, AT p e below s₁ m 14 #[iv p0, iv p1, iv p2, iv p3, iv (2 : Int32), iv mz, un, un, un, un, un, un] [] tg → Steps p.tables e below S0 tg := by rw [hmz]; exact pre87
  have pre89 : ∀ tg, AT p e below s₁ m 22 #[iv p0, iv p1, iv p2, iv p3, iv (2 : Int32), iv mz, iv ((p3 &&& (255 : Int32)).toUInt32.toUInt16.toUInt32.toInt32), un, un, un, un, un] [] tg → Steps p.tables e below S0 tg := fun tg kg => pre88 tg (by
   refine XS.iloadN X0.here hx rfl (hb hby at_14) rfl ?_
   refine XS.sipush X0.here hx rfl (hb hby at_15) ?_
   refine XS.iand X0.here hx rfl (hb hby at_18) rfl ?_
   refine XS.i2c X0.here hx rfl (hb hby at_19) rfl ?_
   refine XS.istore X0.here hx rfl (hb hby at_20) rfl (l' := #[iv p0, iv p1, iv p2, iv p3, iv (2 : Int32), iv mz, iv ((p3 &&& (255 : Int32)).toUInt32.toUInt16.toUInt32.toInt32), un, un, un, un, un]) rfl ?_
   exact kg)
  obtain ⟨cz, hcz⟩ : ∃ z, z = ((p3 &&& (255 : Int32)).toUInt32.toUInt16.toUInt32.toInt32) := ⟨_, rfl⟩
  have pre90 : ∀ tg, AT p e below s₁ m 22 #[iv p0, iv p1, iv p2, iv p3, iv (2 : Int32), iv mz, iv cz, un, un, un, un, un] [] tg → Steps p.tables e below S0 tg := by rw [hcz]; exact pre89
  have hcb : 0 ≤ cz.toInt ∧ cz.toInt ≤ 255 := by rw [hcz]; exact own_cz p3
  obtain ⟨_, _, ⟨T91, L91, k91, n91⟩, -, X91, hS91, hg91, ⟨Lc91, hQ91, l91, y91, z91, CRq91⟩, st91⟩ := callSS X0 hx (y := y1) hown (mvT hZ (ow hw 1 rfl)) (mvT hZ (ow hw 2 rfl)) (mvT hZ (ow hw 3 rfl)) (mvT hZ (ow hw 4 rfl)) (by decide) (backOfSH (W := 0) (rm1_2 l Z ar hw []  h0 n0 O0 hEL) hZ (ow hw 4 rfl) (ow hw 3 rfl) (by decide) (by decide) hEL CR0.1) (g := (mkF m 24 #[iv p0, iv p1, iv p2, iv p3, iv (2 : Int32), iv mz, iv cz, un, un, un, un, un] [(.int (2 : Int32))])) rfl (by rw [hml]; rfl) (argsL := [(.int (2 : Int32))]) (rest := []) (lenOf pd_5 rfl) rfl (by show 2 * 0 + _ ≤ _; exact Nat.le_of_eq rfl) (hb hby at_24) (fun _ _ => ⟨rfl, e0, (by decide : 0 + 2 ≤ _), (by decide : 0 + 40 ≤ _)⟩)
  dsimp only [Pt.U, Pt.locs, Pt.cells, Pt.slots] at X91 l91 y91 z91 st91 hQ91 hS91 hg91 CRq91
  subst l91 y91 z91
  obtain ⟨X91, hS, hZ, hown⟩ := rebS hS (by rw [e0]; exact hk) X91 hS91 hg91 hZ hown
  have CR91 : CHr Z EL0 s.vm h0 T91.vm T91.heap := CR0.trans CRq91
  obtain ⟨sr_91, sb_91, kb_91, rfl, N91q, Kq91, u91_0, u91_1, u91_2, u91_3⟩ := hQ91
  have N91 := Fr.app N0 N91q
  have K91 := (Keep.refl h0 []).trans Kq91 all0
  have O91 := O0.keep Kq91 all0
  have hk := Nat.le_trans hk Kq91.1
  have hk := Nat.le_refl (Array.size T91.heap)
  obtain ⟨cq92, kq92, q92a, q92b, q92c⟩ := isOf hZ rfl u91_0
  obtain ⟨_, _, ⟨T92, L92, k92, n92⟩, -, X92, ⟨Lc92, hQ92, l92, y92, z92⟩, st92⟩ := X91.virtualBack hx (y := y2) (z := y2) hown (mvT hZ (ow hw 13 rfl)) (mvT hZ (ow hw 14 rfl)) (notFace_of_selects (args := #[]) (mvT hZ (ow hw 16 rfl))) (mvT hZ (ow hw 16 rfl)) (mvT hZ (ow hw 15 rfl)) (by decide) (backOf (W := 0) (rm2_9 l Z ar hw [] sr_91 _ _ _ T91.heap n0 O91 HW u91_0 u91_1 u91_2 u91_3) hZ (ow hw 17 rfl) (ow hw 6 rfl) (by decide) (by decide)) q92a q92c (g := (mkF m 27 #[iv p0, iv p1, iv p2, iv p3, iv (2 : Int32), iv mz, iv cz, un, un, un, un, un] [(.ref sr_91)])) rfl (by rw [hml]; rfl) (Steps.refl _) (argsL := []) (rest := []) (lenOf pd_6 rfl) rfl (by show 2 * 0 + _ ≤ _; exact Nat.le_of_eq rfl) (hb hby at_27) (fun _ _ => ⟨rfl, rfl, (by decide : 2 + 0 ≤ _), (by decide : 40 + 0 ≤ _)⟩)
  dsimp only [Pt.U, Pt.locs, Pt.cells, Pt.slots] at X92 l92 y92 z92 st92 hQ92
  subst l92 y92 z92
  obtain ⟨rfl, N92q, e92⟩ := hQ92
  have N92 := Fr.app N91 N92q
  have pre93 : ∀ tg, AT p e below T92 m 42 #[iv p0, iv p1, iv p2, iv p3, iv (2 : Int32), iv mz, iv cz, iv (9 : Int32), iv (9 : Int32), iv (-1 : Int32), un, un] [(.int (4 : Int32)), (.int mz)] tg → Steps p.tables e below S0 tg := fun tg kg => pre90 tg (by
   refine XS.iload X0.here hx rfl (hb hby at_22) rfl ?_
   refine st91.trans ?_
   refine st92.trans ?_
   refine XS.istore X92.here hx rfl (hb hby at_30) rfl (l' := #[iv p0, iv p1, iv p2, iv p3, iv (2 : Int32), iv mz, iv cz, iv (9 : Int32), un, un, un, un]) rfl ?_
   refine XS.iload X92.here hx rfl (hb hby at_32) rfl ?_
   refine XS.istore X92.here hx rfl (hb hby at_34) rfl (l' := #[iv p0, iv p1, iv p2, iv p3, iv (2 : Int32), iv mz, iv cz, iv (9 : Int32), iv (9 : Int32), un, un, un]) rfl ?_
   refine XS.iconst X92.here hx rfl (hb hby at_36) ?_
   refine XS.istore X92.here hx rfl (hb hby at_37) rfl (l' := #[iv p0, iv p1, iv p2, iv p3, iv (2 : Int32), iv mz, iv cz, iv (9 : Int32), iv (9 : Int32), iv (-1 : Int32), un, un]) rfl ?_
   refine XS.iload X92.here hx rfl (hb hby at_39) rfl ?_
   refine XS.iconst X92.here hx rfl (hb hby at_41) ?_
   exact kg)
  rcases Decidable.em (mz = (4 : Int32)) with hc94 | hc94
  ·
   have pre95 : ∀ tg, AT p e below T92 m 52 #[iv p0, iv p1, iv p2, iv p3, iv (2 : Int32), iv mz, iv cz, iv (9 : Int32), iv (9 : Int32), iv (-1 : Int32), un, un] [(.int (9 : Int32)), (.int (1 : Int32)), (.int (p2 &&& (2147483647 : Int32)))] tg → Steps p.tables e below S0 tg := fun tg kg => pre93 tg (by
    refine XS.icmpNo X92.here hx rfl (hb hby at_42) rfl (XT.ii_ne_f hc94) ?_
    refine XS.iloadN X92.here hx rfl (hb hby at_45) rfl ?_
    refine X92.ldcInt hx hown (mvT hZ (ow hw 0 rfl)) (g := (mkF m 46 #[iv p0, iv p1, iv p2, iv p3, iv (2 : Int32), iv mz, iv cz, iv (9 : Int32), iv (9 : Int32), iv (-1 : Int32), un, un] [(.int p2)])) rfl (hb hby at_46) _ ?_
    refine XS.iand X92.here hx rfl (hb hby at_48) rfl ?_
    refine XS.iconst X92.here hx rfl (hb hby at_49) ?_
    refine XS.iload X92.here hx rfl (hb hby at_50) rfl ?_
    exact kg)
   obtain ⟨_, _, ⟨T96, L96, k96, n96⟩, -, X96, ⟨Lc96, hQ96, l96, y96, z96⟩, st96⟩ := Jvm.LawKit.callS X92 hx (y := y21) hown (mvT hZ (ow hw 113 rfl)) (mvT hZ (ow hw 114 rfl)) (mvT hZ (ow hw 115 rfl)) (mvT hZ (ow hw 116 rfl)) (by decide) (backOf (W := 1) (rm21 l Z ar hw [] (1 : Int32) (9 : Int32) T91.heap n0 O91) hZ (ow hw 116 rfl) (ow hw 115 rfl) (by decide) (by decide)) (g := (mkF m 52 #[iv p0, iv p1, iv p2, iv p3, iv (2 : Int32), iv mz, iv cz, iv (9 : Int32), iv (9 : Int32), iv (-1 : Int32), un, un] [(.int (9 : Int32)), (.int (1 : Int32)), (.int (p2 &&& (2147483647 : Int32)))])) rfl (by rw [hml]; rfl) (argsL := [(.int (1 : Int32)), (.int (9 : Int32))]) (rest := [(.int (p2 &&& (2147483647 : Int32)))]) (lenOf pd_14 rfl) rfl (by show 2 * 0 + _ ≤ _; exact Nat.le_of_eq rfl) (hb hby at_52) (fun _ _ => ⟨rfl, e92, (by decide : 2 + 0 ≤ _), (by decide : 40 + 0 ≤ _)⟩)
   dsimp only [Pt.U, Pt.locs, Pt.cells, Pt.slots] at X96 l96 y96 z96 st96 hQ96
   subst l96 y96 z96
   obtain ⟨rfl, N96q, e96⟩ := hQ96
   have N96 := Fr.app N92 N96q
   have r96 : (f21 (1 : Int32) (9 : Int32)) = (9 : Int32) := by rw [f21, if_pos ((by decide) : (1 : Int32) < (9 : Int32))] <;> decide
   rw [r96] at st96
   obtain ⟨_, _, ⟨T97, L97, k97, n97⟩, -, X97, hS97, hg97, ⟨Lc97, hQ97, l97, y97, z97, CRq97⟩, st97⟩ := callSS X96 hx (y := y4) hown (mvT hZ (ow hw 26 rfl)) (mvT hZ (ow hw 27 rfl)) (mvT hZ (ow hw 3 rfl)) (mvT hZ (ow hw 28 rfl)) (by decide) (backOfSH (W := 0) (rm4_9 l Z ar hw [] (2 : Int32) ((p2 &&& (2147483647 : Int32)) % (9 : Int32)) cz T91.heap n0 O91 hEL HW hcb (by decide)) hZ (ow hw 28 rfl) (ow hw 3 rfl) (by decide) (by decide) hEL CR91.1) (g := (mkF m 111 #[iv p0, iv p1, iv p2, iv p3, iv (2 : Int32), iv mz, iv cz, iv (9 : Int32), iv (9 : Int32), iv ((p2 &&& (2147483647 : Int32)) % (9 : Int32)), .val .null, un] [(.int cz), (.int ((p2 &&& (2147483647 : Int32)) % (9 : Int32))), (.int (2 : Int32)), (.int (9 : Int32))])) rfl (by rw [hml]; rfl) (argsL := [(.int (9 : Int32)), (.int (2 : Int32)), (.int ((p2 &&& (2147483647 : Int32)) % (9 : Int32))), (.int cz)]) (rest := []) (lenOf pd_15 rfl) rfl (by show 2 * 0 + _ ≤ _; exact Nat.le_of_eq rfl) (hb hby at_111) (fun _ _ => ⟨rfl, e96, (by decide : 2 + 21 ≤ _), (by decide : 40 + 382 ≤ _)⟩)
   dsimp only [Pt.U, Pt.locs, Pt.cells, Pt.slots] at X97 l97 y97 z97 st97 hQ97 hS97 hg97 CRq97
   subst l97 y97 z97
   obtain ⟨X97, hS, hZ, hown⟩ := rebS hS (by rw [e96]; exact hk) X97 hS97 hg97 hZ hown
   have CR97 : CHr Z EL0 s.vm h0 T97.vm T97.heap := CR91.trans CRq97
   obtain ⟨t_97, tb_97, kb_97, y0_97, y1_97, y2_97, y3_97, y4_97, y5_97, y6_97, y7_97, y8_97, rfl, N97q, Kq97, u97_0, u97_1, u97_2, u97_3, u97_4⟩ := hQ97
   have N97 := Fr.app N96 N97q
   have E97_98 := u91_0.keep Kq97
   have F97_99 := u91_1.keep Kq97 nin0
   have F97_100 := u91_2.keep Kq97 nin0
   have V97_101 := u91_3.keep Kq97 nin0
   have K97 := K91.trans Kq97 all0
   have O97 := O91.keep Kq97 all0
   have hk := Nat.le_trans hk Kq97.1
   have hk := Nat.le_refl (Array.size T97.heap)
   have pre102 : ∀ tg, AT p e below T97 m 116 #[iv p0, iv p1, iv p2, iv p3, iv (2 : Int32), iv mz, iv cz, iv (9 : Int32), iv (9 : Int32), iv ((p2 &&& (2147483647 : Int32)) % (9 : Int32)), rv t_97, un] [] tg → Steps p.tables e below S0 tg := fun tg kg => pre95 tg (by
    refine st96 _ ?_
    refine iremM X96 hx rfl (hb hby at_55) rfl (by decide) ?_
    refine XS.istore X96.here hx rfl (hb hby at_56) rfl (l' := #[iv p0, iv p1, iv p2, iv p3, iv (2 : Int32), iv mz, iv cz, iv (9 : Int32), iv (9 : Int32), iv ((p2 &&& (2147483647 : Int32)) % (9 : Int32)), un, un]) rfl ?_
    refine XS.goto X96.here hx rfl (pc0 := 58) (pc' := 93) rfl (hb hby at_58) (by decide) (by decide) ?_
    refine XS.aconstNull X96.here hx rfl (hb hby at_93) ?_
    refine XS.astore X96.here hx rfl (hb hby at_94) rfl rfl (l' := #[iv p0, iv p1, iv p2, iv p3, iv (2 : Int32), iv mz, iv cz, iv (9 : Int32), iv (9 : Int32), iv ((p2 &&& (2147483647 : Int32)) % (9 : Int32)), .val .null, un]) rfl ?_
    refine XS.iload X96.here hx rfl (hb hby at_96) rfl ?_
    refine XS.bipush X96.here hx rfl (hb hby at_98) ?_
    show AT p e below T96 m 100 #[iv p0, iv p1, iv p2, iv p3, iv (2 : Int32), iv mz, iv cz, iv (9 : Int32), iv (9 : Int32), iv ((p2 &&& (2147483647 : Int32)) % (9 : Int32)), .val .null, un] [(.int (7 : Int32)), (.int mz)] _
    refine XS.icmpNo X96.here hx rfl (hb hby at_100) rfl (XT.ii_eq_f ((by rw [hc94]; decide) : ¬ (mz = (7 : Int32)))) ?_
    refine XS.iload X96.here hx rfl (hb hby at_103) rfl ?_
    refine XS.iload X96.here hx rfl (hb hby at_105) rfl ?_
    refine XS.iload X96.here hx rfl (hb hby at_107) rfl ?_
    refine XS.iload X96.here hx rfl (hb hby at_109) rfl ?_
    refine st97.trans ?_
    refine XS.astore X97.here hx rfl (hb hby at_114) rfl rfl (l' := #[iv p0, iv p1, iv p2, iv p3, iv (2 : Int32), iv mz, iv cz, iv (9 : Int32), iv (9 : Int32), iv ((p2 &&& (2147483647 : Int32)) % (9 : Int32)), rv t_97, un]) rfl ?_
    exact kg)
   exact tail_9 _ _ _ _ _ (own_mono X97 (by decide) (by decide)) rfl N97 K97 O97 hS hk hZ hown CR97 _ _ _ _ _ _ _ _ _ _ _ _ _ _ _ _ _ _ u97_0 u97_1 u97_2 u97_3 u97_4 pre102
  ·
   have pre103 : ∀ tg, AT p e below T92 m 64 #[iv p0, iv p1, iv p2, iv p3, iv (2 : Int32), iv mz, iv cz, iv (9 : Int32), iv (9 : Int32), iv (-1 : Int32), un, un] [(.int (5 : Int32)), (.int mz)] tg → Steps p.tables e below S0 tg := fun tg kg => pre93 tg (by
    refine XS.icmpYes X92.here hx rfl (pc0 := 42) (pc' := 61) rfl (hb hby at_42) rfl (XT.ii_ne_t hc94) (by decide) (by decide) ?_
    refine XS.iload X92.here hx rfl (hb hby at_61) rfl ?_
    refine XS.iconst X92.here hx rfl (hb hby at_63) ?_
    exact kg)
   rcases Decidable.em (mz = (5 : Int32)) with hc104 | hc104
   ·
    obtain ⟨_, _, ⟨T105, L105, k105, n105⟩, -, X105, hS105, hg105, ⟨Lc105, hQ105, l105, y105, z105, CRq105⟩, st105⟩ := callSS X92 hx (y := y4) hown (mvT hZ (ow hw 26 rfl)) (mvT hZ (ow hw 27 rfl)) (mvT hZ (ow hw 3 rfl)) (mvT hZ (ow hw 28 rfl)) (by decide) (backOfSH (W := 0) (rm4_10 l Z ar hw [] (2 : Int32) (-1 : Int32) cz T91.heap n0 O91 hEL HW hcb (by decide)) hZ (ow hw 28 rfl) (ow hw 3 rfl) (by decide) (by decide) hEL CR91.1) (g := (mkF m 111 #[iv p0, iv p1, iv p2, iv p3, iv (2 : Int32), iv mz, iv cz, iv (9 : Int32), iv (10 : Int32), iv (-1 : Int32), .val .null, un] [(.int cz), (.int (-1 : Int32)), (.int (2 : Int32)), (.int (10 : Int32))])) rfl (by rw [hml]; rfl) (argsL := [(.int (10 : Int32)), (.int (2 : Int32)), (.int (-1 : Int32)), (.int cz)]) (rest := []) (lenOf pd_15 rfl) rfl (by show 2 * 0 + _ ≤ _; exact Nat.le_of_eq rfl) (hb hby at_111) (fun _ _ => ⟨rfl, e92, (by decide : 2 + 23 ≤ _), (by decide : 40 + 424 ≤ _)⟩)
    dsimp only [Pt.U, Pt.locs, Pt.cells, Pt.slots] at X105 l105 y105 z105 st105 hQ105 hS105 hg105 CRq105
    subst l105 y105 z105
    obtain ⟨X105, hS, hZ, hown⟩ := rebS hS (by rw [e92]; exact hk) X105 hS105 hg105 hZ hown
    have CR105 : CHr Z EL0 s.vm h0 T105.vm T105.heap := CR91.trans CRq105
    obtain ⟨t_105, tb_105, kb_105, y0_105, y1_105, y2_105, y3_105, y4_105, y5_105, y6_105, y7_105, y8_105, y9_105, rfl, N105q, Kq105, u105_0, u105_1, u105_2, u105_3, u105_4⟩ := hQ105
    have N105 := Fr.app N92 N105q
    have E105_106 := u91_0.keep Kq105
    have F105_107 := u91_1.keep Kq105 nin0
    have F105_108 := u91_2.keep Kq105 nin0
    have V105_109 := u91_3.keep Kq105 nin0
    have K105 := K91.trans Kq105 all0
    have O105 := O91.keep Kq105 all0
    have hk := Nat.le_trans hk Kq105.1
    have hk := Nat.le_refl (Array.size T105.heap)
    have pre110 : ∀ tg, AT p e below T105 m 116 #[iv p0, iv p1, iv p2, iv p3, iv (2 : Int32), iv mz, iv cz, iv (9 : Int32), iv (10 : Int32), iv (-1 : Int32), rv t_105, un] [] tg → Steps p.tables e below S0 tg := fun tg kg => pre103 tg (by
     refine XS.icmpNo X92.here hx rfl (hb hby at_64) rfl (XT.ii_ne_f hc104) ?_
     refine XS.iload X92.here hx rfl (hb hby at_67) rfl ?_
     refine XS.iconst X92.here hx rfl (hb hby at_69) ?_
     refine XS.iadd X92.here hx rfl (hb hby at_70) rfl ?_
     refine XS.istore X92.here hx rfl (hb hby at_71) rfl (l' := #[iv p0, iv p1, iv p2, iv p3, iv (2 : Int32), iv mz, iv cz, iv (9 : Int32), iv (10 : Int32), iv (-1 : Int32), un, un]) rfl ?_
     refine XS.goto X92.here hx rfl (pc0 := 73) (pc' := 93) rfl (hb hby at_73) (by decide) (by decide) ?_
     refine XS.aconstNull X92.here hx rfl (hb hby at_93) ?_
     refine XS.astore X92.here hx rfl (hb hby at_94) rfl rfl (l' := #[iv p0, iv p1, iv p2, iv p3, iv (2 : Int32), iv mz, iv cz, iv (9 : Int32), iv (10 : Int32), iv (-1 : Int32), .val .null, un]) rfl ?_
     refine XS.iload X92.here hx rfl (hb hby at_96) rfl ?_
     refine XS.bipush X92.here hx rfl (hb hby at_98) ?_
     show AT p e below T92 m 100 #[iv p0, iv p1, iv p2, iv p3, iv (2 : Int32), iv mz, iv cz, iv (9 : Int32), iv (10 : Int32), iv (-1 : Int32), .val .null, un] [(.int (7 : Int32)), (.int mz)] _
     refine XS.icmpNo X92.here hx rfl (hb hby at_100) rfl (XT.ii_eq_f ((by rw [hc104]; decide) : ¬ (mz = (7 : Int32)))) ?_
     refine XS.iload X92.here hx rfl (hb hby at_103) rfl ?_
     refine XS.iload X92.here hx rfl (hb hby at_105) rfl ?_
     refine XS.iload X92.here hx rfl (hb hby at_107) rfl ?_
     refine XS.iload X92.here hx rfl (hb hby at_109) rfl ?_
     refine st105.trans ?_
     refine XS.astore X105.here hx rfl (hb hby at_114) rfl rfl (l' := #[iv p0, iv p1, iv p2, iv p3, iv (2 : Int32), iv mz, iv cz, iv (9 : Int32), iv (10 : Int32), iv (-1 : Int32), rv t_105, un]) rfl ?_
     exact kg)
    exact tail_x _ _ _ _ _ (own_mono X105 (by decide) (by decide)) rfl N105 K105 O105 hS hk hZ hown CR105 _ _ _ _ _ _ _ _ _ _ _ u105_0 u105_1 u105_2 u105_3 u105_4 (by decide) (by decide) (by decide) pre110
   ·
    have pre111 : ∀ tg, AT p e below T92 m 80 #[iv p0, iv p1, iv p2, iv p3, iv (2 : Int32), iv mz, iv cz, iv (9 : Int32), iv (9 : Int32), iv (-1 : Int32), un, un] [(.int (6 : Int32)), (.int mz)] tg → Steps p.tables e below S0 tg := fun tg kg => pre103 tg (by
     refine XS.icmpYes X92.here hx rfl (pc0 := 64) (pc' := 76) rfl (hb hby at_64) rfl (XT.ii_ne_t hc104) (by decide) (by decide) ?_
     refine XS.iload X92.here hx rfl (hb hby at_76) rfl ?_
     refine XS.bipush X92.here hx rfl (hb hby at_78) ?_
     exact kg)
    rcases Decidable.em (mz = (6 : Int32)) with hc112 | hc112
    ·
     obtain ⟨_, _, ⟨T113, L113, k113, n113⟩, -, X113, ⟨Lc113, hQ113, l113, y113, z113⟩, st113⟩ := Jvm.LawKit.callS X92 hx (y := y21) hown (mvT hZ (ow hw 113 rfl)) (mvT hZ (ow hw 114 rfl)) (mvT hZ (ow hw 115 rfl)) (mvT hZ (ow hw 116 rfl)) (by decide) (backOf (W := 0) (rm21 l Z ar hw [] (0 : Int32) (8 : Int32) T91.heap n0 O91) hZ (ow hw 116 rfl) (ow hw 115 rfl) (by decide) (by decide)) (g := (mkF m 88 #[iv p0, iv p1, iv p2, iv p3, iv (2 : Int32), iv mz, iv cz, iv (9 : Int32), iv (9 : Int32), iv (-1 : Int32), un, un] [(.int (8 : Int32)), (.int (0 : Int32))])) rfl (by rw [hml]; rfl) (argsL := [(.int (0 : Int32)), (.int (8 : Int32))]) (rest := []) (lenOf pd_14 rfl) rfl (by show 2 * 0 + _ ≤ _; exact Nat.le_of_eq rfl) (hb hby at_88) (fun _ _ => ⟨rfl, e92, (by decide : 2 + 0 ≤ _), (by decide : 40 + 0 ≤ _)⟩)
     dsimp only [Pt.U, Pt.locs, Pt.cells, Pt.slots] at X113 l113 y113 z113 st113 hQ113
     subst l113 y113 z113
     obtain ⟨rfl, N113q, e113⟩ := hQ113
     have N113 := Fr.app N92 N113q
     have r113 : (f21 (0 : Int32) (8 : Int32)) = (8 : Int32) := by rw [f21, if_pos ((by decide) : (0 : Int32) < (8 : Int32))] <;> decide
     rw [r113] at st113
     obtain ⟨_, _, ⟨T114, L114, k114, n114⟩, -, X114, hS114, hg114, ⟨Lc114, hQ114, l114, y114, z114, CRq114⟩, st114⟩ := callSS X113 hx (y := y4) hown (mvT hZ (ow hw 26 rfl)) (mvT hZ (ow hw 27 rfl)) (mvT hZ (ow hw 3 rfl)) (mvT hZ (ow hw 28 rfl)) (by decide) (backOfSH (W := 0) (rm4_8 l Z ar hw [] (2 : Int32) (-1 : Int32) cz T91.heap n0 O91 hEL HW hcb (by decide)) hZ (ow hw 28 rfl) (ow hw 3 rfl) (by decide) (by decide) hEL CR91.1) (g := (mkF m 111 #[iv p0, iv p1, iv p2, iv p3, iv (2 : Int32), iv mz, iv cz, iv (9 : Int32), iv (8 : Int32), iv (-1 : Int32), .val .null, un] [(.int cz), (.int (-1 : Int32)), (.int (2 : Int32)), (.int (8 : Int32))])) rfl (by rw [hml]; rfl) (argsL := [(.int (8 : Int32)), (.int (2 : Int32)), (.int (-1 : Int32)), (.int cz)]) (rest := []) (lenOf pd_15 rfl) rfl (by show 2 * 0 + _ ≤ _; exact Nat.le_of_eq rfl) (hb hby at_111) (fun _ _ => ⟨rfl, e113, (by decide : 2 + 19 ≤ _), (by decide : 40 + 340 ≤ _)⟩)
     dsimp only [Pt.U, Pt.locs, Pt.cells, Pt.slots] at X114 l114 y114 z114 st114 hQ114 hS114 hg114 CRq114
     subst l114 y114 z114
     obtain ⟨X114, hS, hZ, hown⟩ := rebS hS (by rw [e113]; exact hk) X114 hS114 hg114 hZ hown
     have CR114 : CHr Z EL0 s.vm h0 T114.vm T114.heap := CR91.trans CRq114
     obtain ⟨t_114, tb_114, kb_114, y0_114, y1_114, y2_114, y3_114, y4_114, y5_114, y6_114, y7_114, rfl, N114q, Kq114, u114_0, u114_1, u114_2, u114_3, u114_4⟩ := hQ114
     have N114 := Fr.app N113 N114q
     have E114_115 := u91_0.keep Kq114
     have F114_116 := u91_1.keep Kq114 nin0
     have F114_117 := u91_2.keep Kq114 nin0
     have V114_118 := u91_3.keep Kq114 nin0
     have K114 := K91.trans Kq114 all0
     have O114 := O91.keep Kq114 all0
     have hk := Nat.le_trans hk Kq114.1
     have hk := Nat.le_refl (Array.size T114.heap)
     have pre119 : ∀ tg, AT p e below T114 m 116 #[iv p0, iv p1, iv p2, iv p3, iv (2 : Int32), iv mz, iv cz, iv (9 : Int32), iv (8 : Int32), iv (-1 : Int32), rv t_114, un] [] tg → Steps p.tables e below S0 tg := fun tg kg => pre111 tg (by
      refine XS.icmpNo X92.here hx rfl (hb hby at_80) rfl (XT.ii_ne_f hc112) ?_
      refine XS.iconst X92.here hx rfl (hb hby at_83) ?_
      refine XS.iload X92.here hx rfl (hb hby at_84) rfl ?_
      refine XS.iconst X92.here hx rfl (hb hby at_86) ?_
      refine XS.isub X92.here hx rfl (hb hby at_87) rfl ?_
      refine st113 _ ?_
      refine XS.istore X113.here hx rfl (hb hby at_91) rfl (l' := #[iv p0, iv p1, iv p2, iv p3, iv (2 : Int32), iv mz, iv cz, iv (9 : Int32), iv (8 : Int32), iv (-1 : Int32), un, un]) rfl ?_
      refine XS.aconstNull X113.here hx rfl (hb hby at_93) ?_
      refine XS.astore X113.here hx rfl (hb hby at_94) rfl rfl (l' := #[iv p0, iv p1, iv p2, iv p3, iv (2 : Int32), iv mz, iv cz, iv (9 : Int32), iv (8 : Int32), iv (-1 : Int32), .val .null, un]) rfl ?_
      refine XS.iload X113.here hx rfl (hb hby at_96) rfl ?_
      refine XS.bipush X113.here hx rfl (hb hby at_98) ?_
      show AT p e below T113 m 100 #[iv p0, iv p1, iv p2, iv p3, iv (2 : Int32), iv mz, iv cz, iv (9 : Int32), iv (8 : Int32), iv (-1 : Int32), .val .null, un] [(.int (7 : Int32)), (.int mz)] _
      refine XS.icmpNo X113.here hx rfl (hb hby at_100) rfl (XT.ii_eq_f ((by rw [hc112]; decide) : ¬ (mz = (7 : Int32)))) ?_
      refine XS.iload X113.here hx rfl (hb hby at_103) rfl ?_
      refine XS.iload X113.here hx rfl (hb hby at_105) rfl ?_
      refine XS.iload X113.here hx rfl (hb hby at_107) rfl ?_
      refine XS.iload X113.here hx rfl (hb hby at_109) rfl ?_
      refine st114.trans ?_
      refine XS.astore X114.here hx rfl (hb hby at_114) rfl rfl (l' := #[iv p0, iv p1, iv p2, iv p3, iv (2 : Int32), iv mz, iv cz, iv (9 : Int32), iv (8 : Int32), iv (-1 : Int32), rv t_114, un]) rfl ?_
      exact kg)
     exact tail_x _ _ _ _ _ (own_mono X114 (by decide) (by decide)) rfl N114 K114 O114 hS hk hZ hown CR114 _ _ _ _ _ _ _ _ _ _ _ u114_0 u114_1 u114_2 u114_3 u114_4 (by decide) (by decide) (by decide) pre119
    ·
     have pre120 : ∀ tg, AT p e below T92 m 100 #[iv p0, iv p1, iv p2, iv p3, iv (2 : Int32), iv mz, iv cz, iv (9 : Int32), iv (9 : Int32), iv (-1 : Int32), .val .null, un] [(.int (7 : Int32)), (.int mz)] tg → Steps p.tables e below S0 tg := fun tg kg => pre111 tg (by
      refine XS.icmpYes X92.here hx rfl (pc0 := 80) (pc' := 93) rfl (hb hby at_80) rfl (XT.ii_ne_t hc112) (by decide) (by decide) ?_
      refine XS.aconstNull X92.here hx rfl (hb hby at_93) ?_
      refine XS.astore X92.here hx rfl (hb hby at_94) rfl rfl (l' := #[iv p0, iv p1, iv p2, iv p3, iv (2 : Int32), iv mz, iv cz, iv (9 : Int32), iv (9 : Int32), iv (-1 : Int32), .val .null, un]) rfl ?_
      refine XS.iload X92.here hx rfl (hb hby at_96) rfl ?_
      refine XS.bipush X92.here hx rfl (hb hby at_98) ?_
      exact kg)
     rcases Decidable.em (mz = (7 : Int32)) with hc121 | hc121
     ·
      have pre122 : ∀ tg, AT p e below T92 m 116 #[iv p0, iv p1, iv p2, iv p3, iv (2 : Int32), iv mz, iv cz, iv (9 : Int32), iv (9 : Int32), iv (-1 : Int32), .val .null, un] [] tg → Steps p.tables e below S0 tg := fun tg kg => pre120 tg (by
       refine XS.icmpYes X92.here hx rfl (pc0 := 100) (pc' := 116) rfl (hb hby at_100) rfl (XT.ii_eq_t hc121) (by decide) (by decide) ?_
       exact kg)
      exact tail_null _ _ _ _ _ (own_mono X92 (by decide) (by decide)) e92 N92 K91 O91 hS hk hZ hown CR91 _ _ _ _ _ _ pre122
     ·
      obtain ⟨_, _, ⟨T123, L123, k123, n123⟩, -, X123, hS123, hg123, ⟨Lc123, hQ123, l123, y123, z123, CRq123⟩, st123⟩ := callSS X92 hx (y := y4) hown (mvT hZ (ow hw 26 rfl)) (mvT hZ (ow hw 27 rfl)) (mvT hZ (ow hw 3 rfl)) (mvT hZ (ow hw 28 rfl)) (by decide) (backOfSH (W := 0) (rm4_9 l Z ar hw [] (2 : Int32) (-1 : Int32) cz T91.heap n0 O91 hEL HW hcb (by decide)) hZ (ow hw 28 rfl) (ow hw 3 rfl) (by decide) (by decide) hEL CR91.1) (g := (mkF m 111 #[iv p0, iv p1, iv p2, iv p3, iv (2 : Int32), iv mz, iv cz, iv (9 : Int32), iv (9 : Int32), iv (-1 : Int32), .val .null, un] [(.int cz), (.int (-1 : Int32)), (.int (2 : Int32)), (.int (9 : Int32))])) rfl (by rw [hml]; rfl) (argsL := [(.int (9 : Int32)), (.int (2 : Int32)), (.int (-1 : Int32)), (.int cz)]) (rest := []) (lenOf pd_15 rfl) rfl (by show 2 * 0 + _ ≤ _; exact Nat.le_of_eq rfl) (hb hby at_111) (fun _ _ => ⟨rfl, e92, (by decide : 2 + 21 ≤ _), (by decide : 40 + 382 ≤ _)⟩)
      dsimp only [Pt.U, Pt.locs, Pt.cells, Pt.slots] at X123 l123 y123 z123 st123 hQ123 hS123 hg123 CRq123
      subst l123 y123 z123
      obtain ⟨X123, hS, hZ, hown⟩ := rebS hS (by rw [e92]; exact hk) X123 hS123 hg123 hZ hown
      have CR123 : CHr Z EL0 s.vm h0 T123.vm T123.heap := CR91.trans CRq123
      obtain ⟨t_123, tb_123, kb_123, y0_123, y1_123, y2_123, y3_123, y4_123, y5_123, y6_123, y7_123, y8_123, rfl, N123q, Kq123, u123_0, u123_1, u123_2, u123_3, u123_4⟩ := hQ123
      have N123 := Fr.app N92 N123q
      have E123_124 := u91_0.keep Kq123
      have F123_125 := u91_1.keep Kq123 nin0
      have F123_126 := u91_2.keep Kq123 nin0
      have V123_127 := u91_3.keep Kq123 nin0
      have K123 := K91.trans Kq123 all0
      have O123 := O91.keep Kq123 all0
      have hk := Nat.le_trans hk Kq123.1
      have hk := Nat.le_refl (Array.size T123.heap)
      have pre128 : ∀ tg, AT p e below T123 m 116 #[iv p0, iv p1, iv p2, iv p3, iv (2 : Int32), iv mz, iv cz, iv (9 : Int32), iv (9 : Int32), iv (-1 : Int32), rv t_123, un] [] tg → Steps p.tables e below S0 tg := fun tg kg => pre120 tg (by
       refine XS.icmpNo X92.here hx rfl (hb hby at_100) rfl (XT.ii_eq_f hc121) ?_
       refine XS.iload X92.here hx rfl (hb hby at_103) rfl ?_
       refine XS.iload X92.here hx rfl (hb hby at_105) rfl ?_
       refine XS.iload X92.here hx rfl (hb hby at_107) rfl ?_
       refine XS.iload X92.here hx rfl (hb hby at_109) rfl ?_
       refine st123.trans ?_
       refine XS.astore X123.here hx rfl (hb hby at_114) rfl rfl (l' := #[iv p0, iv p1, iv p2, iv p3, iv (2 : Int32), iv mz, iv cz, iv (9 : Int32), iv (9 : Int32), iv (-1 : Int32), rv t_123, un]) rfl ?_
       exact kg)
      exact tail_9 _ _ _ _ _ (own_mono X123 (by decide) (by decide)) rfl N123 K123 O123 hS hk hZ hown CR123 _ _ _ _ _ _ _ _ _ _ _ _ _ _ _ _ _ _ u123_0 u123_1 u123_2 u123_3 u123_4 pre128
 ·
  have pre129 : ∀ tg, AT p e below s₁ m 14 #[iv p0, iv p1, iv p2, iv p3, iv (3 : Int32), iv (p1 &&& (7 : Int32)), un, un, un, un, un, un] [] tg → Steps p.tables e below S0 tg := fun tg kg => pre2 tg (by
   refine XS.iloadN X0.here hx rfl (hb hby at_8) rfl ?_
   refine XS.bipush X0.here hx rfl (hb hby at_9) ?_
   refine XS.iand X0.here hx rfl (hb hby at_11) rfl ?_
   refine XS.istore X0.here hx rfl (hb hby at_12) rfl (l' := #[iv p0, iv p1, iv p2, iv p3, iv (3 : Int32), iv (p1 &&& (7 : Int32)), un, un, un, un, un, un]) rfl ?_
   exact kg)
  obtain ⟨mz, hmz⟩ : ∃ z, z = (p1 &&& (7 : Int32)) := ⟨_, rfl⟩
  have pre130 : ∀ tg, AT p e below s₁ m 14 #[iv p0, iv p1, iv p2, iv p3, iv (3 : Int32), iv mz, un, un, un, un, un, un] [] tg → Steps p.tables e below S0 tg := by rw [hmz]; exact pre129
  have pre131 : ∀ tg, AT p e below s₁ m 22 #[iv p0, iv p1, iv p2, iv p3, iv (3 : Int32), iv mz, iv ((p3 &&& (255 : Int32)).toUInt32.toUInt16.toUInt32.toInt32), un, un, un, un, un] [] tg → Steps p.tables e below S0 tg := fun tg kg => pre130 tg (by
   refine XS.iloadN X0.here hx rfl (hb hby at_14) rfl ?_
   refine XS.sipush X0.here hx rfl (hb hby at_15) ?_
   refine XS.iand X0.here hx rfl (hb hby at_18) rfl ?_
   refine XS.i2c X0.here hx rfl (hb hby at_19) rfl ?_
   refine XS.istore X0.here hx rfl (hb hby at_20) rfl (l' := #[iv p0, iv p1, iv p2, iv p3, iv (3 : Int32), iv mz, iv ((p3 &&& (255 : Int32)).toUInt32.toUInt16.toUInt32.toInt32), un, un, un, un, un]) rfl ?_
   exact kg)
  obtain ⟨cz, hcz⟩ : ∃ z, z = ((p3 &&& (255 : Int32)).toUInt32.toUInt16.toUInt32.toInt32) := ⟨_, rfl⟩
  have pre132 : ∀ tg, AT p e below s₁ m 22 #[iv p0, iv p1, iv p2, iv p3, iv (3 : Int32), iv mz, iv cz, un, un, un, un, un] [] tg → Steps p.tables e below S0 tg := by rw [hcz]; exact pre131
  have hcb : 0 ≤ cz.toInt ∧ cz.toInt ≤ 255 := by rw [hcz]; exact own_cz p3
  obtain ⟨_, _, ⟨T133, L133, k133, n133⟩, -, X133, hS133, hg133, ⟨Lc133, hQ133, l133, y133, z133, CRq133⟩, st133⟩ := callSS X0 hx (y := y1) hown (mvT hZ (ow hw 1 rfl)) (mvT hZ (ow hw 2 rfl)) (mvT hZ (ow hw 3 rfl)) (mvT hZ (ow hw 4 rfl)) (by decide) (backOfSH (W := 0) (rm1_3 l Z ar hw []  h0 n0 O0 hEL) hZ (ow hw 4 rfl) (ow hw 3 rfl) (by decide) (by decide) hEL CR0.1) (g := (mkF m 24 #[iv p0, iv p1, iv p2, iv p3, iv (3 : Int32), iv mz, iv cz, un, un, un, un, un] [(.int (3 : Int32))])) rfl (by rw [hml]; rfl) (argsL := [(.int (3 : Int32))]) (rest := []) (lenOf pd_5 rfl) rfl (by show 2 * 0 + _ ≤ _; exact Nat.le_of_eq rfl) (hb hby at_24) (fun _ _ => ⟨rfl, e0, (by decide : 0 + 2 ≤ _), (by decide : 0 + 4 ≤ _)⟩)
  dsimp only [Pt.U, Pt.locs, Pt.cells, Pt.slots] at X133 l133 y133 z133 st133 hQ133 hS133 hg133 CRq133
  subst l133 y133 z133
  obtain ⟨X133, hS, hZ, hown⟩ := rebS hS (by rw [e0]; exact hk) X133 hS133 hg133 hZ hown
  have CR133 : CHr Z EL0 s.vm h0 T133.vm T133.heap := CR0.trans CRq133
  obtain ⟨sr_133, sb_133, kb_133, rfl, N133q, Kq133, u133_0, u133_1, u133_2, u133_3⟩ := hQ133
  have N133 := Fr.app N0 N133q
  have K133 := (Keep.refl h0 []).trans Kq133 all0
  have O133 := O0.keep Kq133 all0
  have hk := Nat.le_trans hk Kq133.1
  have hk := Nat.le_refl (Array.size T133.heap)
  obtain ⟨cq134, kq134, q134a, q134b, q134c⟩ := isOf hZ rfl u133_0
  obtain ⟨_, _, ⟨T134, L134, k134, n134⟩, -, X134, ⟨Lc134, hQ134, l134, y134, z134⟩, st134⟩ := X133.virtualBack hx (y := y2) (z := y2) hown (mvT hZ (ow hw 13 rfl)) (mvT hZ (ow hw 14 rfl)) (notFace_of_selects (args := #[]) (mvT hZ (ow hw 16 rfl))) (mvT hZ (ow hw 16 rfl)) (mvT hZ (ow hw 15 rfl)) (by decide) (backOf (W := 0) (rm2_0 l Z ar hw [] sr_133 _ _ _ T133.heap n0 O133 HW u133_0 u133_1 u133_2 u133_3) hZ (ow hw 17 rfl) (ow hw 6 rfl) (by decide) (by decide)) q134a q134c (g := (mkF m 27 #[iv p0, iv p1, iv p2, iv p3, iv (3 : Int32), iv mz, iv cz, un, un, un, un, un] [(.ref sr_133)])) rfl (by rw [hml]; rfl) (Steps.refl _) (argsL := []) (rest := []) (lenOf pd_6 rfl) rfl (by show 2 * 0 + _ ≤ _; exact Nat.le_of_eq rfl) (hb hby at_27) (fun _ _ => ⟨rfl, rfl, (by decide : 2 + 0 ≤ _), (by decide : 4 + 0 ≤ _)⟩)
  dsimp only [Pt.U, Pt.locs, Pt.cells, Pt.slots] at X134 l134 y134 z134 st134 hQ134
  subst l134 y134 z134
  obtain ⟨rfl, N134q, e134⟩ := hQ134
  have N134 := Fr.app N133 N134q
  have pre135 : ∀ tg, AT p e below T134 m 42 #[iv p0, iv p1, iv p2, iv p3, iv (3 : Int32), iv mz, iv cz, iv (0 : Int32), iv (0 : Int32), iv (-1 : Int32), un, un] [(.int (4 : Int32)), (.int mz)] tg → Steps p.tables e below S0 tg := fun tg kg => pre132 tg (by
   refine XS.iload X0.here hx rfl (hb hby at_22) rfl ?_
   refine st133.trans ?_
   refine st134.trans ?_
   refine XS.istore X134.here hx rfl (hb hby at_30) rfl (l' := #[iv p0, iv p1, iv p2, iv p3, iv (3 : Int32), iv mz, iv cz, iv (0 : Int32), un, un, un, un]) rfl ?_
   refine XS.iload X134.here hx rfl (hb hby at_32) rfl ?_
   refine XS.istore X134.here hx rfl (hb hby at_34) rfl (l' := #[iv p0, iv p1, iv p2, iv p3, iv (3 : Int32), iv mz, iv cz, iv (0 : Int32), iv (0 : Int32), un, un, un]) rfl ?_
   refine XS.iconst X134.here hx rfl (hb hby at_36) ?_
   refine XS.istore X134.here hx rfl (hb hby at_37) rfl (l' := #[iv p0, iv p1, iv p2, iv p3, iv (3 : Int32), iv mz, iv cz, iv (0 : Int32), iv (0 : Int32), iv (-1 : Int32), un, un]) rfl ?_
   refine XS.iload X134.here hx rfl (hb hby at_39) rfl ?_
   refine XS.iconst X134.here hx rfl (hb hby at_41) ?_
   exact kg)
  rcases Decidable.em (mz = (4 : Int32)) with hc136 | hc136
  ·
   have pre137 : ∀ tg, AT p e below T134 m 52 #[iv p0, iv p1, iv p2, iv p3, iv (3 : Int32), iv mz, iv cz, iv (0 : Int32), iv (0 : Int32), iv (-1 : Int32), un, un] [(.int (0 : Int32)), (.int (1 : Int32)), (.int (p2 &&& (2147483647 : Int32)))] tg → Steps p.tables e below S0 tg := fun tg kg => pre135 tg (by
    refine XS.icmpNo X134.here hx rfl (hb hby at_42) rfl (XT.ii_ne_f hc136) ?_
    refine XS.iloadN X134.here hx rfl (hb hby at_45) rfl ?_
    refine X134.ldcInt hx hown (mvT hZ (ow hw 0 rfl)) (g := (mkF m 46 #[iv p0, iv p1, iv p2, iv p3, iv (3 : Int32), iv mz, iv cz, iv (0 : Int32), iv (0 : Int32), iv (-1 : Int32), un, un] [(.int p2)])) rfl (hb hby at_46) _ ?_
    refine XS.iand X134.here hx rfl (hb hby at_48) rfl ?_
    refine XS.iconst X134.here hx rfl (hb hby at_49) ?_
    refine XS.iload X134.here hx rfl (hb hby at_50) rfl ?_
    exact kg)
   obtain ⟨_, _, ⟨T138, L138, k138, n138⟩, -, X138, ⟨Lc138, hQ138, l138, y138, z138⟩, st138⟩ := Jvm.LawKit.callS X134 hx (y := y21) hown (mvT hZ (ow hw 113 rfl)) (mvT hZ (ow hw 114 rfl)) (mvT hZ (ow hw 115 rfl)) (mvT hZ (ow hw 116 rfl)) (by decide) (backOf (W := 1) (rm21 l Z ar hw [] (1 : Int32) (0 : Int32) T133.heap n0 O133) hZ (ow hw 116 rfl) (ow hw 115 rfl) (by decide) (by decide)) (g := (mkF m 52 #[iv p0, iv p1, iv p2, iv p3, iv (3 : Int32), iv mz, iv cz, iv (0 : Int32), iv (0 : Int32), iv (-1 : Int32), un, un] [(.int (0 : Int32)), (.int (1 : Int32)), (.int (p2 &&& (2147483647 : Int32)))])) rfl (by rw [hml]; rfl) (argsL := [(.int (1 : Int32)), (.int (0 : Int32))]) (rest := [(.int (p2 &&& (2147483647 : Int32)))]) (lenOf pd_14 rfl) rfl (by show 2 * 0 + _ ≤ _; exact Nat.le_of_eq rfl) (hb hby at_52) (fun _ _ => ⟨rfl, e134, (by decide : 2 + 0 ≤ _), (by decide : 4 + 0 ≤ _)⟩)
   dsimp only [Pt.U, Pt.locs, Pt.cells, Pt.slots] at X138 l138 y138 z138 st138 hQ138
   subst l138 y138 z138
   obtain ⟨rfl, N138q, e138⟩ := hQ138
   have N138 := Fr.app N134 N138q
   have r138 : (f21 (1 : Int32) (0 : Int32)) = (1 : Int32) := by rw [f21, if_neg ((by decide) : ¬ ((1 : Int32) < (0 : Int32)))] <;> decide
   rw [r138] at st138
   obtain ⟨_, _, ⟨T139, L139, k139, n139⟩, -, X139, hS139, hg139, ⟨Lc139, hQ139, l139, y139, z139, CRq139⟩, st139⟩ := callSS X138 hx (y := y4) hown (mvT hZ (ow hw 26 rfl)) (mvT hZ (ow hw 27 rfl)) (mvT hZ (ow hw 3 rfl)) (mvT hZ (ow hw 28 rfl)) (by decide) (backOfSH (W := 0) (rm4_0 l Z ar hw [] (3 : Int32) ((p2 &&& (2147483647 : Int32)) % (1 : Int32)) cz T133.heap n0 O133 hEL hcb (by decide)) hZ (ow hw 28 rfl) (ow hw 3 rfl) (by decide) (by decide) hEL CR133.1) (g := (mkF m 111 #[iv p0, iv p1, iv p2, iv p3, iv (3 : Int32), iv mz, iv cz, iv (0 : Int32), iv (0 : Int32), iv ((p2 &&& (2147483647 : Int32)) % (1 : Int32)), .val .null, un] [(.int cz), (.int ((p2 &&& (2147483647 : Int32)) % (1 : Int32))), (.int (3 : Int32)), (.int (0 : Int32))])) rfl (by rw [hml]; rfl) (argsL := [(.int (0 : Int32)), (.int (3 : Int32)), (.int ((p2 &&& (2147483647 : Int32)) % (1 : Int32))), (.int cz)]) (rest := []) (lenOf pd_15 rfl) rfl (by show 2 * 0 + _ ≤ _; exact Nat.le_of_eq rfl) (hb hby at_111) (fun _ _ => ⟨rfl, e138, (by decide : 2 + 6 ≤ _), (by decide : 4 + 12 ≤ _)⟩)
   dsimp only [Pt.U, Pt.locs, Pt.cells, Pt.slots] at X139 l139 y139 z139 st139 hQ139 hS139 hg139 CRq139
   subst l139 y139 z139
   obtain ⟨X139, hS, hZ, hown⟩ := rebS hS (by rw [e138]; exact hk) X139 hS139 hg139 hZ hown
   have CR139 : CHr Z EL0 s.vm h0 T139.vm T139.heap := CR133.trans CRq139
   obtain ⟨t_139, tb_139, kb_139, rfl, N139q, Kq139, u139_0, u139_1, u139_2, u139_3, u139_4⟩ := hQ139
   have N139 := Fr.app N138 N139q
   have E139_140 := u133_0.keep Kq139
   have F139_141 := u133_1.keep Kq139 nin0
   have F139_142 := u133_2.keep Kq139 nin0
   have V139_143 := u133_3.keep Kq139 nin0
   have K139 := K133.trans Kq139 all0
   have O139 := O133.keep Kq139 all0
   have hk := Nat.le_trans hk Kq139.1
   have hk := Nat.le_refl (Array.size T139.heap)
   have pre144 : ∀ tg, AT p e below T139 m 116 #[iv p0, iv p1, iv p2, iv p3, iv (3 : Int32), iv mz, iv cz, iv (0 : Int32), iv (0 : Int32), iv ((p2 &&& (2147483647 : Int32)) % (1 : Int32)), rv t_139, un] [] tg → Steps p.tables e below S0 tg := fun tg kg => pre137 tg (by
    refine st138 _ ?_
    refine iremM X138 hx rfl (hb hby at_55) rfl (by decide) ?_
    refine XS.istore X138.here hx rfl (hb hby at_56) rfl (l' := #[iv p0, iv p1, iv p2, iv p3, iv (3 : Int32), iv mz, iv cz, iv (0 : Int32), iv (0 : Int32), iv ((p2 &&& (2147483647 : Int32)) % (1 : Int32)), un, un]) rfl ?_
    refine XS.goto X138.here hx rfl (pc0 := 58) (pc' := 93) rfl (hb hby at_58) (by decide) (by decide) ?_
    refine XS.aconstNull X138.here hx rfl (hb hby at_93) ?_
    refine XS.astore X138.here hx rfl (hb hby at_94) rfl rfl (l' := #[iv p0, iv p1, iv p2, iv p3, iv (3 : Int32), iv mz, iv cz, iv (0 : Int32), iv (0 : Int32), iv ((p2 &&& (2147483647 : Int32)) % (1 : Int32)), .val .null, un]) rfl ?_
    refine XS.iload X138.here hx rfl (hb hby at_96) rfl ?_
    refine XS.bipush X138.here hx rfl (hb hby at_98) ?_
    show AT p e below T138 m 100 #[iv p0, iv p1, iv p2, iv p3, iv (3 : Int32), iv mz, iv cz, iv (0 : Int32), iv (0 : Int32), iv ((p2 &&& (2147483647 : Int32)) % (1 : Int32)), .val .null, un] [(.int (7 : Int32)), (.int mz)] _
    refine XS.icmpNo X138.here hx rfl (hb hby at_100) rfl (XT.ii_eq_f ((by rw [hc136]; decide) : ¬ (mz = (7 : Int32)))) ?_
    refine XS.iload X138.here hx rfl (hb hby at_103) rfl ?_
    refine XS.iload X138.here hx rfl (hb hby at_105) rfl ?_
    refine XS.iload X138.here hx rfl (hb hby at_107) rfl ?_
    refine XS.iload X138.here hx rfl (hb hby at_109) rfl ?_
    refine st139.trans ?_
    refine XS.astore X139.here hx rfl (hb hby at_114) rfl rfl (l' := #[iv p0, iv p1, iv p2, iv p3, iv (3 : Int32), iv mz, iv cz, iv (0 : Int32), iv (0 : Int32), iv ((p2 &&& (2147483647 : Int32)) % (1 : Int32)), rv t_139, un]) rfl ?_
    exact kg)
   exact tail_x _ _ _ _ _ (own_mono X139 (by decide) (by decide)) rfl N139 K139 O139 hS hk hZ hown CR139 _ _ _ _ _ _ _ _ _ _ _ u139_0 u139_1 u139_2 u139_3 u139_4 (by decide) (by decide) (by decide) pre144
  ·
   have pre145 : ∀ tg, AT p e below T134 m 64 #[iv p0, iv p1, iv p2, iv p3, iv (3 : Int32), iv mz, iv cz, iv (0 : Int32), iv (0 : Int32), iv (-1 : Int32), un, un] [(.int (5 : Int32)), (.int mz)] tg → Steps p.tables e below S0 tg := fun tg kg => pre135 tg (by
    refine XS.icmpYes X134.here hx rfl (pc0 := 42) (pc' := 61) rfl (hb hby at_42) rfl (XT.ii_ne_t hc136) (by decide) (by decide) ?_
    refine XS.iload X134.here hx rfl (hb hby at_61) rfl ?_
    refine XS.iconst X134.here hx rfl (hb hby at_63) ?_
    exact kg)
   rcases Decidable.em (mz = (5 : Int32)) with hc146 | hc146
   ·
    obtain ⟨_, _, ⟨T147, L147, k147, n147⟩, -, X147, hS147, hg147, ⟨Lc147, hQ147, l147, y147, z147, CRq147⟩, st147⟩ := callSS X134 hx (y := y4) hown (mvT hZ (ow hw 26 rfl)) (mvT hZ (ow hw 27 rfl)) (mvT hZ (ow hw 3 rfl)) (mvT hZ (ow hw 28 rfl)) (by decide) (backOfSH (W := 0) (rm4_1 l Z ar hw [] (3 : Int32) (-1 : Int32) cz T133.heap n0 O133 hEL HW hcb (by decide)) hZ (ow hw 28 rfl) (ow hw 3 rfl) (by decide) (by decide) hEL CR133.1) (g := (mkF m 111 #[iv p0, iv p1, iv p2, iv p3, iv (3 : Int32), iv mz, iv cz, iv (0 : Int32), iv (1 : Int32), iv (-1 : Int32), .val .null, un] [(.int cz), (.int (-1 : Int32)), (.int (3 : Int32)), (.int (1 : Int32))])) rfl (by rw [hml]; rfl) (argsL := [(.int (1 : Int32)), (.int (3 : Int32)), (.int (-1 : Int32)), (.int cz)]) (rest := []) (lenOf pd_15 rfl) rfl (by show 2 * 0 + _ ≤ _; exact Nat.le_of_eq rfl) (hb hby at_111) (fun _ _ => ⟨rfl, e134, (by decide : 2 + 5 ≤ _), (by decide : 4 + 46 ≤ _)⟩)
    dsimp only [Pt.U, Pt.locs, Pt.cells, Pt.slots] at X147 l147 y147 z147 st147 hQ147 hS147 hg147 CRq147
    subst l147 y147 z147
    obtain ⟨X147, hS, hZ, hown⟩ := rebS hS (by rw [e134]; exact hk) X147 hS147 hg147 hZ hown
    have CR147 : CHr Z EL0 s.vm h0 T147.vm T147.heap := CR133.trans CRq147
    obtain ⟨t_147, tb_147, kb_147, y0_147, rfl, N147q, Kq147, u147_0, u147_1, u147_2, u147_3, u147_4⟩ := hQ147
    have N147 := Fr.app N134 N147q
    have E147_148 := u133_0.keep Kq147
    have F147_149 := u133_1.keep Kq147 nin0
    have F147_150 := u133_2.keep Kq147 nin0
    have V147_151 := u133_3.keep Kq147 nin0
    have K147 := K133.trans Kq147 all0
    have O147 := O133.keep Kq147 all0
    have hk := Nat.le_trans hk Kq147.1
    have hk := Nat.le_refl (Array.size T147.heap)
    have pre152 : ∀ tg, AT p e below T147 m 116 #[iv p0, iv p1, iv p2, iv p3, iv (3 : Int32), iv mz, iv cz, iv (0 : Int32), iv (1 : Int32), iv (-1 : Int32), rv t_147, un] [] tg → Steps p.tables e below S0 tg := fun tg kg => pre145 tg (by
     refine XS.icmpNo X134.here hx rfl (hb hby at_64) rfl (XT.ii_ne_f hc146) ?_
     refine XS.iload X134.here hx rfl (hb hby at_67) rfl ?_
     refine XS.iconst X134.here hx rfl (hb hby at_69) ?_
     refine XS.iadd X134.here hx rfl (hb hby at_70) rfl ?_
     refine XS.istore X134.here hx rfl (hb hby at_71) rfl (l' := #[iv p0, iv p1, iv p2, iv p3, iv (3 : Int32), iv mz, iv cz, iv (0 : Int32), iv (1 : Int32), iv (-1 : Int32), un, un]) rfl ?_
     refine XS.goto X134.here hx rfl (pc0 := 73) (pc' := 93) rfl (hb hby at_73) (by decide) (by decide) ?_
     refine XS.aconstNull X134.here hx rfl (hb hby at_93) ?_
     refine XS.astore X134.here hx rfl (hb hby at_94) rfl rfl (l' := #[iv p0, iv p1, iv p2, iv p3, iv (3 : Int32), iv mz, iv cz, iv (0 : Int32), iv (1 : Int32), iv (-1 : Int32), .val .null, un]) rfl ?_
     refine XS.iload X134.here hx rfl (hb hby at_96) rfl ?_
     refine XS.bipush X134.here hx rfl (hb hby at_98) ?_
     show AT p e below T134 m 100 #[iv p0, iv p1, iv p2, iv p3, iv (3 : Int32), iv mz, iv cz, iv (0 : Int32), iv (1 : Int32), iv (-1 : Int32), .val .null, un] [(.int (7 : Int32)), (.int mz)] _
     refine XS.icmpNo X134.here hx rfl (hb hby at_100) rfl (XT.ii_eq_f ((by rw [hc146]; decide) : ¬ (mz = (7 : Int32)))) ?_
     refine XS.iload X134.here hx rfl (hb hby at_103) rfl ?_
     refine XS.iload X134.here hx rfl (hb hby at_105) rfl ?_
     refine XS.iload X134.here hx rfl (hb hby at_107) rfl ?_
     refine XS.iload X134.here hx rfl (hb hby at_109) rfl ?_
     refine st147.trans ?_
     refine XS.astore X147.here hx rfl (hb hby at_114) rfl rfl (l' := #[iv p0, iv p1, iv p2, iv p3, iv (3 : Int32), iv mz, iv cz, iv (0 : Int32), iv (1 : Int32), iv (-1 : Int32), rv t_147, un]) rfl ?_
     exact kg)
    exact tail_x _ _ _ _ _ (own_mono X147 (by decide) (by decide)) rfl N147 K147 O147 hS hk hZ hown CR147 _ _ _ _ _ _ _ _ _ _ _ u147_0 u147_1 u147_2 u147_3 u147_4 (by decide) (by decide) (by decide) pre152
   ·
    have pre153 : ∀ tg, AT p e below T134 m 80 #[iv p0, iv p1, iv p2, iv p3, iv (3 : Int32), iv mz, iv cz, iv (0 : Int32), iv (0 : Int32), iv (-1 : Int32), un, un] [(.int (6 : Int32)), (.int mz)] tg → Steps p.tables e below S0 tg := fun tg kg => pre145 tg (by
     refine XS.icmpYes X134.here hx rfl (pc0 := 64) (pc' := 76) rfl (hb hby at_64) rfl (XT.ii_ne_t hc146) (by decide) (by decide) ?_
     refine XS.iload X134.here hx rfl (hb hby at_76) rfl ?_
     refine XS.bipush X134.here hx rfl (hb hby at_78) ?_
     exact kg)
    rcases Decidable.em (mz = (6 : Int32)) with hc154 | hc154
    ·
     obtain ⟨_, _, ⟨T155, L155, k155, n155⟩, -, X155, ⟨Lc155, hQ155, l155, y155, z155⟩, st155⟩ := Jvm.LawKit.callS X134 hx (y := y21) hown (mvT hZ (ow hw 113 rfl)) (mvT hZ (ow hw 114 rfl)) (mvT hZ (ow hw 115 rfl)) (mvT hZ (ow hw 116 rfl)) (by decide) (backOf (W := 0) (rm21 l Z ar hw [] (0 : Int32) (-1 : Int32) T133.heap n0 O133) hZ (ow hw 116 rfl) (ow hw 115 rfl) (by decide) (by decide)) (g := (mkF m 88 #[iv p0, iv p1, iv p2, iv p3, iv (3 : Int32), iv mz, iv cz, iv (0 : Int32), iv (0 : Int32), iv (-1 : Int32), un, un] [(.int (-1 : Int32)), (.int (0 : Int32))])) rfl (by rw [hml]; rfl) (argsL := [(.int (0 : Int32)), (.int (-1 : Int32))]) (rest := []) (lenOf pd_14 rfl) rfl (by show 2 * 0 + _ ≤ _; exact Nat.le_of_eq rfl) (hb hby at_88) (fun _ _ => ⟨rfl, e134, (by decide : 2 + 0 ≤ _), (by decide : 4 + 0 ≤ _)⟩)
     dsimp only [Pt.U, Pt.locs, Pt.cells, Pt.slots] at X155 l155 y155 z155 st155 hQ155
     subst l155 y155 z155
     obtain ⟨rfl, N155q, e155⟩ := hQ155
     have N155 := Fr.app N134 N155q
     have r155 : (f21 (0 : Int32) (-1 : Int32)) = (0 : Int32) := by rw [f21, if_neg ((by decide) : ¬ ((0 : Int32) < (-1 : Int32)))] <;> decide
     rw [r155] at st155
     obtain ⟨_, _, ⟨T156, L156, k156, n156⟩, -, X156, hS156, hg156, ⟨Lc156, hQ156, l156, y156, z156, CRq156⟩, st156⟩ := callSS X155 hx (y := y4) hown (mvT hZ (ow hw 26 rfl)) (mvT hZ (ow hw 27 rfl)) (mvT hZ (ow hw 3 rfl)) (mvT hZ (ow hw 28 rfl)) (by decide) (backOfSH (W := 0) (rm4_0 l Z ar hw [] (3 : Int32) (-1 : Int32) cz T133.heap n0 O133 hEL hcb (by decide)) hZ (ow hw 28 rfl) (ow hw 3 rfl) (by decide) (by decide) hEL CR133.1) (g := (mkF m 111 #[iv p0, iv p1, iv p2, iv p3, iv (3 : Int32), iv mz, iv cz, iv (0 : Int32), iv (0 : Int32), iv (-1 : Int32), .val .null, un] [(.int cz), (.int (-1 : Int32)), (.int (3 : Int32)), (.int (0 : Int32))])) rfl (by rw [hml]; rfl) (argsL := [(.int (0 : Int32)), (.int (3 : Int32)), (.int (-1 : Int32)), (.int cz)]) (rest := []) (lenOf pd_15 rfl) rfl (by show 2 * 0 + _ ≤ _; exact Nat.le_of_eq rfl) (hb hby at_111) (fun _ _ => ⟨rfl, e155, (by decide : 2 + 6 ≤ _), (by decide : 4 + 12 ≤ _)⟩)
     dsimp only [Pt.U, Pt.locs, Pt.cells, Pt.slots] at X156 l156 y156 z156 st156 hQ156 hS156 hg156 CRq156
     subst l156 y156 z156
     obtain ⟨X156, hS, hZ, hown⟩ := rebS hS (by rw [e155]; exact hk) X156 hS156 hg156 hZ hown
     have CR156 : CHr Z EL0 s.vm h0 T156.vm T156.heap := CR133.trans CRq156
     obtain ⟨t_156, tb_156, kb_156, rfl, N156q, Kq156, u156_0, u156_1, u156_2, u156_3, u156_4⟩ := hQ156
     have N156 := Fr.app N155 N156q
     have E156_157 := u133_0.keep Kq156
     have F156_158 := u133_1.keep Kq156 nin0
     have F156_159 := u133_2.keep Kq156 nin0
     have V156_160 := u133_3.keep Kq156 nin0
     have K156 := K133.trans Kq156 all0
     have O156 := O133.keep Kq156 all0
     have hk := Nat.le_trans hk Kq156.1
     have hk := Nat.le_refl (Array.size T156.heap)
     have pre161 : ∀ tg, AT p e below T156 m 116 #[iv p0, iv p1, iv p2, iv p3, iv (3 : Int32), iv mz, iv cz, iv (0 : Int32), iv (0 : Int32), iv (-1 : Int32), rv t_156, un] [] tg → Steps p.tables e below S0 tg := fun tg kg => pre153 tg (by
      refine XS.icmpNo X134.here hx rfl (hb hby at_80) rfl (XT.ii_ne_f hc154) ?_
      refine XS.iconst X134.here hx rfl (hb hby at_83) ?_
      refine XS.iload X134.here hx rfl (hb hby at_84) rfl ?_
      refine XS.iconst X134.here hx rfl (hb hby at_86) ?_
      refine XS.isub X134.here hx rfl (hb hby at_87) rfl ?_
      refine st155 _ ?_
      refine XS.istore X155.here hx rfl (hb hby at_91) rfl (l' := #[iv p0, iv p1, iv p2, iv p3, iv (3 : Int32), iv mz, iv cz, iv (0 : Int32), iv (0 : Int32), iv (-1 : Int32), un, un]) rfl ?_
      refine XS.aconstNull X155.here hx rfl (hb hby at_93) ?_
      refine XS.astore X155.here hx rfl (hb hby at_94) rfl rfl (l' := #[iv p0, iv p1, iv p2, iv p3, iv (3 : Int32), iv mz, iv cz, iv (0 : Int32), iv (0 : Int32), iv (-1 : Int32), .val .null, un]) rfl ?_
      refine XS.iload X155.here hx rfl (hb hby at_96) rfl ?_
      refine XS.bipush X155.here hx rfl (hb hby at_98) ?_
      show AT p e below T155 m 100 #[iv p0, iv p1, iv p2, iv p3, iv (3 : Int32), iv mz, iv cz, iv (0 : Int32), iv (0 : Int32), iv (-1 : Int32), .val .null, un] [(.int (7 : Int32)), (.int mz)] _
      refine XS.icmpNo X155.here hx rfl (hb hby at_100) rfl (XT.ii_eq_f ((by rw [hc154]; decide) : ¬ (mz = (7 : Int32)))) ?_
      refine XS.iload X155.here hx rfl (hb hby at_103) rfl ?_
      refine XS.iload X155.here hx rfl (hb hby at_105) rfl ?_
      refine XS.iload X155.here hx rfl (hb hby at_107) rfl ?_
      refine XS.iload X155.here hx rfl (hb hby at_109) rfl ?_
      refine st156.trans ?_
      refine XS.astore X156.here hx rfl (hb hby at_114) rfl rfl (l' := #[iv p0, iv p1, iv p2, iv p3, iv (3 : Int32), iv mz, iv cz, iv (0 : Int32), iv (0 : Int32), iv (-1 : Int32), rv t_156, un]) rfl ?_
      exact kg)
     exact tail_x _ _ _ _ _ (own_mono X156 (by decide) (by decide)) rfl N156 K156 O156 hS hk hZ hown CR156 _ _ _ _ _ _ _ _ _ _ _ u156_0 u156_1 u156_2 u156_3 u156_4 (by decide) (by decide) (by decide) pre161
    ·
     have pre162 : ∀ tg, AT p e below T134 m 100 #[iv p0, iv p1, iv p2, iv p3, iv (3 : Int32), iv mz, iv cz, iv (0 : Int32), iv (0 : Int32), iv (-1 : Int32), .val .null, un] [(.int (7 : Int32)), (.int mz)] tg → Steps p.tables e below S0 tg := fun tg kg => pre153 tg (by
      refine XS.icmpYes X134.here hx rfl (pc0 := 80) (pc' := 93) rfl (hb hby at_80) rfl (XT.ii_ne_t hc154) (by decide) (by decide) ?_
      refine XS.aconstNull X134.here hx rfl (hb hby at_93) ?_
      refine XS.astore X134.here hx rfl (hb hby at_94) rfl rfl (l' := #[iv p0, iv p1, iv p2, iv p3, iv (3 : Int32), iv mz, iv cz, iv (0 : Int32), iv (0 : Int32), iv (-1 : Int32), .val .null, un]) rfl ?_
      refine XS.iload X134.here hx rfl (hb hby at_96) rfl ?_
      refine XS.bipush X134.here hx rfl (hb hby at_98) ?_
      exact kg)
     rcases Decidable.em (mz = (7 : Int32)) with hc163 | hc163
     ·
      have pre164 : ∀ tg, AT p e below T134 m 116 #[iv p0, iv p1, iv p2, iv p3, iv (3 : Int32), iv mz, iv cz, iv (0 : Int32), iv (0 : Int32), iv (-1 : Int32), .val .null, un] [] tg → Steps p.tables e below S0 tg := fun tg kg => pre162 tg (by
       refine XS.icmpYes X134.here hx rfl (pc0 := 100) (pc' := 116) rfl (hb hby at_100) rfl (XT.ii_eq_t hc163) (by decide) (by decide) ?_
       exact kg)
      exact tail_null _ _ _ _ _ (own_mono X134 (by decide) (by decide)) e134 N134 K133 O133 hS hk hZ hown CR133 _ _ _ _ _ _ pre164
     ·
      obtain ⟨_, _, ⟨T165, L165, k165, n165⟩, -, X165, hS165, hg165, ⟨Lc165, hQ165, l165, y165, z165, CRq165⟩, st165⟩ := callSS X134 hx (y := y4) hown (mvT hZ (ow hw 26 rfl)) (mvT hZ (ow hw 27 rfl)) (mvT hZ (ow hw 3 rfl)) (mvT hZ (ow hw 28 rfl)) (by decide) (backOfSH (W := 0) (rm4_0 l Z ar hw [] (3 : Int32) (-1 : Int32) cz T133.heap n0 O133 hEL hcb (by decide)) hZ (ow hw 28 rfl) (ow hw 3 rfl) (by decide) (by decide) hEL CR133.1) (g := (mkF m 111 #[iv p0, iv p1, iv p2, iv p3, iv (3 : Int32), iv mz, iv cz, iv (0 : Int32), iv (0 : Int32), iv (-1 : Int32), .val .null, un] [(.int cz), (.int (-1 : Int32)), (.int (3 : Int32)), (.int (0 : Int32))])) rfl (by rw [hml]; rfl) (argsL := [(.int (0 : Int32)), (.int (3 : Int32)), (.int (-1 : Int32)), (.int cz)]) (rest := []) (lenOf pd_15 rfl) rfl (by show 2 * 0 + _ ≤ _; exact Nat.le_of_eq rfl) (hb hby at_111) (fun _ _ => ⟨rfl, e134, (by decide : 2 + 6 ≤ _), (by decide : 4 + 12 ≤ _)⟩)
      dsimp only [Pt.U, Pt.locs, Pt.cells, Pt.slots] at X165 l165 y165 z165 st165 hQ165 hS165 hg165 CRq165
      subst l165 y165 z165
      obtain ⟨X165, hS, hZ, hown⟩ := rebS hS (by rw [e134]; exact hk) X165 hS165 hg165 hZ hown
      have CR165 : CHr Z EL0 s.vm h0 T165.vm T165.heap := CR133.trans CRq165
      obtain ⟨t_165, tb_165, kb_165, rfl, N165q, Kq165, u165_0, u165_1, u165_2, u165_3, u165_4⟩ := hQ165
      have N165 := Fr.app N134 N165q
      have E165_166 := u133_0.keep Kq165
      have F165_167 := u133_1.keep Kq165 nin0
      have F165_168 := u133_2.keep Kq165 nin0
      have V165_169 := u133_3.keep Kq165 nin0
      have K165 := K133.trans Kq165 all0
      have O165 := O133.keep Kq165 all0
      have hk := Nat.le_trans hk Kq165.1
      have hk := Nat.le_refl (Array.size T165.heap)
      have pre170 : ∀ tg, AT p e below T165 m 116 #[iv p0, iv p1, iv p2, iv p3, iv (3 : Int32), iv mz, iv cz, iv (0 : Int32), iv (0 : Int32), iv (-1 : Int32), rv t_165, un] [] tg → Steps p.tables e below S0 tg := fun tg kg => pre162 tg (by
       refine XS.icmpNo X134.here hx rfl (hb hby at_100) rfl (XT.ii_eq_f hc163) ?_
       refine XS.iload X134.here hx rfl (hb hby at_103) rfl ?_
       refine XS.iload X134.here hx rfl (hb hby at_105) rfl ?_
       refine XS.iload X134.here hx rfl (hb hby at_107) rfl ?_
       refine XS.iload X134.here hx rfl (hb hby at_109) rfl ?_
       refine st165.trans ?_
       refine XS.astore X165.here hx rfl (hb hby at_114) rfl rfl (l' := #[iv p0, iv p1, iv p2, iv p3, iv (3 : Int32), iv mz, iv cz, iv (0 : Int32), iv (0 : Int32), iv (-1 : Int32), rv t_165, un]) rfl ?_
       exact kg)
      exact tail_x _ _ _ _ _ (own_mono X165 (by decide) (by decide)) rfl N165 K165 O165 hS hk hZ hown CR165 _ _ _ _ _ _ _ _ _ _ _ u165_0 u165_1 u165_2 u165_3 u165_4 (by decide) (by decide) (by decide) pre170

set_option maxRecDepth 65536 in
set_option maxHeartbeats 40000000 in
theorem comes_1 {Post : Tables → Env → Array Value → State → Outcome → State → Prop} (hpost : ∀ tb e args s v u, (limb_1_1.after args s (.returned v) u = true ∧ limb_1_2.after args s (.returned v) u = true ∧ True) → ReturnedEndW s (.returned v) u (Jvm.fieldLocs frame_1_writes args s ++ Jvm.arrayLocs frame_1_arrays args s ++ Jvm.staticLocs frame_1_statics s) 32 5312 → Post tb e args s (.returned v) u) :
    ArmFor flags0 classFile x code maxLocals ret World_1 tables_1 room_1 Calls_1 rest_1 Pre_1 Post := by
  intro l hfl _ _ p e ha hc hk s m args below hf hA hF happ hP
  obtain ⟨hcalls, hrest, hpre⟩ := hP
  obtain ⟨-, -, -, hnamed, -, -, -, hat⟩ := (Spec.applies_iff hf).mp happ
  obtain ⟨hg, hn⟩ := and_e (Cond.before_iff.mp (show (Jvm.Cond.and given_1 narrow_1).before args s = true from hpre))
  obtain ⟨hg1, hg2⟩ := and_e hg
  obtain ⟨hg21, hg22⟩ := and_e hg2
  obtain ⟨hg221, hg222⟩ := and_e hg22
  obtain ⟨hg2221, hg2222⟩ := and_e hg222
  obtain ⟨w0, w1, w2, w3, rfl⟩ : ∃ w0 w1 w2 w3 : Value, args = #[w0, w1, w2, w3] := by
    have hs : args.size = 4 := by simpa [Cond.value, given_1] using hg1
    obtain ⟨L⟩ := args
    match L, hs with
    | [w0, w1, w2, w3], _ => exact ⟨w0, w1, w2, w3, rfl⟩
  have hw := fun d (hd : d ∈ tables_1) => atoms_spec (ws := Jvm.Cond.code x code maxLocals ret :: tables_1) hat d (List.mem_cons_of_mem _ hd)
  have hfit : Fit s := fun {y c} hc i hi => by
    obtain ⟨ha, rfl⟩ := Array.getElem?_eq_some_iff.mp hc
    have q := List.all_eq_true.mp ((Array.all_eq_true_iff_forall_mem.mp hF) _ (Array.getElem_mem ha)) i (List.mem_range.mpr hi)
    simpa [Array.getElem?_eq_getElem hi] using q
  obtain ⟨hsets, hown0⟩ := atoms_of _ (rest_1_c_eq ▸ (show rest_1_c.before _ s = true from hrest))
  have hr0 := Cond.before_iff.mp hown0
  obtain ⟨i0, ei0⟩ := is_v hg21
  obtain rfl : w0 = (.int i0) := Option.some.inj ei0
  obtain ⟨i1, ei1⟩ := is_v hg221
  obtain rfl : w1 = (.int i1) := Option.some.inj ei1
  obtain ⟨i2, ei2⟩ := is_v hg2221
  obtain rfl : w2 = (.int i2) := Option.some.inj ei2
  obtain ⟨i3, ei3⟩ := is_v hg2222
  obtain rfl : w3 = (.int i3) := Option.some.inj ei3
  obtain ⟨hn1, hn2⟩ := and_e hn
  obtain ⟨hn21, hn22⟩ := and_e hn2
  obtain ⟨hn221, hn222⟩ := and_e hn22
  obtain ⟨hn2221, hn2222⟩ := and_e hn222
  obtain ⟨hn22221, hn22222⟩ := and_e hn2222
  obtain ⟨hn222221, hn222222⟩ := and_e hn22222
  obtain ⟨hn2222221, hn2222222⟩ := and_e hn222222
  obtain ⟨hn22222221, hn22222222⟩ := and_e hn2222222
  obtain ⟨hn222222221, hn222222222⟩ := and_e hn22222222
  obtain ⟨hn2222222221, hn2222222222⟩ := and_e hn222222222
  obtain ⟨hn22222222221, hn22222222222⟩ := and_e hn2222222222
  obtain ⟨hn222222222221, hn222222222222⟩ := and_e hn22222222222
  obtain ⟨hn2222222222221, hn2222222222222⟩ := and_e hn222222222222
  obtain ⟨hn22222222222221, hn22222222222222⟩ := and_e hn2222222222222
  obtain ⟨hn222222222222221, hn222222222222222⟩ := and_e hn22222222222222
  obtain ⟨hn2222222222222221, hn2222222222222222⟩ := and_e hn222222222222222
  obtain ⟨hn22222222222222221, hn22222222222222222⟩ := and_e hn2222222222222222
  obtain ⟨hn222222222222222221, hn222222222222222222⟩ := and_e hn22222222222222222
  obtain ⟨hn2222222222222222221, hn2222222222222222222⟩ := and_e hn222222222222222222
  obtain ⟨hn22222222222222222221, hn22222222222222222222⟩ := and_e hn2222222222222222222
  obtain ⟨hn222222222222222222221, hn222222222222222222222⟩ := and_e hn22222222222222222222
  obtain ⟨hn2222222222222222222221, hn2222222222222222222222⟩ := and_e hn222222222222222222222
  obtain ⟨hn22222222222222222222221, hn22222222222222222222222⟩ := and_e hn2222222222222222222222
  obtain ⟨hn222222222222222222222221, hn222222222222222222222222⟩ := and_e hn22222222222222222222222
  obtain ⟨hn2222222222222222222222221, hn2222222222222222222222222⟩ := and_e hn222222222222222222222222
  obtain ⟨hn22222222222222222222222221, hn22222222222222222222222222⟩ := and_e hn2222222222222222222222222
  obtain ⟨hn222222222222222222222222221, hn222222222222222222222222222⟩ := and_e hn22222222222222222222222222
  obtain ⟨hn2222222222222222222222222221, hn2222222222222222222222222222⟩ := and_e hn222222222222222222222222222
  obtain ⟨hn22222222222222222222222222221, hn22222222222222222222222222222⟩ := and_e hn2222222222222222222222222222
  obtain ⟨hn222222222222222222222222222221, hn222222222222222222222222222222⟩ := and_e hn22222222222222222222222222222
  obtain ⟨hn2222222222222222222222222222221, hn2222222222222222222222222222222⟩ := and_e hn222222222222222222222222222222
  obtain ⟨hn22222222222222222222222222222221, hn22222222222222222222222222222222⟩ := and_e hn2222222222222222222222222222222
  obtain ⟨hn222222222222222222222222222222221, hn222222222222222222222222222222222⟩ := and_e hn22222222222222222222222222222222
  obtain ⟨hn2222222222222222222222222222222221, hn2222222222222222222222222222222222⟩ := and_e hn222222222222222222222222222222222
  obtain ⟨hn22222222222222222222222222222222221, hn22222222222222222222222222222222222⟩ := and_e hn2222222222222222222222222222222222
  obtain ⟨hn222222222222222222222222222222222221, hn222222222222222222222222222222222222⟩ := and_e hn22222222222222222222222222222222222
  obtain ⟨hn2222222222222222222222222222222222221, hn2222222222222222222222222222222222222⟩ := and_e hn222222222222222222222222222222222222
  obtain ⟨hn22222222222222222222222222222222222221, hn22222222222222222222222222222222222222⟩ := and_e hn2222222222222222222222222222222222222
  obtain ⟨hn222222222222222222222222222222222222221, hn222222222222222222222222222222222222222⟩ := and_e hn22222222222222222222222222222222222222
  obtain ⟨hn2222222222222222222222222222222222222221, hn2222222222222222222222222222222222222222⟩ := and_e hn222222222222222222222222222222222222222
  obtain ⟨hn22222222222222222222222222222222222222221, hn22222222222222222222222222222222222222222⟩ := and_e hn2222222222222222222222222222222222222222
  have hs1 := Cond.before_iff.mp (hsets _ (List.mem_of_getElem? (i := 1) rfl))
  have hs2 := Cond.before_iff.mp (hsets _ (List.mem_of_getElem? (i := 2) rfl))
  have hs8 := Cond.before_iff.mp (hsets _ (List.mem_of_getElem? (i := 8) rfl))
  obtain ⟨w_z0, ev_w_z0⟩ := is_v hs1
  have S_q0 : Sta s s.heap "java/lang/String" "COMPACT_STRINGS" "Z" (.int w_z0) := Sta.start ev_w_z0 (Or.inl (hsets _ (List.mem_of_getElem? (i := 0) rfl)))
  have hz_w_z0 : ¬ w_z0 = (0 : Int32) := own_neInt ev_w_z0 hs2
  obtain ⟨w_z1, ev_w_z1, ir_w_z1⟩ := isR_v hs8
  have S_q2 : Sta s s.heap "jdk/internal/util/Preconditions" "SIOOBE_FORMATTER" "Ljava/util/function/BiFunction;" w_z1 := Sta.start ev_w_z1 (Or.inl (hsets _ (List.mem_of_getElem? (i := 7) rfl)))
  obtain ⟨w_z2, ev_w_z2⟩ := exa_v hn1
  have S_q4 : Sta s s.heap "com/example/lease/lease/WorkerState" "RUNNING" "Lcom/example/lease/lease/WorkerState;" (.ref w_z2) := Sta.start ev_w_z2 (Or.inr ⟨(ow hw 86 rfl), (ow hw 87 rfl)⟩)
  have E_z2 : Exa s s.heap w_z2 "com/example/lease/lease/WorkerState" := Exa.start ev_w_z2 hn1
  obtain ⟨w_z3, ev_w_z3⟩ := arr_v hn21
  have S_q6 : Sta s s.heap "com/example/lease/lease/WorkerState" "$VALUES" "[Lcom/example/lease/lease/WorkerState;" (.ref w_z3) := Sta.start ev_w_z3 (Or.inl (ow hw 105 rfl))
  have E_z3 : Exa s s.heap w_z3 "[Lcom/example/lease/lease/WorkerState;" := Exa.start ev_w_z3 hn221
  obtain ⟨w_z4, ev_w_z4⟩ := exa_v hn222221
  have S_q8 : Sta s s.heap "com/example/lease/lease/WorkerState" "QUIET" "Lcom/example/lease/lease/WorkerState;" (.ref w_z4) := Sta.start ev_w_z4 (Or.inr ⟨(ow hw 86 rfl), (ow hw 103 rfl)⟩)
  have E_z4 : Exa s s.heap w_z4 "com/example/lease/lease/WorkerState" := Exa.start ev_w_z4 hn222221
  obtain ⟨w_z5, ev_w_z5⟩ := exa_v hn22222221
  have S_q10 : Sta s s.heap "com/example/lease/lease/WorkerState" "TERMINATE" "Lcom/example/lease/lease/WorkerState;" (.ref w_z5) := Sta.start ev_w_z5 (Or.inr ⟨(ow hw 86 rfl), (ow hw 104 rfl)⟩)
  have E_z5 : Exa s s.heap w_z5 "com/example/lease/lease/WorkerState" := Exa.start ev_w_z5 hn22222221
  obtain ⟨w_z6, ev_w_z6⟩ := exa_v hn2222222221
  have F_shown_z2 : Fld s s.heap w_z2 "com/example/lease/lease/WorkerState" "shown" "Ljava/lang/String;" (.ref w_z6) := Fld.start ((fld_at ev_w_z2).symm.trans ev_w_z6)
  have E_z6 : Exa s s.heap w_z6 "java/lang/String" := Exa.start ev_w_z6 hn2222222221
  have evhn22222222221 := own_eqInt hn22222222221
  have F_coder_z6 : Fld s s.heap w_z6 "java/lang/String" "coder" "B" (.int (0 : Int32)) := Fld.start ((fld_at ev_w_z6).symm.trans evhn22222222221)
  obtain ⟨w_z7, ev_w_z7⟩ := arr_v hn222222222221
  have F_value_z6 : Fld s s.heap w_z6 "java/lang/String" "value" "[B" (.ref w_z7) := Fld.start ((fld_at ev_w_z6).symm.trans ev_w_z7)
  obtain ⟨w_z8, ev_w_z8⟩ := exa_v hn22222222222221
  have F_shown_z4 : Fld s s.heap w_z4 "com/example/lease/lease/WorkerState" "shown" "Ljava/lang/String;" (.ref w_z8) := Fld.start ((fld_at ev_w_z4).symm.trans ev_w_z8)
  have E_z8 : Exa s s.heap w_z8 "java/lang/String" := Exa.start ev_w_z8 hn22222222222221
  have evhn222222222222221 := own_eqInt hn222222222222221
  have F_coder_z8 : Fld s s.heap w_z8 "java/lang/String" "coder" "B" (.int (0 : Int32)) := Fld.start ((fld_at ev_w_z8).symm.trans evhn222222222222221)
  obtain ⟨w_z9, ev_w_z9⟩ := arr_v hn2222222222222221
  have F_value_z8 : Fld s s.heap w_z8 "java/lang/String" "value" "[B" (.ref w_z9) := Fld.start ((fld_at ev_w_z8).symm.trans ev_w_z9)
  obtain ⟨w_z10, ev_w_z10⟩ := exa_v hn222222222222222221
  have F_shown_z5 : Fld s s.heap w_z5 "com/example/lease/lease/WorkerState" "shown" "Ljava/lang/String;" (.ref w_z10) := Fld.start ((fld_at ev_w_z5).symm.trans ev_w_z10)
  have E_z10 : Exa s s.heap w_z10 "java/lang/String" := Exa.start ev_w_z10 hn222222222222222221
  have evhn2222222222222222221 := own_eqInt hn2222222222222222221
  have F_coder_z10 : Fld s s.heap w_z10 "java/lang/String" "coder" "B" (.int (0 : Int32)) := Fld.start ((fld_at ev_w_z10).symm.trans evhn2222222222222222221)
  obtain ⟨w_z11, ev_w_z11⟩ := arr_v hn22222222222222222221
  have F_value_z10 : Fld s s.heap w_z10 "java/lang/String" "value" "[B" (.ref w_z11) := Fld.start ((fld_at ev_w_z10).symm.trans ev_w_z11)
  obtain ⟨cl_w_z3, Ar_w_z3⟩ := Arr.start ev_w_z3 hn21
  have lv_w_z3 := own_eqInt hn2221
  obtain ⟨lq_w_z3, le_w_z3⟩ := own_len ev_w_z3 Ar_w_z3 lv_w_z3
  have el_w_z3_0 := elem_in (j := 0) (own_eqRef ev_w_z2 hn22221) ev_w_z3 rfl Ar_w_z3.1
  have el_w_z3_1 := elem_in (j := 1) (own_eqRef ev_w_z4 hn2222221) ev_w_z3 rfl Ar_w_z3.1
  have el_w_z3_2 := elem_in (j := 2) (own_eqRef ev_w_z5 hn222222221) ev_w_z3 rfl Ar_w_z3.1
  obtain ⟨k_z3, hk_w_z3⟩ : ∃ z, z = cl_w_z3.cls := ⟨_, rfl⟩
  have V_z3 : Arv s s.heap w_z3 k_z3 (.object "com/example/lease/lease/WorkerState") (3 : Int32) [(.ref w_z2), (.ref w_z4), (.ref w_z5)] .null := by rw [hk_w_z3]; exact Arv.start hfit Ar_w_z3 lq_w_z3 le_w_z3 (by decide) rfl ⟨el_w_z3_0.2, el_w_z3_1.2, el_w_z3_2.2, trivial⟩
  obtain ⟨cl_w_z7, Ar_w_z7⟩ := Arr.start ev_w_z7 hn222222222221
  have lv_w_z7 := own_eqInt hn2222222222221
  obtain ⟨lq_w_z7, le_w_z7⟩ := own_len ev_w_z7 Ar_w_z7 lv_w_z7
  have el_w_z7_0 := elem_in (j := 0) (own_eqInt hn2222222222222222222221) ev_w_z7 rfl Ar_w_z7.1
  have el_w_z7_1 := elem_in (j := 1) (own_eqInt hn22222222222222222222221) ev_w_z7 rfl Ar_w_z7.1
  have el_w_z7_2 := elem_in (j := 2) (own_eqInt hn222222222222222222222221) ev_w_z7 rfl Ar_w_z7.1
  have el_w_z7_3 := elem_in (j := 3) (own_eqInt hn2222222222222222222222221) ev_w_z7 rfl Ar_w_z7.1
  have el_w_z7_4 := elem_in (j := 4) (own_eqInt hn22222222222222222222222221) ev_w_z7 rfl Ar_w_z7.1
  have el_w_z7_5 := elem_in (j := 5) (own_eqInt hn222222222222222222222222221) ev_w_z7 rfl Ar_w_z7.1
  have el_w_z7_6 := elem_in (j := 6) (own_eqInt hn2222222222222222222222222221) ev_w_z7 rfl Ar_w_z7.1
  obtain ⟨k_z7, hk_w_z7⟩ : ∃ z, z = cl_w_z7.cls := ⟨_, rfl⟩
  have V_z7 : Arv s s.heap w_z7 k_z7 .byte (7 : Int32) [(.int (114 : Int32)), (.int (117 : Int32)), (.int (110 : Int32)), (.int (110 : Int32)), (.int (105 : Int32)), (.int (110 : Int32)), (.int (103 : Int32))] (.int (0 : Int32)) := by rw [hk_w_z7]; exact Arv.start hfit Ar_w_z7 lq_w_z7 le_w_z7 (by decide) rfl ⟨el_w_z7_0.2, el_w_z7_1.2, el_w_z7_2.2, el_w_z7_3.2, el_w_z7_4.2, el_w_z7_5.2, el_w_z7_6.2, trivial⟩
  obtain ⟨cl_w_z9, Ar_w_z9⟩ := Arr.start ev_w_z9 hn2222222222222221
  have lv_w_z9 := own_eqInt hn22222222222222221
  obtain ⟨lq_w_z9, le_w_z9⟩ := own_len ev_w_z9 Ar_w_z9 lv_w_z9
  have el_w_z9_0 := elem_in (j := 0) (own_eqInt hn22222222222222222222222222221) ev_w_z9 rfl Ar_w_z9.1
  have el_w_z9_1 := elem_in (j := 1) (own_eqInt hn222222222222222222222222222221) ev_w_z9 rfl Ar_w_z9.1
  have el_w_z9_2 := elem_in (j := 2) (own_eqInt hn2222222222222222222222222222221) ev_w_z9 rfl Ar_w_z9.1
  have el_w_z9_3 := elem_in (j := 3) (own_eqInt hn22222222222222222222222222222221) ev_w_z9 rfl Ar_w_z9.1
  have el_w_z9_4 := elem_in (j := 4) (own_eqInt hn222222222222222222222222222222221) ev_w_z9 rfl Ar_w_z9.1
  obtain ⟨k_z9, hk_w_z9⟩ : ∃ z, z = cl_w_z9.cls := ⟨_, rfl⟩
  have V_z9 : Arv s s.heap w_z9 k_z9 .byte (5 : Int32) [(.int (113 : Int32)), (.int (117 : Int32)), (.int (105 : Int32)), (.int (101 : Int32)), (.int (116 : Int32))] (.int (0 : Int32)) := by rw [hk_w_z9]; exact Arv.start hfit Ar_w_z9 lq_w_z9 le_w_z9 (by decide) rfl ⟨el_w_z9_0.2, el_w_z9_1.2, el_w_z9_2.2, el_w_z9_3.2, el_w_z9_4.2, trivial⟩
  obtain ⟨cl_w_z11, Ar_w_z11⟩ := Arr.start ev_w_z11 hn22222222222222222221
  have lv_w_z11 := own_eqInt hn222222222222222222221
  obtain ⟨lq_w_z11, le_w_z11⟩ := own_len ev_w_z11 Ar_w_z11 lv_w_z11
  have el_w_z11_0 := elem_in (j := 0) (own_eqInt hn2222222222222222222222222222222221) ev_w_z11 rfl Ar_w_z11.1
  have el_w_z11_1 := elem_in (j := 1) (own_eqInt hn22222222222222222222222222222222221) ev_w_z11 rfl Ar_w_z11.1
  have el_w_z11_2 := elem_in (j := 2) (own_eqInt hn222222222222222222222222222222222221) ev_w_z11 rfl Ar_w_z11.1
  have el_w_z11_3 := elem_in (j := 3) (own_eqInt hn2222222222222222222222222222222222221) ev_w_z11 rfl Ar_w_z11.1
  have el_w_z11_4 := elem_in (j := 4) (own_eqInt hn22222222222222222222222222222222222221) ev_w_z11 rfl Ar_w_z11.1
  have el_w_z11_5 := elem_in (j := 5) (own_eqInt hn222222222222222222222222222222222222221) ev_w_z11 rfl Ar_w_z11.1
  have el_w_z11_6 := elem_in (j := 6) (own_eqInt hn2222222222222222222222222222222222222221) ev_w_z11 rfl Ar_w_z11.1
  have el_w_z11_7 := elem_in (j := 7) (own_eqInt hn22222222222222222222222222222222222222221) ev_w_z11 rfl Ar_w_z11.1
  have el_w_z11_8 := elem_in (j := 8) (own_eqInt hn22222222222222222222222222222222222222222) ev_w_z11 rfl Ar_w_z11.1
  obtain ⟨k_z11, hk_w_z11⟩ : ∃ z, z = cl_w_z11.cls := ⟨_, rfl⟩
  have V_z11 : Arv s s.heap w_z11 k_z11 .byte (9 : Int32) [(.int (116 : Int32)), (.int (101 : Int32)), (.int (114 : Int32)), (.int (109 : Int32)), (.int (105 : Int32)), (.int (110 : Int32)), (.int (97 : Int32)), (.int (116 : Int32)), (.int (101 : Int32))] (.int (0 : Int32)) := by rw [hk_w_z11]; exact Arv.start hfit Ar_w_z11 lq_w_z11 le_w_z11 (by decide) rfl ⟨el_w_z11_0.2, el_w_z11_1.2, el_w_z11_2.2, el_w_z11_3.2, el_w_z11_4.2, el_w_z11_5.2, el_w_z11_6.2, el_w_z11_7.2, el_w_z11_8.2, trivial⟩
  have HW : Wd s w_z0 w_z1 w_z2 w_z3 w_z4 w_z5 w_z6 w_z7 w_z8 w_z9 w_z10 w_z11 k_z3 k_z7 k_z9 k_z11 := ⟨S_q0, hz_w_z0, S_q2, ir_w_z1, S_q4, E_z2, S_q6, E_z3, S_q8, E_z4, S_q10, E_z5, F_shown_z2, E_z6, F_coder_z6, F_value_z6, F_shown_z4, E_z8, F_coder_z8, F_value_z8, F_shown_z5, E_z10, F_coder_z10, F_value_z10, V_z3, V_z7, V_z9, V_z11⟩
  have hEL : EW s _ EL0 := (EW.cons (ow hw 5 rfl) (by decide) (EW.cons (ow hw 117 rfl) (by decide) (EW.cons (ow hw 112 rfl) (by decide) (EW.cons (ow hw 111 rfl) (by decide) (EW.cons (ow hw 119 rfl) (by decide) EW.nil)))))
  have hCH : CHv s EL0 s.vm s.heap := CHv.start hEL (fun p hp => hcalls.1 p hp) (hsets _ (List.mem_of_getElem? (i := 2) rfl)) (ow hw 8 rfl) (ow hw 7 rfl)
  obtain ⟨n, o, h1, h2, h3, _, L, rfl, ⟨rfl, N⟩, hCR, hq⟩ := rm0 l s _ hw tables_1 i0 i1 i2 i3 s.heap s.heap.size (Old.start s) hEL HW p e ha hc hk s m _ below hf ((Spec.applies_iff_loose hf).mp happ).1 ⟨rfl, State.Warmed39.refl s, rfl, hCH⟩ trivial
  refine ⟨n, _, h1, h2, h3, hpost _ _ _ _ _ _ ⟨Cond.after_iff.mpr rfl, Cond.after_iff.mpr (eq_i res_at (Term.int_eval (1)) rfl), trivial⟩ ⟨hq.1, hq.2.1, hq.2.2.1, (hq.2.2.2.sift fun y hy => Or.inr (N y hy)).mono (by decide) (by decide)⟩⟩
theorem main_1_1 : Claimed_1_1 := comes_1 fun _ _ _ _ _ _ h hF => ⟨h.1, hF⟩
theorem main_1_2 : Claimed_1_2 := comes_1 fun _ _ _ _ _ _ h hF => ⟨h.2.1, hF⟩
end Jvm.Pilot.@@N@@
namespace Jvm.Pilot.@@N@@
open Jvm Jvm.ClassFile Sem Op Lib Jvm.Free Jvm.Stand Jvm.Pilot.@@N@@.Jvm.D
/-! MADE BY PROGRAM (witnessworld.py) out of the Statement's table words and the real class files: 23 classes; the members and pool entries that the words name. The judged class is class 1, her method 1. -/
namespace start1
open Jvm.ClassFile
def u (s : String) : CpInfo := .utf8 (stringToUtf16 s)
/-- a pool by its gaps: so many unusable entries, then the entry; so many at the end -/
def gap : Nat → List CpInfo → List CpInfo
  | 0, r => r
  | n + 1, r => .unusable :: gap n r
def poolList (es : List (Nat × CpInfo)) (last : Nat) : List CpInfo := es.foldr (fun e r => gap e.1 (e.2 :: r)) (gap last [])
def pool (es : List (Nat × CpInfo)) (last : Nat) : Array CpInfo := ⟨poolList es last⟩
def fileOf (pool : Array CpInfo) (this : Nat) (attrs : Array Attribute := #[]) (ms : Array MethodInfo := #[]) (fl : Nat := 33) (sup : Nat := 0) (ifs : Array Nat := #[]) (fds : Array FieldInfo := #[]) : ClassFile where
  minorVersion := 0
  majorVersion := 65
  constantPool := pool
  accessFlags := fl
  thisClass := this
  superClass := sup
  interfaces := ifs
  fields := fds
  methods := ms
  attributes := attrs
def plain (name : String) (sup : Option ClassId) : Class where
  name := name
  kind := .ordinary
  loader := none
  accessFlags := 33
  super := sup
  interfaces := #[]
  cf := none
  fields := #[]
  methods := #[]
  instanceTypes := #[]
  staticTypes := #[]
  resolved := #[]
  callSites := []
  init := .initialized
  statics := none
  mirror := none

def pool0 : Array CpInfo := pool [(5, u "<init>"), (0, u "()V"), (1, .class_ 10), (1, u "java/lang/Object"), (85, u "clone"), (0, u "()Ljava/lang/Object;")] 26

def k0c0 : Code := { maxStack := 0, maxLocals := 1, code := object_method_1_code, exceptionTable := #[], attributes := #[] }
def k0m0 : Method := { name := "<init>", desc := "()V", sig := { parameters := [], returnType := none }, accessFlags := 1, code := some k0c0 }
def k0m1 : Method := { name := "clone", desc := "()Ljava/lang/Object;", sig := { parameters := [], returnType := some (.object "java/lang/Object") }, accessFlags := 260, code := none }
/-- java/lang/Object -/
def k0 : Class := { plain "java/lang/Object" none with
  accessFlags := 33
  interfaces := #[]
  cf := some (fileOf pool0 8 #[] #[{ accessFlags := 1, nameIndex := 5, descriptorIndex := 6, attributes := #[] }, { accessFlags := 260, nameIndex := 96, descriptorIndex := 97, attributes := #[] }] 33 0 #[] #[])
  fields := #[]
  methods := #[k0m0, k0m1]
  instanceTypes := #[]
  staticTypes := #[]
  resolved := Array.replicate 124 none
  statics := none }

def pool1 : Array CpInfo := pool [(2, .class_ 4), (1, u "java/lang/Object"), (0, u "<init>"), (0, u "()V"), (0, .integer 2147483647), (0, .methodref 9 10), (0, .class_ 11), (0, .nameAndType 12 13), (0, u "com/example/lease/lease/WorkerStateNamedPinLaw"), (0, u "name"), (0, u "(I)Ljava/lang/String;"), (0, .methodref 15 16), (0, .class_ 17), (0, .nameAndType 18 19), (0, u "java/lang/String"), (0, u "length"), (0, u "()I"), (0, .methodref 21 22), (0, .class_ 23), (0, .nameAndType 24 25), (0, u "java/lang/Math"), (0, u "max"), (0, u "(II)I"), (0, .methodref 9 27), (0, .nameAndType 28 29), (0, u "make"), (0, u "(IIIC)Ljava/lang/String;"), (0, .string 31), (0, u "running"), (0, .methodref 15 33), (0, .nameAndType 34 35), (0, u "equals"), (0, u "(Ljava/lang/Object;)Z"), (0, .fieldref 37 38), (0, .class_ 39), (0, .nameAndType 40 41), (0, u "com/example/lease/lease/WorkerState"), (0, u "RUNNING"), (0, u "Lcom/example/lease/lease/WorkerState;"), (0, .string 43), (0, u "quiet"), (0, .fieldref 37 45), (0, .nameAndType 46 41), (0, u "QUIET"), (0, .string 48), (0, u "terminate"), (0, .fieldref 37 50), (0, .nameAndType 51 41), (0, u "TERMINATE"), (0, .methodref 37 53), (0, .nameAndType 54 55), (0, u "named"), (0, u "(Ljava/lang/String;)Lcom/example/lease/lease/WorkerState;"), (0, .string 57), (0, u ""), (0, .methodref 15 59), (0, .nameAndType 60 61), (0, u "charAt"), (0, u "(I)C"), (0, .methodref 15 63), (0, .nameAndType 5 64), (0, u "([C)V"), (0, .methodref 9 66), (0, .nameAndType 67 68), (0, u "a"), (0, u "(IIIC)C"), (2, u "law"), (0, u "(IIII)Z")] 3

def k1m0 : Method := { name := "<init>", desc := "()V", sig := { parameters := [], returnType := none }, accessFlags := 1, code := none }
def k1c1 : Code := { maxStack := 4, maxLocals := 12, code := code, exceptionTable := #[], attributes := #[] }
def k1m1 : Method := { name := "law", desc := "(IIII)Z", sig := { parameters := [.int, .int, .int, .int], returnType := some .boolean }, accessFlags := 9, code := some k1c1 }
def k1c2 : Code := { maxStack := 2, maxLocals := 1, code := method_3_code, exceptionTable := #[], attributes := #[] }
def k1m2 : Method := { name := "name", desc := "(I)Ljava/lang/String;", sig := { parameters := [.int], returnType := some (.object "java/lang/String") }, accessFlags := 10, code := some k1c2 }
def k1c3 : Code := { maxStack := 2, maxLocals := 5, code := method_4_code, exceptionTable := #[], attributes := #[] }
def k1m3 : Method := { name := "a", desc := "(IIIC)C", sig := { parameters := [.int, .int, .int, .char], returnType := some .char }, accessFlags := 10, code := some k1c3 }
def k1c4 : Code := { maxStack := 9, maxLocals := 4, code := method_5_code, exceptionTable := #[], attributes := #[] }
def k1m4 : Method := { name := "make", desc := "(IIIC)Ljava/lang/String;", sig := { parameters := [.int, .int, .int, .char], returnType := some (.object "java/lang/String") }, accessFlags := 10, code := some k1c4 }
/-- com/example/lease/lease/WorkerStateNamedPinLaw -/
def k1 : Class := { plain "com/example/lease/lease/WorkerStateNamedPinLaw" (some 0) with
  accessFlags := 49
  interfaces := #[]
  cf := some (fileOf pool1 9 #[] #[{ accessFlags := 1, nameIndex := 5, descriptorIndex := 6, attributes := #[] }, { accessFlags := 9, nameIndex := 71, descriptorIndex := 72, attributes := #[] }, { accessFlags := 10, nameIndex := 12, descriptorIndex := 13, attributes := #[] }, { accessFlags := 10, nameIndex := 67, descriptorIndex := 68, attributes := #[] }, { accessFlags := 10, nameIndex := 28, descriptorIndex := 29, attributes := #[] }] 49 2 #[] #[])
  fields := #[]
  methods := #[k1m0, k1m1, k1m2, k1m3, k1m4]
  instanceTypes := #[]
  staticTypes := #[]
  resolved := Array.replicate 76 none
  statics := none }

def pool2 : Array CpInfo := pool [(1, .class_ 2), (0, u "java/io/Serializable"), (0, .class_ 4), (0, u "java/lang/Object")] 2

/-- java/io/Serializable -/
def k2 : Class := { plain "java/io/Serializable" (some 0) with
  accessFlags := 1537
  interfaces := #[]
  cf := some (fileOf pool2 1 #[] #[] 1537 3 #[] #[])
  fields := #[]
  methods := #[]
  instanceTypes := #[]
  staticTypes := #[]
  resolved := Array.replicate 7 none
  statics := none }

def pool3 : Array CpInfo := pool [(1, .class_ 2), (0, u "java/lang/Comparable"), (0, .class_ 4), (0, u "java/lang/Object")] 7

/-- java/lang/Comparable -/
def k3 : Class := { plain "java/lang/Comparable" (some 0) with
  accessFlags := 1537
  interfaces := #[]
  cf := some (fileOf pool3 1 #[] #[] 1537 3 #[] #[])
  fields := #[]
  methods := #[]
  instanceTypes := #[]
  staticTypes := #[]
  resolved := Array.replicate 12 none
  statics := none }

def pool4 : Array CpInfo := pool [(2, .class_ 4), (1, u "java/lang/CharSequence"), (42, .class_ 48), (0, u "java/lang/CharSequence$1CodePointIterator"), (10, .class_ 60), (0, u "java/lang/CharSequence$1CharIterator"), (5, .class_ 67), (0, u "java/lang/Object")] 63

/-- java/lang/CharSequence -/
def k4 : Class := { plain "java/lang/CharSequence" (some 0) with
  accessFlags := 1537
  interfaces := #[]
  cf := some (fileOf pool4 2 #[.nestMembers #[47, 59]] #[] 1537 66 #[] #[])
  fields := #[]
  methods := #[]
  instanceTypes := #[]
  staticTypes := #[]
  resolved := Array.replicate 131 none
  statics := none }

def pool5 : Array CpInfo := pool [(1, .class_ 2), (0, u "java/lang/constant/Constable"), (0, .class_ 4), (0, u "java/lang/Object")] 6

/-- java/lang/constant/Constable -/
def k5 : Class := { plain "java/lang/constant/Constable" (some 0) with
  accessFlags := 1537
  interfaces := #[]
  cf := some (fileOf pool5 1 #[] #[] 1537 3 #[] #[])
  fields := #[]
  methods := #[]
  instanceTypes := #[]
  staticTypes := #[]
  resolved := Array.replicate 11 none
  statics := none }

def pool6 : Array CpInfo := pool [(1, .class_ 2), (0, u "java/lang/constant/ConstantDesc"), (0, .class_ 4), (0, u "java/lang/Object")] 32

/-- java/lang/constant/ConstantDesc -/
def k6 : Class := { plain "java/lang/constant/ConstantDesc" (some 0) with
  accessFlags := 1537
  interfaces := #[]
  cf := some (fileOf pool6 1 #[] #[] 1537 3 #[] #[])
  fields := #[]
  methods := #[]
  instanceTypes := #[]
  staticTypes := #[]
  resolved := Array.replicate 37 none
  statics := none }

def pool7 : Array CpInfo := pool [(1, .methodref 2 3), (0, .class_ 4), (0, .nameAndType 5 6), (0, u "java/lang/Object"), (0, u "<init>"), (0, u "()V"), (0, .string 8), (0, u ""), (0, .fieldref 10 11), (0, .class_ 12), (0, .nameAndType 13 14), (0, u "java/lang/String"), (0, u "value"), (0, u "[B"), (0, .fieldref 10 16), (0, .nameAndType 17 18), (0, u "coder"), (0, u "B"), (2, u "hash"), (0, u "I"), (2, u "hashIsZero"), (0, u "Z"), (0, .methodref 10 28), (0, .nameAndType 5 29), (0, u "([CIILjava/lang/Void;)V"), (8, .fieldref 10 39), (0, .nameAndType 40 26), (0, u "COMPACT_STRINGS"), (1, .class_ 44), (1, u "java/lang/StringUTF16"), (0, u "compress"), (1, .methodref 42 48), (0, .nameAndType 49 50), (0, u "coderFromArrayLen"), (0, u "([BI)B"), (56, .class_ 109), (1, u "java/lang/StringLatin1"), (32, u "()Z"), (34, .methodref 42 178), (0, .nameAndType 45 179), (0, u "([CII)[B"), (154, u "()I"), (0, .methodref 10 336), (0, .nameAndType 17 337), (0, u "()B"), (25, u "([BI)C"), (27, u "(II)V"), (35, u "(I)C"), (64, .methodref 10 493), (0, .nameAndType 494 142), (0, u "isLatin1"), (0, .methodref 107 496), (0, .nameAndType 497 363), (0, u "charAt"), (3, u "checkIndex"), (5, u "length"), (33, .methodref 107 542), (0, .nameAndType 543 544), (0, u "equals"), (0, u "([B[B)Z"), (28, u "(Ljava/lang/Object;)Z"), (1, .class_ 576), (0, u "java/lang/CharSequence"), (22, u "CASE_INSENSITIVE_ORDER"), (0, u "Ljava/util/Comparator;"), (409, u "([C)V"), (42, .fieldref 1054 1055), (0, .class_ 1056), (0, .nameAndType 1057 1058), (0, u "jdk/internal/util/Preconditions"), (0, u "SIOOBE_FORMATTER"), (0, u "Ljava/util/function/BiFunction;"), (0, .methodref 1054 1060), (0, .nameAndType 501 1061), (0, u "(IILjava/util/function/BiFunction;)I"), (39, u "serialPersistentFields"), (0, u "[Ljava/io/ObjectStreamField;"), (0, .class_ 1104), (0, u "java/lang/String$CaseInsensitiveComparator"), (1, .class_ 1107), (0, u "java/io/Serializable"), (0, .class_ 1109), (0, u "java/lang/Comparable"), (0, .class_ 1111), (0, u "java/lang/constant/Constable"), (0, .class_ 1113), (0, u "java/lang/constant/ConstantDesc"), (2, u "serialVersionUID"), (0, u "J"), (3, u "REPL"), (0, u "C"), (2, u "LATIN1"), (1, u "UTF16")] 323

def k7m0 : Method := { name := "<init>", desc := "()V", sig := { parameters := [], returnType := none }, accessFlags := 1, code := none }
def k7c1 : Code := { maxStack := 5, maxLocals := 2, code := jdk_42_method_3_code, exceptionTable := #[], attributes := #[] }
def k7m1 : Method := { name := "<init>", desc := "([C)V", sig := { parameters := [(.array .char)], returnType := none }, accessFlags := 1, code := some k7c1 }
def k7c2 : Code := { maxStack := 2, maxLocals := 1, code := jdk_42_method_54_code, exceptionTable := #[], attributes := #[] }
def k7m2 : Method := { name := "length", desc := "()I", sig := { parameters := [], returnType := some .int }, accessFlags := 1, code := some k7c2 }
def k7c3 : Code := { maxStack := 2, maxLocals := 2, code := jdk_42_method_56_code, exceptionTable := #[], attributes := #[] }
def k7m3 : Method := { name := "charAt", desc := "(I)C", sig := { parameters := [.int], returnType := some .char }, accessFlags := 1, code := some k7c3 }
def k7c4 : Code := { maxStack := 2, maxLocals := 3, code := jdk_42_method_66_code, exceptionTable := #[], attributes := #[] }
def k7m4 : Method := { name := "equals", desc := "(Ljava/lang/Object;)Z", sig := { parameters := [(.object "java/lang/Object")], returnType := some .boolean }, accessFlags := 1, code := some k7c4 }
def k7c5 : Code := { maxStack := 4, maxLocals := 6, code := jdk_42_method_149_code, exceptionTable := #[], attributes := #[] }
def k7m5 : Method := { name := "<init>", desc := "([CIILjava/lang/Void;)V", sig := { parameters := [(.array .char), .int, .int, (.object "java/lang/Void")], returnType := none }, accessFlags := 2, code := some k7c5 }
def k7c6 : Code := { maxStack := 1, maxLocals := 1, code := jdk_42_method_152_code, exceptionTable := #[], attributes := #[] }
def k7m6 : Method := { name := "coder", desc := "()B", sig := { parameters := [], returnType := some .byte }, accessFlags := 0, code := some k7c6 }
def k7c7 : Code := { maxStack := 1, maxLocals := 1, code := jdk_42_method_154_code, exceptionTable := #[], attributes := #[] }
def k7m7 : Method := { name := "isLatin1", desc := "()Z", sig := { parameters := [], returnType := some .boolean }, accessFlags := 0, code := some k7c7 }
def k7c8 : Code := { maxStack := 3, maxLocals := 2, code := jdk_42_method_155_code, exceptionTable := #[], attributes := #[] }
def k7m8 : Method := { name := "checkIndex", desc := "(II)V", sig := { parameters := [.int, .int], returnType := none }, accessFlags := 8, code := some k7c8 }
/-- java/lang/String -/
def k7 : Class := { plain "java/lang/String" (some 0) with
  accessFlags := 49
  interfaces := #[2, 3, 4, 5, 6]
  cf := some (fileOf pool7 10 #[.nestMembers #[1103]] #[{ accessFlags := 1, nameIndex := 5, descriptorIndex := 6, attributes := #[] }, { accessFlags := 1, nameIndex := 5, descriptorIndex := 1010, attributes := #[] }, { accessFlags := 1, nameIndex := 507, descriptorIndex := 334, attributes := #[] }, { accessFlags := 1, nameIndex := 497, descriptorIndex := 427, attributes := #[] }, { accessFlags := 1, nameIndex := 543, descriptorIndex := 573, attributes := #[] }, { accessFlags := 2, nameIndex := 5, descriptorIndex := 29, attributes := #[] }, { accessFlags := 0, nameIndex := 17, descriptorIndex := 337, attributes := #[] }, { accessFlags := 0, nameIndex := 494, descriptorIndex := 142, attributes := #[] }, { accessFlags := 8, nameIndex := 501, descriptorIndex := 391, attributes := #[] }] 49 2 #[1106, 1108, 575, 1110, 1112] #[{ accessFlags := 18, nameIndex := 13, descriptorIndex := 14, attributes := #[] }, { accessFlags := 18, nameIndex := 17, descriptorIndex := 18, attributes := #[] }, { accessFlags := 2, nameIndex := 21, descriptorIndex := 22, attributes := #[] }, { accessFlags := 2, nameIndex := 25, descriptorIndex := 26, attributes := #[] }, { accessFlags := 26, nameIndex := 1116, descriptorIndex := 1117, attributes := #[] }, { accessFlags := 24, nameIndex := 40, descriptorIndex := 26, attributes := #[] }, { accessFlags := 26, nameIndex := 1101, descriptorIndex := 1102, attributes := #[] }, { accessFlags := 26, nameIndex := 1121, descriptorIndex := 1122, attributes := #[] }, { accessFlags := 25, nameIndex := 599, descriptorIndex := 600, attributes := #[] }, { accessFlags := 24, nameIndex := 1125, descriptorIndex := 18, attributes := #[] }, { accessFlags := 24, nameIndex := 1127, descriptorIndex := 18, attributes := #[] }])
  fields := #[{ name := "value", type := (.array .byte), accessFlags := 18, slot := 0, constantValue := 0 }, { name := "coder", type := .byte, accessFlags := 18, slot := 1, constantValue := 0 }, { name := "hash", type := .int, accessFlags := 2, slot := 2, constantValue := 0 }, { name := "hashIsZero", type := .boolean, accessFlags := 2, slot := 3, constantValue := 0 }, { name := "serialVersionUID", type := .long, accessFlags := 26, slot := 0, constantValue := 0 }, { name := "COMPACT_STRINGS", type := .boolean, accessFlags := 24, slot := 1, constantValue := 0 }, { name := "serialPersistentFields", type := (.array (.object "java/io/ObjectStreamField")), accessFlags := 26, slot := 2, constantValue := 0 }, { name := "REPL", type := .char, accessFlags := 26, slot := 3, constantValue := 0 }, { name := "CASE_INSENSITIVE_ORDER", type := (.object "java/util/Comparator"), accessFlags := 25, slot := 4, constantValue := 0 }, { name := "LATIN1", type := .byte, accessFlags := 24, slot := 5, constantValue := 0 }, { name := "UTF16", type := .byte, accessFlags := 24, slot := 6, constantValue := 0 }]
  methods := #[k7m0, k7m1, k7m2, k7m3, k7m4, k7m5, k7m6, k7m7, k7m8]
  instanceTypes := #[(.array .byte), .byte, .int, .boolean]
  staticTypes := #[.long, .boolean, (.array (.object "java/io/ObjectStreamField")), .char, (.object "java/util/Comparator"), .byte, .byte]
  resolved := Array.replicate 1451 none
  statics := some 0 }

def pool8 : Array CpInfo := pool [(1, .class_ 2), (0, u "java/lang/String"), (1, .class_ 6), (1, u "java/lang/Object"), (0, u "<init>"), (0, u "()V"), (0, .methodref 1 10), (0, .nameAndType 11 12), (0, u "checkIndex"), (0, u "(II)V"), (1, .class_ 16), (1, u "java/lang/StringLatin1"), (36, u "([BI)C"), (67, u "$assertionsDisabled"), (0, u "Z"), (98, .class_ 223), (1, u "java/lang/StringLatin1$LinesSpliterator"), (28, u "charAt"), (28, u "equals"), (0, u "([B[B)Z"), (107, .class_ 391), (0, u "java/lang/StringLatin1$CharsSpliterator")] 3

def k8m0 : Method := { name := "<init>", desc := "()V", sig := { parameters := [], returnType := none }, accessFlags := 0, code := none }
def k8c1 : Code := { maxStack := 2, maxLocals := 2, code := jdk_43_method_2_code, exceptionTable := #[], attributes := #[] }
def k8m1 : Method := { name := "charAt", desc := "([BI)C", sig := { parameters := [(.array .byte), .int], returnType := some .char }, accessFlags := 9, code := some k8c1 }
def k8c2 : Code := { maxStack := 3, maxLocals := 3, code := jdk_43_method_13_code, exceptionTable := #[], attributes := #[] }
def k8m2 : Method := { name := "equals", desc := "([B[B)Z", sig := { parameters := [(.array .byte), (.array .byte)], returnType := some .boolean }, accessFlags := 9, code := some k8c2 }
/-- java/lang/StringLatin1 -/
def k8 : Class := { plain "java/lang/StringLatin1" (some 0) with
  accessFlags := 48
  interfaces := #[]
  cf := some (fileOf pool8 14 #[.nestMembers #[390, 221]] #[{ accessFlags := 0, nameIndex := 7, descriptorIndex := 8, attributes := #[] }, { accessFlags := 9, nameIndex := 252, descriptorIndex := 53, attributes := #[] }, { accessFlags := 9, nameIndex := 281, descriptorIndex := 282, attributes := #[] }] 48 4 #[] #[{ accessFlags := 4120, nameIndex := 121, descriptorIndex := 122, attributes := #[] }])
  fields := #[{ name := "$assertionsDisabled", type := .boolean, accessFlags := 4120, slot := 0, constantValue := 0 }]
  methods := #[k8m0, k8m1, k8m2]
  instanceTypes := #[]
  staticTypes := #[.boolean]
  resolved := Array.replicate 395 none
  statics := none }

def pool9 : Array CpInfo := pool [(2, .class_ 4), (1, u "java/lang/Object"), (0, u "<init>"), (0, u "()V"), (17, .class_ 26), (1, u "jdk/internal/util/Preconditions"), (6, u "checkIndex"), (21, .class_ 56), (0, u "jdk/internal/util/Preconditions$4"), (57, .class_ 115), (0, u "jdk/internal/util/Preconditions$1"), (7, u "SIOOBE_FORMATTER"), (0, u "Ljava/util/function/BiFunction;"), (0, .class_ 126), (0, u "jdk/internal/util/Preconditions$2"), (3, u "AIOOBE_FORMATTER"), (0, .class_ 132), (0, u "jdk/internal/util/Preconditions$3"), (3, u "IOOBE_FORMATTER"), (41, u "(IILjava/util/function/BiFunction;)I")] 15

def k9m0 : Method := { name := "<init>", desc := "()V", sig := { parameters := [], returnType := none }, accessFlags := 1, code := none }
def k9c1 : Code := { maxStack := 3, maxLocals := 3, code := jdk_41_method_11_code, exceptionTable := #[], attributes := #[] }
def k9m1 : Method := { name := "checkIndex", desc := "(IILjava/util/function/BiFunction;)I", sig := { parameters := [.int, .int, (.object "java/util/function/BiFunction")], returnType := some .int }, accessFlags := 9, code := some k9c1 }
/-- jdk/internal/util/Preconditions -/
def k9 : Class := { plain "jdk/internal/util/Preconditions" (some 0) with
  accessFlags := 33
  interfaces := #[]
  cf := some (fileOf pool9 24 #[.nestMembers #[55, 131, 125, 114]] #[{ accessFlags := 1, nameIndex := 5, descriptorIndex := 6, attributes := #[] }, { accessFlags := 9, nameIndex := 33, descriptorIndex := 178, attributes := #[] }] 33 2 #[] #[{ accessFlags := 25, nameIndex := 123, descriptorIndex := 124, attributes := #[] }, { accessFlags := 25, nameIndex := 130, descriptorIndex := 124, attributes := #[] }, { accessFlags := 25, nameIndex := 136, descriptorIndex := 124, attributes := #[] }])
  fields := #[{ name := "SIOOBE_FORMATTER", type := (.object "java/util/function/BiFunction"), accessFlags := 25, slot := 0, constantValue := 0 }, { name := "AIOOBE_FORMATTER", type := (.object "java/util/function/BiFunction"), accessFlags := 25, slot := 1, constantValue := 0 }, { name := "IOOBE_FORMATTER", type := (.object "java/util/function/BiFunction"), accessFlags := 25, slot := 2, constantValue := 0 }]
  methods := #[k9m0, k9m1]
  instanceTypes := #[]
  staticTypes := #[(.object "java/util/function/BiFunction"), (.object "java/util/function/BiFunction"), (.object "java/util/function/BiFunction")]
  resolved := Array.replicate 194 none
  statics := some 1 }

def pool10 : Array CpInfo := pool [(6, .class_ 8), (1, u "java/lang/Object"), (0, u "<init>"), (0, u "()V"), (1, .class_ 14), (1, u "java/lang/StringUTF16"), (31, u "$assertionsDisabled"), (0, u "Z"), (13, u "HI_BYTE_SHIFT"), (0, u "I"), (2, u "LO_BYTE_SHIFT"), (49, .methodref 12 116), (0, .nameAndType 117 118), (0, u "compress"), (0, u "([CI[BII)I"), (3, u "([CII)[B"), (138, u "coderFromArrayLen"), (0, u "([BI)B"), (106, .class_ 371), (1, u "java/lang/StringUTF16$LinesSpliterator"), (58, u "MAX_LENGTH"), (196, .class_ 628), (0, u "java/lang/StringUTF16$CodePointsSpliterator"), (0, .class_ 630), (0, u "java/lang/StringUTF16$CharsSpliterator")] 4

def k10m0 : Method := { name := "<init>", desc := "()V", sig := { parameters := [], returnType := none }, accessFlags := 0, code := none }
def k10c1 : Code := { maxStack := 2, maxLocals := 2, code := jdk_52_method_15_code, exceptionTable := #[], attributes := #[] }
def k10m1 : Method := { name := "coderFromArrayLen", desc := "([BI)B", sig := { parameters := [(.array .byte), .int], returnType := some .byte }, accessFlags := 8, code := some k10c1 }
def k10c2 : Code := { maxStack := 5, maxLocals := 6, code := jdk_52_method_16_code, exceptionTable := #[], attributes := #[] }
def k10m2 : Method := { name := "compress", desc := "([CII)[B", sig := { parameters := [(.array .char), .int, .int], returnType := some (.array .byte) }, accessFlags := 9, code := some k10c2 }
def k10c3 : Code := { maxStack := 3, maxLocals := 7, code := jdk_52_method_21_code, exceptionTable := #[], attributes := #[] }
def k10m3 : Method := { name := "compress", desc := "([CI[BII)I", sig := { parameters := [(.array .char), .int, (.array .byte), .int, .int], returnType := some .int }, accessFlags := 9, code := some k10c3 }
/-- java/lang/StringUTF16 -/
def k10 : Class := { plain "java/lang/StringUTF16" (some 0) with
  accessFlags := 48
  interfaces := #[]
  cf := some (fileOf pool10 12 #[.nestMembers #[627, 629, 369]] #[{ accessFlags := 0, nameIndex := 9, descriptorIndex := 10, attributes := #[] }, { accessFlags := 8, nameIndex := 261, descriptorIndex := 262, attributes := #[] }, { accessFlags := 9, nameIndex := 117, descriptorIndex := 122, attributes := #[] }, { accessFlags := 9, nameIndex := 117, descriptorIndex := 118, attributes := #[] }] 48 6 #[] #[{ accessFlags := 26, nameIndex := 61, descriptorIndex := 62, attributes := #[] }, { accessFlags := 26, nameIndex := 65, descriptorIndex := 62, attributes := #[] }, { accessFlags := 24, nameIndex := 430, descriptorIndex := 62, attributes := #[] }, { accessFlags := 4120, nameIndex := 46, descriptorIndex := 47, attributes := #[] }])
  fields := #[{ name := "HI_BYTE_SHIFT", type := .int, accessFlags := 26, slot := 0, constantValue := 0 }, { name := "LO_BYTE_SHIFT", type := .int, accessFlags := 26, slot := 1, constantValue := 0 }, { name := "MAX_LENGTH", type := .int, accessFlags := 24, slot := 2, constantValue := 0 }, { name := "$assertionsDisabled", type := .boolean, accessFlags := 4120, slot := 3, constantValue := 0 }]
  methods := #[k10m0, k10m1, k10m2, k10m3]
  instanceTypes := #[]
  staticTypes := #[.int, .int, .int, .boolean]
  resolved := Array.replicate 635 none
  statics := none }

def pool11 : Array CpInfo := pool [(2, .class_ 4), (1, u "java/lang/Enum"), (0, u "name"), (0, u "Ljava/lang/String;"), (2, u "ordinal"), (0, u "I"), (1, .class_ 14), (1, u "java/lang/Object"), (4, u "hash"), (86, .class_ 108), (1, u "java/lang/Enum$EnumDesc"), (2, .class_ 112), (0, u "java/lang/constant/Constable"), (0, .class_ 114), (0, u "java/lang/Comparable"), (0, .class_ 116), (0, u "java/io/Serializable")] 87

/-- java/lang/Enum -/
def k11 : Class := { plain "java/lang/Enum" (some 0) with
  accessFlags := 1057
  interfaces := #[5, 3, 2]
  cf := some (fileOf pool11 2 #[.nestMembers #[106]] #[] 1057 12 #[111, 113, 115] #[{ accessFlags := 18, nameIndex := 5, descriptorIndex := 6, attributes := #[] }, { accessFlags := 18, nameIndex := 9, descriptorIndex := 10, attributes := #[] }, { accessFlags := 2, nameIndex := 19, descriptorIndex := 10, attributes := #[] }])
  fields := #[{ name := "name", type := (.object "java/lang/String"), accessFlags := 18, slot := 0, constantValue := 0 }, { name := "ordinal", type := .int, accessFlags := 18, slot := 1, constantValue := 0 }, { name := "hash", type := .int, accessFlags := 2, slot := 2, constantValue := 0 }]
  methods := #[]
  instanceTypes := #[(.object "java/lang/String"), .int, .int]
  staticTypes := #[]
  resolved := Array.replicate 204 none
  statics := none }

def pool12 : Array CpInfo := pool [(1, .class_ 2), (0, u "com/example/lease/lease/WorkerState"), (2, u "RUNNING"), (0, u "Lcom/example/lease/lease/WorkerState;"), (2, u "QUIET"), (2, u "TERMINATE"), (0, .fieldref 1 14), (0, .nameAndType 15 16), (0, u "$VALUES"), (0, u "[Lcom/example/lease/lease/WorkerState;"), (0, .methodref 18 19), (0, .class_ 16), (0, .nameAndType 20 21), (0, u "clone"), (0, u "()Ljava/lang/Object;"), (1, .class_ 25), (1, u "java/lang/Enum"), (17, .class_ 45), (1, u "java/lang/String"), (2, .fieldref 1 49), (0, .nameAndType 50 51), (0, u "shown"), (0, u "Ljava/lang/String;"), (4, .methodref 1 57), (0, .nameAndType 58 59), (0, u "values"), (0, u "()[Lcom/example/lease/lease/WorkerState;"), (0, .methodref 43 61), (0, .nameAndType 62 63), (0, u "equals"), (0, u "(Ljava/lang/Object;)Z"), (9, u "(Ljava/lang/String;)Lcom/example/lease/lease/WorkerState;"), (6, u "named")] 4

def k12c0 : Code := { maxStack := 1, maxLocals := 0, code := prog_10_method_1_code, exceptionTable := #[], attributes := #[] }
def k12m0 : Method := { name := "values", desc := "()[Lcom/example/lease/lease/WorkerState;", sig := { parameters := [], returnType := some (.array (.object "com/example/lease/lease/WorkerState")) }, accessFlags := 9, code := some k12c0 }
def k12c1 : Code := { maxStack := 2, maxLocals := 6, code := prog_10_method_6_code, exceptionTable := #[], attributes := #[] }
def k12m1 : Method := { name := "named", desc := "(Ljava/lang/String;)Lcom/example/lease/lease/WorkerState;", sig := { parameters := [(.object "java/lang/String")], returnType := some (.object "com/example/lease/lease/WorkerState") }, accessFlags := 8, code := some k12c1 }
/-- com/example/lease/lease/WorkerState -/
def k12 : Class := { plain "com/example/lease/lease/WorkerState" (some 11) with
  accessFlags := 16432
  interfaces := #[]
  cf := some (fileOf pool12 1 #[] #[{ accessFlags := 9, nameIndex := 58, descriptorIndex := 59, attributes := #[] }, { accessFlags := 8, nameIndex := 80, descriptorIndex := 73, attributes := #[] }] 16432 23 #[] #[{ accessFlags := 16409, nameIndex := 5, descriptorIndex := 6, attributes := #[] }, { accessFlags := 16409, nameIndex := 9, descriptorIndex := 6, attributes := #[] }, { accessFlags := 16409, nameIndex := 12, descriptorIndex := 6, attributes := #[] }, { accessFlags := 18, nameIndex := 50, descriptorIndex := 51, attributes := #[] }, { accessFlags := 4122, nameIndex := 15, descriptorIndex := 16, attributes := #[] }])
  fields := #[{ name := "RUNNING", type := (.object "com/example/lease/lease/WorkerState"), accessFlags := 16409, slot := 0, constantValue := 0 }, { name := "QUIET", type := (.object "com/example/lease/lease/WorkerState"), accessFlags := 16409, slot := 1, constantValue := 0 }, { name := "TERMINATE", type := (.object "com/example/lease/lease/WorkerState"), accessFlags := 16409, slot := 2, constantValue := 0 }, { name := "shown", type := (.object "java/lang/String"), accessFlags := 18, slot := 3, constantValue := 0 }, { name := "$VALUES", type := (.array (.object "com/example/lease/lease/WorkerState")), accessFlags := 4122, slot := 3, constantValue := 0 }]
  methods := #[k12m0, k12m1]
  instanceTypes := #[(.object "java/lang/String"), .int, .int, (.object "java/lang/String")]
  staticTypes := #[(.object "com/example/lease/lease/WorkerState"), (.object "com/example/lease/lease/WorkerState"), (.object "com/example/lease/lease/WorkerState"), (.array (.object "com/example/lease/lease/WorkerState"))]
  resolved := Array.replicate 85 none
  statics := some 2 }

def pool13 : Array CpInfo := pool [(1, .class_ 2), (0, u "java/lang/Cloneable"), (0, .class_ 4), (0, u "java/lang/Object")] 2

/-- java/lang/Cloneable -/
def k13 : Class := { plain "java/lang/Cloneable" (some 0) with
  accessFlags := 1537
  interfaces := #[]
  cf := some (fileOf pool13 1 #[] #[] 1537 3 #[] #[])
  fields := #[]
  methods := #[]
  instanceTypes := #[]
  staticTypes := #[]
  resolved := Array.replicate 7 none
  statics := none }

def pool14 : Array CpInfo := pool [(1, .class_ 2), (0, u "java/lang/Math"), (1, .class_ 6), (1, u "java/lang/Object"), (0, u "<init>"), (0, u "()V"), (89, .class_ 100), (1, u "java/lang/Math$RandomNumberGeneratorHolder"), (71, u "negativeZeroFloatBits"), (0, u "J"), (2, u "negativeZeroDoubleBits"), (21, u "max"), (46, u "$assertionsDisabled"), (0, u "Z"), (88, u "(II)I"), (2, u "twoToTheDoubleScaleDown"), (0, u "D"), (4, u "twoToTheDoubleScaleUp"), (9, u "E"), (3, u "PI"), (2, u "TAU"), (2, u "DEGREES_TO_RADIANS"), (0, u "RADIANS_TO_DEGREES")] 94

def k14m0 : Method := { name := "<init>", desc := "()V", sig := { parameters := [], returnType := none }, accessFlags := 2, code := none }
def k14c1 : Code := { maxStack := 2, maxLocals := 2, code := jdk_29_method_65_code, exceptionTable := #[], attributes := #[] }
def k14m1 : Method := { name := "max", desc := "(II)I", sig := { parameters := [.int, .int], returnType := some .int }, accessFlags := 9, code := some k14c1 }
/-- java/lang/Math -/
def k14 : Class := { plain "java/lang/Math" (some 0) with
  accessFlags := 49
  interfaces := #[]
  cf := some (fileOf pool14 1 #[.nestMembers #[98]] #[{ accessFlags := 2, nameIndex := 7, descriptorIndex := 8, attributes := #[] }, { accessFlags := 9, nameIndex := 198, descriptorIndex := 335, attributes := #[] }] 49 4 #[] #[{ accessFlags := 25, nameIndex := 354, descriptorIndex := 339, attributes := #[] }, { accessFlags := 25, nameIndex := 358, descriptorIndex := 339, attributes := #[] }, { accessFlags := 25, nameIndex := 361, descriptorIndex := 339, attributes := #[] }, { accessFlags := 26, nameIndex := 364, descriptorIndex := 339, attributes := #[] }, { accessFlags := 26, nameIndex := 365, descriptorIndex := 339, attributes := #[] }, { accessFlags := 26, nameIndex := 172, descriptorIndex := 173, attributes := #[] }, { accessFlags := 26, nameIndex := 176, descriptorIndex := 173, attributes := #[] }, { accessFlags := 8, nameIndex := 344, descriptorIndex := 339, attributes := #[] }, { accessFlags := 8, nameIndex := 338, descriptorIndex := 339, attributes := #[] }, { accessFlags := 4120, nameIndex := 245, descriptorIndex := 246, attributes := #[] }])
  fields := #[{ name := "E", type := .double, accessFlags := 25, slot := 0, constantValue := 0 }, { name := "PI", type := .double, accessFlags := 25, slot := 1, constantValue := 0 }, { name := "TAU", type := .double, accessFlags := 25, slot := 2, constantValue := 0 }, { name := "DEGREES_TO_RADIANS", type := .double, accessFlags := 26, slot := 3, constantValue := 0 }, { name := "RADIANS_TO_DEGREES", type := .double, accessFlags := 26, slot := 4, constantValue := 0 }, { name := "negativeZeroFloatBits", type := .long, accessFlags := 26, slot := 5, constantValue := 0 }, { name := "negativeZeroDoubleBits", type := .long, accessFlags := 26, slot := 6, constantValue := 0 }, { name := "twoToTheDoubleScaleUp", type := .double, accessFlags := 8, slot := 7, constantValue := 0 }, { name := "twoToTheDoubleScaleDown", type := .double, accessFlags := 8, slot := 8, constantValue := 0 }, { name := "$assertionsDisabled", type := .boolean, accessFlags := 4120, slot := 9, constantValue := 0 }]
  methods := #[k14m0, k14m1]
  instanceTypes := #[]
  staticTypes := #[.double, .double, .double, .double, .double, .long, .long, .double, .double, .boolean]
  resolved := Array.replicate 460 none
  statics := none }

def pool15 : Array CpInfo := pool [(9, u "<init>"), (6, .class_ 18), (1, u "java/lang/Object"), (0, u "()V"), (1, .class_ 23), (1, u "jdk/internal/util/ArraysSupport"), (0, u "LOG2_ARRAY_LONG_INDEX_SCALE"), (0, u "I"), (2, u "U"), (0, u "Ljdk/internal/misc/Unsafe;"), (8, u "BIG_ENDIAN"), (0, u "Z"), (8, u "LOG2_BYTE_BIT_SIZE"), (4, u "LOG2_ARRAY_INT_INDEX_SCALE"), (54, u "JLA"), (0, u "Ljdk/internal/access/JavaLangAccess;"), (11, u "LOG2_ARRAY_BOOLEAN_INDEX_SCALE"), (9, u "LOG2_ARRAY_BYTE_INDEX_SCALE"), (5, u "LOG2_ARRAY_CHAR_INDEX_SCALE"), (5, u "LOG2_ARRAY_SHORT_INDEX_SCALE"), (18, u "LOG2_ARRAY_FLOAT_INDEX_SCALE"), (24, u "LOG2_ARRAY_DOUBLE_INDEX_SCALE"), (89, u "T_BOOLEAN"), (2, u "T_CHAR"), (1, u "T_FLOAT"), (1, u "T_DOUBLE"), (1, u "T_BYTE"), (1, u "T_SHORT"), (1, u "T_INT"), (1, u "T_LONG"), (1, u "SOFT_MAX_ARRAY_LENGTH")] 83

def k15m0 : Method := { name := "<init>", desc := "()V", sig := { parameters := [], returnType := none }, accessFlags := 2, code := none }
/-- jdk/internal/util/ArraysSupport -/
def k15 : Class := { plain "jdk/internal/util/ArraysSupport" (some 0) with
  accessFlags := 33
  interfaces := #[]
  cf := some (fileOf pool15 21 #[] #[{ accessFlags := 2, nameIndex := 9, descriptorIndex := 19, attributes := #[] }] 33 16 #[] #[{ accessFlags := 24, nameIndex := 28, descriptorIndex := 29, attributes := #[] }, { accessFlags := 26, nameIndex := 38, descriptorIndex := 39, attributes := #[] }, { accessFlags := 25, nameIndex := 121, descriptorIndex := 25, attributes := #[] }, { accessFlags := 25, nameIndex := 131, descriptorIndex := 25, attributes := #[] }, { accessFlags := 25, nameIndex := 137, descriptorIndex := 25, attributes := #[] }, { accessFlags := 25, nameIndex := 143, descriptorIndex := 25, attributes := #[] }, { accessFlags := 25, nameIndex := 53, descriptorIndex := 25, attributes := #[] }, { accessFlags := 25, nameIndex := 24, descriptorIndex := 25, attributes := #[] }, { accessFlags := 25, nameIndex := 162, descriptorIndex := 25, attributes := #[] }, { accessFlags := 25, nameIndex := 187, descriptorIndex := 25, attributes := #[] }, { accessFlags := 26, nameIndex := 48, descriptorIndex := 25, attributes := #[] }, { accessFlags := 25, nameIndex := 277, descriptorIndex := 25, attributes := #[] }, { accessFlags := 25, nameIndex := 280, descriptorIndex := 25, attributes := #[] }, { accessFlags := 25, nameIndex := 282, descriptorIndex := 25, attributes := #[] }, { accessFlags := 25, nameIndex := 284, descriptorIndex := 25, attributes := #[] }, { accessFlags := 25, nameIndex := 286, descriptorIndex := 25, attributes := #[] }, { accessFlags := 25, nameIndex := 288, descriptorIndex := 25, attributes := #[] }, { accessFlags := 25, nameIndex := 290, descriptorIndex := 25, attributes := #[] }, { accessFlags := 25, nameIndex := 292, descriptorIndex := 25, attributes := #[] }, { accessFlags := 26, nameIndex := 108, descriptorIndex := 109, attributes := #[] }, { accessFlags := 25, nameIndex := 294, descriptorIndex := 25, attributes := #[] }])
  fields := #[{ name := "U", type := (.object "jdk/internal/misc/Unsafe"), accessFlags := 24, slot := 0, constantValue := 0 }, { name := "BIG_ENDIAN", type := .boolean, accessFlags := 26, slot := 1, constantValue := 0 }, { name := "LOG2_ARRAY_BOOLEAN_INDEX_SCALE", type := .int, accessFlags := 25, slot := 2, constantValue := 0 }, { name := "LOG2_ARRAY_BYTE_INDEX_SCALE", type := .int, accessFlags := 25, slot := 3, constantValue := 0 }, { name := "LOG2_ARRAY_CHAR_INDEX_SCALE", type := .int, accessFlags := 25, slot := 4, constantValue := 0 }, { name := "LOG2_ARRAY_SHORT_INDEX_SCALE", type := .int, accessFlags := 25, slot := 5, constantValue := 0 }, { name := "LOG2_ARRAY_INT_INDEX_SCALE", type := .int, accessFlags := 25, slot := 6, constantValue := 0 }, { name := "LOG2_ARRAY_LONG_INDEX_SCALE", type := .int, accessFlags := 25, slot := 7, constantValue := 0 }, { name := "LOG2_ARRAY_FLOAT_INDEX_SCALE", type := .int, accessFlags := 25, slot := 8, constantValue := 0 }, { name := "LOG2_ARRAY_DOUBLE_INDEX_SCALE", type := .int, accessFlags := 25, slot := 9, constantValue := 0 }, { name := "LOG2_BYTE_BIT_SIZE", type := .int, accessFlags := 26, slot := 10, constantValue := 0 }, { name := "T_BOOLEAN", type := .int, accessFlags := 25, slot := 11, constantValue := 0 }, { name := "T_CHAR", type := .int, accessFlags := 25, slot := 12, constantValue := 0 }, { name := "T_FLOAT", type := .int, accessFlags := 25, slot := 13, constantValue := 0 }, { name := "T_DOUBLE", type := .int, accessFlags := 25, slot := 14, constantValue := 0 }, { name := "T_BYTE", type := .int, accessFlags := 25, slot := 15, constantValue := 0 }, { name := "T_SHORT", type := .int, accessFlags := 25, slot := 16, constantValue := 0 }, { name := "T_INT", type := .int, accessFlags := 25, slot := 17, constantValue := 0 }, { name := "T_LONG", type := .int, accessFlags := 25, slot := 18, constantValue := 0 }, { name := "JLA", type := (.object "jdk/internal/access/JavaLangAccess"), accessFlags := 26, slot := 19, constantValue := 0 }, { name := "SOFT_MAX_ARRAY_LENGTH", type := .int, accessFlags := 25, slot := 20, constantValue := 0 }]
  methods := #[k15m0]
  instanceTypes := #[]
  staticTypes := #[(.object "jdk/internal/misc/Unsafe"), .boolean, .int, .int, .int, .int, .int, .int, .int, .int, .int, .int, .int, .int, .int, .int, .int, .int, .int, (.object "jdk/internal/access/JavaLangAccess"), .int]
  resolved := Array.replicate 378 none
  statics := none }

/-- the primitive byte -/
def k16 : Class := { plain "byte" none with kind := .primitive 'B', accessFlags := 0x411 }
/-- [B -/
def k17 : Class := { plain "[B" (some 0) with kind := .array 16 .byte, interfaces := #[13, 2], accessFlags := 1041 }

/-- the primitive char -/
def k18 : Class := { plain "char" none with kind := .primitive 'C', accessFlags := 0x411 }
/-- [C -/
def k19 : Class := { plain "[C" (some 0) with kind := .array 18 .char, interfaces := #[13, 2], accessFlags := 1041 }

/-- the primitive int -/
def k20 : Class := { plain "int" none with kind := .primitive 'I', accessFlags := 0x411 }
/-- [I -/
def k21 : Class := { plain "[I" (some 0) with kind := .array 20 .int, interfaces := #[13, 2], accessFlags := 1041 }

/-- [Lcom/example/lease/lease/WorkerState; -/
def k22 : Class := { plain "[Lcom/example/lease/lease/WorkerState;" (some 0) with kind := .array 12 (.object "com/example/lease/lease/WorkerState"), interfaces := #[13, 2], accessFlags := 1041 }

def heap : Heap := #[{ cls := 7, slots := #[.long 0, .int 1, .null, .int 0, .null, .int 0, .int 0], vm := .statics 7 },
  { cls := 9, slots := #[.null, .null, .null], vm := .statics 9 },
  { cls := 12, slots := #[.ref 3, .ref 5, .ref 6, .ref 4], vm := .statics 12 },
  { cls := 12, slots := #[.null, .int 0, .int 0, .ref 7], vm := .none },
  { cls := 22, slots := #[.ref 3, .ref 5, .ref 6], vm := .none },
  { cls := 12, slots := #[.null, .int 0, .int 0, .ref 8], vm := .none },
  { cls := 12, slots := #[.null, .int 0, .int 0, .ref 9], vm := .none },
  { cls := 7, slots := #[.ref 10, .int 0, .int 0, .int 0], vm := .none },
  { cls := 7, slots := #[.ref 11, .int 0, .int 0, .int 0], vm := .none },
  { cls := 7, slots := #[.ref 12, .int 0, .int 0, .int 0], vm := .none },
  { cls := 17, slots := #[.int 114, .int 117, .int 110, .int 110, .int 105, .int 110, .int 103], vm := .none },
  { cls := 17, slots := #[.int 113, .int 117, .int 105, .int 101, .int 116], vm := .none },
  { cls := 17, slots := #[.int 116, .int 101, .int 114, .int 109, .int 105, .int 110, .int 97, .int 116, .int 101], vm := .none }]
def classes : Array Class := #[k0, k1, k2, k3, k4, k5, k6, k7, k8, k9, k10, k11, k12, k13, k14, k15, k16, k17, k18, k19, k20, k21, k22]
def interned : List (Array UInt16 × Addr) := []
def slotsUsed : Nat := 62
def theMethod : MethodId := ⟨1, 1⟩
def args0 : Array Value := #[.int 5, .int 5, .int 5, .int 5]
def aboutOver (below : List Frame) : State where
  vm := { classes := classes, interned := interned.toArray }
  heap := heap
  slotsUsed := slotsUsed
  threads := #[{ frames := .invoking theMethod args0 :: below }]
def below0 : List Frame := [.native { method := ⟨0, 0⟩, args := #[] }]
def about1 : State := aboutOver below0
def p0 : Program := .bare "" "" ""
def e0 : Env := launch0.env 0 0 0
theorem w_frames : about1.frames = Frame.invoking theMethod args0 :: below0 := rfl
set_option maxRecDepth 65536 in
theorem w_args : argsFit about1.vm theMethod args0 = true := by decide +kernel
set_option maxRecDepth 65536 in
theorem w_heap : heapFits about1 = true := by decide +kernel
set_option maxRecDepth 65536 in
theorem w_runnable : about1.curStatus? = some .runnable := by decide +kernel
set_option maxRecDepth 65536 in
theorem w_alone : about1.alone = true := by decide +kernel
set_option maxRecDepth 65536 in
theorem w_named : about1.methodNamed? x = some theMethod := by decide +kernel
set_option maxRecDepth 65536 in
theorem w_hears : about1.hears theMethod below0 = true := by decide +kernel
set_option maxRecDepth 65536 in
theorem w_ripe : about1.ripe theMethod args0 below0 = true := by decide +kernel
theorem w_running : about1.status = .running := rfl
set_option maxRecDepth 65536 in
theorem w_room : about1.hasRoom e0.platform room_1 = true :=
  launch0.hasRoom_least _ room_1 (by decide +kernel) (by decide +kernel) (by decide +kernel) (by decide +kernel) (by decide +kernel) (by decide +kernel)
theorem allAtoms_all (ts : List Jvm.Cond) (a : Array Jvm.Value) (st : Jvm.State) : (allAtoms ts).before a st = ts.all (fun c => c.before a st) := by
  induction ts with
  | nil => rfl
  | cons c t ih =>
    show (Jvm.Cond.and c (allAtoms t)).before a st = _
    rw [Jvm.Cond.before_and, ih, List.all_cons]
def words1 : List Jvm.Cond := Jvm.Cond.code x code maxLocals ret :: tables_1
/-- a 'code' word, met by the world's own term for the bytes: nothing is compared byte by byte -/
theorem code_word {y : MethodName} {bytes : ByteArray} {mx : Nat} {rt : Option FieldType} {a : Array Value} {s : State} {m : MethodId} {meth : Method} {c : Code} (h1 : s.methodNamed? y = some m) (h2 : s.vm.method? m = some meth) (h3 : meth.code = some c) (h4 : c.code = bytes)
    (h5 : (c.maxLocals == mx && c.exceptionTable.isEmpty && decide (c.maxStack ≤ mostOperands) && decide (meth.sig.returnType = rt) && !meth.locks && decide (parseMethodDescriptor y.desc = some meth.sig)) = true) : (Jvm.Cond.code y bytes mx rt).before a s = true := by
  simp only [Bool.and_eq_true, beq_iff_eq, Bool.not_eq_true', decide_eq_true_eq] at h5
  obtain ⟨⟨⟨⟨⟨g1, g2⟩, g3⟩, g4⟩, g5⟩, g6⟩ := h5
  simp [Cond.before, Cond.holds, Cond.value, h1, h2, h3, h4, g1, g2, g3, g4, g5, g6]
def isCode : Jvm.Cond → Bool
  | .code _ _ _ _ => true
  | _ => false
theorem all_split {L : List Jvm.Cond} {P : Jvm.Cond → Bool} (h1 : L.all (fun c => isCode c || P c) = true) (h2 : ∀ c ∈ L.filter isCode, P c = true) : L.all P = true := by
  refine List.all_eq_true.mpr fun c hc => ?_
  have h := List.all_eq_true.mp h1 c hc
  rcases Bool.eq_false_or_eq_true (isCode c) with hi | hi
  · exact h2 c (List.mem_filter.mpr ⟨hc, hi⟩)
  · simpa [hi] using h
set_option maxRecDepth 65536 in
theorem w_c0 : (Jvm.Cond.code x code maxLocals ret).before args0 about1 = true := code_word (m := ⟨1, 1⟩) (meth := k1m1) (c := k1c1) (by decide +kernel) rfl rfl rfl (by decide +kernel)
set_option maxRecDepth 65536 in
theorem w_c1 : (Jvm.Cond.code ({ cls := "com/example/lease/lease/WorkerStateNamedPinLaw", name := "name", desc := "(I)Ljava/lang/String;" } : Jvm.MethodName) method_3_code (1 : Nat) (Option.some (Jvm.ClassFile.FieldType.object "java/lang/String"))).before args0 about1 = true := code_word (m := ⟨1, 2⟩) (meth := k1m2) (c := k1c2) (by decide +kernel) rfl rfl rfl (by decide +kernel)
set_option maxRecDepth 65536 in
theorem w_c2 : (Jvm.Cond.code ({ cls := "java/lang/String", name := "length", desc := "()I" } : Jvm.MethodName) jdk_42_method_54_code (1 : Nat) (Option.some Jvm.ClassFile.FieldType.int)).before args0 about1 = true := code_word (m := ⟨7, 2⟩) (meth := k7m2) (c := k7c2) (by decide +kernel) rfl rfl rfl (by decide +kernel)
set_option maxRecDepth 65536 in
theorem w_c3 : (Jvm.Cond.code ({ cls := "java/lang/String", name := "coder", desc := "()B" } : Jvm.MethodName) jdk_42_method_152_code (1 : Nat) (Option.some Jvm.ClassFile.FieldType.byte)).before args0 about1 = true := code_word (m := ⟨7, 6⟩) (meth := k7m6) (c := k7c6) (by decide +kernel) rfl rfl rfl (by decide +kernel)
set_option maxRecDepth 65536 in
theorem w_c4 : (Jvm.Cond.code ({ cls := "com/example/lease/lease/WorkerStateNamedPinLaw", name := "make", desc := "(IIIC)Ljava/lang/String;" } : Jvm.MethodName) method_5_code (4 : Nat) (Option.some (Jvm.ClassFile.FieldType.object "java/lang/String"))).before args0 about1 = true := code_word (m := ⟨1, 4⟩) (meth := k1m4) (c := k1c4) (by decide +kernel) rfl rfl rfl (by decide +kernel)
set_option maxRecDepth 65536 in
theorem w_c5 : (Jvm.Cond.code ({ cls := "com/example/lease/lease/WorkerStateNamedPinLaw", name := "a", desc := "(IIIC)C" } : Jvm.MethodName) method_4_code (5 : Nat) (Option.some Jvm.ClassFile.FieldType.char)).before args0 about1 = true := code_word (m := ⟨1, 3⟩) (meth := k1m3) (c := k1c3) (by decide +kernel) rfl rfl rfl (by decide +kernel)
set_option maxRecDepth 65536 in
theorem w_c6 : (Jvm.Cond.code ({ cls := "java/lang/String", name := "charAt", desc := "(I)C" } : Jvm.MethodName) jdk_42_method_56_code (2 : Nat) (Option.some Jvm.ClassFile.FieldType.char)).before args0 about1 = true := code_word (m := ⟨7, 3⟩) (meth := k7m3) (c := k7c3) (by decide +kernel) rfl rfl rfl (by decide +kernel)
set_option maxRecDepth 65536 in
theorem w_c7 : (Jvm.Cond.code ({ cls := "java/lang/String", name := "isLatin1", desc := "()Z" } : Jvm.MethodName) jdk_42_method_154_code (1 : Nat) (Option.some Jvm.ClassFile.FieldType.boolean)).before args0 about1 = true := code_word (m := ⟨7, 7⟩) (meth := k7m7) (c := k7c7) (by decide +kernel) rfl rfl rfl (by decide +kernel)
set_option maxRecDepth 65536 in
theorem w_c8 : (Jvm.Cond.code ({ cls := "java/lang/StringLatin1", name := "charAt", desc := "([BI)C" } : Jvm.MethodName) jdk_43_method_2_code (2 : Nat) (Option.some Jvm.ClassFile.FieldType.char)).before args0 about1 = true := code_word (m := ⟨8, 1⟩) (meth := k8m1) (c := k8c1) (by decide +kernel) rfl rfl rfl (by decide +kernel)
set_option maxRecDepth 65536 in
theorem w_c9 : (Jvm.Cond.code ({ cls := "java/lang/String", name := "checkIndex", desc := "(II)V" } : Jvm.MethodName) jdk_42_method_155_code (2 : Nat) (Option.none : Option Jvm.ClassFile.FieldType)).before args0 about1 = true := code_word (m := ⟨7, 8⟩) (meth := k7m8) (c := k7c8) (by decide +kernel) rfl rfl rfl (by decide +kernel)
set_option maxRecDepth 65536 in
theorem w_c10 : (Jvm.Cond.code ({ cls := "jdk/internal/util/Preconditions", name := "checkIndex", desc := "(IILjava/util/function/BiFunction;)I" } : Jvm.MethodName) jdk_41_method_11_code (3 : Nat) (Option.some Jvm.ClassFile.FieldType.int)).before args0 about1 = true := code_word (m := ⟨9, 1⟩) (meth := k9m1) (c := k9c1) (by decide +kernel) rfl rfl rfl (by decide +kernel)
set_option maxRecDepth 65536 in
theorem w_c11 : (Jvm.Cond.code ({ cls := "java/lang/String", name := "<init>", desc := "([C)V" } : Jvm.MethodName) jdk_42_method_3_code (2 : Nat) (Option.none : Option Jvm.ClassFile.FieldType)).before args0 about1 = true := code_word (m := ⟨7, 1⟩) (meth := k7m1) (c := k7c1) (by decide +kernel) rfl rfl rfl (by decide +kernel)
set_option maxRecDepth 65536 in
theorem w_c12 : (Jvm.Cond.code ({ cls := "java/lang/String", name := "<init>", desc := "([CIILjava/lang/Void;)V" } : Jvm.MethodName) jdk_42_method_149_code (6 : Nat) (Option.none : Option Jvm.ClassFile.FieldType)).before args0 about1 = true := code_word (m := ⟨7, 5⟩) (meth := k7m5) (c := k7c5) (by decide +kernel) rfl rfl rfl (by decide +kernel)
set_option maxRecDepth 65536 in
theorem w_c13 : (Jvm.Cond.code ({ cls := "java/lang/Object", name := "<init>", desc := "()V" } : Jvm.MethodName) object_method_1_code (1 : Nat) (Option.none : Option Jvm.ClassFile.FieldType)).before args0 about1 = true := code_word (m := ⟨0, 0⟩) (meth := k0m0) (c := k0c0) (by decide +kernel) rfl rfl rfl (by decide +kernel)
set_option maxRecDepth 65536 in
theorem w_c14 : (Jvm.Cond.code ({ cls := "java/lang/StringUTF16", name := "compress", desc := "([CII)[B" } : Jvm.MethodName) jdk_52_method_16_code (6 : Nat) (Option.some (Jvm.ClassFile.FieldType.array Jvm.ClassFile.FieldType.byte))).before args0 about1 = true := code_word (m := ⟨10, 2⟩) (meth := k10m2) (c := k10c2) (by decide +kernel) rfl rfl rfl (by decide +kernel)
set_option maxRecDepth 65536 in
theorem w_c15 : (Jvm.Cond.code ({ cls := "java/lang/StringUTF16", name := "compress", desc := "([CI[BII)I" } : Jvm.MethodName) jdk_52_method_21_code (7 : Nat) (Option.some Jvm.ClassFile.FieldType.int)).before args0 about1 = true := code_word (m := ⟨10, 3⟩) (meth := k10m3) (c := k10c3) (by decide +kernel) rfl rfl rfl (by decide +kernel)
set_option maxRecDepth 65536 in
theorem w_c16 : (Jvm.Cond.code ({ cls := "java/lang/StringUTF16", name := "coderFromArrayLen", desc := "([BI)B" } : Jvm.MethodName) jdk_52_method_15_code (2 : Nat) (Option.some Jvm.ClassFile.FieldType.byte)).before args0 about1 = true := code_word (m := ⟨10, 1⟩) (meth := k10m1) (c := k10c1) (by decide +kernel) rfl rfl rfl (by decide +kernel)
set_option maxRecDepth 65536 in
theorem w_c17 : (Jvm.Cond.code ({ cls := "java/lang/String", name := "equals", desc := "(Ljava/lang/Object;)Z" } : Jvm.MethodName) jdk_42_method_66_code (3 : Nat) (Option.some Jvm.ClassFile.FieldType.boolean)).before args0 about1 = true := code_word (m := ⟨7, 4⟩) (meth := k7m4) (c := k7c4) (by decide +kernel) rfl rfl rfl (by decide +kernel)
set_option maxRecDepth 65536 in
theorem w_c18 : (Jvm.Cond.code ({ cls := "java/lang/StringLatin1", name := "equals", desc := "([B[B)Z" } : Jvm.MethodName) jdk_43_method_13_code (3 : Nat) (Option.some Jvm.ClassFile.FieldType.boolean)).before args0 about1 = true := code_word (m := ⟨8, 2⟩) (meth := k8m2) (c := k8c2) (by decide +kernel) rfl rfl rfl (by decide +kernel)
set_option maxRecDepth 65536 in
theorem w_c19 : (Jvm.Cond.code ({ cls := "com/example/lease/lease/WorkerState", name := "named", desc := "(Ljava/lang/String;)Lcom/example/lease/lease/WorkerState;" } : Jvm.MethodName) prog_10_method_6_code (6 : Nat) (Option.some (Jvm.ClassFile.FieldType.object "com/example/lease/lease/WorkerState"))).before args0 about1 = true := code_word (m := ⟨12, 1⟩) (meth := k12m1) (c := k12c1) (by decide +kernel) rfl rfl rfl (by decide +kernel)
set_option maxRecDepth 65536 in
theorem w_c20 : (Jvm.Cond.code ({ cls := "com/example/lease/lease/WorkerState", name := "values", desc := "()[Lcom/example/lease/lease/WorkerState;" } : Jvm.MethodName) prog_10_method_1_code (0 : Nat) (Option.some (Jvm.ClassFile.FieldType.array (Jvm.ClassFile.FieldType.object "com/example/lease/lease/WorkerState")))).before args0 about1 = true := code_word (m := ⟨12, 0⟩) (meth := k12m0) (c := k12c0) (by decide +kernel) rfl rfl rfl (by decide +kernel)
set_option maxRecDepth 65536 in
theorem w_c21 : (Jvm.Cond.code ({ cls := "java/lang/Math", name := "max", desc := "(II)I" } : Jvm.MethodName) jdk_29_method_65_code (2 : Nat) (Option.some Jvm.ClassFile.FieldType.int)).before args0 about1 = true := code_word (m := ⟨14, 1⟩) (meth := k14m1) (c := k14c1) (by decide +kernel) rfl rfl rfl (by decide +kernel)
def codes1 : List Jvm.Cond := [Jvm.Cond.code x code maxLocals ret, Jvm.Cond.code ({ cls := "com/example/lease/lease/WorkerStateNamedPinLaw", name := "name", desc := "(I)Ljava/lang/String;" } : Jvm.MethodName) method_3_code (1 : Nat) (Option.some (Jvm.ClassFile.FieldType.object "java/lang/String")), Jvm.Cond.code ({ cls := "java/lang/String", name := "length", desc := "()I" } : Jvm.MethodName) jdk_42_method_54_code (1 : Nat) (Option.some Jvm.ClassFile.FieldType.int), Jvm.Cond.code ({ cls := "java/lang/String", name := "coder", desc := "()B" } : Jvm.MethodName) jdk_42_method_152_code (1 : Nat) (Option.some Jvm.ClassFile.FieldType.byte), Jvm.Cond.code ({ cls := "com/example/lease/lease/WorkerStateNamedPinLaw", name := "make", desc := "(IIIC)Ljava/lang/String;" } : Jvm.MethodName) method_5_code (4 : Nat) (Option.some (Jvm.ClassFile.FieldType.object "java/lang/String")), Jvm.Cond.code ({ cls := "com/example/lease/lease/WorkerStateNamedPinLaw", name := "a", desc := "(IIIC)C" } : Jvm.MethodName) method_4_code (5 : Nat) (Option.some Jvm.ClassFile.FieldType.char), Jvm.Cond.code ({ cls := "java/lang/String", name := "charAt", desc := "(I)C" } : Jvm.MethodName) jdk_42_method_56_code (2 : Nat) (Option.some Jvm.ClassFile.FieldType.char), Jvm.Cond.code ({ cls := "java/lang/String", name := "isLatin1", desc := "()Z" } : Jvm.MethodName) jdk_42_method_154_code (1 : Nat) (Option.some Jvm.ClassFile.FieldType.boolean), Jvm.Cond.code ({ cls := "java/lang/StringLatin1", name := "charAt", desc := "([BI)C" } : Jvm.MethodName) jdk_43_method_2_code (2 : Nat) (Option.some Jvm.ClassFile.FieldType.char), Jvm.Cond.code ({ cls := "java/lang/String", name := "checkIndex", desc := "(II)V" } : Jvm.MethodName) jdk_42_method_155_code (2 : Nat) (Option.none : Option Jvm.ClassFile.FieldType), Jvm.Cond.code ({ cls := "jdk/internal/util/Preconditions", name := "checkIndex", desc := "(IILjava/util/function/BiFunction;)I" } : Jvm.MethodName) jdk_41_method_11_code (3 : Nat) (Option.some Jvm.ClassFile.FieldType.int), Jvm.Cond.code ({ cls := "java/lang/String", name := "<init>", desc := "([C)V" } : Jvm.MethodName) jdk_42_method_3_code (2 : Nat) (Option.none : Option Jvm.ClassFile.FieldType), Jvm.Cond.code ({ cls := "java/lang/String", name := "<init>", desc := "([CIILjava/lang/Void;)V" } : Jvm.MethodName) jdk_42_method_149_code (6 : Nat) (Option.none : Option Jvm.ClassFile.FieldType), Jvm.Cond.code ({ cls := "java/lang/Object", name := "<init>", desc := "()V" } : Jvm.MethodName) object_method_1_code (1 : Nat) (Option.none : Option Jvm.ClassFile.FieldType), Jvm.Cond.code ({ cls := "java/lang/StringUTF16", name := "compress", desc := "([CII)[B" } : Jvm.MethodName) jdk_52_method_16_code (6 : Nat) (Option.some (Jvm.ClassFile.FieldType.array Jvm.ClassFile.FieldType.byte)), Jvm.Cond.code ({ cls := "java/lang/StringUTF16", name := "compress", desc := "([CI[BII)I" } : Jvm.MethodName) jdk_52_method_21_code (7 : Nat) (Option.some Jvm.ClassFile.FieldType.int), Jvm.Cond.code ({ cls := "java/lang/StringUTF16", name := "coderFromArrayLen", desc := "([BI)B" } : Jvm.MethodName) jdk_52_method_15_code (2 : Nat) (Option.some Jvm.ClassFile.FieldType.byte), Jvm.Cond.code ({ cls := "java/lang/String", name := "equals", desc := "(Ljava/lang/Object;)Z" } : Jvm.MethodName) jdk_42_method_66_code (3 : Nat) (Option.some Jvm.ClassFile.FieldType.boolean), Jvm.Cond.code ({ cls := "java/lang/StringLatin1", name := "equals", desc := "([B[B)Z" } : Jvm.MethodName) jdk_43_method_13_code (3 : Nat) (Option.some Jvm.ClassFile.FieldType.boolean), Jvm.Cond.code ({ cls := "com/example/lease/lease/WorkerState", name := "named", desc := "(Ljava/lang/String;)Lcom/example/lease/lease/WorkerState;" } : Jvm.MethodName) prog_10_method_6_code (6 : Nat) (Option.some (Jvm.ClassFile.FieldType.object "com/example/lease/lease/WorkerState")), Jvm.Cond.code ({ cls := "com/example/lease/lease/WorkerState", name := "values", desc := "()[Lcom/example/lease/lease/WorkerState;" } : Jvm.MethodName) prog_10_method_1_code (0 : Nat) (Option.some (Jvm.ClassFile.FieldType.array (Jvm.ClassFile.FieldType.object "com/example/lease/lease/WorkerState"))), Jvm.Cond.code ({ cls := "java/lang/Math", name := "max", desc := "(II)I" } : Jvm.MethodName) jdk_29_method_65_code (2 : Nat) (Option.some Jvm.ClassFile.FieldType.int)]
set_option maxRecDepth 65536 in
theorem codes_eq : words1.filter isCode = codes1 := rfl
theorem w_codes : ∀ c ∈ words1.filter isCode, c.before args0 about1 = true := by
  rw [codes_eq]
  intro c hc
  simp only [codes1, List.mem_cons, List.not_mem_nil, or_false] at hc
  rcases hc with rfl | rfl | rfl | rfl | rfl | rfl | rfl | rfl | rfl | rfl | rfl | rfl | rfl | rfl | rfl | rfl | rfl | rfl | rfl | rfl | rfl | rfl
  · exact w_c0
  · exact w_c1
  · exact w_c2
  · exact w_c3
  · exact w_c4
  · exact w_c5
  · exact w_c6
  · exact w_c7
  · exact w_c8
  · exact w_c9
  · exact w_c10
  · exact w_c11
  · exact w_c12
  · exact w_c13
  · exact w_c14
  · exact w_c15
  · exact w_c16
  · exact w_c17
  · exact w_c18
  · exact w_c19
  · exact w_c20
  · exact w_c21
set_option maxRecDepth 65536 in
theorem w_t1 : (words1.take 24).all (fun c => isCode c || c.before args0 about1) = true := by decide +kernel
set_option maxRecDepth 65536 in
theorem w_t2 : ((words1.drop 24).take 24).all (fun c => isCode c || c.before args0 about1) = true := by decide +kernel
set_option maxRecDepth 65536 in
theorem w_t3 : (((words1.drop 24).drop 24).take 24).all (fun c => isCode c || c.before args0 about1) = true := by decide +kernel
set_option maxRecDepth 65536 in
theorem w_t4 : ((((words1.drop 24).drop 24).drop 24).take 24).all (fun c => isCode c || c.before args0 about1) = true := by decide +kernel
set_option maxRecDepth 65536 in
theorem w_t5 : (((((words1.drop 24).drop 24).drop 24).drop 24).take 24).all (fun c => isCode c || c.before args0 about1) = true := by decide +kernel
set_option maxRecDepth 65536 in
theorem w_t6 : (((((words1.drop 24).drop 24).drop 24).drop 24).drop 24).all (fun c => isCode c || c.before args0 about1) = true := by decide +kernel
theorem w_tables : (allAtoms (Jvm.Cond.code x code maxLocals ret :: tables_1)).before args0 about1 = true := by
  rw [allAtoms_all]
  show words1.all (fun c => c.before args0 about1) = true
  refine all_split ?_ w_codes
  rw [← List.take_append_drop 24 words1, List.all_append, w_t1, ← List.take_append_drop 24 (words1.drop 24), List.all_append, w_t2, ← List.take_append_drop 24 ((words1.drop 24).drop 24), List.all_append, w_t3, ← List.take_append_drop 24 (((words1.drop 24).drop 24).drop 24), List.all_append, w_t4, ← List.take_append_drop 24 ((((words1.drop 24).drop 24).drop 24).drop 24), List.all_append, w_t5, w_t6]
  rfl
set_option maxRecDepth 65536 in
theorem w_rest : rest_1_c.before args0 about1 = true := by decide +kernel
set_option maxRecDepth 65536 in
theorem w_case : (Jvm.Cond.and given_1 narrow_1).before args0 about1 = true := by decide +kernel
set_option maxRecDepth 65536 in
theorem w_consts : constsHeld consts_1 about1 := Jvm.Lit.constsHeldB_iff.mp (by decide +kernel)
theorem w_applies : (headSpec (Jvm.Cond.code x code maxLocals ret :: tables_1) room_1).applies x e0.platform about1 = true :=
  (Spec.applies_iff w_frames).mpr ⟨w_running, w_runnable, w_alone, w_named, w_hears, w_ripe, w_room, w_tables⟩
theorem atStart : AtStart classFile x code maxLocals ret World_1 tables_1 room_1 Calls_1 rest_1 Pre_1 launch0 p0 e0 about1 theMethod args0 below0 :=
  ⟨lists_1, trivial, launch0.admits_env _ _ _, launch0.least_env, fairChoices_fair.cas, fairChoices_fair.clock, w_frames, w_args, w_heap, w_applies, ⟨w_consts, trivial⟩, w_rest, w_case⟩
end start1
theorem witness_1 : WitnessClaimed_1 := ⟨start1.p0, start1.e0, start1.about1, start1.theMethod, start1.args0, start1.below0, start1.atStart⟩
end Jvm.Pilot.@@N@@
