import JvmDerived
import JvmDerived.Pilot.@@N@@Statement
import JvmDerived.Pilot.@@N@@Code
set_option linter.unusedVariables false
set_option linter.unusedSimpArgs false
namespace Jvm.Pilot.@@N@@
open Jvm Jvm.ClassFile Sem Op Lib Jvm.Free Jvm.Stand Jvm.LawKit Jvm.RoadKit Bundle Jvm.Pilot.@@N@@.Jvm.D
abbrev y1 : MethodName := ⟨"com/example/pushplan/pushplan/plan/KindPreservesRightPinLaw", "kindAt", "(I)Lcom/example/pushplan/pushplan/plan/Join$Kind;"⟩
abbrev y2 : MethodName := ⟨"com/example/pushplan/pushplan/plan/Join$Kind", "preservesRight", "()Z"⟩
abbrev y3 : MethodName := ⟨"com/example/pushplan/pushplan/plan/KindPreservesRightPinLaw", "expectedAt", "(I)Z"⟩

abbrev jv (x : Int64) : Slot := .val (.long x)
abbrev un : Slot := .unset
abbrev se : Slot := .second
abbrev AT (p : Program) (e : Env) (below : List Frame) (T : State) (m : MethodId) (pc : Nat) (ls : Array Slot) (st : List Value) (tg : State) : Prop := Steps p.tables e below (T.setTop (mkF m pc ls st)) tg
theorem ow {Z : State} {a0 : Array Value} (hw : ∀ d ∈ tables_1, d.before a0 Z = true) (i : Nat) {d : Jvm.Cond} (h : tables_1[i]? = some d) : d.before a0 Z = true := hw _ (List.mem_of_getElem? h)
theorem own_lrem {p : Program} {l : Launch} {e : Env} {R : Room} {s : State} {m : MethodId} {args : Array Value} {below : List Frame} {meth : Method} {c : Code} {T : State} {locs : List Loc} {cells slots : Nat} {g : JFrame} {target : State} (X : Stand p l e R s m args below meth c T locs cells slots) (hx : p.tables.exec = Jvm.exec) (hg : g.method = m) {x y : Int64} {rest : List Value} (hd : decode c.code g.pc = .ok (.lrem, 1)) (hs : g.stack = .long y :: .long x :: rest) (hy : y ≠ 0)
    (hr : Steps p.tables e below (T.setTop { g with pc := g.pc + 1, stack := .long (x % y) :: rest }) target) : Steps p.tables e below (T.setTop g) target :=
  XS.lrem X.here hx hg hd hs hy (by rw [lrem_mod]; exact hr)
theorem own_eqInt {args : Array Value} {first s : State} {o : Option Outcome} {idx : List Nat} {t : Term} {n : Int32} (h : (Jvm.Cond.eq t (.int n)).value args first o s idx = some true) : t.eval args first o idx s = some (.int n) := by
  simp only [Cond.value, Term.eval] at h
  cases ht : t.eval args first o idx s with
  | none => simp [ht] at h
  | some v => cases v <;> simp [ht] at h ⊢; exact h
theorem own_eqLong {args : Array Value} {first s : State} {o : Option Outcome} {idx : List Nat} {t : Term} {n : Int64} (h : (Jvm.Cond.eq t (.long n)).value args first o s idx = some true) : t.eval args first o idx s = some (.long n) := by
  simp only [Cond.value, Term.eval] at h
  cases ht : t.eval args first o idx s with
  | none => simp [ht] at h
  | some v => cases v <;> simp [ht] at h ⊢; exact h
theorem own_eqRef {args : Array Value} {first s : State} {o : Option Outcome} {idx : List Nat} {t u : Term} {a : Addr} (hu : u.eval args first o idx s = some (.ref a)) (h : (Jvm.Cond.eq t u).value args first o s idx = some true) : t.eval args first o idx s = some (.ref a) := by
  simp only [Cond.value, hu] at h
  cases ht : t.eval args first o idx s with
  | none => simp [ht] at h
  | some v => cases v <;> simp [ht] at h ⊢; exact h

theorem own_in {c : Cell} {n : Int32} (j : Int32) (S : c.slots.size = n.toNatClampNeg) (q : ¬ j < 0 ∧ j < n) : ¬ (j < 0 ∨ c.slots.size ≤ j.toNatClampNeg) := inb_of S q
theorem own_up {x a b : Int32} (h : x < a) (q : a.toInt ≤ b.toInt) : x < b := Int32.lt_iff_toInt_lt.mpr (Int.lt_of_lt_of_le (Int32.lt_iff_toInt_lt.mp h) q)
theorem own_dn {x a b : Int32} (h : ¬ x < a) (q : b.toInt ≤ a.toInt) : ¬ x < b := fun z => h (own_up z q)
theorem own_neInt {args : Array Value} {first s : State} {o : Option Outcome} {idx : List Nat} {t : Term} {x n : Int32} (ht : t.eval args first o idx s = some (.int x)) (h : (Jvm.Cond.not (Jvm.Cond.eq t (.int n))).value args first o s idx = some true) : ¬ x = n := by
  simpa [Cond.value, Term.eval, ht] using h

theorem own_len {Z : State} {args : Array Value} {t : Term} {a : Addr} {cl : Cell} {ty : FieldType} {n : Int32} (ev : t.eval args Z none [] Z = some (.ref a)) (A : Arr Z Z.heap a cl ty) (h : (Term.length t).eval args Z none [] Z = some (.int n)) : cl.slots.size < 2 ^ 31 ∧ cl.slots.size.toInt32 = n := by
  have q := A.fin (U := Z) (Vm.Alike.refl _)
  simp only [Term.eval, ev, q, Option.bind_eq_bind, Option.bind_some, Option.pure_def] at h
  split at h
  · rename_i hlt; exact ⟨hlt, by simpa using h⟩
  · simp at h

theorem own_nar {v : Value} {c : String} (h : v.isRef = true) : narrow (.object c) v = v := by cases v <;> first | rfl | simp [Value.isRef] at h
theorem own_fits {v : Value} {c : String} (h : v.isRef = true) : fits (.object c) v = true := by cases v <;> first | rfl | simp [Value.isRef] at h
theorem own_cat {v : Value} (h : v.isRef = true) : v.category = 1 := by cases v <;> first | rfl | simp [Value.isRef] at h

theorem own_notOf {Z : State} {a0 : Array Value} {C S K : String} {n : Nat} (w : (Jvm.Cond.superclass C S).before a0 Z = true) (w0 : (Jvm.Cond.noSuperclass S).before a0 Z = true) (wk : (Jvm.Cond.instantiable K n).before a0 Z = true) (h1 : C ≠ K) (h2 : S ≠ K) :
    ∃ c t, Z.vm.findClass C = some c ∧ Z.vm.findClass K = some t ∧ Z.vm.assignable c t = false := by
  obtain ⟨t, k', g0, g2, g5, g7, -⟩ := Cond.instantiable_spec wk
  obtain ⟨c, h0⟩ := found_sup w
  obtain ⟨p, k, kp, q1, q2, q3, q4, q5, q6, q7⟩ := Cond.superclass_spec h0 w
  obtain ⟨c0, k0, r1, r2, r3, -, -⟩ := Cond.noSuperclass_spec w0
  cases q1.symm.trans r1
  have ne1 := ids_ne h0 g0 h1
  have ne2 := ids_ne r1 g0 h2
  have g8 := (Bool.or_eq_false_iff.mp g7).1
  have n3 : ∀ fuel, Z.vm.isSubclassAux fuel c t = false := by
    intro fuel
    cases fuel with
    | zero => rfl
    | succ f =>
      cases f with
      | zero => simp [Vm.isSubclassAux, ne1, q2, q4]
      | succ g => simp [Vm.isSubclassAux, ne1, ne2, q2, q4, r2, r3]
  refine ⟨c, t, h0, g0, ?_⟩
  show Z.vm.assignableAux (255 + 1) c t = false
  simp [Vm.assignableAux, ne1, q2, g2, q5, g5, g8, Vm.isSubclass, n3]

theorem own_selP {Z s : State} {a0 args : Array Value} {y : MethodName} {n : Nat} (hZ : Z.Warmed39 s.vm) (wi : (Jvm.Cond.instantiable y.cls n).before a0 Z = true) (wp : (Jvm.Cond.privateMethod y).before a0 Z = true) (wm : (Jvm.Cond.instanceMethod y).before a0 Z = true) (hy : y.cls ≠ "java/lang/invoke/MethodHandle" ∧ y.cls ≠ "java/lang/invoke/VarHandle") : (Jvm.Cond.selects y.cls y y).before args s = true := by
  obtain ⟨c, k, hc, hk, -, hni, -⟩ := Cond.instantiable_spec (mvT (s := s) (args := args) hZ wi)
  exact selects_self_of_private hc hk (Bool.or_eq_false_iff.mp hni).1 (Cond.privateMethod_at (mvP hZ wp (args := #[]))) (mvT hZ wm) hy

theorem own_neS {Z : State} {h : Heap} {a b u w : Addr} {C f d : String} {k k' : ClassId} {ty : FieldType} {z z' : Int32} {vs vs' : List Value} {dv dv' : Value} (Fa : Fld Z h a C f d (.ref u)) (Va : Arv Z h u k ty z vs dv) (Fb : Fld Z h b C f d (.ref w)) (Vb : Arv Z h w k' ty z' vs' dv') (hn : z ≠ z' ∨ ∃ i : Nat, i < z.toNatClampNeg ∧ vs.getD i dv ≠ vs'.getD i dv') : a ≠ b := fun e => by
  subst e
  have hu : u = w := by
    rcases Decidable.em (u = w) with q | q
    · exact q
    · exact absurd rfl (Fld.ne Fa Fb (fun x => q (Value.ref.inj x)))
  subst hu
  obtain ⟨c1, A1, -, S1, N1, H1, -⟩ := Va
  obtain ⟨c2, A2, -, S2, N2, H2, -⟩ := Vb
  cases A1.1.symm.trans A2.1
  rcases hn with hn | ⟨i, hi, hn⟩
  · exact hn ((len_of S1 N1).symm.trans (len_of S2 N2))
  · have q1 := H1 i (by rw [S1]; exact hi)
    have q2 := H2 i (by rw [S1]; exact hi)
    exact hn (Option.some.inj (q1.symm.trans q2))
def Wd (Z : State) (w_CROSS : Addr) (w_RIGHT : Addr) (w_FULL : Addr) (w_INNER : Addr) (w_LEFT : Addr) : Prop :=
  Sta Z Z.heap "com/example/pushplan/pushplan/plan/Join$Kind" "CROSS" "Lcom/example/pushplan/pushplan/plan/Join$Kind;" (.ref w_CROSS) ∧
  Exa Z Z.heap w_CROSS "com/example/pushplan/pushplan/plan/Join$Kind" ∧
  Sta Z Z.heap "com/example/pushplan/pushplan/plan/Join$Kind" "RIGHT" "Lcom/example/pushplan/pushplan/plan/Join$Kind;" (.ref w_RIGHT) ∧
  Exa Z Z.heap w_RIGHT "com/example/pushplan/pushplan/plan/Join$Kind" ∧
  Fld Z Z.heap w_CROSS "java/lang/Enum" "ordinal" "I" (.int (0 : Int32)) ∧
  Fld Z Z.heap w_RIGHT "java/lang/Enum" "ordinal" "I" (.int (3 : Int32)) ∧
  Sta Z Z.heap "com/example/pushplan/pushplan/plan/Join$Kind" "FULL" "Lcom/example/pushplan/pushplan/plan/Join$Kind;" (.ref w_FULL) ∧
  Exa Z Z.heap w_FULL "com/example/pushplan/pushplan/plan/Join$Kind" ∧
  Fld Z Z.heap w_FULL "java/lang/Enum" "ordinal" "I" (.int (4 : Int32)) ∧
  Sta Z Z.heap "com/example/pushplan/pushplan/plan/Join$Kind" "INNER" "Lcom/example/pushplan/pushplan/plan/Join$Kind;" (.ref w_INNER) ∧
  Exa Z Z.heap w_INNER "com/example/pushplan/pushplan/plan/Join$Kind" ∧
  Fld Z Z.heap w_INNER "java/lang/Enum" "ordinal" "I" (.int (1 : Int32)) ∧
  Sta Z Z.heap "com/example/pushplan/pushplan/plan/Join$Kind" "LEFT" "Lcom/example/pushplan/pushplan/plan/Join$Kind;" (.ref w_LEFT) ∧
  Exa Z Z.heap w_LEFT "com/example/pushplan/pushplan/plan/Join$Kind" ∧
  Fld Z Z.heap w_LEFT "java/lang/Enum" "ordinal" "I" (.int (2 : Int32))
theorem pn_0 : plainName "com/example/pushplan/pushplan/plan/KindPreservesRightPinLaw" = true := by first | (simp [plainName, overriddenIn]; done) | decide +kernel
theorem pn_1 : plainName "com/example/pushplan/pushplan/plan/Join$Kind" = true := by first | (simp [plainName, overriddenIn]; done) | decide +kernel
theorem pd_0 : parseMethodDescriptor "(I)Lcom/example/pushplan/pushplan/plan/Join$Kind;" = some ⟨[.int], some (.object "com/example/pushplan/pushplan/plan/Join$Kind")⟩ := by decide +kernel
theorem pd_1 : parseMethodDescriptor "()Z" = some ⟨[], some .boolean⟩ := by decide +kernel
theorem pd_2 : parseMethodDescriptor "(I)Z" = some ⟨[.int], some .boolean⟩ := by decide +kernel
theorem own_k (x : Int32) : (x &&& (2147483647 : Int32)) % (5 : Int32) = (0 : Int32) ∨ (x &&& (2147483647 : Int32)) % (5 : Int32) = (1 : Int32) ∨ (x &&& (2147483647 : Int32)) % (5 : Int32) = (2 : Int32) ∨ (x &&& (2147483647 : Int32)) % (5 : Int32) = (3 : Int32) ∨ (x &&& (2147483647 : Int32)) % (5 : Int32) = (4 : Int32) := by
  have h1 := c_mask x (2147483647 : Int32) 31 (by decide) (by decide)
  have h0 : 0 ≤ x.toInt % (2 ^ 31 : Nat) := Int.emod_nonneg _ (by decide)
  have h2 := (c_irem (x &&& (2147483647 : Int32)) (5 : Int32) 5 rfl).1 (by rw [h1]; exact h0)
  have l0 : ((0 : Int32)).toInt = 0 := rfl
  have l1 : ((1 : Int32)).toInt = 1 := rfl
  have l2 : ((2 : Int32)).toInt = 2 := rfl
  have l3 : ((3 : Int32)).toInt = 3 := rfl
  have l4 : ((4 : Int32)).toInt = 4 := rfl
  simp only [← Int32.toInt_inj, l0, l1, l2, l3, l4]
  omega

theorem d1_0 : decode method_2_code 0 = .ok (.iload_n 0, 1) := by decide +kernel
theorem d1_1 : decode method_2_code 1 = .ok (.ifCond .ne 7, 3) := by decide +kernel
theorem d1_4 : decode method_2_code 4 = .ok (.getstatic 7, 3) := by decide +kernel
theorem d1_7 : decode method_2_code 7 = .ok (.areturn, 1) := by decide +kernel
theorem d1_8 : decode method_2_code 8 = .ok (.iload_n 0, 1) := by decide +kernel
theorem d1_9 : decode method_2_code 9 = .ok (.iconst 1, 1) := by decide +kernel
theorem d1_10 : decode method_2_code 10 = .ok (.if_icmp .ne 7, 3) := by decide +kernel
theorem d1_13 : decode method_2_code 13 = .ok (.getstatic 13, 3) := by decide +kernel
theorem d1_16 : decode method_2_code 16 = .ok (.areturn, 1) := by decide +kernel
theorem d1_17 : decode method_2_code 17 = .ok (.iload_n 0, 1) := by decide +kernel
theorem d1_18 : decode method_2_code 18 = .ok (.iconst 2, 1) := by decide +kernel
theorem d1_19 : decode method_2_code 19 = .ok (.if_icmp .ne 7, 3) := by decide +kernel
theorem d1_22 : decode method_2_code 22 = .ok (.getstatic 16, 3) := by decide +kernel
theorem d1_25 : decode method_2_code 25 = .ok (.areturn, 1) := by decide +kernel
theorem d1_26 : decode method_2_code 26 = .ok (.iload_n 0, 1) := by decide +kernel
theorem d1_27 : decode method_2_code 27 = .ok (.iconst 3, 1) := by decide +kernel
theorem d1_28 : decode method_2_code 28 = .ok (.if_icmp .ne 7, 3) := by decide +kernel
theorem d1_31 : decode method_2_code 31 = .ok (.getstatic 19, 3) := by decide +kernel
theorem d1_34 : decode method_2_code 34 = .ok (.areturn, 1) := by decide +kernel
theorem d1_35 : decode method_2_code 35 = .ok (.getstatic 22, 3) := by decide +kernel
theorem d1_38 : decode method_2_code 38 = .ok (.areturn, 1) := by decide +kernel
theorem ef_1 (m : MethodId) (p0 : Int32) : entryFrame m #[(.int p0)] 1 = mkF m 0 #[iv p0] [] := by first | (simp [entryFrame, mkF, argsToLocals, Value.category]; done) | rfl
def f1 (p0 : Int32) (w_CROSS : Addr) (w_RIGHT : Addr) (w_FULL : Addr) (w_INNER : Addr) (w_LEFT : Addr) : Addr := if p0 = (0 : Int32) then w_CROSS else (if p0 = (1 : Int32) then w_INNER else (if p0 = (2 : Int32) then w_LEFT else (if p0 = (3 : Int32) then w_RIGHT else w_FULL)))
def Q1 (Z : State) (p0 : Int32) (w_CROSS : Addr) (w_RIGHT : Addr) (w_FULL : Addr) (w_INNER : Addr) (w_LEFT : Addr) (h0 : Heap) (n0 : Nat) (v : Option Value) (h : Heap) (L : List Loc) : Prop := v = some (.ref (f1 p0 w_CROSS w_RIGHT w_FULL w_INNER w_LEFT)) ∧ Fr n0 L ∧ h = h0
set_option maxRecDepth 65536 in
set_option maxHeartbeats 40000000 in
theorem rm1 (l : Launch) (Z : State) (ar : Array Value) (hw : ∀ d ∈ tables_1, d.before ar Z = true) (ws : List Jvm.Cond) (p0 : Int32) (w_CROSS : Addr) (w_RIGHT : Addr) (w_FULL : Addr) (w_INNER : Addr) (w_LEFT : Addr) (h0 : Heap) (n0 : Nat) (O0 : Old Z n0 h0) (HW : Wd Z w_CROSS w_RIGHT w_FULL w_INNER w_LEFT) :
    MetFree l y1 (head1 (Jvm.Cond.code y1 method_2_code 1 (some (.object "com/example/pushplan/pushplan/plan/Join$Kind")) :: ws) ({ frames := 0, cells := 0, slots := 0, locals := 0 } : Room)) (fun a U => a = #[(.int p0)] ∧ Z.Warmed39 U.vm ∧ U.heap = h0) (fun _ _ _ _ _ => True) (fun _ U o U' => ∃ v L, o = .returned v ∧ Q1 Z p0 w_CROSS w_RIGHT w_FULL w_INNER w_LEFT h0 n0 v U'.heap L ∧ FrameEnd U o U' L ({ frames := 0, cells := 0, slots := 0, locals := 0 } : Room).cells ({ frames := 0, cells := 0, slots := 0, locals := 0 } : Room).slots) := by
 refine MetFree.of_bodySF (plainFor_of_name pn_0) hisR ?_
 intro p e s m args below meth c s₁ Bd hml0 hP hK
 obtain ⟨rfl, hZ, hh⟩ := hP
 have hx := Bd.exec
 have hby := Bd.bytes
 have hml : c.maxLocals = 1 := hml0
 have hown : s.vm.findClass "com/example/pushplan/pushplan/plan/KindPreservesRightPinLaw" = some m.cls := findClass_of_methodNamed Bd.named
 have hnm := (name_of_methodNamed Bd.named Bd.method).1
 have X0 : Stand p l e ({ frames := 0, cells := 0, slots := 0, locals := 0 } : Room) s m #[(.int p0)] below meth c s₁ [] 0 0 := Stand.of_body Bd
 have e0 : s₁.heap = h0 := by rw [← hh, Bd.state]; rfl
 have N0 := Fr.nil n0
 have Z0 : n0 ≤ h0.size := Nat.le_trans (Nat.le_of_eq O0.1.symm) O0.2.1
 obtain ⟨S0, hS0⟩ : ∃ z, z = s₁.setTop (entryFrame m #[(.int p0)] 1) := ⟨_, rfl⟩
 have pre0 : ∀ tg, AT p e below s₁ m 0 #[iv p0] [] tg → Steps p.tables e below S0 tg := fun tg kg => by rw [hS0]; exact castTop (ef_1 m p0) kg
 obtain ⟨S_CROSS, E_CROSS, S_RIGHT, E_RIGHT, F_ordinal_CROSS, F_ordinal_RIGHT, S_FULL, E_FULL, F_ordinal_FULL, S_INNER, E_INNER, F_ordinal_INNER, S_LEFT, E_LEFT, F_ordinal_LEFT⟩ := id HW
 have pre1 : ∀ tg, AT p e below s₁ m 1 #[iv p0] [(.int p0)] tg → Steps p.tables e below S0 tg := fun tg kg => pre0 tg (by
  refine XS.iloadN X0.here hx rfl (hb hby d1_0) rfl ?_
  exact kg)
 rcases Decidable.em (p0 = (0 : Int32)) with hc2 | hc2
 ·
  obtain ⟨T3, X3, e3, st3⟩ := getS2 X0 hx hZ hown (host := "") (Or.inl (ow hw 5 rfl)) Via.refl e0 (S_CROSS.ext O0.2) (g := (mkF m 4 #[iv p0] [])) rfl (hb hby d1_4)
  obtain ⟨fs, hr, hrun, hended, hW, hsame⟩ := X3.leave (v := some (.ref w_CROSS)) (fun h => by rw [Bd.returns] at h; cases h)
  subst hS0
  refine ⟨_, _, pre1 _ ?_, hrun, hended, _, _, rfl, ?_, ⟨_, rfl⟩, hW, hsame.mono (by decide) (by decide)⟩
  ·
   refine XS.ifNo X0.here hx rfl (hb hby d1_1) rfl (XT.i0_ne_f hc2) ?_
   show AT p e below s₁ m 4 #[iv p0] [] _
   refine st3 _ ?_
   show AT p e below T3 m 7 #[iv p0] [(.ref w_CROSS)] _
   exact retOut X3 hx (t := (.object "com/example/pushplan/pushplan/plan/Join$Kind")) (i := .areturn) Bd.returns rfl (Or.inr (Or.inr (Or.inr (Or.inr ⟨rfl, rfl, rfl⟩)))) (hb hby d1_7) hr
  ·
   show Q1 Z p0 w_CROSS w_RIGHT w_FULL w_INNER w_LEFT h0 n0 _ T3.heap _
   rw [e3]
   exact ⟨(by rw [f1, if_pos hc2]), N0, rfl⟩
 ·
  have pre4 : ∀ tg, AT p e below s₁ m 10 #[iv p0] [(.int (1 : Int32)), (.int p0)] tg → Steps p.tables e below S0 tg := fun tg kg => pre1 tg (by
   refine XS.ifYes X0.here hx rfl (pc0 := 1) (pc' := 8) rfl (hb hby d1_1) rfl (XT.i0_ne_t hc2) (by decide) (by decide) ?_
   show AT p e below s₁ m 8 #[iv p0] [] _
   refine XS.iloadN X0.here hx rfl (hb hby d1_8) rfl ?_
   show AT p e below s₁ m 9 #[iv p0] [(.int p0)] _
   refine XS.iconst X0.here hx rfl (hb hby d1_9) ?_
   exact kg)
  rcases Decidable.em (p0 = (1 : Int32)) with hc5 | hc5
  ·
   obtain ⟨T6, X6, e6, st6⟩ := getS2 X0 hx hZ hown (host := "") (Or.inl (ow hw 22 rfl)) Via.refl e0 (S_INNER.ext O0.2) (g := (mkF m 13 #[iv p0] [])) rfl (hb hby d1_13)
   obtain ⟨fs, hr, hrun, hended, hW, hsame⟩ := X6.leave (v := some (.ref w_INNER)) (fun h => by rw [Bd.returns] at h; cases h)
   subst hS0
   refine ⟨_, _, pre4 _ ?_, hrun, hended, _, _, rfl, ?_, ⟨_, rfl⟩, hW, hsame.mono (by decide) (by decide)⟩
   ·
    refine XS.icmpNo X0.here hx rfl (hb hby d1_10) rfl (XT.ii_ne_f hc5) ?_
    show AT p e below s₁ m 13 #[iv p0] [] _
    refine st6 _ ?_
    show AT p e below T6 m 16 #[iv p0] [(.ref w_INNER)] _
    exact retOut X6 hx (t := (.object "com/example/pushplan/pushplan/plan/Join$Kind")) (i := .areturn) Bd.returns rfl (Or.inr (Or.inr (Or.inr (Or.inr ⟨rfl, rfl, rfl⟩)))) (hb hby d1_16) hr
   ·
    show Q1 Z p0 w_CROSS w_RIGHT w_FULL w_INNER w_LEFT h0 n0 _ T6.heap _
    rw [e6]
    exact ⟨(by rw [f1, if_neg hc2, if_pos hc5]), N0, rfl⟩
  ·
   have pre7 : ∀ tg, AT p e below s₁ m 19 #[iv p0] [(.int (2 : Int32)), (.int p0)] tg → Steps p.tables e below S0 tg := fun tg kg => pre4 tg (by
    refine XS.icmpYes X0.here hx rfl (pc0 := 10) (pc' := 17) rfl (hb hby d1_10) rfl (XT.ii_ne_t hc5) (by decide) (by decide) ?_
    show AT p e below s₁ m 17 #[iv p0] [] _
    refine XS.iloadN X0.here hx rfl (hb hby d1_17) rfl ?_
    show AT p e below s₁ m 18 #[iv p0] [(.int p0)] _
    refine XS.iconst X0.here hx rfl (hb hby d1_18) ?_
    exact kg)
   rcases Decidable.em (p0 = (2 : Int32)) with hc8 | hc8
   ·
    obtain ⟨T9, X9, e9, st9⟩ := getS2 X0 hx hZ hown (host := "") (Or.inl (ow hw 25 rfl)) Via.refl e0 (S_LEFT.ext O0.2) (g := (mkF m 22 #[iv p0] [])) rfl (hb hby d1_22)
    obtain ⟨fs, hr, hrun, hended, hW, hsame⟩ := X9.leave (v := some (.ref w_LEFT)) (fun h => by rw [Bd.returns] at h; cases h)
    subst hS0
    refine ⟨_, _, pre7 _ ?_, hrun, hended, _, _, rfl, ?_, ⟨_, rfl⟩, hW, hsame.mono (by decide) (by decide)⟩
    ·
     refine XS.icmpNo X0.here hx rfl (hb hby d1_19) rfl (XT.ii_ne_f hc8) ?_
     show AT p e below s₁ m 22 #[iv p0] [] _
     refine st9 _ ?_
     show AT p e below T9 m 25 #[iv p0] [(.ref w_LEFT)] _
     exact retOut X9 hx (t := (.object "com/example/pushplan/pushplan/plan/Join$Kind")) (i := .areturn) Bd.returns rfl (Or.inr (Or.inr (Or.inr (Or.inr ⟨rfl, rfl, rfl⟩)))) (hb hby d1_25) hr
    ·
     show Q1 Z p0 w_CROSS w_RIGHT w_FULL w_INNER w_LEFT h0 n0 _ T9.heap _
     rw [e9]
     exact ⟨(by rw [f1, if_neg hc2, if_neg hc5, if_pos hc8]), N0, rfl⟩
   ·
    have pre10 : ∀ tg, AT p e below s₁ m 28 #[iv p0] [(.int (3 : Int32)), (.int p0)] tg → Steps p.tables e below S0 tg := fun tg kg => pre7 tg (by
     refine XS.icmpYes X0.here hx rfl (pc0 := 19) (pc' := 26) rfl (hb hby d1_19) rfl (XT.ii_ne_t hc8) (by decide) (by decide) ?_
     show AT p e below s₁ m 26 #[iv p0] [] _
     refine XS.iloadN X0.here hx rfl (hb hby d1_26) rfl ?_
     show AT p e below s₁ m 27 #[iv p0] [(.int p0)] _
     refine XS.iconst X0.here hx rfl (hb hby d1_27) ?_
     exact kg)
    rcases Decidable.em (p0 = (3 : Int32)) with hc11 | hc11
    ·
     obtain ⟨T12, X12, e12, st12⟩ := getS2 X0 hx hZ hown (host := "") (Or.inl (ow hw 21 rfl)) Via.refl e0 (S_RIGHT.ext O0.2) (g := (mkF m 31 #[iv p0] [])) rfl (hb hby d1_31)
     obtain ⟨fs, hr, hrun, hended, hW, hsame⟩ := X12.leave (v := some (.ref w_RIGHT)) (fun h => by rw [Bd.returns] at h; cases h)
     subst hS0
     refine ⟨_, _, pre10 _ ?_, hrun, hended, _, _, rfl, ?_, ⟨_, rfl⟩, hW, hsame.mono (by decide) (by decide)⟩
     ·
      refine XS.icmpNo X0.here hx rfl (hb hby d1_28) rfl (XT.ii_ne_f hc11) ?_
      show AT p e below s₁ m 31 #[iv p0] [] _
      refine st12 _ ?_
      show AT p e below T12 m 34 #[iv p0] [(.ref w_RIGHT)] _
      exact retOut X12 hx (t := (.object "com/example/pushplan/pushplan/plan/Join$Kind")) (i := .areturn) Bd.returns rfl (Or.inr (Or.inr (Or.inr (Or.inr ⟨rfl, rfl, rfl⟩)))) (hb hby d1_34) hr
     ·
      show Q1 Z p0 w_CROSS w_RIGHT w_FULL w_INNER w_LEFT h0 n0 _ T12.heap _
      rw [e12]
      exact ⟨(by rw [f1, if_neg hc2, if_neg hc5, if_neg hc8, if_pos hc11]), N0, rfl⟩
    ·
     obtain ⟨T13, X13, e13, st13⟩ := getS2 X0 hx hZ hown (host := "") (Or.inl (ow hw 24 rfl)) Via.refl e0 (S_FULL.ext O0.2) (g := (mkF m 35 #[iv p0] [])) rfl (hb hby d1_35)
     obtain ⟨fs, hr, hrun, hended, hW, hsame⟩ := X13.leave (v := some (.ref w_FULL)) (fun h => by rw [Bd.returns] at h; cases h)
     subst hS0
     refine ⟨_, _, pre10 _ ?_, hrun, hended, _, _, rfl, ?_, ⟨_, rfl⟩, hW, hsame.mono (by decide) (by decide)⟩
     ·
      refine XS.icmpYes X0.here hx rfl (pc0 := 28) (pc' := 35) rfl (hb hby d1_28) rfl (XT.ii_ne_t hc11) (by decide) (by decide) ?_
      show AT p e below s₁ m 35 #[iv p0] [] _
      refine st13 _ ?_
      show AT p e below T13 m 38 #[iv p0] [(.ref w_FULL)] _
      exact retOut X13 hx (t := (.object "com/example/pushplan/pushplan/plan/Join$Kind")) (i := .areturn) Bd.returns rfl (Or.inr (Or.inr (Or.inr (Or.inr ⟨rfl, rfl, rfl⟩)))) (hb hby d1_38) hr
     ·
      show Q1 Z p0 w_CROSS w_RIGHT w_FULL w_INNER w_LEFT h0 n0 _ T13.heap _
      rw [e13]
      exact ⟨(by rw [f1, if_neg hc2, if_neg hc5, if_neg hc8, if_neg hc11]), N0, rfl⟩

theorem d2_0 : decode prog_57_method_5_code 0 = .ok (.aload_n 0, 1) := by decide +kernel
theorem d2_1 : decode prog_57_method_5_code 1 = .ok (.getstatic 13, 3) := by decide +kernel
theorem d2_4 : decode prog_57_method_5_code 4 = .ok (.if_acmp .eq 10, 3) := by decide +kernel
theorem d2_7 : decode prog_57_method_5_code 7 = .ok (.aload_n 0, 1) := by decide +kernel
theorem d2_8 : decode prog_57_method_5_code 8 = .ok (.getstatic 16, 3) := by decide +kernel
theorem d2_11 : decode prog_57_method_5_code 11 = .ok (.if_acmp .ne 7, 3) := by decide +kernel
theorem d2_14 : decode prog_57_method_5_code 14 = .ok (.iconst 1, 1) := by decide +kernel
theorem d2_15 : decode prog_57_method_5_code 15 = .ok (.goto 4, 3) := by decide +kernel
theorem d2_18 : decode prog_57_method_5_code 18 = .ok (.iconst 0, 1) := by decide +kernel
theorem d2_19 : decode prog_57_method_5_code 19 = .ok (.ireturn, 1) := by decide +kernel
theorem ef_2 (m : MethodId) (a0 : Addr) : entryFrame m #[(.ref a0)] 1 = mkF m 0 #[rv a0] [] := by first | (simp [entryFrame, mkF, argsToLocals, Value.category]; done) | rfl
def f2 (a0 : Addr) (w_RIGHT : Addr) (w_FULL : Addr) : Int32 := if a0 = w_RIGHT then (1 : Int32) else (if a0 = w_FULL then (1 : Int32) else (0 : Int32))
def Q2 (Z : State) (a0 : Addr) (w_CROSS : Addr) (w_RIGHT : Addr) (w_FULL : Addr) (w_INNER : Addr) (w_LEFT : Addr) (h0 : Heap) (n0 : Nat) (v : Option Value) (h : Heap) (L : List Loc) : Prop := v = some (.int (f2 a0 w_RIGHT w_FULL)) ∧ Fr n0 L ∧ h = h0
set_option maxRecDepth 65536 in
set_option maxHeartbeats 40000000 in
theorem rm2 (l : Launch) (Z : State) (ar : Array Value) (hw : ∀ d ∈ tables_1, d.before ar Z = true) (ws : List Jvm.Cond) (a0 : Addr) (w_CROSS : Addr) (w_RIGHT : Addr) (w_FULL : Addr) (w_INNER : Addr) (w_LEFT : Addr) (h0 : Heap) (n0 : Nat) (O0 : Old Z n0 h0) (HW : Wd Z w_CROSS w_RIGHT w_FULL w_INNER w_LEFT) :
    MetFree l y2 (head1 (Jvm.Cond.code y2 prog_57_method_5_code 1 (some .boolean) :: ws) ({ frames := 0, cells := 0, slots := 0, locals := 0 } : Room)) (fun a U => a = #[(.ref a0)] ∧ Z.Warmed39 U.vm ∧ U.heap = h0) (fun _ _ _ _ _ => True) (fun _ U o U' => ∃ v L, o = .returned v ∧ Q2 Z a0 w_CROSS w_RIGHT w_FULL w_INNER w_LEFT h0 n0 v U'.heap L ∧ FrameEnd U o U' L ({ frames := 0, cells := 0, slots := 0, locals := 0 } : Room).cells ({ frames := 0, cells := 0, slots := 0, locals := 0 } : Room).slots) := by
 refine MetFree.of_bodySF (plainFor_of_name pn_1) hisR ?_
 intro p e s m args below meth c s₁ Bd hml0 hP hK
 obtain ⟨rfl, hZ, hh⟩ := hP
 have hx := Bd.exec
 have hby := Bd.bytes
 have hml : c.maxLocals = 1 := hml0
 have hown : s.vm.findClass "com/example/pushplan/pushplan/plan/Join$Kind" = some m.cls := findClass_of_methodNamed Bd.named
 have hnm := (name_of_methodNamed Bd.named Bd.method).1
 have X0 : Stand p l e ({ frames := 0, cells := 0, slots := 0, locals := 0 } : Room) s m #[(.ref a0)] below meth c s₁ [] 0 0 := Stand.of_body Bd
 have e0 : s₁.heap = h0 := by rw [← hh, Bd.state]; rfl
 have N0 := Fr.nil n0
 have Z0 : n0 ≤ h0.size := Nat.le_trans (Nat.le_of_eq O0.1.symm) O0.2.1
 obtain ⟨S0, hS0⟩ : ∃ z, z = s₁.setTop (entryFrame m #[(.ref a0)] 1) := ⟨_, rfl⟩
 have pre0 : ∀ tg, AT p e below s₁ m 0 #[rv a0] [] tg → Steps p.tables e below S0 tg := fun tg kg => by rw [hS0]; exact castTop (ef_2 m a0) kg
 obtain ⟨S_CROSS, E_CROSS, S_RIGHT, E_RIGHT, F_ordinal_CROSS, F_ordinal_RIGHT, S_FULL, E_FULL, F_ordinal_FULL, S_INNER, E_INNER, F_ordinal_INNER, S_LEFT, E_LEFT, F_ordinal_LEFT⟩ := id HW
 obtain ⟨T1, X1, e1, st1⟩ := getS2 X0 hx hZ hown (host := "") (Or.inl (ow hw 13 rfl)) Via.refl e0 (S_RIGHT.ext O0.2) (g := (mkF m 1 #[rv a0] [(.ref a0)])) rfl (hb hby d2_1)
 have pre2 : ∀ tg, AT p e below T1 m 4 #[rv a0] [(.ref w_RIGHT), (.ref a0)] tg → Steps p.tables e below S0 tg := fun tg kg => pre0 tg (by
  refine XS.aloadN X0.here hx rfl (hb hby d2_0) rfl rfl ?_
  show AT p e below s₁ m 1 #[rv a0] [(.ref a0)] _
  refine st1 _ ?_
  exact kg)
 rcases Decidable.em (a0 = w_RIGHT) with hc3 | hc3
 ·
  obtain ⟨fs, hr, hrun, hended, hW, hsame⟩ := X1.leave (v := some (.int (1 : Int32))) (fun h => by rw [Bd.returns] at h; cases h)
  subst hS0
  refine ⟨_, _, pre2 _ ?_, hrun, hended, _, _, rfl, ?_, ⟨_, rfl⟩, hW, hsame.mono (by decide) (by decide)⟩
  ·
   refine Jvm.RoadKit.acmp (g := (mkF m 4 #[rv a0] [(.ref w_RIGHT), (.ref a0)])) X1 hx rfl rfl rfl (pc0 := 4) (pc' := 14) (same := true) rfl (hb hby d2_4) rfl (decide_eq_true (congrArg Value.ref hc3)) (by decide) (by decide) ?_
   show AT p e below T1 m 14 #[rv a0] [] _
   refine XS.iconst X1.here hx rfl (hb hby d2_14) ?_
   show AT p e below T1 m 15 #[rv a0] [(.int (1 : Int32))] _
   refine XS.goto X1.here hx rfl (pc0 := 15) (pc' := 19) rfl (hb hby d2_15) (by decide) (by decide) ?_
   show AT p e below T1 m 19 #[rv a0] [(.int (1 : Int32))] _
   exact retN X1 hx (t := .boolean) Bd.returns (by simp) (hb hby d2_19) hr
  ·
   show Q2 Z a0 w_CROSS w_RIGHT w_FULL w_INNER w_LEFT h0 n0 _ T1.heap _
   rw [e1]
   exact ⟨(by rw [f2, if_pos hc3]), N0, rfl⟩
 ·
  obtain ⟨T4, X4, e4, st4⟩ := getS2 X1 hx hZ hown (host := "") (Or.inl (ow hw 15 rfl)) Via.refl e1 (S_FULL.ext O0.2) (g := (mkF m 8 #[rv a0] [(.ref a0)])) rfl (hb hby d2_8)
  have pre5 : ∀ tg, AT p e below T4 m 11 #[rv a0] [(.ref w_FULL), (.ref a0)] tg → Steps p.tables e below S0 tg := fun tg kg => pre2 tg (by
   refine Jvm.RoadKit.acmp (g := (mkF m 4 #[rv a0] [(.ref w_RIGHT), (.ref a0)])) X1 hx rfl rfl rfl (pc0 := 4) (pc' := 7) (same := false) rfl (hb hby d2_4) rfl (decide_eq_false fun q => hc3 (Value.ref.inj q)) (by decide) (by decide) ?_
   show AT p e below T1 m 7 #[rv a0] [] _
   refine XS.aloadN X1.here hx rfl (hb hby d2_7) rfl rfl ?_
   show AT p e below T1 m 8 #[rv a0] [(.ref a0)] _
   refine st4 _ ?_
   exact kg)
  rcases Decidable.em (a0 = w_FULL) with hc6 | hc6
  ·
   obtain ⟨fs, hr, hrun, hended, hW, hsame⟩ := X4.leave (v := some (.int (1 : Int32))) (fun h => by rw [Bd.returns] at h; cases h)
   subst hS0
   refine ⟨_, _, pre5 _ ?_, hrun, hended, _, _, rfl, ?_, ⟨_, rfl⟩, hW, hsame.mono (by decide) (by decide)⟩
   ·
    refine Jvm.RoadKit.acmp (g := (mkF m 11 #[rv a0] [(.ref w_FULL), (.ref a0)])) X4 hx rfl rfl rfl (pc0 := 11) (pc' := 14) (same := true) rfl (hb hby d2_11) rfl (decide_eq_true (congrArg Value.ref hc6)) (by decide) (by decide) ?_
    show AT p e below T4 m 14 #[rv a0] [] _
    refine XS.iconst X4.here hx rfl (hb hby d2_14) ?_
    show AT p e below T4 m 15 #[rv a0] [(.int (1 : Int32))] _
    refine XS.goto X4.here hx rfl (pc0 := 15) (pc' := 19) rfl (hb hby d2_15) (by decide) (by decide) ?_
    show AT p e below T4 m 19 #[rv a0] [(.int (1 : Int32))] _
    exact retN X4 hx (t := .boolean) Bd.returns (by simp) (hb hby d2_19) hr
   ·
    show Q2 Z a0 w_CROSS w_RIGHT w_FULL w_INNER w_LEFT h0 n0 _ T4.heap _
    rw [e4]
    exact ⟨(by rw [f2, if_neg hc3, if_pos hc6]), N0, rfl⟩
  ·
   obtain ⟨fs, hr, hrun, hended, hW, hsame⟩ := X4.leave (v := some (.int (0 : Int32))) (fun h => by rw [Bd.returns] at h; cases h)
   subst hS0
   refine ⟨_, _, pre5 _ ?_, hrun, hended, _, _, rfl, ?_, ⟨_, rfl⟩, hW, hsame.mono (by decide) (by decide)⟩
   ·
    refine Jvm.RoadKit.acmp (g := (mkF m 11 #[rv a0] [(.ref w_FULL), (.ref a0)])) X4 hx rfl rfl rfl (pc0 := 11) (pc' := 18) (same := false) rfl (hb hby d2_11) rfl (decide_eq_false fun q => hc6 (Value.ref.inj q)) (by decide) (by decide) ?_
    show AT p e below T4 m 18 #[rv a0] [] _
    refine XS.iconst X4.here hx rfl (hb hby d2_18) ?_
    show AT p e below T4 m 19 #[rv a0] [(.int (0 : Int32))] _
    exact retN X4 hx (t := .boolean) Bd.returns (by simp) (hb hby d2_19) hr
   ·
    show Q2 Z a0 w_CROSS w_RIGHT w_FULL w_INNER w_LEFT h0 n0 _ T4.heap _
    rw [e4]
    exact ⟨(by rw [f2, if_neg hc3, if_neg hc6]), N0, rfl⟩

theorem d3_0 : decode method_3_code 0 = .ok (.iconst 5, 1) := by decide +kernel
theorem d3_1 : decode method_3_code 1 = .ok (.newarray .boolean, 2) := by decide +kernel
theorem d3_3 : decode method_3_code 3 = .ok (.dup, 1) := by decide +kernel
theorem d3_4 : decode method_3_code 4 = .ok (.iconst 0, 1) := by decide +kernel
theorem d3_5 : decode method_3_code 5 = .ok (.iconst 0, 1) := by decide +kernel
theorem d3_6 : decode method_3_code 6 = .ok (.bastore, 1) := by decide +kernel
theorem d3_7 : decode method_3_code 7 = .ok (.dup, 1) := by decide +kernel
theorem d3_8 : decode method_3_code 8 = .ok (.iconst 1, 1) := by decide +kernel
theorem d3_9 : decode method_3_code 9 = .ok (.iconst 0, 1) := by decide +kernel
theorem d3_10 : decode method_3_code 10 = .ok (.bastore, 1) := by decide +kernel
theorem d3_11 : decode method_3_code 11 = .ok (.dup, 1) := by decide +kernel
theorem d3_12 : decode method_3_code 12 = .ok (.iconst 2, 1) := by decide +kernel
theorem d3_13 : decode method_3_code 13 = .ok (.iconst 0, 1) := by decide +kernel
theorem d3_14 : decode method_3_code 14 = .ok (.bastore, 1) := by decide +kernel
theorem d3_15 : decode method_3_code 15 = .ok (.dup, 1) := by decide +kernel
theorem d3_16 : decode method_3_code 16 = .ok (.iconst 3, 1) := by decide +kernel
theorem d3_17 : decode method_3_code 17 = .ok (.iconst 1, 1) := by decide +kernel
theorem d3_18 : decode method_3_code 18 = .ok (.bastore, 1) := by decide +kernel
theorem d3_19 : decode method_3_code 19 = .ok (.dup, 1) := by decide +kernel
theorem d3_20 : decode method_3_code 20 = .ok (.iconst 4, 1) := by decide +kernel
theorem d3_21 : decode method_3_code 21 = .ok (.iconst 1, 1) := by decide +kernel
theorem d3_22 : decode method_3_code 22 = .ok (.bastore, 1) := by decide +kernel
theorem d3_23 : decode method_3_code 23 = .ok (.astore_n 1, 1) := by decide +kernel
theorem d3_24 : decode method_3_code 24 = .ok (.aload_n 1, 1) := by decide +kernel
theorem d3_25 : decode method_3_code 25 = .ok (.iload_n 0, 1) := by decide +kernel
theorem d3_26 : decode method_3_code 26 = .ok (.baload, 1) := by decide +kernel
theorem d3_27 : decode method_3_code 27 = .ok (.ireturn, 1) := by decide +kernel
theorem ef_3_0 (m : MethodId)  : entryFrame m #[(.int (0 : Int32))] 2 = mkF m 0 #[iv (0 : Int32), un] [] := by first | (simp [entryFrame, mkF, argsToLocals, Value.category]; done) | rfl
def Q3_0 (Z : State)  (h0 : Heap) (n0 : Nat) (v : Option Value) (h : Heap) (L : List Loc) : Prop := v = some (.int (0 : Int32)) ∧ Fr n0 L ∧ Keep h0 h []
set_option maxRecDepth 65536 in
set_option maxHeartbeats 40000000 in
theorem rm3_0 (l : Launch) (Z : State) (ar : Array Value) (hw : ∀ d ∈ tables_1, d.before ar Z = true) (ws : List Jvm.Cond)  (h0 : Heap) (n0 : Nat) (O0 : Old Z n0 h0) :
    MetFree l y3 (head1 (Jvm.Cond.code y3 method_3_code 2 (some .boolean) :: ws) ({ frames := 0, cells := 1, slots := 5, locals := 0 } : Room)) (fun a U => a = #[(.int (0 : Int32))] ∧ Z.Warmed39 U.vm ∧ U.heap = h0) (fun _ _ _ _ _ => True) (fun _ U o U' => ∃ v L, o = .returned v ∧ Q3_0 Z  h0 n0 v U'.heap L ∧ FrameEnd U o U' L ({ frames := 0, cells := 1, slots := 5, locals := 0 } : Room).cells ({ frames := 0, cells := 1, slots := 5, locals := 0 } : Room).slots) := by
 refine MetFree.of_bodySF (plainFor_of_name pn_0) hisR ?_
 intro p e s m args below meth c s₁ Bd hml0 hP hK
 obtain ⟨rfl, hZ, hh⟩ := hP
 have hx := Bd.exec
 have hby := Bd.bytes
 have hml : c.maxLocals = 2 := hml0
 have hown : s.vm.findClass "com/example/pushplan/pushplan/plan/KindPreservesRightPinLaw" = some m.cls := findClass_of_methodNamed Bd.named
 have hnm := (name_of_methodNamed Bd.named Bd.method).1
 have X0 : Stand p l e ({ frames := 0, cells := 1, slots := 5, locals := 0 } : Room) s m #[(.int (0 : Int32))] below meth c s₁ [] 0 0 := Stand.of_body Bd
 have e0 : s₁.heap = h0 := by rw [← hh, Bd.state]; rfl
 have N0 := Fr.nil n0
 have Z0 : n0 ≤ h0.size := Nat.le_trans (Nat.le_of_eq O0.1.symm) O0.2.1
 obtain ⟨S0, hS0⟩ : ∃ z, z = s₁.setTop (entryFrame m #[(.int (0 : Int32))] 2) := ⟨_, rfl⟩
 have pre0 : ∀ tg, AT p e below s₁ m 0 #[iv (0 : Int32), un] [] tg → Steps p.tables e below S0 tg := fun tg kg => by rw [hS0]; exact castTop (ef_3_0 m ) kg
 obtain ⟨T1, h1, k1, X1, e1, E1, A1, B1, st1⟩ := newPE X0 hx hZ (ow hw 20 rfl) e0 (g := (mkF m 1 #[iv (0 : Int32), un] [(.int (5 : Int32))])) rfl (hb hby d3_1) rfl (by decide) (cap := 5) (by decide) (by decide) (by decide) (by decide) (ad := "[Z") (by decide)
 obtain ⟨b1, g1⟩ : ∃ z, z = h0.size := ⟨_, rfl⟩
 rw [← g1] at A1 B1 st1
 have gn1 : n0 ≤ b1 := Nat.le_trans (Nat.le_trans (Nat.le_of_eq O0.1.symm) O0.2.1) (Nat.le_of_eq g1.symm)
 have sz1 : h0.size ≤ b1 := Nat.le_trans (Keep.refl h0 []).1 (Nat.le_of_eq g1.symm)
 have K1 := (Keep.refl h0 []).ext E1
 have O1 := O0.ext E1
 have V1_2 : Arv Z h1 b1 k1 .boolean (5 : Int32) [(.int (0 : Int32)), (.int (0 : Int32)), (.int (0 : Int32)), (.int (0 : Int32)), (.int (0 : Int32))] (.int (0 : Int32)) := (Arv.new A1 (by decide)).pad (pad_rep [] (.int (0 : Int32)) 5)
 obtain ⟨cl3, Ar3, q3, S3, M3, H3, G3⟩ := V1_2
 have hin3 := own_in (0 : Int32) S3 ⟨by decide, by decide⟩
 obtain ⟨T3, h3, X3, e3, W3, st3⟩ := stZ X1 hx hZ e1 Ar3 (j := (0 : Int32)) hin3 (g := (mkF m 6 #[iv (0 : Int32), un] [(.int (0 : Int32)), (.int (0 : Int32)), (.ref b1), (.ref b1)])) rfl rfl (hb hby d3_6)
 have V3_4 : Arv Z h3 b1 k1 .boolean (5 : Int32) [(.int (0 : Int32)), (.int (0 : Int32)), (.int (0 : Int32)), (.int (0 : Int32)), (.int (0 : Int32))] (.int (0 : Int32)) := Arv.set Ar3 q3 S3 M3 H3 G3 (fits_nar_bool _) W3 0 rfl (Nat.le_of_ble_eq_true rfl)
 have E3_5 := B1.wr W3
 have K3 := K1.wr W3 (Or.inr sz1)
 have O3 := O1.wr W3 gn1
 have N3 := Fr.snoc X3 N0 gn1
 obtain ⟨cl6, Ar6, q6, S6, M6, H6, G6⟩ := V3_4
 have hin6 := own_in (1 : Int32) S6 ⟨by decide, by decide⟩
 obtain ⟨T6, h6, X6, e6, W6, st6⟩ := stZ X3 hx hZ e3 Ar6 (j := (1 : Int32)) hin6 (g := (mkF m 10 #[iv (0 : Int32), un] [(.int (0 : Int32)), (.int (1 : Int32)), (.ref b1), (.ref b1)])) rfl rfl (hb hby d3_10)
 have V6_7 : Arv Z h6 b1 k1 .boolean (5 : Int32) [(.int (0 : Int32)), (.int (0 : Int32)), (.int (0 : Int32)), (.int (0 : Int32)), (.int (0 : Int32))] (.int (0 : Int32)) := Arv.set Ar6 q6 S6 M6 H6 G6 (fits_nar_bool _) W6 1 rfl (Nat.le_of_ble_eq_true rfl)
 have E6_8 := E3_5.wr W6
 have K6 := K3.wr W6 (Or.inr sz1)
 have O6 := O3.wr W6 gn1
 have N6 := Fr.snoc X6 N3 gn1
 obtain ⟨cl9, Ar9, q9, S9, M9, H9, G9⟩ := V6_7
 have hin9 := own_in (2 : Int32) S9 ⟨by decide, by decide⟩
 obtain ⟨T9, h9, X9, e9, W9, st9⟩ := stZ X6 hx hZ e6 Ar9 (j := (2 : Int32)) hin9 (g := (mkF m 14 #[iv (0 : Int32), un] [(.int (0 : Int32)), (.int (2 : Int32)), (.ref b1), (.ref b1)])) rfl rfl (hb hby d3_14)
 have V9_10 : Arv Z h9 b1 k1 .boolean (5 : Int32) [(.int (0 : Int32)), (.int (0 : Int32)), (.int (0 : Int32)), (.int (0 : Int32)), (.int (0 : Int32))] (.int (0 : Int32)) := Arv.set Ar9 q9 S9 M9 H9 G9 (fits_nar_bool _) W9 2 rfl (Nat.le_of_ble_eq_true rfl)
 have E9_11 := E6_8.wr W9
 have K9 := K6.wr W9 (Or.inr sz1)
 have O9 := O6.wr W9 gn1
 have N9 := Fr.snoc X9 N6 gn1
 obtain ⟨cl12, Ar12, q12, S12, M12, H12, G12⟩ := V9_10
 have hin12 := own_in (3 : Int32) S12 ⟨by decide, by decide⟩
 obtain ⟨T12, h12, X12, e12, W12, st12⟩ := stZ X9 hx hZ e9 Ar12 (j := (3 : Int32)) hin12 (g := (mkF m 18 #[iv (0 : Int32), un] [(.int (1 : Int32)), (.int (3 : Int32)), (.ref b1), (.ref b1)])) rfl rfl (hb hby d3_18)
 have V12_13 : Arv Z h12 b1 k1 .boolean (5 : Int32) [(.int (0 : Int32)), (.int (0 : Int32)), (.int (0 : Int32)), (.int (1 : Int32)), (.int (0 : Int32))] (.int (0 : Int32)) := Arv.set Ar12 q12 S12 M12 H12 G12 (fits_nar_bool _) W12 3 rfl (Nat.le_of_ble_eq_true rfl)
 have E12_14 := E9_11.wr W12
 have K12 := K9.wr W12 (Or.inr sz1)
 have O12 := O9.wr W12 gn1
 have N12 := Fr.snoc X12 N9 gn1
 obtain ⟨cl15, Ar15, q15, S15, M15, H15, G15⟩ := V12_13
 have hin15 := own_in (4 : Int32) S15 ⟨by decide, by decide⟩
 obtain ⟨T15, h15, X15, e15, W15, st15⟩ := stZ X12 hx hZ e12 Ar15 (j := (4 : Int32)) hin15 (g := (mkF m 22 #[iv (0 : Int32), un] [(.int (1 : Int32)), (.int (4 : Int32)), (.ref b1), (.ref b1)])) rfl rfl (hb hby d3_22)
 have V15_16 : Arv Z h15 b1 k1 .boolean (5 : Int32) [(.int (0 : Int32)), (.int (0 : Int32)), (.int (0 : Int32)), (.int (1 : Int32)), (.int (1 : Int32))] (.int (0 : Int32)) := Arv.set Ar15 q15 S15 M15 H15 G15 (fits_nar_bool _) W15 4 rfl (Nat.le_of_ble_eq_true rfl)
 have E15_17 := E12_14.wr W15
 have K15 := K12.wr W15 (Or.inr sz1)
 have O15 := O12.wr W15 gn1
 have N15 := Fr.snoc X15 N12 gn1
 obtain ⟨cl18, Ar18, q18, S18, N18, H18, G18⟩ := V15_16
 have hin18 := own_in (0 : Int32) S18 ⟨by decide, by decide⟩
 have hat18 : cl18.slots[((0 : Int32)).toNatClampNeg]? = some (.int (0 : Int32)) := Has.at H18 hin18 rfl
 obtain ⟨fs, hr, hrun, hended, hW, hsame⟩ := X15.leave (v := some (.int (0 : Int32))) (fun h => by rw [Bd.returns] at h; cases h)
 subst hS0
 refine ⟨_, _, pre0 _ ?_, hrun, hended, _, _, rfl, ?_, ⟨_, rfl⟩, hW, hsame.mono (by decide) (by decide)⟩
 ·
  refine XS.iconst X0.here hx rfl (hb hby d3_0) ?_
  show AT p e below s₁ m 1 #[iv (0 : Int32), un] [(.int (5 : Int32))] _
  refine st1 _ ?_
  show AT p e below T1 m 3 #[iv (0 : Int32), un] [(.ref b1)] _
  refine XS.dup X1.here hx rfl (hb hby d3_3) rfl rfl ?_
  show AT p e below T1 m 4 #[iv (0 : Int32), un] [(.ref b1), (.ref b1)] _
  refine XS.iconst X1.here hx rfl (hb hby d3_4) ?_
  show AT p e below T1 m 5 #[iv (0 : Int32), un] [(.int (0 : Int32)), (.ref b1), (.ref b1)] _
  refine XS.iconst X1.here hx rfl (hb hby d3_5) ?_
  show AT p e below T1 m 6 #[iv (0 : Int32), un] [(.int (0 : Int32)), (.int (0 : Int32)), (.ref b1), (.ref b1)] _
  refine st3 _ ?_
  show AT p e below T3 m 7 #[iv (0 : Int32), un] [(.ref b1)] _
  refine XS.dup X3.here hx rfl (hb hby d3_7) rfl rfl ?_
  show AT p e below T3 m 8 #[iv (0 : Int32), un] [(.ref b1), (.ref b1)] _
  refine XS.iconst X3.here hx rfl (hb hby d3_8) ?_
  show AT p e below T3 m 9 #[iv (0 : Int32), un] [(.int (1 : Int32)), (.ref b1), (.ref b1)] _
  refine XS.iconst X3.here hx rfl (hb hby d3_9) ?_
  show AT p e below T3 m 10 #[iv (0 : Int32), un] [(.int (0 : Int32)), (.int (1 : Int32)), (.ref b1), (.ref b1)] _
  refine st6 _ ?_
  show AT p e below T6 m 11 #[iv (0 : Int32), un] [(.ref b1)] _
  refine XS.dup X6.here hx rfl (hb hby d3_11) rfl rfl ?_
  show AT p e below T6 m 12 #[iv (0 : Int32), un] [(.ref b1), (.ref b1)] _
  refine XS.iconst X6.here hx rfl (hb hby d3_12) ?_
  show AT p e below T6 m 13 #[iv (0 : Int32), un] [(.int (2 : Int32)), (.ref b1), (.ref b1)] _
  refine XS.iconst X6.here hx rfl (hb hby d3_13) ?_
  show AT p e below T6 m 14 #[iv (0 : Int32), un] [(.int (0 : Int32)), (.int (2 : Int32)), (.ref b1), (.ref b1)] _
  refine st9 _ ?_
  show AT p e below T9 m 15 #[iv (0 : Int32), un] [(.ref b1)] _
  refine XS.dup X9.here hx rfl (hb hby d3_15) rfl rfl ?_
  show AT p e below T9 m 16 #[iv (0 : Int32), un] [(.ref b1), (.ref b1)] _
  refine XS.iconst X9.here hx rfl (hb hby d3_16) ?_
  show AT p e below T9 m 17 #[iv (0 : Int32), un] [(.int (3 : Int32)), (.ref b1), (.ref b1)] _
  refine XS.iconst X9.here hx rfl (hb hby d3_17) ?_
  show AT p e below T9 m 18 #[iv (0 : Int32), un] [(.int (1 : Int32)), (.int (3 : Int32)), (.ref b1), (.ref b1)] _
  refine st12 _ ?_
  show AT p e below T12 m 19 #[iv (0 : Int32), un] [(.ref b1)] _
  refine XS.dup X12.here hx rfl (hb hby d3_19) rfl rfl ?_
  show AT p e below T12 m 20 #[iv (0 : Int32), un] [(.ref b1), (.ref b1)] _
  refine XS.iconst X12.here hx rfl (hb hby d3_20) ?_
  show AT p e below T12 m 21 #[iv (0 : Int32), un] [(.int (4 : Int32)), (.ref b1), (.ref b1)] _
  refine XS.iconst X12.here hx rfl (hb hby d3_21) ?_
  show AT p e below T12 m 22 #[iv (0 : Int32), un] [(.int (1 : Int32)), (.int (4 : Int32)), (.ref b1), (.ref b1)] _
  refine st15 _ ?_
  show AT p e below T15 m 23 #[iv (0 : Int32), un] [(.ref b1)] _
  refine XS.astoreN X15.here hx rfl (hb hby d3_23) rfl rfl (l' := #[iv (0 : Int32), rv b1]) rfl ?_
  show AT p e below T15 m 24 #[iv (0 : Int32), rv b1] [] _
  refine XS.aloadN X15.here hx rfl (hb hby d3_24) rfl rfl ?_
  show AT p e below T15 m 25 #[iv (0 : Int32), rv b1] [(.ref b1)] _
  refine XS.iloadN X15.here hx rfl (hb hby d3_25) rfl ?_
  show AT p e below T15 m 26 #[iv (0 : Int32), rv b1] [(.int (0 : Int32)), (.ref b1)] _
  refine X15.baloadBooleans hx (j := (0 : Int32)) (v := (.int (0 : Int32))) (by rw [e15]; exact Ar18.1) (State.isArrayOf_alike hZ.alike Ar18.2.1) Ar18.2.2 hin18 hat18 (g := (mkF m 26 #[iv (0 : Int32), rv b1] [(.int (0 : Int32)), (.ref b1)])) rfl rfl (hb hby d3_26) _ ?_
  show AT p e below T15 m 27 #[iv (0 : Int32), rv b1] [(.int (0 : Int32))] _
  exact retN X15 hx (t := .boolean) Bd.returns (by simp) (hb hby d3_27) hr
 ·
  show Q3_0 Z  h0 n0 _ T15.heap _
  rw [e15]
  exact ⟨rfl, N15, K15⟩

theorem ef_3_1 (m : MethodId)  : entryFrame m #[(.int (1 : Int32))] 2 = mkF m 0 #[iv (1 : Int32), un] [] := by first | (simp [entryFrame, mkF, argsToLocals, Value.category]; done) | rfl
def Q3_1 (Z : State)  (h0 : Heap) (n0 : Nat) (v : Option Value) (h : Heap) (L : List Loc) : Prop := v = some (.int (0 : Int32)) ∧ Fr n0 L ∧ Keep h0 h []
set_option maxRecDepth 65536 in
set_option maxHeartbeats 40000000 in
theorem rm3_1 (l : Launch) (Z : State) (ar : Array Value) (hw : ∀ d ∈ tables_1, d.before ar Z = true) (ws : List Jvm.Cond)  (h0 : Heap) (n0 : Nat) (O0 : Old Z n0 h0) :
    MetFree l y3 (head1 (Jvm.Cond.code y3 method_3_code 2 (some .boolean) :: ws) ({ frames := 0, cells := 1, slots := 5, locals := 0 } : Room)) (fun a U => a = #[(.int (1 : Int32))] ∧ Z.Warmed39 U.vm ∧ U.heap = h0) (fun _ _ _ _ _ => True) (fun _ U o U' => ∃ v L, o = .returned v ∧ Q3_1 Z  h0 n0 v U'.heap L ∧ FrameEnd U o U' L ({ frames := 0, cells := 1, slots := 5, locals := 0 } : Room).cells ({ frames := 0, cells := 1, slots := 5, locals := 0 } : Room).slots) := by
 refine MetFree.of_bodySF (plainFor_of_name pn_0) hisR ?_
 intro p e s m args below meth c s₁ Bd hml0 hP hK
 obtain ⟨rfl, hZ, hh⟩ := hP
 have hx := Bd.exec
 have hby := Bd.bytes
 have hml : c.maxLocals = 2 := hml0
 have hown : s.vm.findClass "com/example/pushplan/pushplan/plan/KindPreservesRightPinLaw" = some m.cls := findClass_of_methodNamed Bd.named
 have hnm := (name_of_methodNamed Bd.named Bd.method).1
 have X0 : Stand p l e ({ frames := 0, cells := 1, slots := 5, locals := 0 } : Room) s m #[(.int (1 : Int32))] below meth c s₁ [] 0 0 := Stand.of_body Bd
 have e0 : s₁.heap = h0 := by rw [← hh, Bd.state]; rfl
 have N0 := Fr.nil n0
 have Z0 : n0 ≤ h0.size := Nat.le_trans (Nat.le_of_eq O0.1.symm) O0.2.1
 obtain ⟨S0, hS0⟩ : ∃ z, z = s₁.setTop (entryFrame m #[(.int (1 : Int32))] 2) := ⟨_, rfl⟩
 have pre0 : ∀ tg, AT p e below s₁ m 0 #[iv (1 : Int32), un] [] tg → Steps p.tables e below S0 tg := fun tg kg => by rw [hS0]; exact castTop (ef_3_1 m ) kg
 obtain ⟨T1, h1, k1, X1, e1, E1, A1, B1, st1⟩ := newPE X0 hx hZ (ow hw 20 rfl) e0 (g := (mkF m 1 #[iv (1 : Int32), un] [(.int (5 : Int32))])) rfl (hb hby d3_1) rfl (by decide) (cap := 5) (by decide) (by decide) (by decide) (by decide) (ad := "[Z") (by decide)
 obtain ⟨b1, g1⟩ : ∃ z, z = h0.size := ⟨_, rfl⟩
 rw [← g1] at A1 B1 st1
 have gn1 : n0 ≤ b1 := Nat.le_trans (Nat.le_trans (Nat.le_of_eq O0.1.symm) O0.2.1) (Nat.le_of_eq g1.symm)
 have sz1 : h0.size ≤ b1 := Nat.le_trans (Keep.refl h0 []).1 (Nat.le_of_eq g1.symm)
 have K1 := (Keep.refl h0 []).ext E1
 have O1 := O0.ext E1
 have V1_2 : Arv Z h1 b1 k1 .boolean (5 : Int32) [(.int (0 : Int32)), (.int (0 : Int32)), (.int (0 : Int32)), (.int (0 : Int32)), (.int (0 : Int32))] (.int (0 : Int32)) := (Arv.new A1 (by decide)).pad (pad_rep [] (.int (0 : Int32)) 5)
 obtain ⟨cl3, Ar3, q3, S3, M3, H3, G3⟩ := V1_2
 have hin3 := own_in (0 : Int32) S3 ⟨by decide, by decide⟩
 obtain ⟨T3, h3, X3, e3, W3, st3⟩ := stZ X1 hx hZ e1 Ar3 (j := (0 : Int32)) hin3 (g := (mkF m 6 #[iv (1 : Int32), un] [(.int (0 : Int32)), (.int (0 : Int32)), (.ref b1), (.ref b1)])) rfl rfl (hb hby d3_6)
 have V3_4 : Arv Z h3 b1 k1 .boolean (5 : Int32) [(.int (0 : Int32)), (.int (0 : Int32)), (.int (0 : Int32)), (.int (0 : Int32)), (.int (0 : Int32))] (.int (0 : Int32)) := Arv.set Ar3 q3 S3 M3 H3 G3 (fits_nar_bool _) W3 0 rfl (Nat.le_of_ble_eq_true rfl)
 have E3_5 := B1.wr W3
 have K3 := K1.wr W3 (Or.inr sz1)
 have O3 := O1.wr W3 gn1
 have N3 := Fr.snoc X3 N0 gn1
 obtain ⟨cl6, Ar6, q6, S6, M6, H6, G6⟩ := V3_4
 have hin6 := own_in (1 : Int32) S6 ⟨by decide, by decide⟩
 obtain ⟨T6, h6, X6, e6, W6, st6⟩ := stZ X3 hx hZ e3 Ar6 (j := (1 : Int32)) hin6 (g := (mkF m 10 #[iv (1 : Int32), un] [(.int (0 : Int32)), (.int (1 : Int32)), (.ref b1), (.ref b1)])) rfl rfl (hb hby d3_10)
 have V6_7 : Arv Z h6 b1 k1 .boolean (5 : Int32) [(.int (0 : Int32)), (.int (0 : Int32)), (.int (0 : Int32)), (.int (0 : Int32)), (.int (0 : Int32))] (.int (0 : Int32)) := Arv.set Ar6 q6 S6 M6 H6 G6 (fits_nar_bool _) W6 1 rfl (Nat.le_of_ble_eq_true rfl)
 have E6_8 := E3_5.wr W6
 have K6 := K3.wr W6 (Or.inr sz1)
 have O6 := O3.wr W6 gn1
 have N6 := Fr.snoc X6 N3 gn1
 obtain ⟨cl9, Ar9, q9, S9, M9, H9, G9⟩ := V6_7
 have hin9 := own_in (2 : Int32) S9 ⟨by decide, by decide⟩
 obtain ⟨T9, h9, X9, e9, W9, st9⟩ := stZ X6 hx hZ e6 Ar9 (j := (2 : Int32)) hin9 (g := (mkF m 14 #[iv (1 : Int32), un] [(.int (0 : Int32)), (.int (2 : Int32)), (.ref b1), (.ref b1)])) rfl rfl (hb hby d3_14)
 have V9_10 : Arv Z h9 b1 k1 .boolean (5 : Int32) [(.int (0 : Int32)), (.int (0 : Int32)), (.int (0 : Int32)), (.int (0 : Int32)), (.int (0 : Int32))] (.int (0 : Int32)) := Arv.set Ar9 q9 S9 M9 H9 G9 (fits_nar_bool _) W9 2 rfl (Nat.le_of_ble_eq_true rfl)
 have E9_11 := E6_8.wr W9
 have K9 := K6.wr W9 (Or.inr sz1)
 have O9 := O6.wr W9 gn1
 have N9 := Fr.snoc X9 N6 gn1
 obtain ⟨cl12, Ar12, q12, S12, M12, H12, G12⟩ := V9_10
 have hin12 := own_in (3 : Int32) S12 ⟨by decide, by decide⟩
 obtain ⟨T12, h12, X12, e12, W12, st12⟩ := stZ X9 hx hZ e9 Ar12 (j := (3 : Int32)) hin12 (g := (mkF m 18 #[iv (1 : Int32), un] [(.int (1 : Int32)), (.int (3 : Int32)), (.ref b1), (.ref b1)])) rfl rfl (hb hby d3_18)
 have V12_13 : Arv Z h12 b1 k1 .boolean (5 : Int32) [(.int (0 : Int32)), (.int (0 : Int32)), (.int (0 : Int32)), (.int (1 : Int32)), (.int (0 : Int32))] (.int (0 : Int32)) := Arv.set Ar12 q12 S12 M12 H12 G12 (fits_nar_bool _) W12 3 rfl (Nat.le_of_ble_eq_true rfl)
 have E12_14 := E9_11.wr W12
 have K12 := K9.wr W12 (Or.inr sz1)
 have O12 := O9.wr W12 gn1
 have N12 := Fr.snoc X12 N9 gn1
 obtain ⟨cl15, Ar15, q15, S15, M15, H15, G15⟩ := V12_13
 have hin15 := own_in (4 : Int32) S15 ⟨by decide, by decide⟩
 obtain ⟨T15, h15, X15, e15, W15, st15⟩ := stZ X12 hx hZ e12 Ar15 (j := (4 : Int32)) hin15 (g := (mkF m 22 #[iv (1 : Int32), un] [(.int (1 : Int32)), (.int (4 : Int32)), (.ref b1), (.ref b1)])) rfl rfl (hb hby d3_22)
 have V15_16 : Arv Z h15 b1 k1 .boolean (5 : Int32) [(.int (0 : Int32)), (.int (0 : Int32)), (.int (0 : Int32)), (.int (1 : Int32)), (.int (1 : Int32))] (.int (0 : Int32)) := Arv.set Ar15 q15 S15 M15 H15 G15 (fits_nar_bool _) W15 4 rfl (Nat.le_of_ble_eq_true rfl)
 have E15_17 := E12_14.wr W15
 have K15 := K12.wr W15 (Or.inr sz1)
 have O15 := O12.wr W15 gn1
 have N15 := Fr.snoc X15 N12 gn1
 obtain ⟨cl18, Ar18, q18, S18, N18, H18, G18⟩ := V15_16
 have hin18 := own_in (1 : Int32) S18 ⟨by decide, by decide⟩
 have hat18 : cl18.slots[((1 : Int32)).toNatClampNeg]? = some (.int (0 : Int32)) := Has.at H18 hin18 rfl
 obtain ⟨fs, hr, hrun, hended, hW, hsame⟩ := X15.leave (v := some (.int (0 : Int32))) (fun h => by rw [Bd.returns] at h; cases h)
 subst hS0
 refine ⟨_, _, pre0 _ ?_, hrun, hended, _, _, rfl, ?_, ⟨_, rfl⟩, hW, hsame.mono (by decide) (by decide)⟩
 ·
  refine XS.iconst X0.here hx rfl (hb hby d3_0) ?_
  show AT p e below s₁ m 1 #[iv (1 : Int32), un] [(.int (5 : Int32))] _
  refine st1 _ ?_
  show AT p e below T1 m 3 #[iv (1 : Int32), un] [(.ref b1)] _
  refine XS.dup X1.here hx rfl (hb hby d3_3) rfl rfl ?_
  show AT p e below T1 m 4 #[iv (1 : Int32), un] [(.ref b1), (.ref b1)] _
  refine XS.iconst X1.here hx rfl (hb hby d3_4) ?_
  show AT p e below T1 m 5 #[iv (1 : Int32), un] [(.int (0 : Int32)), (.ref b1), (.ref b1)] _
  refine XS.iconst X1.here hx rfl (hb hby d3_5) ?_
  show AT p e below T1 m 6 #[iv (1 : Int32), un] [(.int (0 : Int32)), (.int (0 : Int32)), (.ref b1), (.ref b1)] _
  refine st3 _ ?_
  show AT p e below T3 m 7 #[iv (1 : Int32), un] [(.ref b1)] _
  refine XS.dup X3.here hx rfl (hb hby d3_7) rfl rfl ?_
  show AT p e below T3 m 8 #[iv (1 : Int32), un] [(.ref b1), (.ref b1)] _
  refine XS.iconst X3.here hx rfl (hb hby d3_8) ?_
  show AT p e below T3 m 9 #[iv (1 : Int32), un] [(.int (1 : Int32)), (.ref b1), (.ref b1)] _
  refine XS.iconst X3.here hx rfl (hb hby d3_9) ?_
  show AT p e below T3 m 10 #[iv (1 : Int32), un] [(.int (0 : Int32)), (.int (1 : Int32)), (.ref b1), (.ref b1)] _
  refine st6 _ ?_
  show AT p e below T6 m 11 #[iv (1 : Int32), un] [(.ref b1)] _
  refine XS.dup X6.here hx rfl (hb hby d3_11) rfl rfl ?_
  show AT p e below T6 m 12 #[iv (1 : Int32), un] [(.ref b1), (.ref b1)] _
  refine XS.iconst X6.here hx rfl (hb hby d3_12) ?_
  show AT p e below T6 m 13 #[iv (1 : Int32), un] [(.int (2 : Int32)), (.ref b1), (.ref b1)] _
  refine XS.iconst X6.here hx rfl (hb hby d3_13) ?_
  show AT p e below T6 m 14 #[iv (1 : Int32), un] [(.int (0 : Int32)), (.int (2 : Int32)), (.ref b1), (.ref b1)] _
  refine st9 _ ?_
  show AT p e below T9 m 15 #[iv (1 : Int32), un] [(.ref b1)] _
  refine XS.dup X9.here hx rfl (hb hby d3_15) rfl rfl ?_
  show AT p e below T9 m 16 #[iv (1 : Int32), un] [(.ref b1), (.ref b1)] _
  refine XS.iconst X9.here hx rfl (hb hby d3_16) ?_
  show AT p e below T9 m 17 #[iv (1 : Int32), un] [(.int (3 : Int32)), (.ref b1), (.ref b1)] _
  refine XS.iconst X9.here hx rfl (hb hby d3_17) ?_
  show AT p e below T9 m 18 #[iv (1 : Int32), un] [(.int (1 : Int32)), (.int (3 : Int32)), (.ref b1), (.ref b1)] _
  refine st12 _ ?_
  show AT p e below T12 m 19 #[iv (1 : Int32), un] [(.ref b1)] _
  refine XS.dup X12.here hx rfl (hb hby d3_19) rfl rfl ?_
  show AT p e below T12 m 20 #[iv (1 : Int32), un] [(.ref b1), (.ref b1)] _
  refine XS.iconst X12.here hx rfl (hb hby d3_20) ?_
  show AT p e below T12 m 21 #[iv (1 : Int32), un] [(.int (4 : Int32)), (.ref b1), (.ref b1)] _
  refine XS.iconst X12.here hx rfl (hb hby d3_21) ?_
  show AT p e below T12 m 22 #[iv (1 : Int32), un] [(.int (1 : Int32)), (.int (4 : Int32)), (.ref b1), (.ref b1)] _
  refine st15 _ ?_
  show AT p e below T15 m 23 #[iv (1 : Int32), un] [(.ref b1)] _
  refine XS.astoreN X15.here hx rfl (hb hby d3_23) rfl rfl (l' := #[iv (1 : Int32), rv b1]) rfl ?_
  show AT p e below T15 m 24 #[iv (1 : Int32), rv b1] [] _
  refine XS.aloadN X15.here hx rfl (hb hby d3_24) rfl rfl ?_
  show AT p e below T15 m 25 #[iv (1 : Int32), rv b1] [(.ref b1)] _
  refine XS.iloadN X15.here hx rfl (hb hby d3_25) rfl ?_
  show AT p e below T15 m 26 #[iv (1 : Int32), rv b1] [(.int (1 : Int32)), (.ref b1)] _
  refine X15.baloadBooleans hx (j := (1 : Int32)) (v := (.int (0 : Int32))) (by rw [e15]; exact Ar18.1) (State.isArrayOf_alike hZ.alike Ar18.2.1) Ar18.2.2 hin18 hat18 (g := (mkF m 26 #[iv (1 : Int32), rv b1] [(.int (1 : Int32)), (.ref b1)])) rfl rfl (hb hby d3_26) _ ?_
  show AT p e below T15 m 27 #[iv (1 : Int32), rv b1] [(.int (0 : Int32))] _
  exact retN X15 hx (t := .boolean) Bd.returns (by simp) (hb hby d3_27) hr
 ·
  show Q3_1 Z  h0 n0 _ T15.heap _
  rw [e15]
  exact ⟨rfl, N15, K15⟩

theorem ef_3_2 (m : MethodId)  : entryFrame m #[(.int (2 : Int32))] 2 = mkF m 0 #[iv (2 : Int32), un] [] := by first | (simp [entryFrame, mkF, argsToLocals, Value.category]; done) | rfl
def Q3_2 (Z : State)  (h0 : Heap) (n0 : Nat) (v : Option Value) (h : Heap) (L : List Loc) : Prop := v = some (.int (0 : Int32)) ∧ Fr n0 L ∧ Keep h0 h []
set_option maxRecDepth 65536 in
set_option maxHeartbeats 40000000 in
theorem rm3_2 (l : Launch) (Z : State) (ar : Array Value) (hw : ∀ d ∈ tables_1, d.before ar Z = true) (ws : List Jvm.Cond)  (h0 : Heap) (n0 : Nat) (O0 : Old Z n0 h0) :
    MetFree l y3 (head1 (Jvm.Cond.code y3 method_3_code 2 (some .boolean) :: ws) ({ frames := 0, cells := 1, slots := 5, locals := 0 } : Room)) (fun a U => a = #[(.int (2 : Int32))] ∧ Z.Warmed39 U.vm ∧ U.heap = h0) (fun _ _ _ _ _ => True) (fun _ U o U' => ∃ v L, o = .returned v ∧ Q3_2 Z  h0 n0 v U'.heap L ∧ FrameEnd U o U' L ({ frames := 0, cells := 1, slots := 5, locals := 0 } : Room).cells ({ frames := 0, cells := 1, slots := 5, locals := 0 } : Room).slots) := by
 refine MetFree.of_bodySF (plainFor_of_name pn_0) hisR ?_
 intro p e s m args below meth c s₁ Bd hml0 hP hK
 obtain ⟨rfl, hZ, hh⟩ := hP
 have hx := Bd.exec
 have hby := Bd.bytes
 have hml : c.maxLocals = 2 := hml0
 have hown : s.vm.findClass "com/example/pushplan/pushplan/plan/KindPreservesRightPinLaw" = some m.cls := findClass_of_methodNamed Bd.named
 have hnm := (name_of_methodNamed Bd.named Bd.method).1
 have X0 : Stand p l e ({ frames := 0, cells := 1, slots := 5, locals := 0 } : Room) s m #[(.int (2 : Int32))] below meth c s₁ [] 0 0 := Stand.of_body Bd
 have e0 : s₁.heap = h0 := by rw [← hh, Bd.state]; rfl
 have N0 := Fr.nil n0
 have Z0 : n0 ≤ h0.size := Nat.le_trans (Nat.le_of_eq O0.1.symm) O0.2.1
 obtain ⟨S0, hS0⟩ : ∃ z, z = s₁.setTop (entryFrame m #[(.int (2 : Int32))] 2) := ⟨_, rfl⟩
 have pre0 : ∀ tg, AT p e below s₁ m 0 #[iv (2 : Int32), un] [] tg → Steps p.tables e below S0 tg := fun tg kg => by rw [hS0]; exact castTop (ef_3_2 m ) kg
 obtain ⟨T1, h1, k1, X1, e1, E1, A1, B1, st1⟩ := newPE X0 hx hZ (ow hw 20 rfl) e0 (g := (mkF m 1 #[iv (2 : Int32), un] [(.int (5 : Int32))])) rfl (hb hby d3_1) rfl (by decide) (cap := 5) (by decide) (by decide) (by decide) (by decide) (ad := "[Z") (by decide)
 obtain ⟨b1, g1⟩ : ∃ z, z = h0.size := ⟨_, rfl⟩
 rw [← g1] at A1 B1 st1
 have gn1 : n0 ≤ b1 := Nat.le_trans (Nat.le_trans (Nat.le_of_eq O0.1.symm) O0.2.1) (Nat.le_of_eq g1.symm)
 have sz1 : h0.size ≤ b1 := Nat.le_trans (Keep.refl h0 []).1 (Nat.le_of_eq g1.symm)
 have K1 := (Keep.refl h0 []).ext E1
 have O1 := O0.ext E1
 have V1_2 : Arv Z h1 b1 k1 .boolean (5 : Int32) [(.int (0 : Int32)), (.int (0 : Int32)), (.int (0 : Int32)), (.int (0 : Int32)), (.int (0 : Int32))] (.int (0 : Int32)) := (Arv.new A1 (by decide)).pad (pad_rep [] (.int (0 : Int32)) 5)
 obtain ⟨cl3, Ar3, q3, S3, M3, H3, G3⟩ := V1_2
 have hin3 := own_in (0 : Int32) S3 ⟨by decide, by decide⟩
 obtain ⟨T3, h3, X3, e3, W3, st3⟩ := stZ X1 hx hZ e1 Ar3 (j := (0 : Int32)) hin3 (g := (mkF m 6 #[iv (2 : Int32), un] [(.int (0 : Int32)), (.int (0 : Int32)), (.ref b1), (.ref b1)])) rfl rfl (hb hby d3_6)
 have V3_4 : Arv Z h3 b1 k1 .boolean (5 : Int32) [(.int (0 : Int32)), (.int (0 : Int32)), (.int (0 : Int32)), (.int (0 : Int32)), (.int (0 : Int32))] (.int (0 : Int32)) := Arv.set Ar3 q3 S3 M3 H3 G3 (fits_nar_bool _) W3 0 rfl (Nat.le_of_ble_eq_true rfl)
 have E3_5 := B1.wr W3
 have K3 := K1.wr W3 (Or.inr sz1)
 have O3 := O1.wr W3 gn1
 have N3 := Fr.snoc X3 N0 gn1
 obtain ⟨cl6, Ar6, q6, S6, M6, H6, G6⟩ := V3_4
 have hin6 := own_in (1 : Int32) S6 ⟨by decide, by decide⟩
 obtain ⟨T6, h6, X6, e6, W6, st6⟩ := stZ X3 hx hZ e3 Ar6 (j := (1 : Int32)) hin6 (g := (mkF m 10 #[iv (2 : Int32), un] [(.int (0 : Int32)), (.int (1 : Int32)), (.ref b1), (.ref b1)])) rfl rfl (hb hby d3_10)
 have V6_7 : Arv Z h6 b1 k1 .boolean (5 : Int32) [(.int (0 : Int32)), (.int (0 : Int32)), (.int (0 : Int32)), (.int (0 : Int32)), (.int (0 : Int32))] (.int (0 : Int32)) := Arv.set Ar6 q6 S6 M6 H6 G6 (fits_nar_bool _) W6 1 rfl (Nat.le_of_ble_eq_true rfl)
 have E6_8 := E3_5.wr W6
 have K6 := K3.wr W6 (Or.inr sz1)
 have O6 := O3.wr W6 gn1
 have N6 := Fr.snoc X6 N3 gn1
 obtain ⟨cl9, Ar9, q9, S9, M9, H9, G9⟩ := V6_7
 have hin9 := own_in (2 : Int32) S9 ⟨by decide, by decide⟩
 obtain ⟨T9, h9, X9, e9, W9, st9⟩ := stZ X6 hx hZ e6 Ar9 (j := (2 : Int32)) hin9 (g := (mkF m 14 #[iv (2 : Int32), un] [(.int (0 : Int32)), (.int (2 : Int32)), (.ref b1), (.ref b1)])) rfl rfl (hb hby d3_14)
 have V9_10 : Arv Z h9 b1 k1 .boolean (5 : Int32) [(.int (0 : Int32)), (.int (0 : Int32)), (.int (0 : Int32)), (.int (0 : Int32)), (.int (0 : Int32))] (.int (0 : Int32)) := Arv.set Ar9 q9 S9 M9 H9 G9 (fits_nar_bool _) W9 2 rfl (Nat.le_of_ble_eq_true rfl)
 have E9_11 := E6_8.wr W9
 have K9 := K6.wr W9 (Or.inr sz1)
 have O9 := O6.wr W9 gn1
 have N9 := Fr.snoc X9 N6 gn1
 obtain ⟨cl12, Ar12, q12, S12, M12, H12, G12⟩ := V9_10
 have hin12 := own_in (3 : Int32) S12 ⟨by decide, by decide⟩
 obtain ⟨T12, h12, X12, e12, W12, st12⟩ := stZ X9 hx hZ e9 Ar12 (j := (3 : Int32)) hin12 (g := (mkF m 18 #[iv (2 : Int32), un] [(.int (1 : Int32)), (.int (3 : Int32)), (.ref b1), (.ref b1)])) rfl rfl (hb hby d3_18)
 have V12_13 : Arv Z h12 b1 k1 .boolean (5 : Int32) [(.int (0 : Int32)), (.int (0 : Int32)), (.int (0 : Int32)), (.int (1 : Int32)), (.int (0 : Int32))] (.int (0 : Int32)) := Arv.set Ar12 q12 S12 M12 H12 G12 (fits_nar_bool _) W12 3 rfl (Nat.le_of_ble_eq_true rfl)
 have E12_14 := E9_11.wr W12
 have K12 := K9.wr W12 (Or.inr sz1)
 have O12 := O9.wr W12 gn1
 have N12 := Fr.snoc X12 N9 gn1
 obtain ⟨cl15, Ar15, q15, S15, M15, H15, G15⟩ := V12_13
 have hin15 := own_in (4 : Int32) S15 ⟨by decide, by decide⟩
 obtain ⟨T15, h15, X15, e15, W15, st15⟩ := stZ X12 hx hZ e12 Ar15 (j := (4 : Int32)) hin15 (g := (mkF m 22 #[iv (2 : Int32), un] [(.int (1 : Int32)), (.int (4 : Int32)), (.ref b1), (.ref b1)])) rfl rfl (hb hby d3_22)
 have V15_16 : Arv Z h15 b1 k1 .boolean (5 : Int32) [(.int (0 : Int32)), (.int (0 : Int32)), (.int (0 : Int32)), (.int (1 : Int32)), (.int (1 : Int32))] (.int (0 : Int32)) := Arv.set Ar15 q15 S15 M15 H15 G15 (fits_nar_bool _) W15 4 rfl (Nat.le_of_ble_eq_true rfl)
 have E15_17 := E12_14.wr W15
 have K15 := K12.wr W15 (Or.inr sz1)
 have O15 := O12.wr W15 gn1
 have N15 := Fr.snoc X15 N12 gn1
 obtain ⟨cl18, Ar18, q18, S18, N18, H18, G18⟩ := V15_16
 have hin18 := own_in (2 : Int32) S18 ⟨by decide, by decide⟩
 have hat18 : cl18.slots[((2 : Int32)).toNatClampNeg]? = some (.int (0 : Int32)) := Has.at H18 hin18 rfl
 obtain ⟨fs, hr, hrun, hended, hW, hsame⟩ := X15.leave (v := some (.int (0 : Int32))) (fun h => by rw [Bd.returns] at h; cases h)
 subst hS0
 refine ⟨_, _, pre0 _ ?_, hrun, hended, _, _, rfl, ?_, ⟨_, rfl⟩, hW, hsame.mono (by decide) (by decide)⟩
 ·
  refine XS.iconst X0.here hx rfl (hb hby d3_0) ?_
  show AT p e below s₁ m 1 #[iv (2 : Int32), un] [(.int (5 : Int32))] _
  refine st1 _ ?_
  show AT p e below T1 m 3 #[iv (2 : Int32), un] [(.ref b1)] _
  refine XS.dup X1.here hx rfl (hb hby d3_3) rfl rfl ?_
  show AT p e below T1 m 4 #[iv (2 : Int32), un] [(.ref b1), (.ref b1)] _
  refine XS.iconst X1.here hx rfl (hb hby d3_4) ?_
  show AT p e below T1 m 5 #[iv (2 : Int32), un] [(.int (0 : Int32)), (.ref b1), (.ref b1)] _
  refine XS.iconst X1.here hx rfl (hb hby d3_5) ?_
  show AT p e below T1 m 6 #[iv (2 : Int32), un] [(.int (0 : Int32)), (.int (0 : Int32)), (.ref b1), (.ref b1)] _
  refine st3 _ ?_
  show AT p e below T3 m 7 #[iv (2 : Int32), un] [(.ref b1)] _
  refine XS.dup X3.here hx rfl (hb hby d3_7) rfl rfl ?_
  show AT p e below T3 m 8 #[iv (2 : Int32), un] [(.ref b1), (.ref b1)] _
  refine XS.iconst X3.here hx rfl (hb hby d3_8) ?_
  show AT p e below T3 m 9 #[iv (2 : Int32), un] [(.int (1 : Int32)), (.ref b1), (.ref b1)] _
  refine XS.iconst X3.here hx rfl (hb hby d3_9) ?_
  show AT p e below T3 m 10 #[iv (2 : Int32), un] [(.int (0 : Int32)), (.int (1 : Int32)), (.ref b1), (.ref b1)] _
  refine st6 _ ?_
  show AT p e below T6 m 11 #[iv (2 : Int32), un] [(.ref b1)] _
  refine XS.dup X6.here hx rfl (hb hby d3_11) rfl rfl ?_
  show AT p e below T6 m 12 #[iv (2 : Int32), un] [(.ref b1), (.ref b1)] _
  refine XS.iconst X6.here hx rfl (hb hby d3_12) ?_
  show AT p e below T6 m 13 #[iv (2 : Int32), un] [(.int (2 : Int32)), (.ref b1), (.ref b1)] _
  refine XS.iconst X6.here hx rfl (hb hby d3_13) ?_
  show AT p e below T6 m 14 #[iv (2 : Int32), un] [(.int (0 : Int32)), (.int (2 : Int32)), (.ref b1), (.ref b1)] _
  refine st9 _ ?_
  show AT p e below T9 m 15 #[iv (2 : Int32), un] [(.ref b1)] _
  refine XS.dup X9.here hx rfl (hb hby d3_15) rfl rfl ?_
  show AT p e below T9 m 16 #[iv (2 : Int32), un] [(.ref b1), (.ref b1)] _
  refine XS.iconst X9.here hx rfl (hb hby d3_16) ?_
  show AT p e below T9 m 17 #[iv (2 : Int32), un] [(.int (3 : Int32)), (.ref b1), (.ref b1)] _
  refine XS.iconst X9.here hx rfl (hb hby d3_17) ?_
  show AT p e below T9 m 18 #[iv (2 : Int32), un] [(.int (1 : Int32)), (.int (3 : Int32)), (.ref b1), (.ref b1)] _
  refine st12 _ ?_
  show AT p e below T12 m 19 #[iv (2 : Int32), un] [(.ref b1)] _
  refine XS.dup X12.here hx rfl (hb hby d3_19) rfl rfl ?_
  show AT p e below T12 m 20 #[iv (2 : Int32), un] [(.ref b1), (.ref b1)] _
  refine XS.iconst X12.here hx rfl (hb hby d3_20) ?_
  show AT p e below T12 m 21 #[iv (2 : Int32), un] [(.int (4 : Int32)), (.ref b1), (.ref b1)] _
  refine XS.iconst X12.here hx rfl (hb hby d3_21) ?_
  show AT p e below T12 m 22 #[iv (2 : Int32), un] [(.int (1 : Int32)), (.int (4 : Int32)), (.ref b1), (.ref b1)] _
  refine st15 _ ?_
  show AT p e below T15 m 23 #[iv (2 : Int32), un] [(.ref b1)] _
  refine XS.astoreN X15.here hx rfl (hb hby d3_23) rfl rfl (l' := #[iv (2 : Int32), rv b1]) rfl ?_
  show AT p e below T15 m 24 #[iv (2 : Int32), rv b1] [] _
  refine XS.aloadN X15.here hx rfl (hb hby d3_24) rfl rfl ?_
  show AT p e below T15 m 25 #[iv (2 : Int32), rv b1] [(.ref b1)] _
  refine XS.iloadN X15.here hx rfl (hb hby d3_25) rfl ?_
  show AT p e below T15 m 26 #[iv (2 : Int32), rv b1] [(.int (2 : Int32)), (.ref b1)] _
  refine X15.baloadBooleans hx (j := (2 : Int32)) (v := (.int (0 : Int32))) (by rw [e15]; exact Ar18.1) (State.isArrayOf_alike hZ.alike Ar18.2.1) Ar18.2.2 hin18 hat18 (g := (mkF m 26 #[iv (2 : Int32), rv b1] [(.int (2 : Int32)), (.ref b1)])) rfl rfl (hb hby d3_26) _ ?_
  show AT p e below T15 m 27 #[iv (2 : Int32), rv b1] [(.int (0 : Int32))] _
  exact retN X15 hx (t := .boolean) Bd.returns (by simp) (hb hby d3_27) hr
 ·
  show Q3_2 Z  h0 n0 _ T15.heap _
  rw [e15]
  exact ⟨rfl, N15, K15⟩

theorem ef_3_3 (m : MethodId)  : entryFrame m #[(.int (3 : Int32))] 2 = mkF m 0 #[iv (3 : Int32), un] [] := by first | (simp [entryFrame, mkF, argsToLocals, Value.category]; done) | rfl
def Q3_3 (Z : State)  (h0 : Heap) (n0 : Nat) (v : Option Value) (h : Heap) (L : List Loc) : Prop := v = some (.int (1 : Int32)) ∧ Fr n0 L ∧ Keep h0 h []
set_option maxRecDepth 65536 in
set_option maxHeartbeats 40000000 in
theorem rm3_3 (l : Launch) (Z : State) (ar : Array Value) (hw : ∀ d ∈ tables_1, d.before ar Z = true) (ws : List Jvm.Cond)  (h0 : Heap) (n0 : Nat) (O0 : Old Z n0 h0) :
    MetFree l y3 (head1 (Jvm.Cond.code y3 method_3_code 2 (some .boolean) :: ws) ({ frames := 0, cells := 1, slots := 5, locals := 0 } : Room)) (fun a U => a = #[(.int (3 : Int32))] ∧ Z.Warmed39 U.vm ∧ U.heap = h0) (fun _ _ _ _ _ => True) (fun _ U o U' => ∃ v L, o = .returned v ∧ Q3_3 Z  h0 n0 v U'.heap L ∧ FrameEnd U o U' L ({ frames := 0, cells := 1, slots := 5, locals := 0 } : Room).cells ({ frames := 0, cells := 1, slots := 5, locals := 0 } : Room).slots) := by
 refine MetFree.of_bodySF (plainFor_of_name pn_0) hisR ?_
 intro p e s m args below meth c s₁ Bd hml0 hP hK
 obtain ⟨rfl, hZ, hh⟩ := hP
 have hx := Bd.exec
 have hby := Bd.bytes
 have hml : c.maxLocals = 2 := hml0
 have hown : s.vm.findClass "com/example/pushplan/pushplan/plan/KindPreservesRightPinLaw" = some m.cls := findClass_of_methodNamed Bd.named
 have hnm := (name_of_methodNamed Bd.named Bd.method).1
 have X0 : Stand p l e ({ frames := 0, cells := 1, slots := 5, locals := 0 } : Room) s m #[(.int (3 : Int32))] below meth c s₁ [] 0 0 := Stand.of_body Bd
 have e0 : s₁.heap = h0 := by rw [← hh, Bd.state]; rfl
 have N0 := Fr.nil n0
 have Z0 : n0 ≤ h0.size := Nat.le_trans (Nat.le_of_eq O0.1.symm) O0.2.1
 obtain ⟨S0, hS0⟩ : ∃ z, z = s₁.setTop (entryFrame m #[(.int (3 : Int32))] 2) := ⟨_, rfl⟩
 have pre0 : ∀ tg, AT p e below s₁ m 0 #[iv (3 : Int32), un] [] tg → Steps p.tables e below S0 tg := fun tg kg => by rw [hS0]; exact castTop (ef_3_3 m ) kg
 obtain ⟨T1, h1, k1, X1, e1, E1, A1, B1, st1⟩ := newPE X0 hx hZ (ow hw 20 rfl) e0 (g := (mkF m 1 #[iv (3 : Int32), un] [(.int (5 : Int32))])) rfl (hb hby d3_1) rfl (by decide) (cap := 5) (by decide) (by decide) (by decide) (by decide) (ad := "[Z") (by decide)
 obtain ⟨b1, g1⟩ : ∃ z, z = h0.size := ⟨_, rfl⟩
 rw [← g1] at A1 B1 st1
 have gn1 : n0 ≤ b1 := Nat.le_trans (Nat.le_trans (Nat.le_of_eq O0.1.symm) O0.2.1) (Nat.le_of_eq g1.symm)
 have sz1 : h0.size ≤ b1 := Nat.le_trans (Keep.refl h0 []).1 (Nat.le_of_eq g1.symm)
 have K1 := (Keep.refl h0 []).ext E1
 have O1 := O0.ext E1
 have V1_2 : Arv Z h1 b1 k1 .boolean (5 : Int32) [(.int (0 : Int32)), (.int (0 : Int32)), (.int (0 : Int32)), (.int (0 : Int32)), (.int (0 : Int32))] (.int (0 : Int32)) := (Arv.new A1 (by decide)).pad (pad_rep [] (.int (0 : Int32)) 5)
 obtain ⟨cl3, Ar3, q3, S3, M3, H3, G3⟩ := V1_2
 have hin3 := own_in (0 : Int32) S3 ⟨by decide, by decide⟩
 obtain ⟨T3, h3, X3, e3, W3, st3⟩ := stZ X1 hx hZ e1 Ar3 (j := (0 : Int32)) hin3 (g := (mkF m 6 #[iv (3 : Int32), un] [(.int (0 : Int32)), (.int (0 : Int32)), (.ref b1), (.ref b1)])) rfl rfl (hb hby d3_6)
 have V3_4 : Arv Z h3 b1 k1 .boolean (5 : Int32) [(.int (0 : Int32)), (.int (0 : Int32)), (.int (0 : Int32)), (.int (0 : Int32)), (.int (0 : Int32))] (.int (0 : Int32)) := Arv.set Ar3 q3 S3 M3 H3 G3 (fits_nar_bool _) W3 0 rfl (Nat.le_of_ble_eq_true rfl)
 have E3_5 := B1.wr W3
 have K3 := K1.wr W3 (Or.inr sz1)
 have O3 := O1.wr W3 gn1
 have N3 := Fr.snoc X3 N0 gn1
 obtain ⟨cl6, Ar6, q6, S6, M6, H6, G6⟩ := V3_4
 have hin6 := own_in (1 : Int32) S6 ⟨by decide, by decide⟩
 obtain ⟨T6, h6, X6, e6, W6, st6⟩ := stZ X3 hx hZ e3 Ar6 (j := (1 : Int32)) hin6 (g := (mkF m 10 #[iv (3 : Int32), un] [(.int (0 : Int32)), (.int (1 : Int32)), (.ref b1), (.ref b1)])) rfl rfl (hb hby d3_10)
 have V6_7 : Arv Z h6 b1 k1 .boolean (5 : Int32) [(.int (0 : Int32)), (.int (0 : Int32)), (.int (0 : Int32)), (.int (0 : Int32)), (.int (0 : Int32))] (.int (0 : Int32)) := Arv.set Ar6 q6 S6 M6 H6 G6 (fits_nar_bool _) W6 1 rfl (Nat.le_of_ble_eq_true rfl)
 have E6_8 := E3_5.wr W6
 have K6 := K3.wr W6 (Or.inr sz1)
 have O6 := O3.wr W6 gn1
 have N6 := Fr.snoc X6 N3 gn1
 obtain ⟨cl9, Ar9, q9, S9, M9, H9, G9⟩ := V6_7
 have hin9 := own_in (2 : Int32) S9 ⟨by decide, by decide⟩
 obtain ⟨T9, h9, X9, e9, W9, st9⟩ := stZ X6 hx hZ e6 Ar9 (j := (2 : Int32)) hin9 (g := (mkF m 14 #[iv (3 : Int32), un] [(.int (0 : Int32)), (.int (2 : Int32)), (.ref b1), (.ref b1)])) rfl rfl (hb hby d3_14)
 have V9_10 : Arv Z h9 b1 k1 .boolean (5 : Int32) [(.int (0 : Int32)), (.int (0 : Int32)), (.int (0 : Int32)), (.int (0 : Int32)), (.int (0 : Int32))] (.int (0 : Int32)) := Arv.set Ar9 q9 S9 M9 H9 G9 (fits_nar_bool _) W9 2 rfl (Nat.le_of_ble_eq_true rfl)
 have E9_11 := E6_8.wr W9
 have K9 := K6.wr W9 (Or.inr sz1)
 have O9 := O6.wr W9 gn1
 have N9 := Fr.snoc X9 N6 gn1
 obtain ⟨cl12, Ar12, q12, S12, M12, H12, G12⟩ := V9_10
 have hin12 := own_in (3 : Int32) S12 ⟨by decide, by decide⟩
 obtain ⟨T12, h12, X12, e12, W12, st12⟩ := stZ X9 hx hZ e9 Ar12 (j := (3 : Int32)) hin12 (g := (mkF m 18 #[iv (3 : Int32), un] [(.int (1 : Int32)), (.int (3 : Int32)), (.ref b1), (.ref b1)])) rfl rfl (hb hby d3_18)
 have V12_13 : Arv Z h12 b1 k1 .boolean (5 : Int32) [(.int (0 : Int32)), (.int (0 : Int32)), (.int (0 : Int32)), (.int (1 : Int32)), (.int (0 : Int32))] (.int (0 : Int32)) := Arv.set Ar12 q12 S12 M12 H12 G12 (fits_nar_bool _) W12 3 rfl (Nat.le_of_ble_eq_true rfl)
 have E12_14 := E9_11.wr W12
 have K12 := K9.wr W12 (Or.inr sz1)
 have O12 := O9.wr W12 gn1
 have N12 := Fr.snoc X12 N9 gn1
 obtain ⟨cl15, Ar15, q15, S15, M15, H15, G15⟩ := V12_13
 have hin15 := own_in (4 : Int32) S15 ⟨by decide, by decide⟩
 obtain ⟨T15, h15, X15, e15, W15, st15⟩ := stZ X12 hx hZ e12 Ar15 (j := (4 : Int32)) hin15 (g := (mkF m 22 #[iv (3 : Int32), un] [(.int (1 : Int32)), (.int (4 : Int32)), (.ref b1), (.ref b1)])) rfl rfl (hb hby d3_22)
 have V15_16 : Arv Z h15 b1 k1 .boolean (5 : Int32) [(.int (0 : Int32)), (.int (0 : Int32)), (.int (0 : Int32)), (.int (1 : Int32)), (.int (1 : Int32))] (.int (0 : Int32)) := Arv.set Ar15 q15 S15 M15 H15 G15 (fits_nar_bool _) W15 4 rfl (Nat.le_of_ble_eq_true rfl)
 have E15_17 := E12_14.wr W15
 have K15 := K12.wr W15 (Or.inr sz1)
 have O15 := O12.wr W15 gn1
 have N15 := Fr.snoc X15 N12 gn1
 obtain ⟨cl18, Ar18, q18, S18, N18, H18, G18⟩ := V15_16
 have hin18 := own_in (3 : Int32) S18 ⟨by decide, by decide⟩
 have hat18 : cl18.slots[((3 : Int32)).toNatClampNeg]? = some (.int (1 : Int32)) := Has.at H18 hin18 rfl
 obtain ⟨fs, hr, hrun, hended, hW, hsame⟩ := X15.leave (v := some (.int (1 : Int32))) (fun h => by rw [Bd.returns] at h; cases h)
 subst hS0
 refine ⟨_, _, pre0 _ ?_, hrun, hended, _, _, rfl, ?_, ⟨_, rfl⟩, hW, hsame.mono (by decide) (by decide)⟩
 ·
  refine XS.iconst X0.here hx rfl (hb hby d3_0) ?_
  show AT p e below s₁ m 1 #[iv (3 : Int32), un] [(.int (5 : Int32))] _
  refine st1 _ ?_
  show AT p e below T1 m 3 #[iv (3 : Int32), un] [(.ref b1)] _
  refine XS.dup X1.here hx rfl (hb hby d3_3) rfl rfl ?_
  show AT p e below T1 m 4 #[iv (3 : Int32), un] [(.ref b1), (.ref b1)] _
  refine XS.iconst X1.here hx rfl (hb hby d3_4) ?_
  show AT p e below T1 m 5 #[iv (3 : Int32), un] [(.int (0 : Int32)), (.ref b1), (.ref b1)] _
  refine XS.iconst X1.here hx rfl (hb hby d3_5) ?_
  show AT p e below T1 m 6 #[iv (3 : Int32), un] [(.int (0 : Int32)), (.int (0 : Int32)), (.ref b1), (.ref b1)] _
  refine st3 _ ?_
  show AT p e below T3 m 7 #[iv (3 : Int32), un] [(.ref b1)] _
  refine XS.dup X3.here hx rfl (hb hby d3_7) rfl rfl ?_
  show AT p e below T3 m 8 #[iv (3 : Int32), un] [(.ref b1), (.ref b1)] _
  refine XS.iconst X3.here hx rfl (hb hby d3_8) ?_
  show AT p e below T3 m 9 #[iv (3 : Int32), un] [(.int (1 : Int32)), (.ref b1), (.ref b1)] _
  refine XS.iconst X3.here hx rfl (hb hby d3_9) ?_
  show AT p e below T3 m 10 #[iv (3 : Int32), un] [(.int (0 : Int32)), (.int (1 : Int32)), (.ref b1), (.ref b1)] _
  refine st6 _ ?_
  show AT p e below T6 m 11 #[iv (3 : Int32), un] [(.ref b1)] _
  refine XS.dup X6.here hx rfl (hb hby d3_11) rfl rfl ?_
  show AT p e below T6 m 12 #[iv (3 : Int32), un] [(.ref b1), (.ref b1)] _
  refine XS.iconst X6.here hx rfl (hb hby d3_12) ?_
  show AT p e below T6 m 13 #[iv (3 : Int32), un] [(.int (2 : Int32)), (.ref b1), (.ref b1)] _
  refine XS.iconst X6.here hx rfl (hb hby d3_13) ?_
  show AT p e below T6 m 14 #[iv (3 : Int32), un] [(.int (0 : Int32)), (.int (2 : Int32)), (.ref b1), (.ref b1)] _
  refine st9 _ ?_
  show AT p e below T9 m 15 #[iv (3 : Int32), un] [(.ref b1)] _
  refine XS.dup X9.here hx rfl (hb hby d3_15) rfl rfl ?_
  show AT p e below T9 m 16 #[iv (3 : Int32), un] [(.ref b1), (.ref b1)] _
  refine XS.iconst X9.here hx rfl (hb hby d3_16) ?_
  show AT p e below T9 m 17 #[iv (3 : Int32), un] [(.int (3 : Int32)), (.ref b1), (.ref b1)] _
  refine XS.iconst X9.here hx rfl (hb hby d3_17) ?_
  show AT p e below T9 m 18 #[iv (3 : Int32), un] [(.int (1 : Int32)), (.int (3 : Int32)), (.ref b1), (.ref b1)] _
  refine st12 _ ?_
  show AT p e below T12 m 19 #[iv (3 : Int32), un] [(.ref b1)] _
  refine XS.dup X12.here hx rfl (hb hby d3_19) rfl rfl ?_
  show AT p e below T12 m 20 #[iv (3 : Int32), un] [(.ref b1), (.ref b1)] _
  refine XS.iconst X12.here hx rfl (hb hby d3_20) ?_
  show AT p e below T12 m 21 #[iv (3 : Int32), un] [(.int (4 : Int32)), (.ref b1), (.ref b1)] _
  refine XS.iconst X12.here hx rfl (hb hby d3_21) ?_
  show AT p e below T12 m 22 #[iv (3 : Int32), un] [(.int (1 : Int32)), (.int (4 : Int32)), (.ref b1), (.ref b1)] _
  refine st15 _ ?_
  show AT p e below T15 m 23 #[iv (3 : Int32), un] [(.ref b1)] _
  refine XS.astoreN X15.here hx rfl (hb hby d3_23) rfl rfl (l' := #[iv (3 : Int32), rv b1]) rfl ?_
  show AT p e below T15 m 24 #[iv (3 : Int32), rv b1] [] _
  refine XS.aloadN X15.here hx rfl (hb hby d3_24) rfl rfl ?_
  show AT p e below T15 m 25 #[iv (3 : Int32), rv b1] [(.ref b1)] _
  refine XS.iloadN X15.here hx rfl (hb hby d3_25) rfl ?_
  show AT p e below T15 m 26 #[iv (3 : Int32), rv b1] [(.int (3 : Int32)), (.ref b1)] _
  refine X15.baloadBooleans hx (j := (3 : Int32)) (v := (.int (1 : Int32))) (by rw [e15]; exact Ar18.1) (State.isArrayOf_alike hZ.alike Ar18.2.1) Ar18.2.2 hin18 hat18 (g := (mkF m 26 #[iv (3 : Int32), rv b1] [(.int (3 : Int32)), (.ref b1)])) rfl rfl (hb hby d3_26) _ ?_
  show AT p e below T15 m 27 #[iv (3 : Int32), rv b1] [(.int (1 : Int32))] _
  exact retN X15 hx (t := .boolean) Bd.returns (by simp) (hb hby d3_27) hr
 ·
  show Q3_3 Z  h0 n0 _ T15.heap _
  rw [e15]
  exact ⟨rfl, N15, K15⟩

theorem ef_3_4 (m : MethodId)  : entryFrame m #[(.int (4 : Int32))] 2 = mkF m 0 #[iv (4 : Int32), un] [] := by first | (simp [entryFrame, mkF, argsToLocals, Value.category]; done) | rfl
def Q3_4 (Z : State)  (h0 : Heap) (n0 : Nat) (v : Option Value) (h : Heap) (L : List Loc) : Prop := v = some (.int (1 : Int32)) ∧ Fr n0 L ∧ Keep h0 h []
set_option maxRecDepth 65536 in
set_option maxHeartbeats 40000000 in
theorem rm3_4 (l : Launch) (Z : State) (ar : Array Value) (hw : ∀ d ∈ tables_1, d.before ar Z = true) (ws : List Jvm.Cond)  (h0 : Heap) (n0 : Nat) (O0 : Old Z n0 h0) :
    MetFree l y3 (head1 (Jvm.Cond.code y3 method_3_code 2 (some .boolean) :: ws) ({ frames := 0, cells := 1, slots := 5, locals := 0 } : Room)) (fun a U => a = #[(.int (4 : Int32))] ∧ Z.Warmed39 U.vm ∧ U.heap = h0) (fun _ _ _ _ _ => True) (fun _ U o U' => ∃ v L, o = .returned v ∧ Q3_4 Z  h0 n0 v U'.heap L ∧ FrameEnd U o U' L ({ frames := 0, cells := 1, slots := 5, locals := 0 } : Room).cells ({ frames := 0, cells := 1, slots := 5, locals := 0 } : Room).slots) := by
 refine MetFree.of_bodySF (plainFor_of_name pn_0) hisR ?_
 intro p e s m args below meth c s₁ Bd hml0 hP hK
 obtain ⟨rfl, hZ, hh⟩ := hP
 have hx := Bd.exec
 have hby := Bd.bytes
 have hml : c.maxLocals = 2 := hml0
 have hown : s.vm.findClass "com/example/pushplan/pushplan/plan/KindPreservesRightPinLaw" = some m.cls := findClass_of_methodNamed Bd.named
 have hnm := (name_of_methodNamed Bd.named Bd.method).1
 have X0 : Stand p l e ({ frames := 0, cells := 1, slots := 5, locals := 0 } : Room) s m #[(.int (4 : Int32))] below meth c s₁ [] 0 0 := Stand.of_body Bd
 have e0 : s₁.heap = h0 := by rw [← hh, Bd.state]; rfl
 have N0 := Fr.nil n0
 have Z0 : n0 ≤ h0.size := Nat.le_trans (Nat.le_of_eq O0.1.symm) O0.2.1
 obtain ⟨S0, hS0⟩ : ∃ z, z = s₁.setTop (entryFrame m #[(.int (4 : Int32))] 2) := ⟨_, rfl⟩
 have pre0 : ∀ tg, AT p e below s₁ m 0 #[iv (4 : Int32), un] [] tg → Steps p.tables e below S0 tg := fun tg kg => by rw [hS0]; exact castTop (ef_3_4 m ) kg
 obtain ⟨T1, h1, k1, X1, e1, E1, A1, B1, st1⟩ := newPE X0 hx hZ (ow hw 20 rfl) e0 (g := (mkF m 1 #[iv (4 : Int32), un] [(.int (5 : Int32))])) rfl (hb hby d3_1) rfl (by decide) (cap := 5) (by decide) (by decide) (by decide) (by decide) (ad := "[Z") (by decide)
 obtain ⟨b1, g1⟩ : ∃ z, z = h0.size := ⟨_, rfl⟩
 rw [← g1] at A1 B1 st1
 have gn1 : n0 ≤ b1 := Nat.le_trans (Nat.le_trans (Nat.le_of_eq O0.1.symm) O0.2.1) (Nat.le_of_eq g1.symm)
 have sz1 : h0.size ≤ b1 := Nat.le_trans (Keep.refl h0 []).1 (Nat.le_of_eq g1.symm)
 have K1 := (Keep.refl h0 []).ext E1
 have O1 := O0.ext E1
 have V1_2 : Arv Z h1 b1 k1 .boolean (5 : Int32) [(.int (0 : Int32)), (.int (0 : Int32)), (.int (0 : Int32)), (.int (0 : Int32)), (.int (0 : Int32))] (.int (0 : Int32)) := (Arv.new A1 (by decide)).pad (pad_rep [] (.int (0 : Int32)) 5)
 obtain ⟨cl3, Ar3, q3, S3, M3, H3, G3⟩ := V1_2
 have hin3 := own_in (0 : Int32) S3 ⟨by decide, by decide⟩
 obtain ⟨T3, h3, X3, e3, W3, st3⟩ := stZ X1 hx hZ e1 Ar3 (j := (0 : Int32)) hin3 (g := (mkF m 6 #[iv (4 : Int32), un] [(.int (0 : Int32)), (.int (0 : Int32)), (.ref b1), (.ref b1)])) rfl rfl (hb hby d3_6)
 have V3_4 : Arv Z h3 b1 k1 .boolean (5 : Int32) [(.int (0 : Int32)), (.int (0 : Int32)), (.int (0 : Int32)), (.int (0 : Int32)), (.int (0 : Int32))] (.int (0 : Int32)) := Arv.set Ar3 q3 S3 M3 H3 G3 (fits_nar_bool _) W3 0 rfl (Nat.le_of_ble_eq_true rfl)
 have E3_5 := B1.wr W3
 have K3 := K1.wr W3 (Or.inr sz1)
 have O3 := O1.wr W3 gn1
 have N3 := Fr.snoc X3 N0 gn1
 obtain ⟨cl6, Ar6, q6, S6, M6, H6, G6⟩ := V3_4
 have hin6 := own_in (1 : Int32) S6 ⟨by decide, by decide⟩
 obtain ⟨T6, h6, X6, e6, W6, st6⟩ := stZ X3 hx hZ e3 Ar6 (j := (1 : Int32)) hin6 (g := (mkF m 10 #[iv (4 : Int32), un] [(.int (0 : Int32)), (.int (1 : Int32)), (.ref b1), (.ref b1)])) rfl rfl (hb hby d3_10)
 have V6_7 : Arv Z h6 b1 k1 .boolean (5 : Int32) [(.int (0 : Int32)), (.int (0 : Int32)), (.int (0 : Int32)), (.int (0 : Int32)), (.int (0 : Int32))] (.int (0 : Int32)) := Arv.set Ar6 q6 S6 M6 H6 G6 (fits_nar_bool _) W6 1 rfl (Nat.le_of_ble_eq_true rfl)
 have E6_8 := E3_5.wr W6
 have K6 := K3.wr W6 (Or.inr sz1)
 have O6 := O3.wr W6 gn1
 have N6 := Fr.snoc X6 N3 gn1
 obtain ⟨cl9, Ar9, q9, S9, M9, H9, G9⟩ := V6_7
 have hin9 := own_in (2 : Int32) S9 ⟨by decide, by decide⟩
 obtain ⟨T9, h9, X9, e9, W9, st9⟩ := stZ X6 hx hZ e6 Ar9 (j := (2 : Int32)) hin9 (g := (mkF m 14 #[iv (4 : Int32), un] [(.int (0 : Int32)), (.int (2 : Int32)), (.ref b1), (.ref b1)])) rfl rfl (hb hby d3_14)
 have V9_10 : Arv Z h9 b1 k1 .boolean (5 : Int32) [(.int (0 : Int32)), (.int (0 : Int32)), (.int (0 : Int32)), (.int (0 : Int32)), (.int (0 : Int32))] (.int (0 : Int32)) := Arv.set Ar9 q9 S9 M9 H9 G9 (fits_nar_bool _) W9 2 rfl (Nat.le_of_ble_eq_true rfl)
 have E9_11 := E6_8.wr W9
 have K9 := K6.wr W9 (Or.inr sz1)
 have O9 := O6.wr W9 gn1
 have N9 := Fr.snoc X9 N6 gn1
 obtain ⟨cl12, Ar12, q12, S12, M12, H12, G12⟩ := V9_10
 have hin12 := own_in (3 : Int32) S12 ⟨by decide, by decide⟩
 obtain ⟨T12, h12, X12, e12, W12, st12⟩ := stZ X9 hx hZ e9 Ar12 (j := (3 : Int32)) hin12 (g := (mkF m 18 #[iv (4 : Int32), un] [(.int (1 : Int32)), (.int (3 : Int32)), (.ref b1), (.ref b1)])) rfl rfl (hb hby d3_18)
 have V12_13 : Arv Z h12 b1 k1 .boolean (5 : Int32) [(.int (0 : Int32)), (.int (0 : Int32)), (.int (0 : Int32)), (.int (1 : Int32)), (.int (0 : Int32))] (.int (0 : Int32)) := Arv.set Ar12 q12 S12 M12 H12 G12 (fits_nar_bool _) W12 3 rfl (Nat.le_of_ble_eq_true rfl)
 have E12_14 := E9_11.wr W12
 have K12 := K9.wr W12 (Or.inr sz1)
 have O12 := O9.wr W12 gn1
 have N12 := Fr.snoc X12 N9 gn1
 obtain ⟨cl15, Ar15, q15, S15, M15, H15, G15⟩ := V12_13
 have hin15 := own_in (4 : Int32) S15 ⟨by decide, by decide⟩
 obtain ⟨T15, h15, X15, e15, W15, st15⟩ := stZ X12 hx hZ e12 Ar15 (j := (4 : Int32)) hin15 (g := (mkF m 22 #[iv (4 : Int32), un] [(.int (1 : Int32)), (.int (4 : Int32)), (.ref b1), (.ref b1)])) rfl rfl (hb hby d3_22)
 have V15_16 : Arv Z h15 b1 k1 .boolean (5 : Int32) [(.int (0 : Int32)), (.int (0 : Int32)), (.int (0 : Int32)), (.int (1 : Int32)), (.int (1 : Int32))] (.int (0 : Int32)) := Arv.set Ar15 q15 S15 M15 H15 G15 (fits_nar_bool _) W15 4 rfl (Nat.le_of_ble_eq_true rfl)
 have E15_17 := E12_14.wr W15
 have K15 := K12.wr W15 (Or.inr sz1)
 have O15 := O12.wr W15 gn1
 have N15 := Fr.snoc X15 N12 gn1
 obtain ⟨cl18, Ar18, q18, S18, N18, H18, G18⟩ := V15_16
 have hin18 := own_in (4 : Int32) S18 ⟨by decide, by decide⟩
 have hat18 : cl18.slots[((4 : Int32)).toNatClampNeg]? = some (.int (1 : Int32)) := Has.at H18 hin18 rfl
 obtain ⟨fs, hr, hrun, hended, hW, hsame⟩ := X15.leave (v := some (.int (1 : Int32))) (fun h => by rw [Bd.returns] at h; cases h)
 subst hS0
 refine ⟨_, _, pre0 _ ?_, hrun, hended, _, _, rfl, ?_, ⟨_, rfl⟩, hW, hsame.mono (by decide) (by decide)⟩
 ·
  refine XS.iconst X0.here hx rfl (hb hby d3_0) ?_
  show AT p e below s₁ m 1 #[iv (4 : Int32), un] [(.int (5 : Int32))] _
  refine st1 _ ?_
  show AT p e below T1 m 3 #[iv (4 : Int32), un] [(.ref b1)] _
  refine XS.dup X1.here hx rfl (hb hby d3_3) rfl rfl ?_
  show AT p e below T1 m 4 #[iv (4 : Int32), un] [(.ref b1), (.ref b1)] _
  refine XS.iconst X1.here hx rfl (hb hby d3_4) ?_
  show AT p e below T1 m 5 #[iv (4 : Int32), un] [(.int (0 : Int32)), (.ref b1), (.ref b1)] _
  refine XS.iconst X1.here hx rfl (hb hby d3_5) ?_
  show AT p e below T1 m 6 #[iv (4 : Int32), un] [(.int (0 : Int32)), (.int (0 : Int32)), (.ref b1), (.ref b1)] _
  refine st3 _ ?_
  show AT p e below T3 m 7 #[iv (4 : Int32), un] [(.ref b1)] _
  refine XS.dup X3.here hx rfl (hb hby d3_7) rfl rfl ?_
  show AT p e below T3 m 8 #[iv (4 : Int32), un] [(.ref b1), (.ref b1)] _
  refine XS.iconst X3.here hx rfl (hb hby d3_8) ?_
  show AT p e below T3 m 9 #[iv (4 : Int32), un] [(.int (1 : Int32)), (.ref b1), (.ref b1)] _
  refine XS.iconst X3.here hx rfl (hb hby d3_9) ?_
  show AT p e below T3 m 10 #[iv (4 : Int32), un] [(.int (0 : Int32)), (.int (1 : Int32)), (.ref b1), (.ref b1)] _
  refine st6 _ ?_
  show AT p e below T6 m 11 #[iv (4 : Int32), un] [(.ref b1)] _
  refine XS.dup X6.here hx rfl (hb hby d3_11) rfl rfl ?_
  show AT p e below T6 m 12 #[iv (4 : Int32), un] [(.ref b1), (.ref b1)] _
  refine XS.iconst X6.here hx rfl (hb hby d3_12) ?_
  show AT p e below T6 m 13 #[iv (4 : Int32), un] [(.int (2 : Int32)), (.ref b1), (.ref b1)] _
  refine XS.iconst X6.here hx rfl (hb hby d3_13) ?_
  show AT p e below T6 m 14 #[iv (4 : Int32), un] [(.int (0 : Int32)), (.int (2 : Int32)), (.ref b1), (.ref b1)] _
  refine st9 _ ?_
  show AT p e below T9 m 15 #[iv (4 : Int32), un] [(.ref b1)] _
  refine XS.dup X9.here hx rfl (hb hby d3_15) rfl rfl ?_
  show AT p e below T9 m 16 #[iv (4 : Int32), un] [(.ref b1), (.ref b1)] _
  refine XS.iconst X9.here hx rfl (hb hby d3_16) ?_
  show AT p e below T9 m 17 #[iv (4 : Int32), un] [(.int (3 : Int32)), (.ref b1), (.ref b1)] _
  refine XS.iconst X9.here hx rfl (hb hby d3_17) ?_
  show AT p e below T9 m 18 #[iv (4 : Int32), un] [(.int (1 : Int32)), (.int (3 : Int32)), (.ref b1), (.ref b1)] _
  refine st12 _ ?_
  show AT p e below T12 m 19 #[iv (4 : Int32), un] [(.ref b1)] _
  refine XS.dup X12.here hx rfl (hb hby d3_19) rfl rfl ?_
  show AT p e below T12 m 20 #[iv (4 : Int32), un] [(.ref b1), (.ref b1)] _
  refine XS.iconst X12.here hx rfl (hb hby d3_20) ?_
  show AT p e below T12 m 21 #[iv (4 : Int32), un] [(.int (4 : Int32)), (.ref b1), (.ref b1)] _
  refine XS.iconst X12.here hx rfl (hb hby d3_21) ?_
  show AT p e below T12 m 22 #[iv (4 : Int32), un] [(.int (1 : Int32)), (.int (4 : Int32)), (.ref b1), (.ref b1)] _
  refine st15 _ ?_
  show AT p e below T15 m 23 #[iv (4 : Int32), un] [(.ref b1)] _
  refine XS.astoreN X15.here hx rfl (hb hby d3_23) rfl rfl (l' := #[iv (4 : Int32), rv b1]) rfl ?_
  show AT p e below T15 m 24 #[iv (4 : Int32), rv b1] [] _
  refine XS.aloadN X15.here hx rfl (hb hby d3_24) rfl rfl ?_
  show AT p e below T15 m 25 #[iv (4 : Int32), rv b1] [(.ref b1)] _
  refine XS.iloadN X15.here hx rfl (hb hby d3_25) rfl ?_
  show AT p e below T15 m 26 #[iv (4 : Int32), rv b1] [(.int (4 : Int32)), (.ref b1)] _
  refine X15.baloadBooleans hx (j := (4 : Int32)) (v := (.int (1 : Int32))) (by rw [e15]; exact Ar18.1) (State.isArrayOf_alike hZ.alike Ar18.2.1) Ar18.2.2 hin18 hat18 (g := (mkF m 26 #[iv (4 : Int32), rv b1] [(.int (4 : Int32)), (.ref b1)])) rfl rfl (hb hby d3_26) _ ?_
  show AT p e below T15 m 27 #[iv (4 : Int32), rv b1] [(.int (1 : Int32))] _
  exact retN X15 hx (t := .boolean) Bd.returns (by simp) (hb hby d3_27) hr
 ·
  show Q3_4 Z  h0 n0 _ T15.heap _
  rw [e15]
  exact ⟨rfl, N15, K15⟩

theorem ef_0 (m : MethodId) (p0 : Int32) : entryFrame m #[(.int p0)] maxLocals = mkF m 0 #[iv p0, un, un] [] := by first | (simp [entryFrame, mkF, argsToLocals, Value.category, maxLocals]; done) | rfl
def Q0 (Z : State) (p0 : Int32) (w_CROSS : Addr) (w_RIGHT : Addr) (w_FULL : Addr) (w_INNER : Addr) (w_LEFT : Addr) (h0 : Heap) (n0 : Nat) (v : Option Value) (h : Heap) (L : List Loc) : Prop := v = some (.int 1) ∧ Fr n0 L
set_option maxRecDepth 65536 in
set_option maxHeartbeats 40000000 in
theorem rm0 (l : Launch) (Z : State) (ar : Array Value) (hw : ∀ d ∈ tables_1, d.before ar Z = true) (ws : List Jvm.Cond) (p0 : Int32) (w_CROSS : Addr) (w_RIGHT : Addr) (w_FULL : Addr) (w_INNER : Addr) (w_LEFT : Addr) (h0 : Heap) (n0 : Nat) (O0 : Old Z n0 h0) (HW : Wd Z w_CROSS w_RIGHT w_FULL w_INNER w_LEFT) :
    MetFree l x (head1 (Jvm.Cond.code x code maxLocals ret :: ws) room_1) (fun a U => a = #[(.int p0)] ∧ Z.Warmed39 U.vm ∧ U.heap = h0) (fun _ _ _ _ _ => True) (fun _ U o U' => ∃ v L, o = .returned v ∧ Q0 Z p0 w_CROSS w_RIGHT w_FULL w_INNER w_LEFT h0 n0 v U'.heap L ∧ FrameEnd U o U' L 16 128) := by
 refine MetFree.of_bodySF (plainFor_of_name pn_0) hisR ?_
 intro p e s m args below meth c s₁ Bd hml0 hP hK
 obtain ⟨rfl, hZ, hh⟩ := hP
 have hx := Bd.exec
 have hby := Bd.bytes
 have hml : c.maxLocals = 3 := hml0
 have hown : s.vm.findClass "com/example/pushplan/pushplan/plan/KindPreservesRightPinLaw" = some m.cls := findClass_of_methodNamed Bd.named
 have hnm := (name_of_methodNamed Bd.named Bd.method).1
 have X0 : Stand p l e room_1 s m #[(.int p0)] below meth c s₁ [] 0 0 := Stand.of_body Bd
 have e0 : s₁.heap = h0 := by rw [← hh, Bd.state]; rfl
 have N0 := Fr.nil n0
 have Z0 : n0 ≤ h0.size := Nat.le_trans (Nat.le_of_eq O0.1.symm) O0.2.1
 obtain ⟨S0, hS0⟩ : ∃ z, z = s₁.setTop (entryFrame m #[(.int p0)] maxLocals) := ⟨_, rfl⟩
 have pre0 : ∀ tg, AT p e below s₁ m 0 #[iv p0, un, un] [] tg → Steps p.tables e below S0 tg := fun tg kg => by rw [hS0]; exact castTop (ef_0 m p0) kg
 obtain ⟨S_CROSS, E_CROSS, S_RIGHT, E_RIGHT, F_ordinal_CROSS, F_ordinal_RIGHT, S_FULL, E_FULL, F_ordinal_FULL, S_INNER, E_INNER, F_ordinal_INNER, S_LEFT, E_LEFT, F_ordinal_LEFT⟩ := id HW
 have pre1 : ∀ tg, AT p e below s₁ m 7 #[iv p0, iv ((p0 &&& (2147483647 : Int32)) % (5 : Int32)), un] [] tg → Steps p.tables e below S0 tg := fun tg kg => pre0 tg (by
  refine XS.iloadN X0.here hx rfl (hb hby at_0) rfl ?_
  show AT p e below s₁ m 1 #[iv p0, un, un] [(.int p0)] _
  refine X0.ldcInt hx hown (mvT hZ (ow hw 0 rfl)) (g := (mkF m 1 #[iv p0, un, un] [(.int p0)])) rfl (hb hby at_1) _ ?_
  show AT p e below s₁ m 3 #[iv p0, un, un] [(.int (2147483647 : Int32)), (.int p0)] _
  refine XS.iand X0.here hx rfl (hb hby at_3) rfl ?_
  show AT p e below s₁ m 4 #[iv p0, un, un] [(.int (p0 &&& (2147483647 : Int32)))] _
  refine XS.iconst X0.here hx rfl (hb hby at_4) ?_
  show AT p e below s₁ m 5 #[iv p0, un, un] [(.int (5 : Int32)), (.int (p0 &&& (2147483647 : Int32)))] _
  refine iremM X0 hx rfl (hb hby at_5) rfl (by decide) ?_
  show AT p e below s₁ m 6 #[iv p0, un, un] [(.int ((p0 &&& (2147483647 : Int32)) % (5 : Int32)))] _
  refine XS.istoreN X0.here hx rfl (hb hby at_6) rfl (l' := #[iv p0, iv ((p0 &&& (2147483647 : Int32)) % (5 : Int32)), un]) rfl ?_
  exact kg)
 obtain ⟨k, hk⟩ : ∃ z, z = ((p0 &&& (2147483647 : Int32)) % (5 : Int32)) := ⟨_, rfl⟩
 have pre2 : ∀ tg, AT p e below s₁ m 7 #[iv p0, iv k, un] [] tg → Steps p.tables e below S0 tg := by rw [hk]; exact pre1
 have hsk : k = (0 : Int32) ∨ k = (1 : Int32) ∨ k = (2 : Int32) ∨ k = (3 : Int32) ∨ k = (4 : Int32) := by rw [hk]; exact own_k p0
 rcases hsk with rfl | rfl | rfl | rfl | rfl
 ·
  obtain ⟨_, _, ⟨T3, L3, k3, n3⟩, -, X3, ⟨Lc3, hQ3, l3, y3, z3⟩, st3⟩ := Jvm.LawKit.callS X0 hx (y := y1) hown (mvT hZ (ow hw 1 rfl)) (mvT hZ (ow hw 2 rfl)) (mvT hZ (ow hw 3 rfl)) (mvT hZ (ow hw 4 rfl)) (by decide) (backOf (W := 0) (rm1 l Z ar hw [] (0 : Int32) w_CROSS w_RIGHT w_FULL w_INNER w_LEFT h0 n0 O0 HW) hZ (ow hw 4 rfl) (ow hw 3 rfl) (by decide) (by decide)) (g := (mkF m 8 #[iv p0, iv (0 : Int32), un] [(.int (0 : Int32))])) rfl (by rw [hml]; rfl) (argsL := [(.int (0 : Int32))]) (rest := []) (lenOf pd_0 rfl) rfl (by show 2 * 0 + _ ≤ _; exact Nat.le_of_eq rfl) (hb hby at_8) (fun _ _ => ⟨rfl, e0, (by decide : 0 + 0 ≤ _), (by decide : 0 + 0 ≤ _)⟩)
  dsimp only [Pt.U, Pt.locs, Pt.cells, Pt.slots] at X3 l3 y3 z3 st3 hQ3
  subst l3 y3 z3
  obtain ⟨rfl, N3q, e3⟩ := hQ3
  have N3 := Fr.app N0 N3q
  have r3 : (f1 (0 : Int32) w_CROSS w_RIGHT w_FULL w_INNER w_LEFT) = w_CROSS := by rw [f1, if_pos ((by decide) : (0 : Int32) = (0 : Int32))] <;> decide
  rw [r3] at st3
  obtain ⟨cq4, kq4, q4a, q4b, q4c⟩ := isOf hZ e3 (E_CROSS.ext O0.2)
  obtain ⟨_, _, ⟨T4, L4, k4, n4⟩, -, X4, ⟨Lc4, hQ4, l4, y4, z4⟩, st4⟩ := X3.virtualBack hx (y := y2) (z := y2) hown (mvT hZ (ow hw 8 rfl)) (mvT hZ (ow hw 9 rfl)) (notFace_of_selects (args := #[]) (mvT hZ (ow hw 11 rfl))) (mvT hZ (ow hw 11 rfl)) (mvT hZ (ow hw 10 rfl)) (by decide) (backOf (W := 0) (rm2 l Z ar hw [] w_CROSS w_CROSS w_RIGHT w_FULL w_INNER w_LEFT h0 n0 O0 HW) hZ (ow hw 12 rfl) (ow hw 6 rfl) (by decide) (by decide)) q4a q4c (g := (mkF m 13 #[iv p0, iv (0 : Int32), rv w_CROSS] [(.ref w_CROSS)])) rfl (by rw [hml]; rfl) (Steps.refl _) (argsL := []) (rest := []) (lenOf pd_1 rfl) rfl (by show 2 * 0 + _ ≤ _; exact Nat.le_of_eq rfl) (hb hby at_13) (fun _ _ => ⟨rfl, e3, (by decide : 0 + 0 ≤ _), (by decide : 0 + 0 ≤ _)⟩)
  dsimp only [Pt.U, Pt.locs, Pt.cells, Pt.slots] at X4 l4 y4 z4 st4 hQ4
  subst l4 y4 z4
  obtain ⟨rfl, N4q, e4⟩ := hQ4
  have N4 := Fr.app N3 N4q
  have r4 : (f2 w_CROSS w_RIGHT w_FULL) = (0 : Int32) := by rw [f2, if_neg ((Fld.ne F_ordinal_CROSS F_ordinal_RIGHT (by decide)) : ¬ (w_CROSS = w_RIGHT)), if_neg ((Fld.ne F_ordinal_CROSS F_ordinal_FULL (by decide)) : ¬ (w_CROSS = w_FULL))] <;> decide
  rw [r4] at st4
  obtain ⟨_, _, ⟨T5, L5, k5, n5⟩, -, X5, ⟨Lc5, hQ5, l5, y5, z5⟩, st5⟩ := Jvm.LawKit.callS X4 hx (y := y3) hown (mvT hZ (ow hw 17 rfl)) (mvT hZ (ow hw 18 rfl)) (mvT hZ (ow hw 3 rfl)) (mvT hZ (ow hw 19 rfl)) (by decide) (backOf (W := 1) (rm3_0 l Z ar hw []  h0 n0 O0) hZ (ow hw 19 rfl) (ow hw 3 rfl) (by decide) (by decide)) (g := (mkF m 17 #[iv p0, iv (0 : Int32), rv w_CROSS] [(.int (0 : Int32)), (.int (0 : Int32))])) rfl (by rw [hml]; rfl) (argsL := [(.int (0 : Int32))]) (rest := [(.int (0 : Int32))]) (lenOf pd_2 rfl) rfl (by show 2 * 0 + _ ≤ _; exact Nat.le_of_eq rfl) (hb hby at_17) (fun _ _ => ⟨rfl, e4, (by decide : 0 + 1 ≤ _), (by decide : 0 + 5 ≤ _)⟩)
  dsimp only [Pt.U, Pt.locs, Pt.cells, Pt.slots] at X5 l5 y5 z5 st5 hQ5
  subst l5 y5 z5
  obtain ⟨rfl, N5q, Kq5⟩ := hQ5
  have N5 := Fr.app N4 N5q
  have K5 := (Keep.refl h0 []).trans Kq5 all0
  have O5 := O0.keep Kq5 all0
  obtain ⟨fs, hr, hrun, hended, hW, hsame⟩ := X5.leave (v := some (.int (1 : Int32))) (fun h => by rw [Bd.returns] at h; cases h)
  subst hS0
  refine ⟨_, _, pre2 _ ?_, hrun, hended, _, _, rfl, ?_, ⟨_, rfl⟩, hW, hsame.mono (by decide) (by decide)⟩
  ·
   refine XS.iloadN X0.here hx rfl (hb hby at_7) rfl ?_
   show AT p e below s₁ m 8 #[iv p0, iv (0 : Int32), un] [(.int (0 : Int32))] _
   refine st3 _ ?_
   show AT p e below T3 m 11 #[iv p0, iv (0 : Int32), un] [(.ref w_CROSS)] _
   refine XS.astoreN X3.here hx rfl (hb hby at_11) rfl rfl (l' := #[iv p0, iv (0 : Int32), rv w_CROSS]) rfl ?_
   show AT p e below T3 m 12 #[iv p0, iv (0 : Int32), rv w_CROSS] [] _
   refine XS.aloadN X3.here hx rfl (hb hby at_12) rfl rfl ?_
   show AT p e below T3 m 13 #[iv p0, iv (0 : Int32), rv w_CROSS] [(.ref w_CROSS)] _
   refine st4.trans ?_
   show AT p e below T4 m 16 #[iv p0, iv (0 : Int32), rv w_CROSS] [(.int (0 : Int32))] _
   refine XS.iloadN X4.here hx rfl (hb hby at_16) rfl ?_
   show AT p e below T4 m 17 #[iv p0, iv (0 : Int32), rv w_CROSS] [(.int (0 : Int32)), (.int (0 : Int32))] _
   refine st5 _ ?_
   show AT p e below T5 m 20 #[iv p0, iv (0 : Int32), rv w_CROSS] [(.int (0 : Int32)), (.int (0 : Int32))] _
   refine XS.icmpNo X5.here hx rfl (hb hby at_20) rfl (XT.ii_ne_f ((by decide) : (0 : Int32) = (0 : Int32))) ?_
   show AT p e below T5 m 23 #[iv p0, iv (0 : Int32), rv w_CROSS] [] _
   refine XS.iconst X5.here hx rfl (hb hby at_23) ?_
   show AT p e below T5 m 24 #[iv p0, iv (0 : Int32), rv w_CROSS] [(.int (1 : Int32))] _
   refine XS.goto X5.here hx rfl (pc0 := 24) (pc' := 28) rfl (hb hby at_24) (by decide) (by decide) ?_
   show AT p e below T5 m 28 #[iv p0, iv (0 : Int32), rv w_CROSS] [(.int (1 : Int32))] _
   exact retN X5 hx (t := .boolean) Bd.returns (by simp) (hb hby at_28) hr
  ·
   show Q0 Z p0 w_CROSS w_RIGHT w_FULL w_INNER w_LEFT h0 n0 _ T5.heap _
   exact ⟨rfl, N5⟩
 ·
  obtain ⟨_, _, ⟨T6, L6, k6, n6⟩, -, X6, ⟨Lc6, hQ6, l6, y6, z6⟩, st6⟩ := Jvm.LawKit.callS X0 hx (y := y1) hown (mvT hZ (ow hw 1 rfl)) (mvT hZ (ow hw 2 rfl)) (mvT hZ (ow hw 3 rfl)) (mvT hZ (ow hw 4 rfl)) (by decide) (backOf (W := 0) (rm1 l Z ar hw [] (1 : Int32) w_CROSS w_RIGHT w_FULL w_INNER w_LEFT h0 n0 O0 HW) hZ (ow hw 4 rfl) (ow hw 3 rfl) (by decide) (by decide)) (g := (mkF m 8 #[iv p0, iv (1 : Int32), un] [(.int (1 : Int32))])) rfl (by rw [hml]; rfl) (argsL := [(.int (1 : Int32))]) (rest := []) (lenOf pd_0 rfl) rfl (by show 2 * 0 + _ ≤ _; exact Nat.le_of_eq rfl) (hb hby at_8) (fun _ _ => ⟨rfl, e0, (by decide : 0 + 0 ≤ _), (by decide : 0 + 0 ≤ _)⟩)
  dsimp only [Pt.U, Pt.locs, Pt.cells, Pt.slots] at X6 l6 y6 z6 st6 hQ6
  subst l6 y6 z6
  obtain ⟨rfl, N6q, e6⟩ := hQ6
  have N6 := Fr.app N0 N6q
  have r6 : (f1 (1 : Int32) w_CROSS w_RIGHT w_FULL w_INNER w_LEFT) = w_INNER := by rw [f1, if_neg ((by decide) : ¬ ((1 : Int32) = (0 : Int32))), if_pos ((by decide) : (1 : Int32) = (1 : Int32))] <;> decide
  rw [r6] at st6
  obtain ⟨cq7, kq7, q7a, q7b, q7c⟩ := isOf hZ e6 (E_INNER.ext O0.2)
  obtain ⟨_, _, ⟨T7, L7, k7, n7⟩, -, X7, ⟨Lc7, hQ7, l7, y7, z7⟩, st7⟩ := X6.virtualBack hx (y := y2) (z := y2) hown (mvT hZ (ow hw 8 rfl)) (mvT hZ (ow hw 9 rfl)) (notFace_of_selects (args := #[]) (mvT hZ (ow hw 11 rfl))) (mvT hZ (ow hw 11 rfl)) (mvT hZ (ow hw 10 rfl)) (by decide) (backOf (W := 0) (rm2 l Z ar hw [] w_INNER w_CROSS w_RIGHT w_FULL w_INNER w_LEFT h0 n0 O0 HW) hZ (ow hw 12 rfl) (ow hw 6 rfl) (by decide) (by decide)) q7a q7c (g := (mkF m 13 #[iv p0, iv (1 : Int32), rv w_INNER] [(.ref w_INNER)])) rfl (by rw [hml]; rfl) (Steps.refl _) (argsL := []) (rest := []) (lenOf pd_1 rfl) rfl (by show 2 * 0 + _ ≤ _; exact Nat.le_of_eq rfl) (hb hby at_13) (fun _ _ => ⟨rfl, e6, (by decide : 0 + 0 ≤ _), (by decide : 0 + 0 ≤ _)⟩)
  dsimp only [Pt.U, Pt.locs, Pt.cells, Pt.slots] at X7 l7 y7 z7 st7 hQ7
  subst l7 y7 z7
  obtain ⟨rfl, N7q, e7⟩ := hQ7
  have N7 := Fr.app N6 N7q
  have r7 : (f2 w_INNER w_RIGHT w_FULL) = (0 : Int32) := by rw [f2, if_neg ((Fld.ne F_ordinal_INNER F_ordinal_RIGHT (by decide)) : ¬ (w_INNER = w_RIGHT)), if_neg ((Fld.ne F_ordinal_INNER F_ordinal_FULL (by decide)) : ¬ (w_INNER = w_FULL))] <;> decide
  rw [r7] at st7
  obtain ⟨_, _, ⟨T8, L8, k8, n8⟩, -, X8, ⟨Lc8, hQ8, l8, y8, z8⟩, st8⟩ := Jvm.LawKit.callS X7 hx (y := y3) hown (mvT hZ (ow hw 17 rfl)) (mvT hZ (ow hw 18 rfl)) (mvT hZ (ow hw 3 rfl)) (mvT hZ (ow hw 19 rfl)) (by decide) (backOf (W := 1) (rm3_1 l Z ar hw []  h0 n0 O0) hZ (ow hw 19 rfl) (ow hw 3 rfl) (by decide) (by decide)) (g := (mkF m 17 #[iv p0, iv (1 : Int32), rv w_INNER] [(.int (1 : Int32)), (.int (0 : Int32))])) rfl (by rw [hml]; rfl) (argsL := [(.int (1 : Int32))]) (rest := [(.int (0 : Int32))]) (lenOf pd_2 rfl) rfl (by show 2 * 0 + _ ≤ _; exact Nat.le_of_eq rfl) (hb hby at_17) (fun _ _ => ⟨rfl, e7, (by decide : 0 + 1 ≤ _), (by decide : 0 + 5 ≤ _)⟩)
  dsimp only [Pt.U, Pt.locs, Pt.cells, Pt.slots] at X8 l8 y8 z8 st8 hQ8
  subst l8 y8 z8
  obtain ⟨rfl, N8q, Kq8⟩ := hQ8
  have N8 := Fr.app N7 N8q
  have K8 := (Keep.refl h0 []).trans Kq8 all0
  have O8 := O0.keep Kq8 all0
  obtain ⟨fs, hr, hrun, hended, hW, hsame⟩ := X8.leave (v := some (.int (1 : Int32))) (fun h => by rw [Bd.returns] at h; cases h)
  subst hS0
  refine ⟨_, _, pre2 _ ?_, hrun, hended, _, _, rfl, ?_, ⟨_, rfl⟩, hW, hsame.mono (by decide) (by decide)⟩
  ·
   refine XS.iloadN X0.here hx rfl (hb hby at_7) rfl ?_
   show AT p e below s₁ m 8 #[iv p0, iv (1 : Int32), un] [(.int (1 : Int32))] _
   refine st6 _ ?_
   show AT p e below T6 m 11 #[iv p0, iv (1 : Int32), un] [(.ref w_INNER)] _
   refine XS.astoreN X6.here hx rfl (hb hby at_11) rfl rfl (l' := #[iv p0, iv (1 : Int32), rv w_INNER]) rfl ?_
   show AT p e below T6 m 12 #[iv p0, iv (1 : Int32), rv w_INNER] [] _
   refine XS.aloadN X6.here hx rfl (hb hby at_12) rfl rfl ?_
   show AT p e below T6 m 13 #[iv p0, iv (1 : Int32), rv w_INNER] [(.ref w_INNER)] _
   refine st7.trans ?_
   show AT p e below T7 m 16 #[iv p0, iv (1 : Int32), rv w_INNER] [(.int (0 : Int32))] _
   refine XS.iloadN X7.here hx rfl (hb hby at_16) rfl ?_
   show AT p e below T7 m 17 #[iv p0, iv (1 : Int32), rv w_INNER] [(.int (1 : Int32)), (.int (0 : Int32))] _
   refine st8 _ ?_
   show AT p e below T8 m 20 #[iv p0, iv (1 : Int32), rv w_INNER] [(.int (0 : Int32)), (.int (0 : Int32))] _
   refine XS.icmpNo X8.here hx rfl (hb hby at_20) rfl (XT.ii_ne_f ((by decide) : (0 : Int32) = (0 : Int32))) ?_
   show AT p e below T8 m 23 #[iv p0, iv (1 : Int32), rv w_INNER] [] _
   refine XS.iconst X8.here hx rfl (hb hby at_23) ?_
   show AT p e below T8 m 24 #[iv p0, iv (1 : Int32), rv w_INNER] [(.int (1 : Int32))] _
   refine XS.goto X8.here hx rfl (pc0 := 24) (pc' := 28) rfl (hb hby at_24) (by decide) (by decide) ?_
   show AT p e below T8 m 28 #[iv p0, iv (1 : Int32), rv w_INNER] [(.int (1 : Int32))] _
   exact retN X8 hx (t := .boolean) Bd.returns (by simp) (hb hby at_28) hr
  ·
   show Q0 Z p0 w_CROSS w_RIGHT w_FULL w_INNER w_LEFT h0 n0 _ T8.heap _
   exact ⟨rfl, N8⟩
 ·
  obtain ⟨_, _, ⟨T9, L9, k9, n9⟩, -, X9, ⟨Lc9, hQ9, l9, y9, z9⟩, st9⟩ := Jvm.LawKit.callS X0 hx (y := y1) hown (mvT hZ (ow hw 1 rfl)) (mvT hZ (ow hw 2 rfl)) (mvT hZ (ow hw 3 rfl)) (mvT hZ (ow hw 4 rfl)) (by decide) (backOf (W := 0) (rm1 l Z ar hw [] (2 : Int32) w_CROSS w_RIGHT w_FULL w_INNER w_LEFT h0 n0 O0 HW) hZ (ow hw 4 rfl) (ow hw 3 rfl) (by decide) (by decide)) (g := (mkF m 8 #[iv p0, iv (2 : Int32), un] [(.int (2 : Int32))])) rfl (by rw [hml]; rfl) (argsL := [(.int (2 : Int32))]) (rest := []) (lenOf pd_0 rfl) rfl (by show 2 * 0 + _ ≤ _; exact Nat.le_of_eq rfl) (hb hby at_8) (fun _ _ => ⟨rfl, e0, (by decide : 0 + 0 ≤ _), (by decide : 0 + 0 ≤ _)⟩)
  dsimp only [Pt.U, Pt.locs, Pt.cells, Pt.slots] at X9 l9 y9 z9 st9 hQ9
  subst l9 y9 z9
  obtain ⟨rfl, N9q, e9⟩ := hQ9
  have N9 := Fr.app N0 N9q
  have r9 : (f1 (2 : Int32) w_CROSS w_RIGHT w_FULL w_INNER w_LEFT) = w_LEFT := by rw [f1, if_neg ((by decide) : ¬ ((2 : Int32) = (0 : Int32))), if_neg ((by decide) : ¬ ((2 : Int32) = (1 : Int32))), if_pos ((by decide) : (2 : Int32) = (2 : Int32))] <;> decide
  rw [r9] at st9
  obtain ⟨cq10, kq10, q10a, q10b, q10c⟩ := isOf hZ e9 (E_LEFT.ext O0.2)
  obtain ⟨_, _, ⟨T10, L10, k10, n10⟩, -, X10, ⟨Lc10, hQ10, l10, y10, z10⟩, st10⟩ := X9.virtualBack hx (y := y2) (z := y2) hown (mvT hZ (ow hw 8 rfl)) (mvT hZ (ow hw 9 rfl)) (notFace_of_selects (args := #[]) (mvT hZ (ow hw 11 rfl))) (mvT hZ (ow hw 11 rfl)) (mvT hZ (ow hw 10 rfl)) (by decide) (backOf (W := 0) (rm2 l Z ar hw [] w_LEFT w_CROSS w_RIGHT w_FULL w_INNER w_LEFT h0 n0 O0 HW) hZ (ow hw 12 rfl) (ow hw 6 rfl) (by decide) (by decide)) q10a q10c (g := (mkF m 13 #[iv p0, iv (2 : Int32), rv w_LEFT] [(.ref w_LEFT)])) rfl (by rw [hml]; rfl) (Steps.refl _) (argsL := []) (rest := []) (lenOf pd_1 rfl) rfl (by show 2 * 0 + _ ≤ _; exact Nat.le_of_eq rfl) (hb hby at_13) (fun _ _ => ⟨rfl, e9, (by decide : 0 + 0 ≤ _), (by decide : 0 + 0 ≤ _)⟩)
  dsimp only [Pt.U, Pt.locs, Pt.cells, Pt.slots] at X10 l10 y10 z10 st10 hQ10
  subst l10 y10 z10
  obtain ⟨rfl, N10q, e10⟩ := hQ10
  have N10 := Fr.app N9 N10q
  have r10 : (f2 w_LEFT w_RIGHT w_FULL) = (0 : Int32) := by rw [f2, if_neg ((Fld.ne F_ordinal_LEFT F_ordinal_RIGHT (by decide)) : ¬ (w_LEFT = w_RIGHT)), if_neg ((Fld.ne F_ordinal_LEFT F_ordinal_FULL (by decide)) : ¬ (w_LEFT = w_FULL))] <;> decide
  rw [r10] at st10
  obtain ⟨_, _, ⟨T11, L11, k11, n11⟩, -, X11, ⟨Lc11, hQ11, l11, y11, z11⟩, st11⟩ := Jvm.LawKit.callS X10 hx (y := y3) hown (mvT hZ (ow hw 17 rfl)) (mvT hZ (ow hw 18 rfl)) (mvT hZ (ow hw 3 rfl)) (mvT hZ (ow hw 19 rfl)) (by decide) (backOf (W := 1) (rm3_2 l Z ar hw []  h0 n0 O0) hZ (ow hw 19 rfl) (ow hw 3 rfl) (by decide) (by decide)) (g := (mkF m 17 #[iv p0, iv (2 : Int32), rv w_LEFT] [(.int (2 : Int32)), (.int (0 : Int32))])) rfl (by rw [hml]; rfl) (argsL := [(.int (2 : Int32))]) (rest := [(.int (0 : Int32))]) (lenOf pd_2 rfl) rfl (by show 2 * 0 + _ ≤ _; exact Nat.le_of_eq rfl) (hb hby at_17) (fun _ _ => ⟨rfl, e10, (by decide : 0 + 1 ≤ _), (by decide : 0 + 5 ≤ _)⟩)
  dsimp only [Pt.U, Pt.locs, Pt.cells, Pt.slots] at X11 l11 y11 z11 st11 hQ11
  subst l11 y11 z11
  obtain ⟨rfl, N11q, Kq11⟩ := hQ11
  have N11 := Fr.app N10 N11q
  have K11 := (Keep.refl h0 []).trans Kq11 all0
  have O11 := O0.keep Kq11 all0
  obtain ⟨fs, hr, hrun, hended, hW, hsame⟩ := X11.leave (v := some (.int (1 : Int32))) (fun h => by rw [Bd.returns] at h; cases h)
  subst hS0
  refine ⟨_, _, pre2 _ ?_, hrun, hended, _, _, rfl, ?_, ⟨_, rfl⟩, hW, hsame.mono (by decide) (by decide)⟩
  ·
   refine XS.iloadN X0.here hx rfl (hb hby at_7) rfl ?_
   show AT p e below s₁ m 8 #[iv p0, iv (2 : Int32), un] [(.int (2 : Int32))] _
   refine st9 _ ?_
   show AT p e below T9 m 11 #[iv p0, iv (2 : Int32), un] [(.ref w_LEFT)] _
   refine XS.astoreN X9.here hx rfl (hb hby at_11) rfl rfl (l' := #[iv p0, iv (2 : Int32), rv w_LEFT]) rfl ?_
   show AT p e below T9 m 12 #[iv p0, iv (2 : Int32), rv w_LEFT] [] _
   refine XS.aloadN X9.here hx rfl (hb hby at_12) rfl rfl ?_
   show AT p e below T9 m 13 #[iv p0, iv (2 : Int32), rv w_LEFT] [(.ref w_LEFT)] _
   refine st10.trans ?_
   show AT p e below T10 m 16 #[iv p0, iv (2 : Int32), rv w_LEFT] [(.int (0 : Int32))] _
   refine XS.iloadN X10.here hx rfl (hb hby at_16) rfl ?_
   show AT p e below T10 m 17 #[iv p0, iv (2 : Int32), rv w_LEFT] [(.int (2 : Int32)), (.int (0 : Int32))] _
   refine st11 _ ?_
   show AT p e below T11 m 20 #[iv p0, iv (2 : Int32), rv w_LEFT] [(.int (0 : Int32)), (.int (0 : Int32))] _
   refine XS.icmpNo X11.here hx rfl (hb hby at_20) rfl (XT.ii_ne_f ((by decide) : (0 : Int32) = (0 : Int32))) ?_
   show AT p e below T11 m 23 #[iv p0, iv (2 : Int32), rv w_LEFT] [] _
   refine XS.iconst X11.here hx rfl (hb hby at_23) ?_
   show AT p e below T11 m 24 #[iv p0, iv (2 : Int32), rv w_LEFT] [(.int (1 : Int32))] _
   refine XS.goto X11.here hx rfl (pc0 := 24) (pc' := 28) rfl (hb hby at_24) (by decide) (by decide) ?_
   show AT p e below T11 m 28 #[iv p0, iv (2 : Int32), rv w_LEFT] [(.int (1 : Int32))] _
   exact retN X11 hx (t := .boolean) Bd.returns (by simp) (hb hby at_28) hr
  ·
   show Q0 Z p0 w_CROSS w_RIGHT w_FULL w_INNER w_LEFT h0 n0 _ T11.heap _
   exact ⟨rfl, N11⟩
 ·
  obtain ⟨_, _, ⟨T12, L12, k12, n12⟩, -, X12, ⟨Lc12, hQ12, l12, y12, z12⟩, st12⟩ := Jvm.LawKit.callS X0 hx (y := y1) hown (mvT hZ (ow hw 1 rfl)) (mvT hZ (ow hw 2 rfl)) (mvT hZ (ow hw 3 rfl)) (mvT hZ (ow hw 4 rfl)) (by decide) (backOf (W := 0) (rm1 l Z ar hw [] (3 : Int32) w_CROSS w_RIGHT w_FULL w_INNER w_LEFT h0 n0 O0 HW) hZ (ow hw 4 rfl) (ow hw 3 rfl) (by decide) (by decide)) (g := (mkF m 8 #[iv p0, iv (3 : Int32), un] [(.int (3 : Int32))])) rfl (by rw [hml]; rfl) (argsL := [(.int (3 : Int32))]) (rest := []) (lenOf pd_0 rfl) rfl (by show 2 * 0 + _ ≤ _; exact Nat.le_of_eq rfl) (hb hby at_8) (fun _ _ => ⟨rfl, e0, (by decide : 0 + 0 ≤ _), (by decide : 0 + 0 ≤ _)⟩)
  dsimp only [Pt.U, Pt.locs, Pt.cells, Pt.slots] at X12 l12 y12 z12 st12 hQ12
  subst l12 y12 z12
  obtain ⟨rfl, N12q, e12⟩ := hQ12
  have N12 := Fr.app N0 N12q
  have r12 : (f1 (3 : Int32) w_CROSS w_RIGHT w_FULL w_INNER w_LEFT) = w_RIGHT := by rw [f1, if_neg ((by decide) : ¬ ((3 : Int32) = (0 : Int32))), if_neg ((by decide) : ¬ ((3 : Int32) = (1 : Int32))), if_neg ((by decide) : ¬ ((3 : Int32) = (2 : Int32))), if_pos ((by decide) : (3 : Int32) = (3 : Int32))] <;> decide
  rw [r12] at st12
  obtain ⟨cq13, kq13, q13a, q13b, q13c⟩ := isOf hZ e12 (E_RIGHT.ext O0.2)
  obtain ⟨_, _, ⟨T13, L13, k13, n13⟩, -, X13, ⟨Lc13, hQ13, l13, y13, z13⟩, st13⟩ := X12.virtualBack hx (y := y2) (z := y2) hown (mvT hZ (ow hw 8 rfl)) (mvT hZ (ow hw 9 rfl)) (notFace_of_selects (args := #[]) (mvT hZ (ow hw 11 rfl))) (mvT hZ (ow hw 11 rfl)) (mvT hZ (ow hw 10 rfl)) (by decide) (backOf (W := 0) (rm2 l Z ar hw [] w_RIGHT w_CROSS w_RIGHT w_FULL w_INNER w_LEFT h0 n0 O0 HW) hZ (ow hw 12 rfl) (ow hw 6 rfl) (by decide) (by decide)) q13a q13c (g := (mkF m 13 #[iv p0, iv (3 : Int32), rv w_RIGHT] [(.ref w_RIGHT)])) rfl (by rw [hml]; rfl) (Steps.refl _) (argsL := []) (rest := []) (lenOf pd_1 rfl) rfl (by show 2 * 0 + _ ≤ _; exact Nat.le_of_eq rfl) (hb hby at_13) (fun _ _ => ⟨rfl, e12, (by decide : 0 + 0 ≤ _), (by decide : 0 + 0 ≤ _)⟩)
  dsimp only [Pt.U, Pt.locs, Pt.cells, Pt.slots] at X13 l13 y13 z13 st13 hQ13
  subst l13 y13 z13
  obtain ⟨rfl, N13q, e13⟩ := hQ13
  have N13 := Fr.app N12 N13q
  have r13 : (f2 w_RIGHT w_RIGHT w_FULL) = (1 : Int32) := by rw [f2, if_pos (rfl : w_RIGHT = w_RIGHT)] <;> decide
  rw [r13] at st13
  obtain ⟨_, _, ⟨T14, L14, k14, n14⟩, -, X14, ⟨Lc14, hQ14, l14, y14, z14⟩, st14⟩ := Jvm.LawKit.callS X13 hx (y := y3) hown (mvT hZ (ow hw 17 rfl)) (mvT hZ (ow hw 18 rfl)) (mvT hZ (ow hw 3 rfl)) (mvT hZ (ow hw 19 rfl)) (by decide) (backOf (W := 1) (rm3_3 l Z ar hw []  h0 n0 O0) hZ (ow hw 19 rfl) (ow hw 3 rfl) (by decide) (by decide)) (g := (mkF m 17 #[iv p0, iv (3 : Int32), rv w_RIGHT] [(.int (3 : Int32)), (.int (1 : Int32))])) rfl (by rw [hml]; rfl) (argsL := [(.int (3 : Int32))]) (rest := [(.int (1 : Int32))]) (lenOf pd_2 rfl) rfl (by show 2 * 0 + _ ≤ _; exact Nat.le_of_eq rfl) (hb hby at_17) (fun _ _ => ⟨rfl, e13, (by decide : 0 + 1 ≤ _), (by decide : 0 + 5 ≤ _)⟩)
  dsimp only [Pt.U, Pt.locs, Pt.cells, Pt.slots] at X14 l14 y14 z14 st14 hQ14
  subst l14 y14 z14
  obtain ⟨rfl, N14q, Kq14⟩ := hQ14
  have N14 := Fr.app N13 N14q
  have K14 := (Keep.refl h0 []).trans Kq14 all0
  have O14 := O0.keep Kq14 all0
  obtain ⟨fs, hr, hrun, hended, hW, hsame⟩ := X14.leave (v := some (.int (1 : Int32))) (fun h => by rw [Bd.returns] at h; cases h)
  subst hS0
  refine ⟨_, _, pre2 _ ?_, hrun, hended, _, _, rfl, ?_, ⟨_, rfl⟩, hW, hsame.mono (by decide) (by decide)⟩
  ·
   refine XS.iloadN X0.here hx rfl (hb hby at_7) rfl ?_
   show AT p e below s₁ m 8 #[iv p0, iv (3 : Int32), un] [(.int (3 : Int32))] _
   refine st12 _ ?_
   show AT p e below T12 m 11 #[iv p0, iv (3 : Int32), un] [(.ref w_RIGHT)] _
   refine XS.astoreN X12.here hx rfl (hb hby at_11) rfl rfl (l' := #[iv p0, iv (3 : Int32), rv w_RIGHT]) rfl ?_
   show AT p e below T12 m 12 #[iv p0, iv (3 : Int32), rv w_RIGHT] [] _
   refine XS.aloadN X12.here hx rfl (hb hby at_12) rfl rfl ?_
   show AT p e below T12 m 13 #[iv p0, iv (3 : Int32), rv w_RIGHT] [(.ref w_RIGHT)] _
   refine st13.trans ?_
   show AT p e below T13 m 16 #[iv p0, iv (3 : Int32), rv w_RIGHT] [(.int (1 : Int32))] _
   refine XS.iloadN X13.here hx rfl (hb hby at_16) rfl ?_
   show AT p e below T13 m 17 #[iv p0, iv (3 : Int32), rv w_RIGHT] [(.int (3 : Int32)), (.int (1 : Int32))] _
   refine st14 _ ?_
   show AT p e below T14 m 20 #[iv p0, iv (3 : Int32), rv w_RIGHT] [(.int (1 : Int32)), (.int (1 : Int32))] _
   refine XS.icmpNo X14.here hx rfl (hb hby at_20) rfl (XT.ii_ne_f ((by decide) : (1 : Int32) = (1 : Int32))) ?_
   show AT p e below T14 m 23 #[iv p0, iv (3 : Int32), rv w_RIGHT] [] _
   refine XS.iconst X14.here hx rfl (hb hby at_23) ?_
   show AT p e below T14 m 24 #[iv p0, iv (3 : Int32), rv w_RIGHT] [(.int (1 : Int32))] _
   refine XS.goto X14.here hx rfl (pc0 := 24) (pc' := 28) rfl (hb hby at_24) (by decide) (by decide) ?_
   show AT p e below T14 m 28 #[iv p0, iv (3 : Int32), rv w_RIGHT] [(.int (1 : Int32))] _
   exact retN X14 hx (t := .boolean) Bd.returns (by simp) (hb hby at_28) hr
  ·
   show Q0 Z p0 w_CROSS w_RIGHT w_FULL w_INNER w_LEFT h0 n0 _ T14.heap _
   exact ⟨rfl, N14⟩
 ·
  obtain ⟨_, _, ⟨T15, L15, k15, n15⟩, -, X15, ⟨Lc15, hQ15, l15, y15, z15⟩, st15⟩ := Jvm.LawKit.callS X0 hx (y := y1) hown (mvT hZ (ow hw 1 rfl)) (mvT hZ (ow hw 2 rfl)) (mvT hZ (ow hw 3 rfl)) (mvT hZ (ow hw 4 rfl)) (by decide) (backOf (W := 0) (rm1 l Z ar hw [] (4 : Int32) w_CROSS w_RIGHT w_FULL w_INNER w_LEFT h0 n0 O0 HW) hZ (ow hw 4 rfl) (ow hw 3 rfl) (by decide) (by decide)) (g := (mkF m 8 #[iv p0, iv (4 : Int32), un] [(.int (4 : Int32))])) rfl (by rw [hml]; rfl) (argsL := [(.int (4 : Int32))]) (rest := []) (lenOf pd_0 rfl) rfl (by show 2 * 0 + _ ≤ _; exact Nat.le_of_eq rfl) (hb hby at_8) (fun _ _ => ⟨rfl, e0, (by decide : 0 + 0 ≤ _), (by decide : 0 + 0 ≤ _)⟩)
  dsimp only [Pt.U, Pt.locs, Pt.cells, Pt.slots] at X15 l15 y15 z15 st15 hQ15
  subst l15 y15 z15
  obtain ⟨rfl, N15q, e15⟩ := hQ15
  have N15 := Fr.app N0 N15q
  have r15 : (f1 (4 : Int32) w_CROSS w_RIGHT w_FULL w_INNER w_LEFT) = w_FULL := by rw [f1, if_neg ((by decide) : ¬ ((4 : Int32) = (0 : Int32))), if_neg ((by decide) : ¬ ((4 : Int32) = (1 : Int32))), if_neg ((by decide) : ¬ ((4 : Int32) = (2 : Int32))), if_neg ((by decide) : ¬ ((4 : Int32) = (3 : Int32)))] <;> decide
  rw [r15] at st15
  obtain ⟨cq16, kq16, q16a, q16b, q16c⟩ := isOf hZ e15 (E_FULL.ext O0.2)
  obtain ⟨_, _, ⟨T16, L16, k16, n16⟩, -, X16, ⟨Lc16, hQ16, l16, y16, z16⟩, st16⟩ := X15.virtualBack hx (y := y2) (z := y2) hown (mvT hZ (ow hw 8 rfl)) (mvT hZ (ow hw 9 rfl)) (notFace_of_selects (args := #[]) (mvT hZ (ow hw 11 rfl))) (mvT hZ (ow hw 11 rfl)) (mvT hZ (ow hw 10 rfl)) (by decide) (backOf (W := 0) (rm2 l Z ar hw [] w_FULL w_CROSS w_RIGHT w_FULL w_INNER w_LEFT h0 n0 O0 HW) hZ (ow hw 12 rfl) (ow hw 6 rfl) (by decide) (by decide)) q16a q16c (g := (mkF m 13 #[iv p0, iv (4 : Int32), rv w_FULL] [(.ref w_FULL)])) rfl (by rw [hml]; rfl) (Steps.refl _) (argsL := []) (rest := []) (lenOf pd_1 rfl) rfl (by show 2 * 0 + _ ≤ _; exact Nat.le_of_eq rfl) (hb hby at_13) (fun _ _ => ⟨rfl, e15, (by decide : 0 + 0 ≤ _), (by decide : 0 + 0 ≤ _)⟩)
  dsimp only [Pt.U, Pt.locs, Pt.cells, Pt.slots] at X16 l16 y16 z16 st16 hQ16
  subst l16 y16 z16
  obtain ⟨rfl, N16q, e16⟩ := hQ16
  have N16 := Fr.app N15 N16q
  have r16 : (f2 w_FULL w_RIGHT w_FULL) = (1 : Int32) := by rw [f2, if_neg ((Fld.ne F_ordinal_FULL F_ordinal_RIGHT (by decide)) : ¬ (w_FULL = w_RIGHT)), if_pos (rfl : w_FULL = w_FULL)] <;> decide
  rw [r16] at st16
  obtain ⟨_, _, ⟨T17, L17, k17, n17⟩, -, X17, ⟨Lc17, hQ17, l17, y17, z17⟩, st17⟩ := Jvm.LawKit.callS X16 hx (y := y3) hown (mvT hZ (ow hw 17 rfl)) (mvT hZ (ow hw 18 rfl)) (mvT hZ (ow hw 3 rfl)) (mvT hZ (ow hw 19 rfl)) (by decide) (backOf (W := 1) (rm3_4 l Z ar hw []  h0 n0 O0) hZ (ow hw 19 rfl) (ow hw 3 rfl) (by decide) (by decide)) (g := (mkF m 17 #[iv p0, iv (4 : Int32), rv w_FULL] [(.int (4 : Int32)), (.int (1 : Int32))])) rfl (by rw [hml]; rfl) (argsL := [(.int (4 : Int32))]) (rest := [(.int (1 : Int32))]) (lenOf pd_2 rfl) rfl (by show 2 * 0 + _ ≤ _; exact Nat.le_of_eq rfl) (hb hby at_17) (fun _ _ => ⟨rfl, e16, (by decide : 0 + 1 ≤ _), (by decide : 0 + 5 ≤ _)⟩)
  dsimp only [Pt.U, Pt.locs, Pt.cells, Pt.slots] at X17 l17 y17 z17 st17 hQ17
  subst l17 y17 z17
  obtain ⟨rfl, N17q, Kq17⟩ := hQ17
  have N17 := Fr.app N16 N17q
  have K17 := (Keep.refl h0 []).trans Kq17 all0
  have O17 := O0.keep Kq17 all0
  obtain ⟨fs, hr, hrun, hended, hW, hsame⟩ := X17.leave (v := some (.int (1 : Int32))) (fun h => by rw [Bd.returns] at h; cases h)
  subst hS0
  refine ⟨_, _, pre2 _ ?_, hrun, hended, _, _, rfl, ?_, ⟨_, rfl⟩, hW, hsame.mono (by decide) (by decide)⟩
  ·
   refine XS.iloadN X0.here hx rfl (hb hby at_7) rfl ?_
   show AT p e below s₁ m 8 #[iv p0, iv (4 : Int32), un] [(.int (4 : Int32))] _
   refine st15 _ ?_
   show AT p e below T15 m 11 #[iv p0, iv (4 : Int32), un] [(.ref w_FULL)] _
   refine XS.astoreN X15.here hx rfl (hb hby at_11) rfl rfl (l' := #[iv p0, iv (4 : Int32), rv w_FULL]) rfl ?_
   show AT p e below T15 m 12 #[iv p0, iv (4 : Int32), rv w_FULL] [] _
   refine XS.aloadN X15.here hx rfl (hb hby at_12) rfl rfl ?_
   show AT p e below T15 m 13 #[iv p0, iv (4 : Int32), rv w_FULL] [(.ref w_FULL)] _
   refine st16.trans ?_
   show AT p e below T16 m 16 #[iv p0, iv (4 : Int32), rv w_FULL] [(.int (1 : Int32))] _
   refine XS.iloadN X16.here hx rfl (hb hby at_16) rfl ?_
   show AT p e below T16 m 17 #[iv p0, iv (4 : Int32), rv w_FULL] [(.int (4 : Int32)), (.int (1 : Int32))] _
   refine st17 _ ?_
   show AT p e below T17 m 20 #[iv p0, iv (4 : Int32), rv w_FULL] [(.int (1 : Int32)), (.int (1 : Int32))] _
   refine XS.icmpNo X17.here hx rfl (hb hby at_20) rfl (XT.ii_ne_f ((by decide) : (1 : Int32) = (1 : Int32))) ?_
   show AT p e below T17 m 23 #[iv p0, iv (4 : Int32), rv w_FULL] [] _
   refine XS.iconst X17.here hx rfl (hb hby at_23) ?_
   show AT p e below T17 m 24 #[iv p0, iv (4 : Int32), rv w_FULL] [(.int (1 : Int32))] _
   refine XS.goto X17.here hx rfl (pc0 := 24) (pc' := 28) rfl (hb hby at_24) (by decide) (by decide) ?_
   show AT p e below T17 m 28 #[iv p0, iv (4 : Int32), rv w_FULL] [(.int (1 : Int32))] _
   exact retN X17 hx (t := .boolean) Bd.returns (by simp) (hb hby at_28) hr
  ·
   show Q0 Z p0 w_CROSS w_RIGHT w_FULL w_INNER w_LEFT h0 n0 _ T17.heap _
   exact ⟨rfl, N17⟩

set_option maxRecDepth 65536 in
set_option maxHeartbeats 40000000 in
theorem comes_1 {Post : Tables → Env → Array Value → State → Outcome → State → Prop} (hpost : ∀ tb e args s v u, (limb_1_1.after args s (.returned v) u = true ∧ limb_1_2.after args s (.returned v) u = true ∧ True) → FrameEnd s (.returned v) u (Jvm.fieldLocs frame_1_writes args s ++ Jvm.arrayLocs frame_1_arrays args s ++ Jvm.staticLocs frame_1_statics s) 16 128 → Post tb e args s (.returned v) u) :
    ArmFor flags0 classFile x code maxLocals ret World_1 tables_1 room_1 Calls_1 rest_1 Pre_1 Post := by
  intro l hfl _ _ p e ha hc hk s m args below hf hA hF happ hP
  obtain ⟨hcalls, hrest, hpre⟩ := hP
  obtain ⟨-, -, -, hnamed, -, -, -, hat⟩ := (Spec.applies_iff hf).mp happ
  obtain ⟨hg, hn⟩ := and_e (Cond.before_iff.mp (show (Jvm.Cond.and given_1 narrow_1).before args s = true from hpre))
  obtain ⟨hg1, hg2⟩ := and_e hg
  obtain ⟨w0, rfl⟩ : ∃ w0 : Value, args = #[w0] := by
    have hs : args.size = 1 := by simpa [Cond.value, given_1] using hg1
    obtain ⟨L⟩ := args
    match L, hs with
    | [w0], _ => exact ⟨w0, rfl⟩
  have hw := fun d (hd : d ∈ tables_1) => atoms_spec (ws := Jvm.Cond.code x code maxLocals ret :: tables_1) hat d (List.mem_cons_of_mem _ hd)
  have hfit : Fit s := fun {y c} hc i hi => by
    obtain ⟨ha, rfl⟩ := Array.getElem?_eq_some_iff.mp hc
    have q := List.all_eq_true.mp ((Array.all_eq_true_iff_forall_mem.mp hF) _ (Array.getElem_mem ha)) i (List.mem_range.mpr hi)
    simpa [Array.getElem?_eq_getElem hi] using q
  obtain ⟨i0, ei0⟩ := is_v hg2
  obtain rfl : w0 = (.int i0) := Option.some.inj ei0
  obtain ⟨hn1, hn2⟩ := and_e hn
  obtain ⟨hn21, hn22⟩ := and_e hn2
  obtain ⟨hn221, hn222⟩ := and_e hn22
  obtain ⟨hn2221, hn2222⟩ := and_e hn222
  obtain ⟨hn22221, hn22222⟩ := and_e hn2222
  obtain ⟨hn222221, hn222222⟩ := and_e hn22222
  obtain ⟨hn2222221, hn2222222⟩ := and_e hn222222
  obtain ⟨hn22222221, hn22222222⟩ := and_e hn2222222
  obtain ⟨hn222222221, hn222222222⟩ := and_e hn22222222
  obtain ⟨w_CROSS, ev_w_CROSS⟩ := exa_v hn1
  have S_CROSS : Sta s s.heap "com/example/pushplan/pushplan/plan/Join$Kind" "CROSS" "Lcom/example/pushplan/pushplan/plan/Join$Kind;" (.ref w_CROSS) := Sta.start ev_w_CROSS (Or.inr ⟨(ow hw 6 rfl), (ow hw 7 rfl)⟩)
  have E_CROSS : Exa s s.heap w_CROSS "com/example/pushplan/pushplan/plan/Join$Kind" := Exa.start ev_w_CROSS hn1
  obtain ⟨w_RIGHT, ev_w_RIGHT⟩ := exa_v hn21
  have S_RIGHT : Sta s s.heap "com/example/pushplan/pushplan/plan/Join$Kind" "RIGHT" "Lcom/example/pushplan/pushplan/plan/Join$Kind;" (.ref w_RIGHT) := Sta.start ev_w_RIGHT (Or.inr ⟨(ow hw 6 rfl), (ow hw 14 rfl)⟩)
  have E_RIGHT : Exa s s.heap w_RIGHT "com/example/pushplan/pushplan/plan/Join$Kind" := Exa.start ev_w_RIGHT hn21
  have evhn221 := own_eqInt hn221
  have F_ordinal_CROSS : Fld s s.heap w_CROSS "java/lang/Enum" "ordinal" "I" (.int (0 : Int32)) := Fld.start ((fld_at ev_w_CROSS).symm.trans evhn221)
  have evhn2221 := own_eqInt hn2221
  have F_ordinal_RIGHT : Fld s s.heap w_RIGHT "java/lang/Enum" "ordinal" "I" (.int (3 : Int32)) := Fld.start ((fld_at ev_w_RIGHT).symm.trans evhn2221)
  obtain ⟨w_FULL, ev_w_FULL⟩ := exa_v hn22221
  have S_FULL : Sta s s.heap "com/example/pushplan/pushplan/plan/Join$Kind" "FULL" "Lcom/example/pushplan/pushplan/plan/Join$Kind;" (.ref w_FULL) := Sta.start ev_w_FULL (Or.inr ⟨(ow hw 6 rfl), (ow hw 16 rfl)⟩)
  have E_FULL : Exa s s.heap w_FULL "com/example/pushplan/pushplan/plan/Join$Kind" := Exa.start ev_w_FULL hn22221
  have evhn222221 := own_eqInt hn222221
  have F_ordinal_FULL : Fld s s.heap w_FULL "java/lang/Enum" "ordinal" "I" (.int (4 : Int32)) := Fld.start ((fld_at ev_w_FULL).symm.trans evhn222221)
  obtain ⟨w_INNER, ev_w_INNER⟩ := exa_v hn2222221
  have S_INNER : Sta s s.heap "com/example/pushplan/pushplan/plan/Join$Kind" "INNER" "Lcom/example/pushplan/pushplan/plan/Join$Kind;" (.ref w_INNER) := Sta.start ev_w_INNER (Or.inr ⟨(ow hw 6 rfl), (ow hw 23 rfl)⟩)
  have E_INNER : Exa s s.heap w_INNER "com/example/pushplan/pushplan/plan/Join$Kind" := Exa.start ev_w_INNER hn2222221
  have evhn22222221 := own_eqInt hn22222221
  have F_ordinal_INNER : Fld s s.heap w_INNER "java/lang/Enum" "ordinal" "I" (.int (1 : Int32)) := Fld.start ((fld_at ev_w_INNER).symm.trans evhn22222221)
  obtain ⟨w_LEFT, ev_w_LEFT⟩ := exa_v hn222222221
  have S_LEFT : Sta s s.heap "com/example/pushplan/pushplan/plan/Join$Kind" "LEFT" "Lcom/example/pushplan/pushplan/plan/Join$Kind;" (.ref w_LEFT) := Sta.start ev_w_LEFT (Or.inr ⟨(ow hw 6 rfl), (ow hw 26 rfl)⟩)
  have E_LEFT : Exa s s.heap w_LEFT "com/example/pushplan/pushplan/plan/Join$Kind" := Exa.start ev_w_LEFT hn222222221
  have evhn222222222 := own_eqInt hn222222222
  have F_ordinal_LEFT : Fld s s.heap w_LEFT "java/lang/Enum" "ordinal" "I" (.int (2 : Int32)) := Fld.start ((fld_at ev_w_LEFT).symm.trans evhn222222222)
  have HW : Wd s w_CROSS w_RIGHT w_FULL w_INNER w_LEFT := ⟨S_CROSS, E_CROSS, S_RIGHT, E_RIGHT, F_ordinal_CROSS, F_ordinal_RIGHT, S_FULL, E_FULL, F_ordinal_FULL, S_INNER, E_INNER, F_ordinal_INNER, S_LEFT, E_LEFT, F_ordinal_LEFT⟩
  obtain ⟨n, o, h1, h2, h3, _, L, rfl, ⟨rfl, N⟩, hq⟩ := rm0 l s _ hw tables_1 i0 w_CROSS w_RIGHT w_FULL w_INNER w_LEFT s.heap s.heap.size (Old.start s) HW p e ha hc hk s m _ below hf ((Spec.applies_iff_loose hf).mp happ).1 ⟨rfl, State.Warmed39.refl s, rfl⟩ trivial
  refine ⟨n, _, h1, h2, h3, hpost _ _ _ _ _ _ ⟨Cond.after_iff.mpr rfl, Cond.after_iff.mpr (eq_i res_at (Term.int_eval (1)) rfl), trivial⟩ ⟨hq.1, hq.2.1, (hq.2.2.sift fun y hy => Or.inr (N y hy)).mono (by decide) (by decide)⟩⟩
theorem main_1_1 : Claimed_1_1 := comes_1 fun _ _ _ _ _ _ h hF => ⟨h.1, hF⟩
theorem main_1_2 : Claimed_1_2 := comes_1 fun _ _ _ _ _ _ h hF => ⟨h.2.1, hF⟩
end Jvm.Pilot.@@N@@
namespace Jvm.Pilot.@@N@@
open Jvm Jvm.ClassFile Sem Op Lib Jvm.Free Jvm.Stand Jvm.Pilot.@@N@@.Jvm.D
/-! MADE BY PROGRAM (witnessworld.py) out of the Statement's table words and the real class files: 14 classes; the members and pool entries that the words name. The judged class is class 1, her method 3. -/
namespace start1
open Jvm.ClassFile
def u (s : String) : CpInfo := .utf8 (stringToUtf16 s)
/-- a pool by its gaps: so many unusable entries, then the entry; so many at the end -/
def gap : Nat → List CpInfo → List CpInfo
  | 0, r => r
  | n + 1, r => .unusable :: gap n r
def poolList (es : List (Nat × CpInfo)) (last : Nat) : List CpInfo := es.foldr (fun e r => gap e.1 (e.2 :: r)) (gap last [])
def pool (es : List (Nat × CpInfo)) (last : Nat) : Array CpInfo := ⟨poolList es last⟩
def fileOf (pool : Array CpInfo) (this : Nat) (attrs : Array Attribute := #[]) (ms : Array MethodInfo := #[]) (fl : Nat := 33) (sup : Nat := 0) (ifs : Array Nat := #[]) (fds : Array FieldInfo := #[]) : ClassFile where
  minorVersion := 0
  majorVersion := 65
  constantPool := pool
  accessFlags := fl
  thisClass := this
  superClass := sup
  interfaces := ifs
  fields := fds
  methods := ms
  attributes := attrs
def plain (name : String) (sup : Option ClassId) : Class where
  name := name
  kind := .ordinary
  loader := none
  accessFlags := 33
  super := sup
  interfaces := #[]
  cf := none
  fields := #[]
  methods := #[]
  instanceTypes := #[]
  staticTypes := #[]
  resolved := #[]
  callSites := []
  init := .initialized
  statics := none
  mirror := none

def pool0 : Array CpInfo := pool [(5, u "<init>"), (0, u "()V"), (1, .class_ 10), (1, u "java/lang/Object")] 113

def k0m0 : Method := { name := "<init>", desc := "()V", sig := { parameters := [], returnType := none }, accessFlags := 1, code := none }
/-- java/lang/Object -/
def k0 : Class := { plain "java/lang/Object" none with
  accessFlags := 33
  interfaces := #[]
  cf := some (fileOf pool0 8 #[] #[{ accessFlags := 1, nameIndex := 5, descriptorIndex := 6, attributes := #[] }] 33 0 #[] #[])
  fields := #[]
  methods := #[k0m0]
  instanceTypes := #[]
  staticTypes := #[]
  resolved := Array.replicate 124 none
  statics := none }

def pool1 : Array CpInfo := pool [(2, .class_ 4), (1, u "java/lang/Object"), (0, u "<init>"), (0, u "()V"), (0, .fieldref 8 9), (0, .class_ 10), (0, .nameAndType 11 12), (0, u "com/example/pushplan/pushplan/plan/Join$Kind"), (0, u "CROSS"), (0, u "Lcom/example/pushplan/pushplan/plan/Join$Kind;"), (0, .fieldref 8 14), (0, .nameAndType 15 12), (0, u "INNER"), (0, .fieldref 8 17), (0, .nameAndType 18 12), (0, u "LEFT"), (0, .fieldref 8 20), (0, .nameAndType 21 12), (0, u "RIGHT"), (0, .fieldref 8 23), (0, .nameAndType 24 12), (0, u "FULL"), (0, .integer 2147483647), (0, .methodref 27 28), (0, .class_ 29), (0, .nameAndType 30 31), (0, u "com/example/pushplan/pushplan/plan/KindPreservesRightPinLaw"), (0, u "kindAt"), (0, u "(I)Lcom/example/pushplan/pushplan/plan/Join$Kind;"), (0, .methodref 8 33), (0, .nameAndType 34 35), (0, u "preservesRight"), (0, u "()Z"), (0, .methodref 27 37), (0, .nameAndType 38 39), (0, u "expectedAt"), (0, u "(I)Z"), (3, u "law")] 6

def k1m0 : Method := { name := "<init>", desc := "()V", sig := { parameters := [], returnType := none }, accessFlags := 2, code := none }
def k1c1 : Code := { maxStack := 2, maxLocals := 1, code := method_2_code, exceptionTable := #[], attributes := #[] }
def k1m1 : Method := { name := "kindAt", desc := "(I)Lcom/example/pushplan/pushplan/plan/Join$Kind;", sig := { parameters := [.int], returnType := some (.object "com/example/pushplan/pushplan/plan/Join$Kind") }, accessFlags := 10, code := some k1c1 }
def k1c2 : Code := { maxStack := 4, maxLocals := 2, code := method_3_code, exceptionTable := #[], attributes := #[] }
def k1m2 : Method := { name := "expectedAt", desc := "(I)Z", sig := { parameters := [.int], returnType := some .boolean }, accessFlags := 10, code := some k1c2 }
def k1c3 : Code := { maxStack := 2, maxLocals := 3, code := code, exceptionTable := #[], attributes := #[] }
def k1m3 : Method := { name := "law", desc := "(I)Z", sig := { parameters := [.int], returnType := some .boolean }, accessFlags := 9, code := some k1c3 }
/-- com/example/pushplan/pushplan/plan/KindPreservesRightPinLaw -/
def k1 : Class := { plain "com/example/pushplan/pushplan/plan/KindPreservesRightPinLaw" (some 0) with
  accessFlags := 49
  interfaces := #[]
  cf := some (fileOf pool1 27 #[] #[{ accessFlags := 2, nameIndex := 5, descriptorIndex := 6, attributes := #[] }, { accessFlags := 10, nameIndex := 30, descriptorIndex := 31, attributes := #[] }, { accessFlags := 10, nameIndex := 38, descriptorIndex := 39, attributes := #[] }, { accessFlags := 9, nameIndex := 43, descriptorIndex := 39, attributes := #[] }] 49 2 #[] #[])
  fields := #[]
  methods := #[k1m0, k1m1, k1m2, k1m3]
  instanceTypes := #[]
  staticTypes := #[]
  resolved := Array.replicate 50 none
  statics := none }

def pool2 : Array CpInfo := pool [(1, .class_ 2), (0, u "java/lang/constant/Constable"), (0, .class_ 4), (0, u "java/lang/Object")] 6

/-- java/lang/constant/Constable -/
def k2 : Class := { plain "java/lang/constant/Constable" (some 0) with
  accessFlags := 1537
  interfaces := #[]
  cf := some (fileOf pool2 1 #[] #[] 1537 3 #[] #[])
  fields := #[]
  methods := #[]
  instanceTypes := #[]
  staticTypes := #[]
  resolved := Array.replicate 11 none
  statics := none }

def pool3 : Array CpInfo := pool [(1, .class_ 2), (0, u "java/lang/Comparable"), (0, .class_ 4), (0, u "java/lang/Object")] 7

/-- java/lang/Comparable -/
def k3 : Class := { plain "java/lang/Comparable" (some 0) with
  accessFlags := 1537
  interfaces := #[]
  cf := some (fileOf pool3 1 #[] #[] 1537 3 #[] #[])
  fields := #[]
  methods := #[]
  instanceTypes := #[]
  staticTypes := #[]
  resolved := Array.replicate 12 none
  statics := none }

def pool4 : Array CpInfo := pool [(1, .class_ 2), (0, u "java/io/Serializable"), (0, .class_ 4), (0, u "java/lang/Object")] 2

/-- java/io/Serializable -/
def k4 : Class := { plain "java/io/Serializable" (some 0) with
  accessFlags := 1537
  interfaces := #[]
  cf := some (fileOf pool4 1 #[] #[] 1537 3 #[] #[])
  fields := #[]
  methods := #[]
  instanceTypes := #[]
  staticTypes := #[]
  resolved := Array.replicate 7 none
  statics := none }

def pool5 : Array CpInfo := pool [(2, .class_ 4), (1, u "java/lang/Enum"), (0, u "name"), (0, u "Ljava/lang/String;"), (2, u "ordinal"), (0, u "I"), (1, .class_ 14), (1, u "java/lang/Object"), (4, u "hash"), (86, .class_ 108), (1, u "java/lang/Enum$EnumDesc"), (2, .class_ 112), (0, u "java/lang/constant/Constable"), (0, .class_ 114), (0, u "java/lang/Comparable"), (0, .class_ 116), (0, u "java/io/Serializable")] 87

/-- java/lang/Enum -/
def k5 : Class := { plain "java/lang/Enum" (some 0) with
  accessFlags := 1057
  interfaces := #[2, 3, 4]
  cf := some (fileOf pool5 2 #[.nestMembers #[106]] #[] 1057 12 #[111, 113, 115] #[{ accessFlags := 18, nameIndex := 5, descriptorIndex := 6, attributes := #[] }, { accessFlags := 18, nameIndex := 9, descriptorIndex := 10, attributes := #[] }, { accessFlags := 2, nameIndex := 19, descriptorIndex := 10, attributes := #[] }])
  fields := #[{ name := "name", type := (.object "java/lang/String"), accessFlags := 18, slot := 0, constantValue := 0 }, { name := "ordinal", type := .int, accessFlags := 18, slot := 1, constantValue := 0 }, { name := "hash", type := .int, accessFlags := 2, slot := 2, constantValue := 0 }]
  methods := #[]
  instanceTypes := #[(.object "java/lang/String"), .int, .int]
  staticTypes := #[]
  resolved := Array.replicate 204 none
  statics := none }

def pool6 : Array CpInfo := pool [(1, .class_ 2), (0, u "com/example/pushplan/pushplan/plan/Join$Kind"), (2, u "CROSS"), (0, u "Lcom/example/pushplan/pushplan/plan/Join$Kind;"), (2, u "INNER"), (2, u "LEFT"), (0, .fieldref 1 14), (0, .nameAndType 15 6), (0, u "RIGHT"), (0, .fieldref 1 17), (0, .nameAndType 18 6), (0, u "FULL"), (2, u "$VALUES"), (0, u "[Lcom/example/pushplan/pushplan/plan/Join$Kind;"), (6, .class_ 31), (1, u "java/lang/Enum"), (8, u "word"), (0, u "Ljava/lang/String;"), (30, u "()Z"), (1, u "preservesRight"), (8, .class_ 84), (0, u "com/example/pushplan/pushplan/plan/Join")] 2

def k6c0 : Code := { maxStack := 2, maxLocals := 1, code := prog_57_method_5_code, exceptionTable := #[], attributes := #[] }
def k6m0 : Method := { name := "preservesRight", desc := "()Z", sig := { parameters := [], returnType := some .boolean }, accessFlags := 1, code := some k6c0 }
/-- com/example/pushplan/pushplan/plan/Join$Kind -/
def k6 : Class := { plain "com/example/pushplan/pushplan/plan/Join$Kind" (some 5) with
  accessFlags := 16433
  interfaces := #[]
  cf := some (fileOf pool6 1 #[.nestHost 83] #[{ accessFlags := 1, nameIndex := 74, descriptorIndex := 72, attributes := #[] }] 16433 29 #[] #[{ accessFlags := 16409, nameIndex := 5, descriptorIndex := 6, attributes := #[] }, { accessFlags := 16409, nameIndex := 9, descriptorIndex := 6, attributes := #[] }, { accessFlags := 16409, nameIndex := 12, descriptorIndex := 6, attributes := #[] }, { accessFlags := 16409, nameIndex := 15, descriptorIndex := 6, attributes := #[] }, { accessFlags := 16409, nameIndex := 18, descriptorIndex := 6, attributes := #[] }, { accessFlags := 18, nameIndex := 40, descriptorIndex := 41, attributes := #[] }, { accessFlags := 4122, nameIndex := 21, descriptorIndex := 22, attributes := #[] }])
  fields := #[{ name := "CROSS", type := (.object "com/example/pushplan/pushplan/plan/Join$Kind"), accessFlags := 16409, slot := 0, constantValue := 0 }, { name := "INNER", type := (.object "com/example/pushplan/pushplan/plan/Join$Kind"), accessFlags := 16409, slot := 1, constantValue := 0 }, { name := "LEFT", type := (.object "com/example/pushplan/pushplan/plan/Join$Kind"), accessFlags := 16409, slot := 2, constantValue := 0 }, { name := "RIGHT", type := (.object "com/example/pushplan/pushplan/plan/Join$Kind"), accessFlags := 16409, slot := 3, constantValue := 0 }, { name := "FULL", type := (.object "com/example/pushplan/pushplan/plan/Join$Kind"), accessFlags := 16409, slot := 4, constantValue := 0 }, { name := "word", type := (.object "java/lang/String"), accessFlags := 18, slot := 3, constantValue := 0 }, { name := "$VALUES", type := (.array (.object "com/example/pushplan/pushplan/plan/Join$Kind")), accessFlags := 4122, slot := 5, constantValue := 0 }]
  methods := #[k6m0]
  instanceTypes := #[(.object "java/lang/String"), .int, .int, (.object "java/lang/String")]
  staticTypes := #[(.object "com/example/pushplan/pushplan/plan/Join$Kind"), (.object "com/example/pushplan/pushplan/plan/Join$Kind"), (.object "com/example/pushplan/pushplan/plan/Join$Kind"), (.object "com/example/pushplan/pushplan/plan/Join$Kind"), (.object "com/example/pushplan/pushplan/plan/Join$Kind"), (.array (.object "com/example/pushplan/pushplan/plan/Join$Kind"))]
  resolved := Array.replicate 87 none
  statics := some 0 }

def pool7 : Array CpInfo := pool [(1, u "java/lang/Cloneable"), (0, .class_ 1), (0, u "java/lang/Object"), (0, .class_ 3)] 3

/-- java/lang/Cloneable -/
def k7 : Class := { plain "java/lang/Cloneable" (some 0) with
  accessFlags := 1537
  interfaces := #[]
  cf := some (fileOf pool7 2 #[] #[] 1537 4 #[] #[])
  fields := #[]
  methods := #[]
  instanceTypes := #[]
  staticTypes := #[]
  resolved := Array.replicate 8 none
  statics := none }

/-- the primitive boolean -/
def k8 : Class := { plain "boolean" none with kind := .primitive 'Z', accessFlags := 0x411 }
/-- [Z -/
def k9 : Class := { plain "[Z" (some 0) with kind := .array 8 .boolean, interfaces := #[7, 4], accessFlags := 1041 }

/-- the primitive byte -/
def k10 : Class := { plain "byte" none with kind := .primitive 'B', accessFlags := 0x411 }
/-- [B -/
def k11 : Class := { plain "[B" (some 0) with kind := .array 10 .byte, interfaces := #[7, 4], accessFlags := 1041 }

/-- the primitive int -/
def k12 : Class := { plain "int" none with kind := .primitive 'I', accessFlags := 0x411 }
/-- [I -/
def k13 : Class := { plain "[I" (some 0) with kind := .array 12 .int, interfaces := #[7, 4], accessFlags := 1041 }

def heap : Heap := #[{ cls := 6, slots := #[.ref 1, .ref 4, .ref 5, .ref 2, .ref 3, .null], vm := .statics 6 },
  { cls := 6, slots := #[.null, .int 0, .int 0, .null], vm := .none },
  { cls := 6, slots := #[.null, .int 3, .int 0, .null], vm := .none },
  { cls := 6, slots := #[.null, .int 4, .int 0, .null], vm := .none },
  { cls := 6, slots := #[.null, .int 1, .int 0, .null], vm := .none },
  { cls := 6, slots := #[.null, .int 2, .int 0, .null], vm := .none }]
def classes : Array Class := #[k0, k1, k2, k3, k4, k5, k6, k7, k8, k9, k10, k11, k12, k13]
def interned : List (Array UInt16 × Addr) := []
def slotsUsed : Nat := 26
def theMethod : MethodId := ⟨1, 3⟩
def args0 : Array Value := #[.int 5]
def aboutOver (below : List Frame) : State where
  vm := { classes := classes, interned := interned.toArray }
  heap := heap
  slotsUsed := slotsUsed
  threads := #[{ frames := .invoking theMethod args0 :: below }]
def below0 : List Frame := [.native { method := ⟨0, 0⟩, args := #[] }]
def about1 : State := aboutOver below0
def p0 : Program := .bare "" "" ""
def e0 : Env := launch0.env 0 0 0
theorem w_frames : about1.frames = Frame.invoking theMethod args0 :: below0 := rfl
set_option maxRecDepth 65536 in
theorem w_args : argsFit about1.vm theMethod args0 = true := by decide +kernel
set_option maxRecDepth 65536 in
theorem w_heap : heapFits about1 = true := by decide +kernel
set_option maxRecDepth 65536 in
theorem w_runnable : about1.curStatus? = some .runnable := by decide +kernel
set_option maxRecDepth 65536 in
theorem w_alone : about1.alone = true := by decide +kernel
set_option maxRecDepth 65536 in
theorem w_named : about1.methodNamed? x = some theMethod := by decide +kernel
set_option maxRecDepth 65536 in
theorem w_hears : about1.hears theMethod below0 = true := by decide +kernel
set_option maxRecDepth 65536 in
theorem w_ripe : about1.ripe theMethod args0 below0 = true := by decide +kernel
theorem w_running : about1.status = .running := rfl
set_option maxRecDepth 65536 in
theorem w_room : about1.hasRoom e0.platform room_1 = true :=
  launch0.hasRoom_least _ room_1 (by decide +kernel) (by decide +kernel) (by decide +kernel) (by decide +kernel) (by decide +kernel) (by decide +kernel)
theorem allAtoms_all (ts : List Jvm.Cond) (a : Array Jvm.Value) (st : Jvm.State) : (allAtoms ts).before a st = ts.all (fun c => c.before a st) := by
  induction ts with
  | nil => rfl
  | cons c t ih =>
    show (Jvm.Cond.and c (allAtoms t)).before a st = _
    rw [Jvm.Cond.before_and, ih, List.all_cons]
def words1 : List Jvm.Cond := Jvm.Cond.code x code maxLocals ret :: tables_1
/-- a 'code' word, met by the world's own term for the bytes: nothing is compared byte by byte -/
theorem code_word {y : MethodName} {bytes : ByteArray} {mx : Nat} {rt : Option FieldType} {a : Array Value} {s : State} {m : MethodId} {meth : Method} {c : Code} (h1 : s.methodNamed? y = some m) (h2 : s.vm.method? m = some meth) (h3 : meth.code = some c) (h4 : c.code = bytes)
    (h5 : (c.maxLocals == mx && c.exceptionTable.isEmpty && decide (c.maxStack ≤ mostOperands) && decide (meth.sig.returnType = rt) && !meth.locks && decide (parseMethodDescriptor y.desc = some meth.sig)) = true) : (Jvm.Cond.code y bytes mx rt).before a s = true := by
  simp only [Bool.and_eq_true, beq_iff_eq, Bool.not_eq_true', decide_eq_true_eq] at h5
  obtain ⟨⟨⟨⟨⟨g1, g2⟩, g3⟩, g4⟩, g5⟩, g6⟩ := h5
  simp [Cond.before, Cond.holds, Cond.value, h1, h2, h3, h4, g1, g2, g3, g4, g5, g6]
def isCode : Jvm.Cond → Bool
  | .code _ _ _ _ => true
  | _ => false
theorem all_split {L : List Jvm.Cond} {P : Jvm.Cond → Bool} (h1 : L.all (fun c => isCode c || P c) = true) (h2 : ∀ c ∈ L.filter isCode, P c = true) : L.all P = true := by
  refine List.all_eq_true.mpr fun c hc => ?_
  have h := List.all_eq_true.mp h1 c hc
  rcases Bool.eq_false_or_eq_true (isCode c) with hi | hi
  · exact h2 c (List.mem_filter.mpr ⟨hc, hi⟩)
  · simpa [hi] using h
set_option maxRecDepth 65536 in
theorem w_c0 : (Jvm.Cond.code x code maxLocals ret).before args0 about1 = true := code_word (m := ⟨1, 3⟩) (meth := k1m3) (c := k1c3) (by decide +kernel) rfl rfl rfl (by decide +kernel)
set_option maxRecDepth 65536 in
theorem w_c1 : (Jvm.Cond.code ({ cls := "com/example/pushplan/pushplan/plan/KindPreservesRightPinLaw", name := "kindAt", desc := "(I)Lcom/example/pushplan/pushplan/plan/Join$Kind;" } : Jvm.MethodName) method_2_code (1 : Nat) (Option.some (Jvm.ClassFile.FieldType.object "com/example/pushplan/pushplan/plan/Join$Kind"))).before args0 about1 = true := code_word (m := ⟨1, 1⟩) (meth := k1m1) (c := k1c1) (by decide +kernel) rfl rfl rfl (by decide +kernel)
set_option maxRecDepth 65536 in
theorem w_c2 : (Jvm.Cond.code ({ cls := "com/example/pushplan/pushplan/plan/Join$Kind", name := "preservesRight", desc := "()Z" } : Jvm.MethodName) prog_57_method_5_code (1 : Nat) (Option.some Jvm.ClassFile.FieldType.boolean)).before args0 about1 = true := code_word (m := ⟨6, 0⟩) (meth := k6m0) (c := k6c0) (by decide +kernel) rfl rfl rfl (by decide +kernel)
set_option maxRecDepth 65536 in
theorem w_c3 : (Jvm.Cond.code ({ cls := "com/example/pushplan/pushplan/plan/KindPreservesRightPinLaw", name := "expectedAt", desc := "(I)Z" } : Jvm.MethodName) method_3_code (2 : Nat) (Option.some Jvm.ClassFile.FieldType.boolean)).before args0 about1 = true := code_word (m := ⟨1, 2⟩) (meth := k1m2) (c := k1c2) (by decide +kernel) rfl rfl rfl (by decide +kernel)
def codes1 : List Jvm.Cond := [Jvm.Cond.code x code maxLocals ret, Jvm.Cond.code ({ cls := "com/example/pushplan/pushplan/plan/KindPreservesRightPinLaw", name := "kindAt", desc := "(I)Lcom/example/pushplan/pushplan/plan/Join$Kind;" } : Jvm.MethodName) method_2_code (1 : Nat) (Option.some (Jvm.ClassFile.FieldType.object "com/example/pushplan/pushplan/plan/Join$Kind")), Jvm.Cond.code ({ cls := "com/example/pushplan/pushplan/plan/Join$Kind", name := "preservesRight", desc := "()Z" } : Jvm.MethodName) prog_57_method_5_code (1 : Nat) (Option.some Jvm.ClassFile.FieldType.boolean), Jvm.Cond.code ({ cls := "com/example/pushplan/pushplan/plan/KindPreservesRightPinLaw", name := "expectedAt", desc := "(I)Z" } : Jvm.MethodName) method_3_code (2 : Nat) (Option.some Jvm.ClassFile.FieldType.boolean)]
set_option maxRecDepth 65536 in
theorem codes_eq : words1.filter isCode = codes1 := rfl
theorem w_codes : ∀ c ∈ words1.filter isCode, c.before args0 about1 = true := by
  rw [codes_eq]
  intro c hc
  simp only [codes1, List.mem_cons, List.not_mem_nil, or_false] at hc
  rcases hc with rfl | rfl | rfl | rfl
  · exact w_c0
  · exact w_c1
  · exact w_c2
  · exact w_c3
set_option maxRecDepth 65536 in
theorem w_t1 : (words1.take 24).all (fun c => isCode c || c.before args0 about1) = true := by decide +kernel
set_option maxRecDepth 65536 in
theorem w_t2 : (words1.drop 24).all (fun c => isCode c || c.before args0 about1) = true := by decide +kernel
theorem w_tables : (allAtoms (Jvm.Cond.code x code maxLocals ret :: tables_1)).before args0 about1 = true := by
  rw [allAtoms_all]
  show words1.all (fun c => c.before args0 about1) = true
  refine all_split ?_ w_codes
  rw [← List.take_append_drop 24 words1, List.all_append, w_t1, w_t2]
  rfl
set_option maxRecDepth 65536 in
theorem w_case : (Jvm.Cond.and given_1 narrow_1).before args0 about1 = true := by decide +kernel
theorem w_applies : (headSpec (Jvm.Cond.code x code maxLocals ret :: tables_1) room_1).applies x e0.platform about1 = true :=
  (Spec.applies_iff w_frames).mpr ⟨w_running, w_runnable, w_alone, w_named, w_hears, w_ripe, w_room, w_tables⟩
theorem atStart : AtStart classFile x code maxLocals ret World_1 tables_1 room_1 Calls_1 rest_1 Pre_1 launch0 p0 e0 about1 theMethod args0 below0 :=
  ⟨lists_1, trivial, launch0.admits_env _ _ _, launch0.least_env, fairChoices_fair.cas, fairChoices_fair.clock, w_frames, w_args, w_heap, w_applies, trivial, trivial, w_case⟩
end start1
theorem witness_1 : WitnessClaimed_1 := ⟨start1.p0, start1.e0, start1.about1, start1.theMethod, start1.args0, start1.below0, start1.atStart⟩
end Jvm.Pilot.@@N@@
