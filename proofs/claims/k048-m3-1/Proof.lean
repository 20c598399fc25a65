import JvmDerived
import JvmDerived.Pilot.@@N@@Statement
import JvmDerived.Pilot.@@N@@Code
set_option linter.unusedVariables false
set_option linter.unusedSimpArgs false
namespace Jvm.Pilot.@@N@@
open Jvm Jvm.ClassFile Sem Op Lib Jvm.Free Jvm.Stand Jvm.LawKit Jvm.RoadKit Bundle Jvm.Pilot.@@N@@.Jvm.D
abbrev y1 : MethodName := ⟨"com/example/uni_frame/uniframe/UndoBudget", "<init>", "(I)V"⟩
abbrev y2 : MethodName := ⟨"java/lang/Object", "<init>", "()V"⟩
abbrev y3 : MethodName := ⟨"com/example/uni_frame/uniframe/UndoBudget", "remaining", "()I"⟩
abbrev y4 : MethodName := ⟨"com/example/uni_frame/uniframe/UndoBudget", "spend", "(I)V"⟩

abbrev jv (x : Int64) : Slot := .val (.long x)
abbrev un : Slot := .unset
abbrev se : Slot := .second
abbrev AT (p : Program) (e : Env) (below : List Frame) (T : State) (m : MethodId) (pc : Nat) (ls : Array Slot) (st : List Value) (tg : State) : Prop := Steps p.tables e below (T.setTop (mkF m pc ls st)) tg
theorem ow {Z : State} {a0 : Array Value} (hw : ∀ d ∈ tables_1, d.before a0 Z = true) (i : Nat) {d : Jvm.Cond} (h : tables_1[i]? = some d) : d.before a0 Z = true := hw _ (List.mem_of_getElem? h)
theorem own_lrem {p : Program} {l : Launch} {e : Env} {R : Room} {s : State} {m : MethodId} {args : Array Value} {below : List Frame} {meth : Method} {c : Code} {T : State} {locs : List Loc} {cells slots : Nat} {g : JFrame} {target : State} (X : Stand p l e R s m args below meth c T locs cells slots) (hx : p.tables.exec = Jvm.exec) (hg : g.method = m) {x y : Int64} {rest : List Value} (hd : decode c.code g.pc = .ok (.lrem, 1)) (hs : g.stack = .long y :: .long x :: rest) (hy : y ≠ 0)
    (hr : Steps p.tables e below (T.setTop { g with pc := g.pc + 1, stack := .long (x % y) :: rest }) target) : Steps p.tables e below (T.setTop g) target :=
  XS.lrem X.here hx hg hd hs hy (by rw [lrem_mod]; exact hr)
theorem own_eqInt {args : Array Value} {first s : State} {o : Option Outcome} {idx : List Nat} {t : Term} {n : Int32} (h : (Jvm.Cond.eq t (.int n)).value args first o s idx = some true) : t.eval args first o idx s = some (.int n) := by
  simp only [Cond.value, Term.eval] at h
  cases ht : t.eval args first o idx s with
  | none => simp [ht] at h
  | some v => cases v <;> simp [ht] at h ⊢; exact h
theorem own_eqLong {args : Array Value} {first s : State} {o : Option Outcome} {idx : List Nat} {t : Term} {n : Int64} (h : (Jvm.Cond.eq t (.long n)).value args first o s idx = some true) : t.eval args first o idx s = some (.long n) := by
  simp only [Cond.value, Term.eval] at h
  cases ht : t.eval args first o idx s with
  | none => simp [ht] at h
  | some v => cases v <;> simp [ht] at h ⊢; exact h
theorem own_eqRef {args : Array Value} {first s : State} {o : Option Outcome} {idx : List Nat} {t u : Term} {a : Addr} (hu : u.eval args first o idx s = some (.ref a)) (h : (Jvm.Cond.eq t u).value args first o s idx = some true) : t.eval args first o idx s = some (.ref a) := by
  simp only [Cond.value, hu] at h
  cases ht : t.eval args first o idx s with
  | none => simp [ht] at h
  | some v => cases v <;> simp [ht] at h ⊢; exact h

theorem own_in {c : Cell} {n : Int32} (j : Int32) (S : c.slots.size = n.toNatClampNeg) (q : ¬ j < 0 ∧ j < n) : ¬ (j < 0 ∨ c.slots.size ≤ j.toNatClampNeg) := inb_of S q
theorem own_up {x a b : Int32} (h : x < a) (q : a.toInt ≤ b.toInt) : x < b := Int32.lt_iff_toInt_lt.mpr (Int.lt_of_lt_of_le (Int32.lt_iff_toInt_lt.mp h) q)
theorem own_dn {x a b : Int32} (h : ¬ x < a) (q : b.toInt ≤ a.toInt) : ¬ x < b := fun z => h (own_up z q)
theorem own_neInt {args : Array Value} {first s : State} {o : Option Outcome} {idx : List Nat} {t : Term} {x n : Int32} (ht : t.eval args first o idx s = some (.int x)) (h : (Jvm.Cond.not (Jvm.Cond.eq t (.int n))).value args first o s idx = some true) : ¬ x = n := by
  simpa [Cond.value, Term.eval, ht] using h

theorem own_len {Z : State} {args : Array Value} {t : Term} {a : Addr} {cl : Cell} {ty : FieldType} {n : Int32} (ev : t.eval args Z none [] Z = some (.ref a)) (A : Arr Z Z.heap a cl ty) (h : (Term.length t).eval args Z none [] Z = some (.int n)) : cl.slots.size < 2 ^ 31 ∧ cl.slots.size.toInt32 = n := by
  have q := A.fin (U := Z) (Vm.Alike.refl _)
  simp only [Term.eval, ev, q, Option.bind_eq_bind, Option.bind_some, Option.pure_def] at h
  split at h
  · rename_i hlt; exact ⟨hlt, by simpa using h⟩
  · simp at h

theorem own_nar {v : Value} {c : String} (h : v.isRef = true) : narrow (.object c) v = v := by cases v <;> first | rfl | simp [Value.isRef] at h
theorem own_fits {v : Value} {c : String} (h : v.isRef = true) : fits (.object c) v = true := by cases v <;> first | rfl | simp [Value.isRef] at h
theorem own_cat {v : Value} (h : v.isRef = true) : v.category = 1 := by cases v <;> first | rfl | simp [Value.isRef] at h

theorem own_notOf {Z : State} {a0 : Array Value} {C S K : String} {n : Nat} (w : (Jvm.Cond.superclass C S).before a0 Z = true) (w0 : (Jvm.Cond.noSuperclass S).before a0 Z = true) (wk : (Jvm.Cond.instantiable K n).before a0 Z = true) (h1 : C ≠ K) (h2 : S ≠ K) :
    ∃ c t, Z.vm.findClass C = some c ∧ Z.vm.findClass K = some t ∧ Z.vm.assignable c t = false := by
  obtain ⟨t, k', g0, g2, g5, g7, -⟩ := Cond.instantiable_spec wk
  obtain ⟨c, h0⟩ := found_sup w
  obtain ⟨p, k, kp, q1, q2, q3, q4, q5, q6, q7⟩ := Cond.superclass_spec h0 w
  obtain ⟨c0, k0, r1, r2, r3, -, -⟩ := Cond.noSuperclass_spec w0
  cases q1.symm.trans r1
  have ne1 := ids_ne h0 g0 h1
  have ne2 := ids_ne r1 g0 h2
  have g8 := (Bool.or_eq_false_iff.mp g7).1
  have n3 : ∀ fuel, Z.vm.isSubclassAux fuel c t = false := by
    intro fuel
    cases fuel with
    | zero => rfl
    | succ f =>
      cases f with
      | zero => simp [Vm.isSubclassAux, ne1, q2, q4]
      | succ g => simp [Vm.isSubclassAux, ne1, ne2, q2, q4, r2, r3]
  refine ⟨c, t, h0, g0, ?_⟩
  show Z.vm.assignableAux (255 + 1) c t = false
  simp [Vm.assignableAux, ne1, q2, g2, q5, g5, g8, Vm.isSubclass, n3]

theorem own_selP {Z s : State} {a0 args : Array Value} {y : MethodName} {n : Nat} (hZ : Z.Warmed39 s.vm) (wi : (Jvm.Cond.instantiable y.cls n).before a0 Z = true) (wp : (Jvm.Cond.privateMethod y).before a0 Z = true) (wm : (Jvm.Cond.instanceMethod y).before a0 Z = true) (hy : y.cls ≠ "java/lang/invoke/MethodHandle" ∧ y.cls ≠ "java/lang/invoke/VarHandle") : (Jvm.Cond.selects y.cls y y).before args s = true := by
  obtain ⟨c, k, hc, hk, -, hni, -⟩ := Cond.instantiable_spec (mvT (s := s) (args := args) hZ wi)
  exact selects_self_of_private hc hk (Bool.or_eq_false_iff.mp hni).1 (Cond.privateMethod_at (mvP hZ wp (args := #[]))) (mvT hZ wm) hy

theorem own_neS {Z : State} {h : Heap} {a b u w : Addr} {C f d : String} {k k' : ClassId} {ty : FieldType} {z z' : Int32} {vs vs' : List Value} {dv dv' : Value} (Fa : Fld Z h a C f d (.ref u)) (Va : Arv Z h u k ty z vs dv) (Fb : Fld Z h b C f d (.ref w)) (Vb : Arv Z h w k' ty z' vs' dv') (hn : z ≠ z' ∨ ∃ i : Nat, i < z.toNatClampNeg ∧ vs.getD i dv ≠ vs'.getD i dv') : a ≠ b := fun e => by
  subst e
  have hu : u = w := by
    rcases Decidable.em (u = w) with q | q
    · exact q
    · exact absurd rfl (Fld.ne Fa Fb (fun x => q (Value.ref.inj x)))
  subst hu
  obtain ⟨c1, A1, -, S1, N1, H1, -⟩ := Va
  obtain ⟨c2, A2, -, S2, N2, H2, -⟩ := Vb
  cases A1.1.symm.trans A2.1
  rcases hn with hn | ⟨i, hi, hn⟩
  · exact hn ((len_of S1 N1).symm.trans (len_of S2 N2))
  · have q1 := H1 i (by rw [S1]; exact hi)
    have q2 := H2 i (by rw [S1]; exact hi)
    exact hn (Option.some.inj (q1.symm.trans q2))
theorem pn_0 : plainName "com/example/uni_frame/uniframe/UndoBudget" = true := by first | (simp [plainName, overriddenIn]; done) | decide +kernel
theorem pn_1 : plainName "com/example/uni_frame/uniframe/UndoBudgetSpendPinLaw" = true := by first | (simp [plainName, overriddenIn]; done) | decide +kernel
theorem pd_0 : parseMethodDescriptor "()I" = some ⟨[], some .int⟩ := by decide +kernel
theorem pd_1 : parseMethodDescriptor "(I)V" = some ⟨[.int], none⟩ := by decide +kernel
theorem d1_0 : decode prog_8_method_1_code 0 = .ok (.aload_n 0, 1) := by decide +kernel
theorem d1_1 : decode prog_8_method_1_code 1 = .ok (.invokespecial 1, 3) := by decide +kernel
theorem d1_4 : decode prog_8_method_1_code 4 = .ok (.aload_n 0, 1) := by decide +kernel
theorem d1_5 : decode prog_8_method_1_code 5 = .ok (.iload_n 1, 1) := by decide +kernel
theorem d1_6 : decode prog_8_method_1_code 6 = .ok (.putfield 7, 3) := by decide +kernel
theorem d1_9 : decode prog_8_method_1_code 9 = .ok (.return_, 1) := by decide +kernel
theorem ef_1 (m : MethodId) (a0 : Addr) (p1 : Int32) : entryFrame m #[(.ref a0), (.int p1)] 2 = mkF m 0 #[rv a0, iv p1] [] := by first | (simp [entryFrame, mkF, argsToLocals, Value.category]; done) | rfl
def Q1 (Z : State) (a0 : Addr) (p1 : Int32) (h0 : Heap) (n0 : Nat) (v : Option Value) (h : Heap) (L : List Loc) : Prop := v = none ∧ Fr n0 L ∧ Keep h0 h [a0] ∧ Exa Z h a0 "com/example/uni_frame/uniframe/UndoBudget" ∧ Fld Z h a0 "com/example/uni_frame/uniframe/UndoBudget" "limit" "I" (.int p1) ∧ Fld Z h a0 "com/example/uni_frame/uniframe/UndoBudget" "spent" "I" (.int (0 : Int32))
set_option maxRecDepth 65536 in
set_option maxHeartbeats 40000000 in
theorem rm1 (l : Launch) (Z : State) (ar : Array Value) (hw : ∀ d ∈ tables_1, d.before ar Z = true) (ws : List Jvm.Cond) (a0 : Addr) (p1 : Int32) (h0 : Heap) (n0 : Nat) (O0 : Old Z n0 h0) (pf0 : Exa Z h0 a0 "com/example/uni_frame/uniframe/UndoBudget") (pf1 : Fld Z h0 a0 "com/example/uni_frame/uniframe/UndoBudget" "limit" "I" (.int (0 : Int32))) (pf2 : Fld Z h0 a0 "com/example/uni_frame/uniframe/UndoBudget" "spent" "I" (.int (0 : Int32))) (pf3 : n0 ≤ a0) :
    MetFree l y1 (head1 (Jvm.Cond.code y1 prog_8_method_1_code 2 none :: ws) ({ frames := 1, cells := 0, slots := 0, locals := 12 } : Room)) (fun a U => a = #[(.ref a0), (.int p1)] ∧ Z.Warmed39 U.vm ∧ U.heap = h0) (fun _ _ _ _ _ => True) (fun _ U o U' => ∃ v L, o = .returned v ∧ Q1 Z a0 p1 h0 n0 v U'.heap L ∧ FrameEnd U o U' L ({ frames := 1, cells := 0, slots := 0, locals := 12 } : Room).cells ({ frames := 1, cells := 0, slots := 0, locals := 12 } : Room).slots) := by
 refine MetFree.of_bodySF (plainFor_of_name pn_0) hisR ?_
 intro p e s m args below meth c s₁ Bd hml0 hP hK
 obtain ⟨rfl, hZ, hh⟩ := hP
 have hx := Bd.exec
 have hby := Bd.bytes
 have hml : c.maxLocals = 2 := hml0
 have hown : s.vm.findClass "com/example/uni_frame/uniframe/UndoBudget" = some m.cls := findClass_of_methodNamed Bd.named
 have hnm := (name_of_methodNamed Bd.named Bd.method).1
 have X0 : Stand p l e ({ frames := 1, cells := 0, slots := 0, locals := 12 } : Room) s m #[(.ref a0), (.int p1)] below meth c s₁ [] 0 0 := Stand.of_body Bd
 have e0 : s₁.heap = h0 := by rw [← hh, Bd.state]; rfl
 have N0 := Fr.nil n0
 have Z0 : n0 ≤ h0.size := Nat.le_trans (Nat.le_of_eq O0.1.symm) O0.2.1
 obtain ⟨S0, hS0⟩ : ∃ z, z = s₁.setTop (entryFrame m #[(.ref a0), (.int p1)] 2) := ⟨_, rfl⟩
 have pre0 : ∀ tg, AT p e below s₁ m 0 #[rv a0, iv p1] [] tg → Steps p.tables e below S0 tg := fun tg kg => by rw [hS0]; exact castTop (ef_1 m a0 p1) kg
 obtain ⟨T1, X1, e1, st1⟩ := initO X0 hx hZ hown (ow hw 7 rfl) (ow hw 8 rfl) (ow hw 9 rfl) e0 (g := (mkF m 1 #[rv a0, iv p1] [(.ref a0)])) rfl (by rw [hml]; rfl) rfl (hb hby d1_1) (by decide) (W := 0) (by show 2 * 0 + _ ≤ _; exact Nat.le_of_eq rfl) (by decide)
 obtain ⟨T2, h2, X2, e2, W2, st2⟩ := putF X1 hx hZ hown (host := "") (Or.inl (ow hw 10 rfl)) Via.refl e1 pf1 pf0 (Or.inr ⟨(ow hw 11 rfl), rfl, hnm⟩) (ow hw 2 rfl) (ty := .int) (by decide) rfl rfl (g := (mkF m 6 #[rv a0, iv p1] [(.int p1), (.ref a0)])) rfl rfl (hb hby d1_6)
 have E2_3 := pf0.wr W2
 have F2_4 : Fld Z h2 a0 "com/example/uni_frame/uniframe/UndoBudget" "limit" "I" (.int p1) := pf1.same W2
 have F2_5 := pf2.other W2 (Or.inr (slot_ne (Or.inl (ow hw 18 rfl)) (Or.inr (ow hw 11 rfl)) (by decide) (t := .int) (t' := .int) (by decide) (by decide)))
 have K2 := (Keep.refl h0 [a0]).wr W2 (Or.inl (List.mem_of_getElem? (i := 0) rfl))
 have O2 := O0.wr W2 pf3
 have N2 := Fr.snoc X2 N0 pf3
 obtain ⟨fs, hr, hrun, hended, hW, hsame⟩ := X2.leave (v := none) (fun _ => rfl)
 subst hS0
 refine ⟨_, _, pre0 _ ?_, hrun, hended, _, _, rfl, ?_, ⟨_, rfl⟩, hW, hsame.mono (by decide) (by decide)⟩
 ·
  refine XS.aloadN X0.here hx rfl (hb hby d1_0) rfl rfl ?_
  show AT p e below s₁ m 1 #[rv a0, iv p1] [(.ref a0)] _
  refine st1 _ ?_
  show AT p e below T1 m 4 #[rv a0, iv p1] [] _
  refine XS.aloadN X1.here hx rfl (hb hby d1_4) rfl rfl ?_
  show AT p e below T1 m 5 #[rv a0, iv p1] [(.ref a0)] _
  refine XS.iloadN X1.here hx rfl (hb hby d1_5) rfl ?_
  show AT p e below T1 m 6 #[rv a0, iv p1] [(.int p1), (.ref a0)] _
  refine st2 _ ?_
  show AT p e below T2 m 9 #[rv a0, iv p1] [] _
  exact X2.returnOut hx Bd.returns (hb hby d1_9) hr
 ·
  show Q1 Z a0 p1 h0 n0 _ T2.heap _
  rw [e2]
  exact ⟨rfl, N2, K2, E2_3, F2_4, F2_5⟩

theorem d3_0 : decode prog_8_method_2_code 0 = .ok (.aload_n 0, 1) := by decide +kernel
theorem d3_1 : decode prog_8_method_2_code 1 = .ok (.getfield 7, 3) := by decide +kernel
theorem d3_4 : decode prog_8_method_2_code 4 = .ok (.aload_n 0, 1) := by decide +kernel
theorem d3_5 : decode prog_8_method_2_code 5 = .ok (.getfield 13, 3) := by decide +kernel
theorem d3_8 : decode prog_8_method_2_code 8 = .ok (.isub, 1) := by decide +kernel
theorem d3_9 : decode prog_8_method_2_code 9 = .ok (.ireturn, 1) := by decide +kernel
theorem ef_3 (m : MethodId) (a0 : Addr) : entryFrame m #[(.ref a0)] 1 = mkF m 0 #[rv a0] [] := by first | (simp [entryFrame, mkF, argsToLocals, Value.category]; done) | rfl
def Q3 (Z : State) (a0 : Addr) (wl : Int32) (wsp : Int32) (h0 : Heap) (n0 : Nat) (v : Option Value) (h : Heap) (L : List Loc) : Prop := v = some (.int (wl - wsp)) ∧ Fr n0 L ∧ h = h0
set_option maxRecDepth 65536 in
set_option maxHeartbeats 40000000 in
theorem rm3 (l : Launch) (Z : State) (ar : Array Value) (hw : ∀ d ∈ tables_1, d.before ar Z = true) (ws : List Jvm.Cond) (a0 : Addr) (wl : Int32) (wsp : Int32) (h0 : Heap) (n0 : Nat) (O0 : Old Z n0 h0) (pf0 : Fld Z h0 a0 "com/example/uni_frame/uniframe/UndoBudget" "limit" "I" (.int wl)) (pf1 : Fld Z h0 a0 "com/example/uni_frame/uniframe/UndoBudget" "spent" "I" (.int wsp)) :
    MetFree l y3 (head1 (Jvm.Cond.code y3 prog_8_method_2_code 1 (some .int) :: ws) ({ frames := 0, cells := 0, slots := 0, locals := 0 } : Room)) (fun a U => a = #[(.ref a0)] ∧ Z.Warmed39 U.vm ∧ U.heap = h0) (fun _ _ _ _ _ => True) (fun _ U o U' => ∃ v L, o = .returned v ∧ Q3 Z a0 wl wsp h0 n0 v U'.heap L ∧ FrameEnd U o U' L ({ frames := 0, cells := 0, slots := 0, locals := 0 } : Room).cells ({ frames := 0, cells := 0, slots := 0, locals := 0 } : Room).slots) := by
 refine MetFree.of_bodySF (plainFor_of_name pn_0) hisR ?_
 intro p e s m args below meth c s₁ Bd hml0 hP hK
 obtain ⟨rfl, hZ, hh⟩ := hP
 have hx := Bd.exec
 have hby := Bd.bytes
 have hml : c.maxLocals = 1 := hml0
 have hown : s.vm.findClass "com/example/uni_frame/uniframe/UndoBudget" = some m.cls := findClass_of_methodNamed Bd.named
 have hnm := (name_of_methodNamed Bd.named Bd.method).1
 have X0 : Stand p l e ({ frames := 0, cells := 0, slots := 0, locals := 0 } : Room) s m #[(.ref a0)] below meth c s₁ [] 0 0 := Stand.of_body Bd
 have e0 : s₁.heap = h0 := by rw [← hh, Bd.state]; rfl
 have N0 := Fr.nil n0
 have Z0 : n0 ≤ h0.size := Nat.le_trans (Nat.le_of_eq O0.1.symm) O0.2.1
 obtain ⟨S0, hS0⟩ : ∃ z, z = s₁.setTop (entryFrame m #[(.ref a0)] 1) := ⟨_, rfl⟩
 have pre0 : ∀ tg, AT p e below s₁ m 0 #[rv a0] [] tg → Steps p.tables e below S0 tg := fun tg kg => by rw [hS0]; exact castTop (ef_3 m a0) kg
 obtain ⟨T1, X1, e1, st1⟩ := getF X0 hx hZ hown (host := "") (Or.inl (ow hw 10 rfl)) Via.refl e0 pf0 (g := (mkF m 1 #[rv a0] [(.ref a0)])) rfl rfl (hb hby d3_1)
 obtain ⟨T2, X2, e2, st2⟩ := getF X1 hx hZ hown (host := "") (Or.inl (ow hw 17 rfl)) Via.refl e1 pf1 (g := (mkF m 5 #[rv a0] [(.ref a0), (.int wl)])) rfl rfl (hb hby d3_5)
 obtain ⟨fs, hr, hrun, hended, hW, hsame⟩ := X2.leave (v := some (.int (wl - wsp))) (fun h => by rw [Bd.returns] at h; cases h)
 subst hS0
 refine ⟨_, _, pre0 _ ?_, hrun, hended, _, _, rfl, ?_, ⟨_, rfl⟩, hW, hsame.mono (by decide) (by decide)⟩
 ·
  refine XS.aloadN X0.here hx rfl (hb hby d3_0) rfl rfl ?_
  show AT p e below s₁ m 1 #[rv a0] [(.ref a0)] _
  refine st1 _ ?_
  show AT p e below T1 m 4 #[rv a0] [(.int wl)] _
  refine XS.aloadN X1.here hx rfl (hb hby d3_4) rfl rfl ?_
  show AT p e below T1 m 5 #[rv a0] [(.ref a0), (.int wl)] _
  refine st2 _ ?_
  show AT p e below T2 m 8 #[rv a0] [(.int wsp), (.int wl)] _
  refine XS.isub X2.here hx rfl (hb hby d3_8) rfl ?_
  show AT p e below T2 m 9 #[rv a0] [(.int (wl - wsp))] _
  exact retOut X2 hx (t := .int) (i := .ireturn) Bd.returns rfl (Or.inl ⟨rfl, Or.inl rfl, _, rfl⟩) (hb hby d3_9) hr
 ·
  show Q3 Z a0 wl wsp h0 n0 _ T2.heap _
  rw [e2]
  exact ⟨rfl, N0, rfl⟩

theorem d4_0 : decode prog_8_method_3_code 0 = .ok (.iload_n 1, 1) := by decide +kernel
theorem d4_1 : decode prog_8_method_3_code 1 = .ok (.aload_n 0, 1) := by decide +kernel
theorem d4_2 : decode prog_8_method_3_code 2 = .ok (.invokevirtual 16, 3) := by decide +kernel
theorem d4_5 : decode prog_8_method_3_code 5 = .ok (.if_icmp .le 21, 3) := by decide +kernel
theorem d4_26 : decode prog_8_method_3_code 26 = .ok (.aload_n 0, 1) := by decide +kernel
theorem d4_27 : decode prog_8_method_3_code 27 = .ok (.dup, 1) := by decide +kernel
theorem d4_28 : decode prog_8_method_3_code 28 = .ok (.getfield 13, 3) := by decide +kernel
theorem d4_31 : decode prog_8_method_3_code 31 = .ok (.iload_n 1, 1) := by decide +kernel
theorem d4_32 : decode prog_8_method_3_code 32 = .ok (.iadd, 1) := by decide +kernel
theorem d4_33 : decode prog_8_method_3_code 33 = .ok (.putfield 13, 3) := by decide +kernel
theorem d4_36 : decode prog_8_method_3_code 36 = .ok (.return_, 1) := by decide +kernel
theorem ef_4 (m : MethodId) (a0 : Addr) (p1 : Int32) : entryFrame m #[(.ref a0), (.int p1)] 2 = mkF m 0 #[rv a0, iv p1] [] := by first | (simp [entryFrame, mkF, argsToLocals, Value.category]; done) | rfl
def Q4 (Z : State) (a0 : Addr) (p1 : Int32) (wl : Int32) (wsp : Int32) (h0 : Heap) (n0 : Nat) (v : Option Value) (h : Heap) (L : List Loc) : Prop := v = none ∧ Fr n0 L ∧ Keep h0 h [a0] ∧ Exa Z h a0 "com/example/uni_frame/uniframe/UndoBudget" ∧ Fld Z h a0 "com/example/uni_frame/uniframe/UndoBudget" "limit" "I" (.int wl) ∧ Fld Z h a0 "com/example/uni_frame/uniframe/UndoBudget" "spent" "I" (.int (wsp + p1))
set_option maxRecDepth 65536 in
set_option maxHeartbeats 40000000 in
theorem rm4 (l : Launch) (Z : State) (ar : Array Value) (hw : ∀ d ∈ tables_1, d.before ar Z = true) (ws : List Jvm.Cond) (a0 : Addr) (p1 : Int32) (wl : Int32) (wsp : Int32) (h0 : Heap) (n0 : Nat) (O0 : Old Z n0 h0) (pf0 : Exa Z h0 a0 "com/example/uni_frame/uniframe/UndoBudget") (pf1 : Fld Z h0 a0 "com/example/uni_frame/uniframe/UndoBudget" "limit" "I" (.int wl)) (pf2 : Fld Z h0 a0 "com/example/uni_frame/uniframe/UndoBudget" "spent" "I" (.int wsp)) (pf3 : n0 ≤ a0) (hle : ¬ (wl - wsp) < p1) :
    MetFree l y4 (head1 (Jvm.Cond.code y4 prog_8_method_3_code 2 none :: ws) ({ frames := 1, cells := 0, slots := 0, locals := 13 } : Room)) (fun a U => a = #[(.ref a0), (.int p1)] ∧ Z.Warmed39 U.vm ∧ U.heap = h0) (fun _ _ _ _ _ => True) (fun _ U o U' => ∃ v L, o = .returned v ∧ Q4 Z a0 p1 wl wsp h0 n0 v U'.heap L ∧ FrameEnd U o U' L ({ frames := 1, cells := 0, slots := 0, locals := 13 } : Room).cells ({ frames := 1, cells := 0, slots := 0, locals := 13 } : Room).slots) := by
 refine MetFree.of_bodySF (plainFor_of_name pn_0) hisR ?_
 intro p e s m args below meth c s₁ Bd hml0 hP hK
 obtain ⟨rfl, hZ, hh⟩ := hP
 have hx := Bd.exec
 have hby := Bd.bytes
 have hml : c.maxLocals = 2 := hml0
 have hown : s.vm.findClass "com/example/uni_frame/uniframe/UndoBudget" = some m.cls := findClass_of_methodNamed Bd.named
 have hnm := (name_of_methodNamed Bd.named Bd.method).1
 have X0 : Stand p l e ({ frames := 1, cells := 0, slots := 0, locals := 13 } : Room) s m #[(.ref a0), (.int p1)] below meth c s₁ [] 0 0 := Stand.of_body Bd
 have e0 : s₁.heap = h0 := by rw [← hh, Bd.state]; rfl
 have N0 := Fr.nil n0
 have Z0 : n0 ≤ h0.size := Nat.le_trans (Nat.le_of_eq O0.1.symm) O0.2.1
 obtain ⟨S0, hS0⟩ : ∃ z, z = s₁.setTop (entryFrame m #[(.ref a0), (.int p1)] 2) := ⟨_, rfl⟩
 have pre0 : ∀ tg, AT p e below s₁ m 0 #[rv a0, iv p1] [] tg → Steps p.tables e below S0 tg := fun tg kg => by rw [hS0]; exact castTop (ef_4 m a0 p1) kg
 obtain ⟨cq1, kq1, q1a, q1b, q1c⟩ := isOf hZ e0 pf0
 obtain ⟨_, _, ⟨T1, L1, k1, n1⟩, -, X1, ⟨Lc1, hQ1, l1, y1, z1⟩, st1⟩ := X0.virtualBack hx (y := y3) (z := y3) hown (mvT hZ (ow hw 25 rfl)) (mvT hZ (ow hw 13 rfl)) (notFace_of_selects (args := #[]) (mvT hZ (ow hw 15 rfl))) (mvT hZ (ow hw 15 rfl)) (mvT hZ (ow hw 14 rfl)) (by decide) (backOf (W := 1) (rm3 l Z ar hw [] a0 wl wsp h0 n0 O0 pf1 pf2) hZ (ow hw 16 rfl) (ow hw 3 rfl) (by decide) (by decide)) q1a q1c (g := (mkF m 2 #[rv a0, iv p1] [(.ref a0), (.int p1)])) rfl (by rw [hml]; rfl) (Steps.refl _) (argsL := []) (rest := [(.int p1)]) (lenOf pd_0 rfl) rfl (by show 2 * 0 + _ ≤ _; exact Nat.le_of_eq rfl) (hb hby d4_2) (fun _ _ => ⟨rfl, e0, (by decide : 0 + 0 ≤ _), (by decide : 0 + 0 ≤ _)⟩)
 dsimp only [Pt.U, Pt.locs, Pt.cells, Pt.slots] at X1 l1 y1 z1 st1 hQ1
 subst l1 y1 z1
 obtain ⟨rfl, N1q, e1⟩ := hQ1
 have N1 := Fr.app N0 N1q
 obtain ⟨T2, X2, e2, st2⟩ := getF X1 hx hZ hown (host := "") (Or.inl (ow hw 17 rfl)) Via.refl e1 pf2 (g := (mkF m 28 #[rv a0, iv p1] [(.ref a0), (.ref a0)])) rfl rfl (hb hby d4_28)
 obtain ⟨T3, h3, X3, e3, W3, st3⟩ := putF X2 hx hZ hown (host := "") (Or.inl (ow hw 17 rfl)) Via.refl e2 pf2 pf0 (Or.inl (ow hw 18 rfl)) (ow hw 2 rfl) (ty := .int) (by decide) rfl rfl (g := (mkF m 33 #[rv a0, iv p1] [(.int (wsp + p1)), (.ref a0)])) rfl rfl (hb hby d4_33)
 have E3_4 := pf0.wr W3
 have F3_5 := pf1.other W3 (Or.inr (slot_ne (Or.inr (ow hw 11 rfl)) (Or.inl (ow hw 18 rfl)) (by decide) (t := .int) (t' := .int) (by decide) (by decide)))
 have F3_6 : Fld Z h3 a0 "com/example/uni_frame/uniframe/UndoBudget" "spent" "I" (.int (wsp + p1)) := pf2.same W3
 have K3 := (Keep.refl h0 [a0]).wr W3 (Or.inl (List.mem_of_getElem? (i := 0) rfl))
 have O3 := O0.wr W3 pf3
 have N3 := Fr.snoc X3 N1 pf3
 obtain ⟨fs, hr, hrun, hended, hW, hsame⟩ := X3.leave (v := none) (fun _ => rfl)
 subst hS0
 refine ⟨_, _, pre0 _ ?_, hrun, hended, _, _, rfl, ?_, ⟨_, rfl⟩, hW, hsame.mono (by decide) (by decide)⟩
 ·
  refine XS.iloadN X0.here hx rfl (hb hby d4_0) rfl ?_
  show AT p e below s₁ m 1 #[rv a0, iv p1] [(.int p1)] _
  refine XS.aloadN X0.here hx rfl (hb hby d4_1) rfl rfl ?_
  show AT p e below s₁ m 2 #[rv a0, iv p1] [(.ref a0), (.int p1)] _
  refine st1.trans ?_
  show AT p e below T1 m 5 #[rv a0, iv p1] [(.int (wl - wsp)), (.int p1)] _
  refine XS.icmpYes X1.here hx rfl (pc0 := 5) (pc' := 26) rfl (hb hby d4_5) rfl (XT.ii_le_t (hle : ¬ ((wl - wsp) < p1))) (by decide) (by decide) ?_
  show AT p e below T1 m 26 #[rv a0, iv p1] [] _
  refine XS.aloadN X1.here hx rfl (hb hby d4_26) rfl rfl ?_
  show AT p e below T1 m 27 #[rv a0, iv p1] [(.ref a0)] _
  refine XS.dup X1.here hx rfl (hb hby d4_27) rfl rfl ?_
  show AT p e below T1 m 28 #[rv a0, iv p1] [(.ref a0), (.ref a0)] _
  refine st2 _ ?_
  show AT p e below T2 m 31 #[rv a0, iv p1] [(.int wsp), (.ref a0)] _
  refine XS.iloadN X2.here hx rfl (hb hby d4_31) rfl ?_
  show AT p e below T2 m 32 #[rv a0, iv p1] [(.int p1), (.int wsp), (.ref a0)] _
  refine XS.iadd X2.here hx rfl (hb hby d4_32) rfl ?_
  show AT p e below T2 m 33 #[rv a0, iv p1] [(.int (wsp + p1)), (.ref a0)] _
  refine st3 _ ?_
  show AT p e below T3 m 36 #[rv a0, iv p1] [] _
  exact X3.returnOut hx Bd.returns (hb hby d4_36) hr
 ·
  show Q4 Z a0 p1 wl wsp h0 n0 _ T3.heap _
  rw [e3]
  exact ⟨rfl, N3, K3, E3_4, F3_5, F3_6⟩


theorem own_lim (x : Int32) : 0 ≤ (x &&& (2147483647 : Int32)).toInt := by
  rw [c_mask x (2147483647 : Int32) 31 (by decide) (by decide)]; exact Int.emod_nonneg _ (by decide)
theorem own_den (lim : Int32) (h : 0 ≤ lim.toInt) : ((lim.toInt64) + (1 : Int64)).toInt = lim.toInt + 1 := by
  have r := rng32 lim
  have a := c_ladd lim.toInt64 (1 : Int64)
  have b := c_i2l lim
  have k : ((1 : Int64)).toInt = 1 := rfl
  have s := rng64 ((lim.toInt64) + (1 : Int64))
  omega
theorem own_nz (lim : Int32) (h : 0 ≤ lim.toInt) : ((lim.toInt64) + (1 : Int64)) ≠ 0 := fun q => by
  have a := own_den lim h
  rw [q] at a
  have : ((0 : Int64)).toInt = 0 := rfl
  omega
theorem own_l (x lim : Int32) (h : 0 ≤ lim.toInt) : 0 ≤ ((((x.toInt64) &&& (2147483647 : Int64)) % ((lim.toInt64) + (1 : Int64))).toInt32).toInt ∧ ((((x.toInt64) &&& (2147483647 : Int64)) % ((lim.toInt64) + (1 : Int64))).toInt32).toInt ≤ lim.toInt := by
  have r := rng32 lim
  have d := own_den lim h
  have m := c_maskL x.toInt64 (2147483647 : Int64) 31 (by decide) (by decide)
  have m0 : 0 ≤ ((x.toInt64) &&& (2147483647 : Int64)).toInt := by rw [m]; exact Int.emod_nonneg _ (by decide)
  have q : ((((x.toInt64) &&& (2147483647 : Int64)) % ((lim.toInt64) + (1 : Int64)))).toInt = ((x.toInt64) &&& (2147483647 : Int64)).toInt % (lim.toInt + 1) := by
    rw [Int64.toInt_mod, d]; exact (tr _ _).1 m0
  have q1 : 0 ≤ ((x.toInt64) &&& (2147483647 : Int64)).toInt % (lim.toInt + 1) := Int.emod_nonneg _ (by omega)
  have q2 : ((x.toInt64) &&& (2147483647 : Int64)).toInt % (lim.toInt + 1) < lim.toInt + 1 := Int.emod_lt_of_pos _ (by omega)
  have t := c_l2i (((x.toInt64) &&& (2147483647 : Int64)) % ((lim.toInt64) + (1 : Int64)))
  have u := rng32 ((((x.toInt64) &&& (2147483647 : Int64)) % ((lim.toInt64) + (1 : Int64))).toInt32)
  omega
theorem own_sub (a b : Int32) (h0 : 0 ≤ b.toInt) (h : b.toInt ≤ a.toInt) : (a - b).toInt = a.toInt - b.toInt := by
  have r := rng32 a; have q := rng32 b; have s := c_isub a b; have u := rng32 (a - b); omega
theorem own_z (a : Int32) : (0 : Int32) + a = a := Int32.zero_add a
theorem own_s0 (a : Int32) : a - (0 : Int32) = a := Int32.sub_zero a
theorem own_r2 (lim l1 l2 : Int32) : lim - (((0 : Int32) + l1) + l2) = (lim - l1) - l2 := by
  rw [own_z, ← Int32.toInt_inj]
  have a := c_iadd l1 l2; have b := c_isub lim (l1 + l2); have d := c_isub lim l1; have e := c_isub (lim - l1) l2
  have r := rng32 (lim - (l1 + l2)); have s := rng32 ((lim - l1) - l2)
  omega
theorem own_nlt (a b : Int32) (h : b.toInt ≤ a.toInt) : ¬ a < b := by rw [Int32.lt_iff_toInt_lt]; omega

theorem ef_0 (m : MethodId) (p0 : Int32) (p1 : Int32) (p2 : Int32) (p3 : Int32) : entryFrame m #[(.int p0), (.int p1), (.int p2), (.int p3)] maxLocals = mkF m 0 #[iv p0, iv p1, iv p2, iv p3, un, un, un, un, un, un] [] := by first | (simp [entryFrame, mkF, argsToLocals, Value.category, maxLocals]; done) | rfl
def Q0 (Z : State) (p0 : Int32) (p1 : Int32) (p2 : Int32) (p3 : Int32) (h0 : Heap) (n0 : Nat) (v : Option Value) (h : Heap) (L : List Loc) : Prop := v = some (.int 1) ∧ Fr n0 L
set_option maxRecDepth 65536 in
set_option maxHeartbeats 40000000 in
theorem rm0 (l : Launch) (Z : State) (ar : Array Value) (hw : ∀ d ∈ tables_1, d.before ar Z = true) (ws : List Jvm.Cond) (p0 : Int32) (p1 : Int32) (p2 : Int32) (p3 : Int32) (h0 : Heap) (n0 : Nat) (O0 : Old Z n0 h0) :
    MetFree l x (head1 (Jvm.Cond.code x code maxLocals ret :: ws) room_1) (fun a U => a = #[(.int p0), (.int p1), (.int p2), (.int p3)] ∧ Z.Warmed39 U.vm ∧ U.heap = h0) (fun _ _ _ _ _ => True) (fun _ U o U' => ∃ v L, o = .returned v ∧ Q0 Z p0 p1 p2 p3 h0 n0 v U'.heap L ∧ FrameEnd U o U' L 16 128) := by
 refine MetFree.of_bodySF (plainFor_of_name pn_1) hisR ?_
 intro p e s m args below meth c s₁ Bd hml0 hP hK
 obtain ⟨rfl, hZ, hh⟩ := hP
 have hx := Bd.exec
 have hby := Bd.bytes
 have hml : c.maxLocals = 10 := hml0
 have hown : s.vm.findClass "com/example/uni_frame/uniframe/UndoBudgetSpendPinLaw" = some m.cls := findClass_of_methodNamed Bd.named
 have hnm := (name_of_methodNamed Bd.named Bd.method).1
 have X0 : Stand p l e room_1 s m #[(.int p0), (.int p1), (.int p2), (.int p3)] below meth c s₁ [] 0 0 := Stand.of_body Bd
 have e0 : s₁.heap = h0 := by rw [← hh, Bd.state]; rfl
 have N0 := Fr.nil n0
 have Z0 : n0 ≤ h0.size := Nat.le_trans (Nat.le_of_eq O0.1.symm) O0.2.1
 obtain ⟨S0, hS0⟩ : ∃ z, z = s₁.setTop (entryFrame m #[(.int p0), (.int p1), (.int p2), (.int p3)] maxLocals) := ⟨_, rfl⟩
 have pre0 : ∀ tg, AT p e below s₁ m 0 #[iv p0, iv p1, iv p2, iv p3, un, un, un, un, un, un] [] tg → Steps p.tables e below S0 tg := fun tg kg => by rw [hS0]; exact castTop (ef_0 m p0 p1 p2 p3) kg
 have pre1 : ∀ tg, AT p e below s₁ m 6 #[iv p0, iv p1, iv p2, iv p3, iv (p0 &&& (2147483647 : Int32)), un, un, un, un, un] [] tg → Steps p.tables e below S0 tg := fun tg kg => pre0 tg (by
  refine XS.iloadN X0.here hx rfl (hb hby at_0) rfl ?_
  show AT p e below s₁ m 1 #[iv p0, iv p1, iv p2, iv p3, un, un, un, un, un, un] [(.int p0)] _
  refine X0.ldcInt hx hown (mvT hZ (ow hw 0 rfl)) (g := (mkF m 1 #[iv p0, iv p1, iv p2, iv p3, un, un, un, un, un, un] [(.int p0)])) rfl (hb hby at_1) _ ?_
  show AT p e below s₁ m 3 #[iv p0, iv p1, iv p2, iv p3, un, un, un, un, un, un] [(.int (2147483647 : Int32)), (.int p0)] _
  refine XS.iand X0.here hx rfl (hb hby at_3) rfl ?_
  show AT p e below s₁ m 4 #[iv p0, iv p1, iv p2, iv p3, un, un, un, un, un, un] [(.int (p0 &&& (2147483647 : Int32)))] _
  refine XS.istore X0.here hx rfl (hb hby at_4) rfl (l' := #[iv p0, iv p1, iv p2, iv p3, iv (p0 &&& (2147483647 : Int32)), un, un, un, un, un]) rfl ?_
  exact kg)
 obtain ⟨lim, hlim⟩ : ∃ z, z = (p0 &&& (2147483647 : Int32)) := ⟨_, rfl⟩
 have pre2 : ∀ tg, AT p e below s₁ m 6 #[iv p0, iv p1, iv p2, iv p3, iv lim, un, un, un, un, un] [] tg → Steps p.tables e below S0 tg := by rw [hlim]; exact pre1
 have hlim0 : 0 ≤ lim.toInt := by rw [hlim]; exact own_lim p0
 obtain ⟨T3, h3, X3, e3, E3, A3, D3, -, st3⟩ := newO X0 hx hZ hown (ow hw 1 rfl) (ow hw 2 rfl) (ow hw 3 rfl) e0 (g := (mkF m 6 #[iv p0, iv p1, iv p2, iv p3, iv lim, un, un, un, un, un] [])) rfl (hb hby at_6) (by decide) (by decide)
 obtain ⟨b3, g3⟩ : ∃ z, z = h0.size := ⟨_, rfl⟩
 rw [← g3] at A3 D3 st3
 have gn3 : n0 ≤ b3 := Nat.le_trans (Nat.le_trans (Nat.le_of_eq O0.1.symm) O0.2.1) (Nat.le_of_eq g3.symm)
 have sz3 : h0.size ≤ b3 := Nat.le_trans (Keep.refl h0 []).1 (Nat.le_of_eq g3.symm)
 have K3 := (Keep.refl h0 []).ext E3
 have O3 := O0.ext E3
 have F3_4 : Fld Z h3 b3 "com/example/uni_frame/uniframe/UndoBudget" "limit" "I" (.int (0 : Int32)) := D3 (Or.inr (ow hw 11 rfl)) (ty := .int) (by decide)
 have F3_5 : Fld Z h3 b3 "com/example/uni_frame/uniframe/UndoBudget" "spent" "I" (.int (0 : Int32)) := D3 (Or.inl (ow hw 18 rfl)) (ty := .int) (by decide)
 obtain ⟨_, _, ⟨T6, L6, k6, n6⟩, -, X6, ⟨Lc6, hQ6, l6, y6, z6⟩, st6⟩ := X3.specialBack hx (y := y1) rfl hown (mvT hZ (ow hw 4 rfl)) (mvT hZ (ow hw 5 rfl)) (mvT hZ (ow hw 6 rfl)) (by decide) (backOf (W := 1) (rm1 l Z ar hw [] b3 lim h3 n0 O3 A3 F3_4 F3_5 gn3) hZ (ow hw 6 rfl) (ow hw 3 rfl) (by decide) (by decide)) (g := (mkF m 12 #[iv p0, iv p1, iv p2, iv p3, iv lim, un, un, un, un, un] [(.int lim), (.ref b3), (.ref b3)])) rfl (by rw [hml]; rfl) (Steps.refl _) (a := b3) (argsL := [(.int lim)]) (rest := [(.ref b3)]) (lenOf pd_1 rfl) rfl (by show 2 * 0 + _ ≤ _; exact Nat.le_of_eq rfl) (hb hby at_12) (fun _ _ => ⟨rfl, e3, (by decide : 1 + 0 ≤ _), (by decide : 2 + 0 ≤ _)⟩)
 dsimp only [Pt.U, Pt.locs, Pt.cells, Pt.slots] at X6 l6 y6 z6 st6 hQ6
 subst l6 y6 z6
 obtain ⟨rfl, N6q, Kq6, u6_0, u6_1, u6_2⟩ := hQ6
 have N6 := Fr.app N0 N6q
 have E6_7 := A3.keep Kq6
 have K6 := K3.trans Kq6 (allS (Or.inr sz3) all0)
 have O6 := O3.keep Kq6 (allS gn3 all0)
 obtain ⟨cq8, kq8, q8a, q8b, q8c⟩ := isOf hZ rfl E6_7
 obtain ⟨_, _, ⟨T8, L8, k8, n8⟩, -, X8, ⟨Lc8, hQ8, l8, y8, z8⟩, st8⟩ := X6.virtualBack hx (y := y3) (z := y3) hown (mvT hZ (ow hw 12 rfl)) (mvT hZ (ow hw 13 rfl)) (notFace_of_selects (args := #[]) (mvT hZ (ow hw 15 rfl))) (mvT hZ (ow hw 15 rfl)) (mvT hZ (ow hw 14 rfl)) (by decide) (backOf (W := 0) (rm3 l Z ar hw [] b3 lim (0 : Int32) T6.heap n0 O6 u6_1 u6_2) hZ (ow hw 16 rfl) (ow hw 3 rfl) (by decide) (by decide)) q8a q8c (g := (mkF m 19 #[iv p0, iv p1, iv p2, iv p3, iv lim, rv b3, un, un, un, un] [(.ref b3)])) rfl (by rw [hml]; rfl) (Steps.refl _) (argsL := []) (rest := []) (lenOf pd_0 rfl) rfl (by show 2 * 0 + _ ≤ _; exact Nat.le_of_eq rfl) (hb hby at_19) (fun _ _ => ⟨rfl, rfl, (by decide : 1 + 0 ≤ _), (by decide : 2 + 0 ≤ _)⟩)
 dsimp only [Pt.U, Pt.locs, Pt.cells, Pt.slots] at X8 l8 y8 z8 st8 hQ8
 subst l8 y8 z8
 obtain ⟨rfl, N8q, e8⟩ := hQ8
 have N8 := Fr.app N6 N8q
 have pre9 : ∀ tg, AT p e below T8 m 24 #[iv p0, iv p1, iv p2, iv p3, iv lim, rv b3, un, un, un, un] [(.int lim), (.int (lim - (0 : Int32)))] tg → Steps p.tables e below S0 tg := fun tg kg => pre2 tg (by
  refine st3 _ ?_
  show AT p e below T3 m 9 #[iv p0, iv p1, iv p2, iv p3, iv lim, un, un, un, un, un] [(.ref b3)] _
  refine XS.dup X3.here hx rfl (hb hby at_9) rfl rfl ?_
  show AT p e below T3 m 10 #[iv p0, iv p1, iv p2, iv p3, iv lim, un, un, un, un, un] [(.ref b3), (.ref b3)] _
  refine XS.iload X3.here hx rfl (hb hby at_10) rfl ?_
  show AT p e below T3 m 12 #[iv p0, iv p1, iv p2, iv p3, iv lim, un, un, un, un, un] [(.int lim), (.ref b3), (.ref b3)] _
  refine st6.trans ?_
  show AT p e below T6 m 15 #[iv p0, iv p1, iv p2, iv p3, iv lim, un, un, un, un, un] [(.ref b3)] _
  refine XS.astore X6.here hx rfl (hb hby at_15) rfl rfl (l' := #[iv p0, iv p1, iv p2, iv p3, iv lim, rv b3, un, un, un, un]) rfl ?_
  show AT p e below T6 m 17 #[iv p0, iv p1, iv p2, iv p3, iv lim, rv b3, un, un, un, un] [] _
  refine XS.aload X6.here hx rfl (hb hby at_17) rfl rfl ?_
  show AT p e below T6 m 19 #[iv p0, iv p1, iv p2, iv p3, iv lim, rv b3, un, un, un, un] [(.ref b3)] _
  refine st8.trans ?_
  show AT p e below T8 m 22 #[iv p0, iv p1, iv p2, iv p3, iv lim, rv b3, un, un, un, un] [(.int (lim - (0 : Int32)))] _
  refine XS.iload X8.here hx rfl (hb hby at_22) rfl ?_
  exact kg)
 rcases Decidable.em ((lim - (0 : Int32)) = lim) with hc10 | hc10
 ·
  have pre11 : ∀ tg, AT p e below T8 m 44 #[iv p0, iv p1, iv p2, iv p3, iv lim, rv b3, iv ((((p1.toInt64) &&& (2147483647 : Int64)) % ((lim.toInt64) + (1 : Int64))).toInt32), un, un, un] [] tg → Steps p.tables e below S0 tg := fun tg kg => pre9 tg (by
   refine XS.icmpYes X8.here hx rfl (pc0 := 24) (pc' := 29) rfl (hb hby at_24) rfl (XT.ii_eq_t hc10) (by decide) (by decide) ?_
   show AT p e below T8 m 29 #[iv p0, iv p1, iv p2, iv p3, iv lim, rv b3, un, un, un, un] [] _
   refine XS.iloadN X8.here hx rfl (hb hby at_29) rfl ?_
   show AT p e below T8 m 30 #[iv p0, iv p1, iv p2, iv p3, iv lim, rv b3, un, un, un, un] [(.int p1)] _
   refine XS.i2l X8.here hx rfl (hb hby at_30) rfl ?_
   show AT p e below T8 m 31 #[iv p0, iv p1, iv p2, iv p3, iv lim, rv b3, un, un, un, un] [(.long (p1.toInt64))] _
   refine X8.ldc2Long hx hown (mvT hZ (ow hw 19 rfl)) (g := (mkF m 31 #[iv p0, iv p1, iv p2, iv p3, iv lim, rv b3, un, un, un, un] [(.long (p1.toInt64))])) rfl (hb hby at_31) _ ?_
   show AT p e below T8 m 34 #[iv p0, iv p1, iv p2, iv p3, iv lim, rv b3, un, un, un, un] [(.long (2147483647 : Int64)), (.long (p1.toInt64))] _
   refine XS.land X8.here hx rfl (hb hby at_34) rfl ?_
   show AT p e below T8 m 35 #[iv p0, iv p1, iv p2, iv p3, iv lim, rv b3, un, un, un, un] [(.long ((p1.toInt64) &&& (2147483647 : Int64)))] _
   refine XS.iload X8.here hx rfl (hb hby at_35) rfl ?_
   show AT p e below T8 m 37 #[iv p0, iv p1, iv p2, iv p3, iv lim, rv b3, un, un, un, un] [(.int lim), (.long ((p1.toInt64) &&& (2147483647 : Int64)))] _
   refine XS.i2l X8.here hx rfl (hb hby at_37) rfl ?_
   show AT p e below T8 m 38 #[iv p0, iv p1, iv p2, iv p3, iv lim, rv b3, un, un, un, un] [(.long (lim.toInt64)), (.long ((p1.toInt64) &&& (2147483647 : Int64)))] _
   refine XS.lconst X8.here hx rfl (hb hby at_38) ?_
   show AT p e below T8 m 39 #[iv p0, iv p1, iv p2, iv p3, iv lim, rv b3, un, un, un, un] [(.long (1 : Int64)), (.long (lim.toInt64)), (.long ((p1.toInt64) &&& (2147483647 : Int64)))] _
   refine XS.ladd X8.here hx rfl (hb hby at_39) rfl ?_
   show AT p e below T8 m 40 #[iv p0, iv p1, iv p2, iv p3, iv lim, rv b3, un, un, un, un] [(.long ((lim.toInt64) + (1 : Int64))), (.long ((p1.toInt64) &&& (2147483647 : Int64)))] _
   refine own_lrem X8 hx rfl (hb hby at_40) rfl (own_nz lim hlim0) ?_
   show AT p e below T8 m 41 #[iv p0, iv p1, iv p2, iv p3, iv lim, rv b3, un, un, un, un] [(.long (((p1.toInt64) &&& (2147483647 : Int64)) % ((lim.toInt64) + (1 : Int64))))] _
   refine XS.l2i X8.here hx rfl (hb hby at_41) rfl ?_
   show AT p e below T8 m 42 #[iv p0, iv p1, iv p2, iv p3, iv lim, rv b3, un, un, un, un] [(.int ((((p1.toInt64) &&& (2147483647 : Int64)) % ((lim.toInt64) + (1 : Int64))).toInt32))] _
   refine XS.istore X8.here hx rfl (hb hby at_42) rfl (l' := #[iv p0, iv p1, iv p2, iv p3, iv lim, rv b3, iv ((((p1.toInt64) &&& (2147483647 : Int64)) % ((lim.toInt64) + (1 : Int64))).toInt32), un, un, un]) rfl ?_
   exact kg)
  obtain ⟨l1, hl1⟩ : ∃ z, z = ((((p1.toInt64) &&& (2147483647 : Int64)) % ((lim.toInt64) + (1 : Int64))).toInt32) := ⟨_, rfl⟩
  have pre12 : ∀ tg, AT p e below T8 m 44 #[iv p0, iv p1, iv p2, iv p3, iv lim, rv b3, iv l1, un, un, un] [] tg → Steps p.tables e below S0 tg := by rw [hl1]; exact pre11
  have hl1b : 0 ≤ l1.toInt ∧ l1.toInt ≤ lim.toInt := by rw [hl1]; exact own_l p1 lim hlim0
  obtain ⟨cq13, kq13, q13a, q13b, q13c⟩ := isOf hZ e8 E6_7
  obtain ⟨_, _, ⟨T13, L13, k13, n13⟩, -, X13, ⟨Lc13, hQ13, l13, y13, z13⟩, st13⟩ := X8.virtualBack hx (y := y4) (z := y4) hown (mvT hZ (ow hw 20 rfl)) (mvT hZ (ow hw 21 rfl)) (notFace_of_selects (args := #[]) (mvT hZ (ow hw 23 rfl))) (mvT hZ (ow hw 23 rfl)) (mvT hZ (ow hw 22 rfl)) (by decide) (backOf (W := 0) (rm4 l Z ar hw [] b3 l1 lim (0 : Int32) T6.heap n0 O6 E6_7 u6_1 u6_2 gn3 ((by rw [own_s0]; exact own_nlt _ _ hl1b.2) : ¬ (lim - (0 : Int32)) < l1)) hZ (ow hw 24 rfl) (ow hw 3 rfl) (by decide) (by decide)) q13a q13c (g := (mkF m 48 #[iv p0, iv p1, iv p2, iv p3, iv lim, rv b3, iv l1, un, un, un] [(.int l1), (.ref b3)])) rfl (by rw [hml]; rfl) (Steps.refl _) (argsL := [(.int l1)]) (rest := []) (lenOf pd_1 rfl) rfl (by show 2 * 0 + _ ≤ _; exact Nat.le_of_eq rfl) (hb hby at_48) (fun _ _ => ⟨rfl, e8, (by decide : 1 + 0 ≤ _), (by decide : 2 + 0 ≤ _)⟩)
  dsimp only [Pt.U, Pt.locs, Pt.cells, Pt.slots] at X13 l13 y13 z13 st13 hQ13
  subst l13 y13 z13
  obtain ⟨rfl, N13q, Kq13, u13_0, u13_1, u13_2⟩ := hQ13
  have N13 := Fr.app N8 N13q
  have E13_14 := E6_7.keep Kq13
  have K13 := K6.trans Kq13 (allS (Or.inr sz3) all0)
  have O13 := O6.keep Kq13 (allS gn3 all0)
  obtain ⟨cq15, kq15, q15a, q15b, q15c⟩ := isOf hZ rfl E13_14
  obtain ⟨_, _, ⟨T15, L15, k15, n15⟩, -, X15, ⟨Lc15, hQ15, l15, y15, z15⟩, st15⟩ := X13.virtualBack hx (y := y3) (z := y3) hown (mvT hZ (ow hw 12 rfl)) (mvT hZ (ow hw 13 rfl)) (notFace_of_selects (args := #[]) (mvT hZ (ow hw 15 rfl))) (mvT hZ (ow hw 15 rfl)) (mvT hZ (ow hw 14 rfl)) (by decide) (backOf (W := 0) (rm3 l Z ar hw [] b3 lim ((0 : Int32) + l1) T13.heap n0 O13 u13_1 u13_2) hZ (ow hw 16 rfl) (ow hw 3 rfl) (by decide) (by decide)) q15a q15c (g := (mkF m 53 #[iv p0, iv p1, iv p2, iv p3, iv lim, rv b3, iv l1, un, un, un] [(.ref b3)])) rfl (by rw [hml]; rfl) (Steps.refl _) (argsL := []) (rest := []) (lenOf pd_0 rfl) rfl (by show 2 * 0 + _ ≤ _; exact Nat.le_of_eq rfl) (hb hby at_53) (fun _ _ => ⟨rfl, rfl, (by decide : 1 + 0 ≤ _), (by decide : 2 + 0 ≤ _)⟩)
  dsimp only [Pt.U, Pt.locs, Pt.cells, Pt.slots] at X15 l15 y15 z15 st15 hQ15
  subst l15 y15 z15
  obtain ⟨rfl, N15q, e15⟩ := hQ15
  have N15 := Fr.app N13 N15q
  have pre16 : ∀ tg, AT p e below T15 m 58 #[iv p0, iv p1, iv p2, iv p3, iv lim, rv b3, iv l1, iv (lim - ((0 : Int32) + l1)), un, un] [] tg → Steps p.tables e below S0 tg := fun tg kg => pre12 tg (by
   refine XS.aload X8.here hx rfl (hb hby at_44) rfl rfl ?_
   show AT p e below T8 m 46 #[iv p0, iv p1, iv p2, iv p3, iv lim, rv b3, iv l1, un, un, un] [(.ref b3)] _
   refine XS.iload X8.here hx rfl (hb hby at_46) rfl ?_
   show AT p e below T8 m 48 #[iv p0, iv p1, iv p2, iv p3, iv lim, rv b3, iv l1, un, un, un] [(.int l1), (.ref b3)] _
   refine st13.trans ?_
   show AT p e below T13 m 51 #[iv p0, iv p1, iv p2, iv p3, iv lim, rv b3, iv l1, un, un, un] [] _
   refine XS.aload X13.here hx rfl (hb hby at_51) rfl rfl ?_
   show AT p e below T13 m 53 #[iv p0, iv p1, iv p2, iv p3, iv lim, rv b3, iv l1, un, un, un] [(.ref b3)] _
   refine st15.trans ?_
   show AT p e below T15 m 56 #[iv p0, iv p1, iv p2, iv p3, iv lim, rv b3, iv l1, un, un, un] [(.int (lim - ((0 : Int32) + l1)))] _
   refine XS.istore X15.here hx rfl (hb hby at_56) rfl (l' := #[iv p0, iv p1, iv p2, iv p3, iv lim, rv b3, iv l1, iv (lim - ((0 : Int32) + l1)), un, un]) rfl ?_
   exact kg)
  obtain ⟨r1, hr1⟩ : ∃ z, z = (lim - ((0 : Int32) + l1)) := ⟨_, rfl⟩
  have pre17 : ∀ tg, AT p e below T15 m 58 #[iv p0, iv p1, iv p2, iv p3, iv lim, rv b3, iv l1, iv r1, un, un] [] tg → Steps p.tables e below S0 tg := by rw [hr1]; exact pre16
  have hr1' : r1.toInt = lim.toInt - l1.toInt := by rw [hr1, own_z]; exact own_sub _ _ hl1b.1 hl1b.2
  have hr10 : 0 ≤ r1.toInt := by omega
  have pre18 : ∀ tg, AT p e below T15 m 65 #[iv p0, iv p1, iv p2, iv p3, iv lim, rv b3, iv l1, iv r1, un, un] [(.int (lim - l1)), (.int r1)] tg → Steps p.tables e below S0 tg := fun tg kg => pre17 tg (by
   refine XS.iload X15.here hx rfl (hb hby at_58) rfl ?_
   show AT p e below T15 m 60 #[iv p0, iv p1, iv p2, iv p3, iv lim, rv b3, iv l1, iv r1, un, un] [(.int r1)] _
   refine XS.iload X15.here hx rfl (hb hby at_60) rfl ?_
   show AT p e below T15 m 62 #[iv p0, iv p1, iv p2, iv p3, iv lim, rv b3, iv l1, iv r1, un, un] [(.int lim), (.int r1)] _
   refine XS.iload X15.here hx rfl (hb hby at_62) rfl ?_
   show AT p e below T15 m 64 #[iv p0, iv p1, iv p2, iv p3, iv lim, rv b3, iv l1, iv r1, un, un] [(.int l1), (.int lim), (.int r1)] _
   refine XS.isub X15.here hx rfl (hb hby at_64) rfl ?_
   exact kg)
  rcases Decidable.em (r1 = (lim - l1)) with hc19 | hc19
  ·
   have pre20 : ∀ tg, AT p e below T15 m 73 #[iv p0, iv p1, iv p2, iv p3, iv lim, rv b3, iv l1, iv r1, un, un] [(.int (p3 &&& (1 : Int32)))] tg → Steps p.tables e below S0 tg := fun tg kg => pre18 tg (by
    refine XS.icmpYes X15.here hx rfl (pc0 := 65) (pc' := 70) rfl (hb hby at_65) rfl (XT.ii_eq_t hc19) (by decide) (by decide) ?_
    show AT p e below T15 m 70 #[iv p0, iv p1, iv p2, iv p3, iv lim, rv b3, iv l1, iv r1, un, un] [] _
    refine XS.iloadN X15.here hx rfl (hb hby at_70) rfl ?_
    show AT p e below T15 m 71 #[iv p0, iv p1, iv p2, iv p3, iv lim, rv b3, iv l1, iv r1, un, un] [(.int p3)] _
    refine XS.iconst X15.here hx rfl (hb hby at_71) ?_
    show AT p e below T15 m 72 #[iv p0, iv p1, iv p2, iv p3, iv lim, rv b3, iv l1, iv r1, un, un] [(.int (1 : Int32)), (.int p3)] _
    refine XS.iand X15.here hx rfl (hb hby at_72) rfl ?_
    exact kg)
   rcases Decidable.em ((p3 &&& (1 : Int32)) = (0 : Int32)) with hc21 | hc21
   ·
    have pre22 : ∀ tg, AT p e below T15 m 96 #[iv p0, iv p1, iv p2, iv p3, iv lim, rv b3, iv l1, iv r1, iv ((((p2.toInt64) &&& (2147483647 : Int64)) % ((r1.toInt64) + (1 : Int64))).toInt32), un] [] tg → Steps p.tables e below S0 tg := fun tg kg => pre20 tg (by
     refine XS.ifYes X15.here hx rfl (pc0 := 73) (pc' := 81) rfl (hb hby at_73) rfl (XT.i0_eq_t hc21) (by decide) (by decide) ?_
     show AT p e below T15 m 81 #[iv p0, iv p1, iv p2, iv p3, iv lim, rv b3, iv l1, iv r1, un, un] [] _
     refine XS.iloadN X15.here hx rfl (hb hby at_81) rfl ?_
     show AT p e below T15 m 82 #[iv p0, iv p1, iv p2, iv p3, iv lim, rv b3, iv l1, iv r1, un, un] [(.int p2)] _
     refine XS.i2l X15.here hx rfl (hb hby at_82) rfl ?_
     show AT p e below T15 m 83 #[iv p0, iv p1, iv p2, iv p3, iv lim, rv b3, iv l1, iv r1, un, un] [(.long (p2.toInt64))] _
     refine X15.ldc2Long hx hown (mvT hZ (ow hw 19 rfl)) (g := (mkF m 83 #[iv p0, iv p1, iv p2, iv p3, iv lim, rv b3, iv l1, iv r1, un, un] [(.long (p2.toInt64))])) rfl (hb hby at_83) _ ?_
     show AT p e below T15 m 86 #[iv p0, iv p1, iv p2, iv p3, iv lim, rv b3, iv l1, iv r1, un, un] [(.long (2147483647 : Int64)), (.long (p2.toInt64))] _
     refine XS.land X15.here hx rfl (hb hby at_86) rfl ?_
     show AT p e below T15 m 87 #[iv p0, iv p1, iv p2, iv p3, iv lim, rv b3, iv l1, iv r1, un, un] [(.long ((p2.toInt64) &&& (2147483647 : Int64)))] _
     refine XS.iload X15.here hx rfl (hb hby at_87) rfl ?_
     show AT p e below T15 m 89 #[iv p0, iv p1, iv p2, iv p3, iv lim, rv b3, iv l1, iv r1, un, un] [(.int r1), (.long ((p2.toInt64) &&& (2147483647 : Int64)))] _
     refine XS.i2l X15.here hx rfl (hb hby at_89) rfl ?_
     show AT p e below T15 m 90 #[iv p0, iv p1, iv p2, iv p3, iv lim, rv b3, iv l1, iv r1, un, un] [(.long (r1.toInt64)), (.long ((p2.toInt64) &&& (2147483647 : Int64)))] _
     refine XS.lconst X15.here hx rfl (hb hby at_90) ?_
     show AT p e below T15 m 91 #[iv p0, iv p1, iv p2, iv p3, iv lim, rv b3, iv l1, iv r1, un, un] [(.long (1 : Int64)), (.long (r1.toInt64)), (.long ((p2.toInt64) &&& (2147483647 : Int64)))] _
     refine XS.ladd X15.here hx rfl (hb hby at_91) rfl ?_
     show AT p e below T15 m 92 #[iv p0, iv p1, iv p2, iv p3, iv lim, rv b3, iv l1, iv r1, un, un] [(.long ((r1.toInt64) + (1 : Int64))), (.long ((p2.toInt64) &&& (2147483647 : Int64)))] _
     refine own_lrem X15 hx rfl (hb hby at_92) rfl (own_nz r1 hr10) ?_
     show AT p e below T15 m 93 #[iv p0, iv p1, iv p2, iv p3, iv lim, rv b3, iv l1, iv r1, un, un] [(.long (((p2.toInt64) &&& (2147483647 : Int64)) % ((r1.toInt64) + (1 : Int64))))] _
     refine XS.l2i X15.here hx rfl (hb hby at_93) rfl ?_
     show AT p e below T15 m 94 #[iv p0, iv p1, iv p2, iv p3, iv lim, rv b3, iv l1, iv r1, un, un] [(.int ((((p2.toInt64) &&& (2147483647 : Int64)) % ((r1.toInt64) + (1 : Int64))).toInt32))] _
     refine XS.istore X15.here hx rfl (hb hby at_94) rfl (l' := #[iv p0, iv p1, iv p2, iv p3, iv lim, rv b3, iv l1, iv r1, iv ((((p2.toInt64) &&& (2147483647 : Int64)) % ((r1.toInt64) + (1 : Int64))).toInt32), un]) rfl ?_
     exact kg)
    obtain ⟨l2, hl2⟩ : ∃ z, z = ((((p2.toInt64) &&& (2147483647 : Int64)) % ((r1.toInt64) + (1 : Int64))).toInt32) := ⟨_, rfl⟩
    have pre23 : ∀ tg, AT p e below T15 m 96 #[iv p0, iv p1, iv p2, iv p3, iv lim, rv b3, iv l1, iv r1, iv l2, un] [] tg → Steps p.tables e below S0 tg := by rw [hl2]; exact pre22
    have hl2b : 0 ≤ l2.toInt ∧ l2.toInt ≤ (lim - l1).toInt := by rw [own_sub lim l1 hl1b.1 hl1b.2, ← hr1', hl2]; exact own_l p2 r1 hr10
    obtain ⟨cq24, kq24, q24a, q24b, q24c⟩ := isOf hZ e15 E13_14
    obtain ⟨_, _, ⟨T24, L24, k24, n24⟩, -, X24, ⟨Lc24, hQ24, l24, y24, z24⟩, st24⟩ := X15.virtualBack hx (y := y4) (z := y4) hown (mvT hZ (ow hw 20 rfl)) (mvT hZ (ow hw 21 rfl)) (notFace_of_selects (args := #[]) (mvT hZ (ow hw 23 rfl))) (mvT hZ (ow hw 23 rfl)) (mvT hZ (ow hw 22 rfl)) (by decide) (backOf (W := 0) (rm4 l Z ar hw [] b3 l2 lim ((0 : Int32) + l1) T13.heap n0 O13 E13_14 u13_1 u13_2 gn3 ((by rw [own_z]; exact own_nlt _ _ hl2b.2) : ¬ (lim - ((0 : Int32) + l1)) < l2)) hZ (ow hw 24 rfl) (ow hw 3 rfl) (by decide) (by decide)) q24a q24c (g := (mkF m 100 #[iv p0, iv p1, iv p2, iv p3, iv lim, rv b3, iv l1, iv r1, iv l2, un] [(.int l2), (.ref b3)])) rfl (by rw [hml]; rfl) (Steps.refl _) (argsL := [(.int l2)]) (rest := []) (lenOf pd_1 rfl) rfl (by show 2 * 0 + _ ≤ _; exact Nat.le_of_eq rfl) (hb hby at_100) (fun _ _ => ⟨rfl, e15, (by decide : 1 + 0 ≤ _), (by decide : 2 + 0 ≤ _)⟩)
    dsimp only [Pt.U, Pt.locs, Pt.cells, Pt.slots] at X24 l24 y24 z24 st24 hQ24
    subst l24 y24 z24
    obtain ⟨rfl, N24q, Kq24, u24_0, u24_1, u24_2⟩ := hQ24
    have N24 := Fr.app N15 N24q
    have E24_25 := E13_14.keep Kq24
    have K24 := K13.trans Kq24 (allS (Or.inr sz3) all0)
    have O24 := O13.keep Kq24 (allS gn3 all0)
    obtain ⟨cq26, kq26, q26a, q26b, q26c⟩ := isOf hZ rfl E24_25
    obtain ⟨_, _, ⟨T26, L26, k26, n26⟩, -, X26, ⟨Lc26, hQ26, l26, y26, z26⟩, st26⟩ := X24.virtualBack hx (y := y3) (z := y3) hown (mvT hZ (ow hw 12 rfl)) (mvT hZ (ow hw 13 rfl)) (notFace_of_selects (args := #[]) (mvT hZ (ow hw 15 rfl))) (mvT hZ (ow hw 15 rfl)) (mvT hZ (ow hw 14 rfl)) (by decide) (backOf (W := 0) (rm3 l Z ar hw [] b3 lim (((0 : Int32) + l1) + l2) T24.heap n0 O24 u24_1 u24_2) hZ (ow hw 16 rfl) (ow hw 3 rfl) (by decide) (by decide)) q26a q26c (g := (mkF m 105 #[iv p0, iv p1, iv p2, iv p3, iv lim, rv b3, iv l1, iv r1, iv l2, un] [(.ref b3)])) rfl (by rw [hml]; rfl) (Steps.refl _) (argsL := []) (rest := []) (lenOf pd_0 rfl) rfl (by show 2 * 0 + _ ≤ _; exact Nat.le_of_eq rfl) (hb hby at_105) (fun _ _ => ⟨rfl, rfl, (by decide : 1 + 0 ≤ _), (by decide : 2 + 0 ≤ _)⟩)
    dsimp only [Pt.U, Pt.locs, Pt.cells, Pt.slots] at X26 l26 y26 z26 st26 hQ26
    subst l26 y26 z26
    obtain ⟨rfl, N26q, e26⟩ := hQ26
    have N26 := Fr.app N24 N26q
    have pre27 : ∀ tg, AT p e below T26 m 120 #[iv p0, iv p1, iv p2, iv p3, iv lim, rv b3, iv l1, iv r1, iv l2, iv (lim - (((0 : Int32) + l1) + l2))] [(.int ((lim - l1) - l2)), (.int (lim - (((0 : Int32) + l1) + l2)))] tg → Steps p.tables e below S0 tg := fun tg kg => pre23 tg (by
     refine XS.aload X15.here hx rfl (hb hby at_96) rfl rfl ?_
     show AT p e below T15 m 98 #[iv p0, iv p1, iv p2, iv p3, iv lim, rv b3, iv l1, iv r1, iv l2, un] [(.ref b3)] _
     refine XS.iload X15.here hx rfl (hb hby at_98) rfl ?_
     show AT p e below T15 m 100 #[iv p0, iv p1, iv p2, iv p3, iv lim, rv b3, iv l1, iv r1, iv l2, un] [(.int l2), (.ref b3)] _
     refine st24.trans ?_
     show AT p e below T24 m 103 #[iv p0, iv p1, iv p2, iv p3, iv lim, rv b3, iv l1, iv r1, iv l2, un] [] _
     refine XS.aload X24.here hx rfl (hb hby at_103) rfl rfl ?_
     show AT p e below T24 m 105 #[iv p0, iv p1, iv p2, iv p3, iv lim, rv b3, iv l1, iv r1, iv l2, un] [(.ref b3)] _
     refine st26.trans ?_
     show AT p e below T26 m 108 #[iv p0, iv p1, iv p2, iv p3, iv lim, rv b3, iv l1, iv r1, iv l2, un] [(.int (lim - (((0 : Int32) + l1) + l2)))] _
     refine XS.istore X26.here hx rfl (hb hby at_108) rfl (l' := #[iv p0, iv p1, iv p2, iv p3, iv lim, rv b3, iv l1, iv r1, iv l2, iv (lim - (((0 : Int32) + l1) + l2))]) rfl ?_
     show AT p e below T26 m 110 #[iv p0, iv p1, iv p2, iv p3, iv lim, rv b3, iv l1, iv r1, iv l2, iv (lim - (((0 : Int32) + l1) + l2))] [] _
     refine XS.iload X26.here hx rfl (hb hby at_110) rfl ?_
     show AT p e below T26 m 112 #[iv p0, iv p1, iv p2, iv p3, iv lim, rv b3, iv l1, iv r1, iv l2, iv (lim - (((0 : Int32) + l1) + l2))] [(.int (lim - (((0 : Int32) + l1) + l2)))] _
     refine XS.iload X26.here hx rfl (hb hby at_112) rfl ?_
     show AT p e below T26 m 114 #[iv p0, iv p1, iv p2, iv p3, iv lim, rv b3, iv l1, iv r1, iv l2, iv (lim - (((0 : Int32) + l1) + l2))] [(.int lim), (.int (lim - (((0 : Int32) + l1) + l2)))] _
     refine XS.iload X26.here hx rfl (hb hby at_114) rfl ?_
     show AT p e below T26 m 116 #[iv p0, iv p1, iv p2, iv p3, iv lim, rv b3, iv l1, iv r1, iv l2, iv (lim - (((0 : Int32) + l1) + l2))] [(.int l1), (.int lim), (.int (lim - (((0 : Int32) + l1) + l2)))] _
     refine XS.isub X26.here hx rfl (hb hby at_116) rfl ?_
     show AT p e below T26 m 117 #[iv p0, iv p1, iv p2, iv p3, iv lim, rv b3, iv l1, iv r1, iv l2, iv (lim - (((0 : Int32) + l1) + l2))] [(.int (lim - l1)), (.int (lim - (((0 : Int32) + l1) + l2)))] _
     refine XS.iload X26.here hx rfl (hb hby at_117) rfl ?_
     show AT p e below T26 m 119 #[iv p0, iv p1, iv p2, iv p3, iv lim, rv b3, iv l1, iv r1, iv l2, iv (lim - (((0 : Int32) + l1) + l2))] [(.int l2), (.int (lim - l1)), (.int (lim - (((0 : Int32) + l1) + l2)))] _
     refine XS.isub X26.here hx rfl (hb hby at_119) rfl ?_
     exact kg)
    rcases Decidable.em ((lim - (((0 : Int32) + l1) + l2)) = ((lim - l1) - l2)) with hc28 | hc28
    ·
     have pre29 : ∀ tg, AT p e below T26 m 125 #[iv p0, iv p1, iv p2, iv p3, iv lim, rv b3, iv l1, iv r1, iv l2, iv (lim - (((0 : Int32) + l1) + l2))] [(.int (lim - (((0 : Int32) + l1) + l2)))] tg → Steps p.tables e below S0 tg := fun tg kg => pre27 tg (by
      refine XS.icmpNo X26.here hx rfl (hb hby at_120) rfl (XT.ii_ne_f hc28) ?_
      show AT p e below T26 m 123 #[iv p0, iv p1, iv p2, iv p3, iv lim, rv b3, iv l1, iv r1, iv l2, iv (lim - (((0 : Int32) + l1) + l2))] [] _
      refine XS.iload X26.here hx rfl (hb hby at_123) rfl ?_
      exact kg)
     rcases Decidable.em ((lim - (((0 : Int32) + l1) + l2)) < (0 : Int32)) with hc30 | hc30
     ·
      exact absurd hc30 (by rw [own_r2]; apply own_nlt; have k : ((0 : Int32)).toInt = 0 := rfl; rw [k, own_sub _ _ hl2b.1 hl2b.2]; omega)
     ·
      obtain ⟨fs, hr, hrun, hended, hW, hsame⟩ := X26.leave (v := some (.int (1 : Int32))) (fun h => by rw [Bd.returns] at h; cases h)
      subst hS0
      refine ⟨_, _, pre29 _ ?_, hrun, hended, _, _, rfl, ?_, ⟨_, rfl⟩, hW, hsame.mono (by decide) (by decide)⟩
      ·
       refine XS.ifNo X26.here hx rfl (hb hby at_125) rfl (XT.i0_lt_f hc30) ?_
       show AT p e below T26 m 128 #[iv p0, iv p1, iv p2, iv p3, iv lim, rv b3, iv l1, iv r1, iv l2, iv (lim - (((0 : Int32) + l1) + l2))] [] _
       refine XS.iconst X26.here hx rfl (hb hby at_128) ?_
       show AT p e below T26 m 129 #[iv p0, iv p1, iv p2, iv p3, iv lim, rv b3, iv l1, iv r1, iv l2, iv (lim - (((0 : Int32) + l1) + l2))] [(.int (1 : Int32))] _
       refine XS.goto X26.here hx rfl (pc0 := 129) (pc' := 133) rfl (hb hby at_129) (by decide) (by decide) ?_
       show AT p e below T26 m 133 #[iv p0, iv p1, iv p2, iv p3, iv lim, rv b3, iv l1, iv r1, iv l2, iv (lim - (((0 : Int32) + l1) + l2))] [(.int (1 : Int32))] _
       exact retN X26 hx (t := .boolean) Bd.returns (by simp) (hb hby at_133) hr
      ·
       show Q0 Z p0 p1 p2 p3 h0 n0 _ T26.heap _
       rw [e26]
       exact ⟨rfl, N26⟩
    ·
     exact absurd (own_r2 lim l1 l2) hc28
   ·
    have pre31 : ∀ tg, AT p e below T15 m 96 #[iv p0, iv p1, iv p2, iv p3, iv lim, rv b3, iv l1, iv r1, iv r1, un] [] tg → Steps p.tables e below S0 tg := fun tg kg => pre20 tg (by
     refine XS.ifNo X15.here hx rfl (hb hby at_73) rfl (XT.i0_eq_f hc21) ?_
     show AT p e below T15 m 76 #[iv p0, iv p1, iv p2, iv p3, iv lim, rv b3, iv l1, iv r1, un, un] [] _
     refine XS.iload X15.here hx rfl (hb hby at_76) rfl ?_
     show AT p e below T15 m 78 #[iv p0, iv p1, iv p2, iv p3, iv lim, rv b3, iv l1, iv r1, un, un] [(.int r1)] _
     refine XS.goto X15.here hx rfl (pc0 := 78) (pc' := 94) rfl (hb hby at_78) (by decide) (by decide) ?_
     show AT p e below T15 m 94 #[iv p0, iv p1, iv p2, iv p3, iv lim, rv b3, iv l1, iv r1, un, un] [(.int r1)] _
     refine XS.istore X15.here hx rfl (hb hby at_94) rfl (l' := #[iv p0, iv p1, iv p2, iv p3, iv lim, rv b3, iv l1, iv r1, iv r1, un]) rfl ?_
     exact kg)
    obtain ⟨l2, hl2⟩ : ∃ z, z = r1 := ⟨_, rfl⟩
    have pre32 : ∀ tg, AT p e below T15 m 96 #[iv p0, iv p1, iv p2, iv p3, iv lim, rv b3, iv l1, iv l2, iv l2, un] [] tg → Steps p.tables e below S0 tg := by rw [hl2]; exact pre31
    have hl2b : 0 ≤ l2.toInt ∧ l2.toInt ≤ (lim - l1).toInt := by rw [own_sub lim l1 hl1b.1 hl1b.2, ← hr1', hl2]; omega
    obtain ⟨cq33, kq33, q33a, q33b, q33c⟩ := isOf hZ e15 E13_14
    obtain ⟨_, _, ⟨T33, L33, k33, n33⟩, -, X33, ⟨Lc33, hQ33, l33, y33, z33⟩, st33⟩ := X15.virtualBack hx (y := y4) (z := y4) hown (mvT hZ (ow hw 20 rfl)) (mvT hZ (ow hw 21 rfl)) (notFace_of_selects (args := #[]) (mvT hZ (ow hw 23 rfl))) (mvT hZ (ow hw 23 rfl)) (mvT hZ (ow hw 22 rfl)) (by decide) (backOf (W := 0) (rm4 l Z ar hw [] b3 l2 lim ((0 : Int32) + l1) T13.heap n0 O13 E13_14 u13_1 u13_2 gn3 ((by rw [own_z]; exact own_nlt _ _ hl2b.2) : ¬ (lim - ((0 : Int32) + l1)) < l2)) hZ (ow hw 24 rfl) (ow hw 3 rfl) (by decide) (by decide)) q33a q33c (g := (mkF m 100 #[iv p0, iv p1, iv p2, iv p3, iv lim, rv b3, iv l1, iv l2, iv l2, un] [(.int l2), (.ref b3)])) rfl (by rw [hml]; rfl) (Steps.refl _) (argsL := [(.int l2)]) (rest := []) (lenOf pd_1 rfl) rfl (by show 2 * 0 + _ ≤ _; exact Nat.le_of_eq rfl) (hb hby at_100) (fun _ _ => ⟨rfl, e15, (by decide : 1 + 0 ≤ _), (by decide : 2 + 0 ≤ _)⟩)
    dsimp only [Pt.U, Pt.locs, Pt.cells, Pt.slots] at X33 l33 y33 z33 st33 hQ33
    subst l33 y33 z33
    obtain ⟨rfl, N33q, Kq33, u33_0, u33_1, u33_2⟩ := hQ33
    have N33 := Fr.app N15 N33q
    have E33_34 := E13_14.keep Kq33
    have K33 := K13.trans Kq33 (allS (Or.inr sz3) all0)
    have O33 := O13.keep Kq33 (allS gn3 all0)
    obtain ⟨cq35, kq35, q35a, q35b, q35c⟩ := isOf hZ rfl E33_34
    obtain ⟨_, _, ⟨T35, L35, k35, n35⟩, -, X35, ⟨Lc35, hQ35, l35, y35, z35⟩, st35⟩ := X33.virtualBack hx (y := y3) (z := y3) hown (mvT hZ (ow hw 12 rfl)) (mvT hZ (ow hw 13 rfl)) (notFace_of_selects (args := #[]) (mvT hZ (ow hw 15 rfl))) (mvT hZ (ow hw 15 rfl)) (mvT hZ (ow hw 14 rfl)) (by decide) (backOf (W := 0) (rm3 l Z ar hw [] b3 lim (((0 : Int32) + l1) + l2) T33.heap n0 O33 u33_1 u33_2) hZ (ow hw 16 rfl) (ow hw 3 rfl) (by decide) (by decide)) q35a q35c (g := (mkF m 105 #[iv p0, iv p1, iv p2, iv p3, iv lim, rv b3, iv l1, iv l2, iv l2, un] [(.ref b3)])) rfl (by rw [hml]; rfl) (Steps.refl _) (argsL := []) (rest := []) (lenOf pd_0 rfl) rfl (by show 2 * 0 + _ ≤ _; exact Nat.le_of_eq rfl) (hb hby at_105) (fun _ _ => ⟨rfl, rfl, (by decide : 1 + 0 ≤ _), (by decide : 2 + 0 ≤ _)⟩)
    dsimp only [Pt.U, Pt.locs, Pt.cells, Pt.slots] at X35 l35 y35 z35 st35 hQ35
    subst l35 y35 z35
    obtain ⟨rfl, N35q, e35⟩ := hQ35
    have N35 := Fr.app N33 N35q
    have pre36 : ∀ tg, AT p e below T35 m 120 #[iv p0, iv p1, iv p2, iv p3, iv lim, rv b3, iv l1, iv l2, iv l2, iv (lim - (((0 : Int32) + l1) + l2))] [(.int ((lim - l1) - l2)), (.int (lim - (((0 : Int32) + l1) + l2)))] tg → Steps p.tables e below S0 tg := fun tg kg => pre32 tg (by
     refine XS.aload X15.here hx rfl (hb hby at_96) rfl rfl ?_
     show AT p e below T15 m 98 #[iv p0, iv p1, iv p2, iv p3, iv lim, rv b3, iv l1, iv l2, iv l2, un] [(.ref b3)] _
     refine XS.iload X15.here hx rfl (hb hby at_98) rfl ?_
     show AT p e below T15 m 100 #[iv p0, iv p1, iv p2, iv p3, iv lim, rv b3, iv l1, iv l2, iv l2, un] [(.int l2), (.ref b3)] _
     refine st33.trans ?_
     show AT p e below T33 m 103 #[iv p0, iv p1, iv p2, iv p3, iv lim, rv b3, iv l1, iv l2, iv l2, un] [] _
     refine XS.aload X33.here hx rfl (hb hby at_103) rfl rfl ?_
     show AT p e below T33 m 105 #[iv p0, iv p1, iv p2, iv p3, iv lim, rv b3, iv l1, iv l2, iv l2, un] [(.ref b3)] _
     refine st35.trans ?_
     show AT p e below T35 m 108 #[iv p0, iv p1, iv p2, iv p3, iv lim, rv b3, iv l1, iv l2, iv l2, un] [(.int (lim - (((0 : Int32) + l1) + l2)))] _
     refine XS.istore X35.here hx rfl (hb hby at_108) rfl (l' := #[iv p0, iv p1, iv p2, iv p3, iv lim, rv b3, iv l1, iv l2, iv l2, iv (lim - (((0 : Int32) + l1) + l2))]) rfl ?_
     show AT p e below T35 m 110 #[iv p0, iv p1, iv p2, iv p3, iv lim, rv b3, iv l1, iv l2, iv l2, iv (lim - (((0 : Int32) + l1) + l2))] [] _
     refine XS.iload X35.here hx rfl (hb hby at_110) rfl ?_
     show AT p e below T35 m 112 #[iv p0, iv p1, iv p2, iv p3, iv lim, rv b3, iv l1, iv l2, iv l2, iv (lim - (((0 : Int32) + l1) + l2))] [(.int (lim - (((0 : Int32) + l1) + l2)))] _
     refine XS.iload X35.here hx rfl (hb hby at_112) rfl ?_
     show AT p e below T35 m 114 #[iv p0, iv p1, iv p2, iv p3, iv lim, rv b3, iv l1, iv l2, iv l2, iv (lim - (((0 : Int32) + l1) + l2))] [(.int lim), (.int (lim - (((0 : Int32) + l1) + l2)))] _
     refine XS.iload X35.here hx rfl (hb hby at_114) rfl ?_
     show AT p e below T35 m 116 #[iv p0, iv p1, iv p2, iv p3, iv lim, rv b3, iv l1, iv l2, iv l2, iv (lim - (((0 : Int32) + l1) + l2))] [(.int l1), (.int lim), (.int (lim - (((0 : Int32) + l1) + l2)))] _
     refine XS.isub X35.here hx rfl (hb hby at_116) rfl ?_
     show AT p e below T35 m 117 #[iv p0, iv p1, iv p2, iv p3, iv lim, rv b3, iv l1, iv l2, iv l2, iv (lim - (((0 : Int32) + l1) + l2))] [(.int (lim - l1)), (.int (lim - (((0 : Int32) + l1) + l2)))] _
     refine XS.iload X35.here hx rfl (hb hby at_117) rfl ?_
     show AT p e below T35 m 119 #[iv p0, iv p1, iv p2, iv p3, iv lim, rv b3, iv l1, iv l2, iv l2, iv (lim - (((0 : Int32) + l1) + l2))] [(.int l2), (.int (lim - l1)), (.int (lim - (((0 : Int32) + l1) + l2)))] _
     refine XS.isub X35.here hx rfl (hb hby at_119) rfl ?_
     exact kg)
    rcases Decidable.em ((lim - (((0 : Int32) + l1) + l2)) = ((lim - l1) - l2)) with hc37 | hc37
    ·
     have pre38 : ∀ tg, AT p e below T35 m 125 #[iv p0, iv p1, iv p2, iv p3, iv lim, rv b3, iv l1, iv l2, iv l2, iv (lim - (((0 : Int32) + l1) + l2))] [(.int (lim - (((0 : Int32) + l1) + l2)))] tg → Steps p.tables e below S0 tg := fun tg kg => pre36 tg (by
      refine XS.icmpNo X35.here hx rfl (hb hby at_120) rfl (XT.ii_ne_f hc37) ?_
      show AT p e below T35 m 123 #[iv p0, iv p1, iv p2, iv p3, iv lim, rv b3, iv l1, iv l2, iv l2, iv (lim - (((0 : Int32) + l1) + l2))] [] _
      refine XS.iload X35.here hx rfl (hb hby at_123) rfl ?_
      exact kg)
     rcases Decidable.em ((lim - (((0 : Int32) + l1) + l2)) < (0 : Int32)) with hc39 | hc39
     ·
      exact absurd hc39 (by rw [own_r2]; apply own_nlt; have k : ((0 : Int32)).toInt = 0 := rfl; rw [k, own_sub _ _ hl2b.1 hl2b.2]; omega)
     ·
      obtain ⟨fs, hr, hrun, hended, hW, hsame⟩ := X35.leave (v := some (.int (1 : Int32))) (fun h => by rw [Bd.returns] at h; cases h)
      subst hS0
      refine ⟨_, _, pre38 _ ?_, hrun, hended, _, _, rfl, ?_, ⟨_, rfl⟩, hW, hsame.mono (by decide) (by decide)⟩
      ·
       refine XS.ifNo X35.here hx rfl (hb hby at_125) rfl (XT.i0_lt_f hc39) ?_
       show AT p e below T35 m 128 #[iv p0, iv p1, iv p2, iv p3, iv lim, rv b3, iv l1, iv l2, iv l2, iv (lim - (((0 : Int32) + l1) + l2))] [] _
       refine XS.iconst X35.here hx rfl (hb hby at_128) ?_
       show AT p e below T35 m 129 #[iv p0, iv p1, iv p2, iv p3, iv lim, rv b3, iv l1, iv l2, iv l2, iv (lim - (((0 : Int32) + l1) + l2))] [(.int (1 : Int32))] _
       refine XS.goto X35.here hx rfl (pc0 := 129) (pc' := 133) rfl (hb hby at_129) (by decide) (by decide) ?_
       show AT p e below T35 m 133 #[iv p0, iv p1, iv p2, iv p3, iv lim, rv b3, iv l1, iv l2, iv l2, iv (lim - (((0 : Int32) + l1) + l2))] [(.int (1 : Int32))] _
       exact retN X35 hx (t := .boolean) Bd.returns (by simp) (hb hby at_133) hr
      ·
       show Q0 Z p0 p1 p2 p3 h0 n0 _ T35.heap _
       rw [e35]
       exact ⟨rfl, N35⟩
    ·
     exact absurd (own_r2 lim l1 l2) hc37
  ·
   exact absurd (by rw [hr1, own_z]) hc19
 ·
  exact absurd (own_s0 lim) hc10

set_option maxRecDepth 65536 in
set_option maxHeartbeats 40000000 in
theorem comes_1 {Post : Tables → Env → Array Value → State → Outcome → State → Prop} (hpost : ∀ tb e args s v u, (limb_1_1.after args s (.returned v) u = true ∧ limb_1_2.after args s (.returned v) u = true ∧ True) → FrameEnd s (.returned v) u (Jvm.fieldLocs frame_1_writes args s ++ Jvm.arrayLocs frame_1_arrays args s ++ Jvm.staticLocs frame_1_statics s) 16 128 → Post tb e args s (.returned v) u) :
    ArmFor flags0 classFile x code maxLocals ret World_1 tables_1 room_1 Calls_1 rest_1 Pre_1 Post := by
  intro l hfl _ _ p e ha hc hk s m args below hf hA hF happ hP
  obtain ⟨hcalls, hrest, hpre⟩ := hP
  obtain ⟨-, -, -, hnamed, -, -, -, hat⟩ := (Spec.applies_iff hf).mp happ
  obtain ⟨hg, hn⟩ := and_e (Cond.before_iff.mp (show (Jvm.Cond.and given_1 narrow_1).before args s = true from hpre))
  obtain ⟨hg1, hg2⟩ := and_e hg
  obtain ⟨hg21, hg22⟩ := and_e hg2
  obtain ⟨hg221, hg222⟩ := and_e hg22
  obtain ⟨hg2221, hg2222⟩ := and_e hg222
  obtain ⟨w0, w1, w2, w3, rfl⟩ : ∃ w0 w1 w2 w3 : Value, args = #[w0, w1, w2, w3] := by
    have hs : args.size = 4 := by simpa [Cond.value, given_1] using hg1
    obtain ⟨L⟩ := args
    match L, hs with
    | [w0, w1, w2, w3], _ => exact ⟨w0, w1, w2, w3, rfl⟩
  have hw := fun d (hd : d ∈ tables_1) => atoms_spec (ws := Jvm.Cond.code x code maxLocals ret :: tables_1) hat d (List.mem_cons_of_mem _ hd)
  have hfit : Fit s := fun {y c} hc i hi => by
    obtain ⟨ha, rfl⟩ := Array.getElem?_eq_some_iff.mp hc
    have q := List.all_eq_true.mp ((Array.all_eq_true_iff_forall_mem.mp hF) _ (Array.getElem_mem ha)) i (List.mem_range.mpr hi)
    simpa [Array.getElem?_eq_getElem hi] using q
  obtain ⟨i0, ei0⟩ := is_v hg21
  obtain rfl : w0 = (.int i0) := Option.some.inj ei0
  obtain ⟨i1, ei1⟩ := is_v hg221
  obtain rfl : w1 = (.int i1) := Option.some.inj ei1
  obtain ⟨i2, ei2⟩ := is_v hg2221
  obtain rfl : w2 = (.int i2) := Option.some.inj ei2
  obtain ⟨i3, ei3⟩ := is_v hg2222
  obtain rfl : w3 = (.int i3) := Option.some.inj ei3
  obtain ⟨n, o, h1, h2, h3, _, L, rfl, ⟨rfl, N⟩, hq⟩ := rm0 l s _ hw tables_1 i0 i1 i2 i3 s.heap s.heap.size (Old.start s) p e ha hc hk s m _ below hf ((Spec.applies_iff_loose hf).mp happ).1 ⟨rfl, State.Warmed39.refl s, rfl⟩ trivial
  refine ⟨n, _, h1, h2, h3, hpost _ _ _ _ _ _ ⟨Cond.after_iff.mpr rfl, Cond.after_iff.mpr (eq_i res_at (Term.int_eval (1)) rfl), trivial⟩ ⟨hq.1, hq.2.1, (hq.2.2.sift fun y hy => Or.inr (N y hy)).mono (by decide) (by decide)⟩⟩
theorem main_1_1 : Claimed_1_1 := comes_1 fun _ _ _ _ _ _ h hF => ⟨h.1, hF⟩
theorem main_1_2 : Claimed_1_2 := comes_1 fun _ _ _ _ _ _ h hF => ⟨h.2.1, hF⟩
end Jvm.Pilot.@@N@@
namespace Jvm.Pilot.@@N@@
open Jvm Jvm.ClassFile Sem Op Lib Jvm.Free Jvm.Stand Jvm.Pilot.@@N@@.Jvm.D
/-! MADE BY PROGRAM (witnessworld.py) out of the Statement's table words and the real class files: 9 classes; the members and pool entries that the words name. The judged class is class 1, her method 1. -/
namespace start1
open Jvm.ClassFile
def u (s : String) : CpInfo := .utf8 (stringToUtf16 s)
/-- a pool by its gaps: so many unusable entries, then the entry; so many at the end -/
def gap : Nat → List CpInfo → List CpInfo
  | 0, r => r
  | n + 1, r => .unusable :: gap n r
def poolList (es : List (Nat × CpInfo)) (last : Nat) : List CpInfo := es.foldr (fun e r => gap e.1 (e.2 :: r)) (gap last [])
def pool (es : List (Nat × CpInfo)) (last : Nat) : Array CpInfo := ⟨poolList es last⟩
def fileOf (pool : Array CpInfo) (this : Nat) (attrs : Array Attribute := #[]) (ms : Array MethodInfo := #[]) (fl : Nat := 33) (sup : Nat := 0) (ifs : Array Nat := #[]) (fds : Array FieldInfo := #[]) : ClassFile where
  minorVersion := 0
  majorVersion := 65
  constantPool := pool
  accessFlags := fl
  thisClass := this
  superClass := sup
  interfaces := ifs
  fields := fds
  methods := ms
  attributes := attrs
def plain (name : String) (sup : Option ClassId) : Class where
  name := name
  kind := .ordinary
  loader := none
  accessFlags := 33
  super := sup
  interfaces := #[]
  cf := none
  fields := #[]
  methods := #[]
  instanceTypes := #[]
  staticTypes := #[]
  resolved := #[]
  callSites := []
  init := .initialized
  statics := none
  mirror := none

def pool0 : Array CpInfo := pool [(5, u "<init>"), (0, u "()V"), (1, .class_ 10), (1, u "java/lang/Object")] 113

def k0c0 : Code := { maxStack := 0, maxLocals := 1, code := object_method_1_code, exceptionTable := #[], attributes := #[] }
def k0m0 : Method := { name := "<init>", desc := "()V", sig := { parameters := [], returnType := none }, accessFlags := 1, code := some k0c0 }
/-- java/lang/Object -/
def k0 : Class := { plain "java/lang/Object" none with
  accessFlags := 33
  interfaces := #[]
  cf := some (fileOf pool0 8 #[] #[{ accessFlags := 1, nameIndex := 5, descriptorIndex := 6, attributes := #[] }] 33 0 #[] #[])
  fields := #[]
  methods := #[k0m0]
  instanceTypes := #[]
  staticTypes := #[]
  resolved := Array.replicate 124 none
  statics := none }

def pool1 : Array CpInfo := pool [(2, .class_ 4), (1, u "java/lang/Object"), (0, u "<init>"), (0, u "()V"), (0, .integer 2147483647), (0, .class_ 9), (0, u "com/example/uni_frame/uniframe/UndoBudget"), (0, .methodref 8 11), (0, .nameAndType 5 12), (0, u "(I)V"), (0, .methodref 8 14), (0, .nameAndType 15 16), (0, u "remaining"), (0, u "()I"), (0, .long 2147483647), (1, .methodref 8 20), (0, .nameAndType 21 12), (0, u "spend"), (0, .class_ 23), (0, u "com/example/uni_frame/uniframe/UndoBudgetSpendPinLaw"), (2, u "law"), (0, u "(IIII)Z")] 3

def k1m0 : Method := { name := "<init>", desc := "()V", sig := { parameters := [], returnType := none }, accessFlags := 1, code := none }
def k1c1 : Code := { maxStack := 6, maxLocals := 10, code := code, exceptionTable := #[], attributes := #[] }
def k1m1 : Method := { name := "law", desc := "(IIII)Z", sig := { parameters := [.int, .int, .int, .int], returnType := some .boolean }, accessFlags := 9, code := some k1c1 }
/-- com/example/uni_frame/uniframe/UndoBudgetSpendPinLaw -/
def k1 : Class := { plain "com/example/uni_frame/uniframe/UndoBudgetSpendPinLaw" (some 0) with
  accessFlags := 49
  interfaces := #[]
  cf := some (fileOf pool1 22 #[] #[{ accessFlags := 1, nameIndex := 5, descriptorIndex := 6, attributes := #[] }, { accessFlags := 9, nameIndex := 26, descriptorIndex := 27, attributes := #[] }] 49 2 #[] #[])
  fields := #[]
  methods := #[k1m0, k1m1]
  instanceTypes := #[]
  staticTypes := #[]
  resolved := Array.replicate 31 none
  statics := none }

def pool2 : Array CpInfo := pool [(1, .methodref 2 3), (0, .class_ 4), (0, .nameAndType 5 6), (0, u "java/lang/Object"), (0, u "<init>"), (0, u "()V"), (0, .fieldref 8 9), (0, .class_ 10), (0, .nameAndType 11 12), (0, u "com/example/uni_frame/uniframe/UndoBudget"), (0, u "limit"), (0, u "I"), (0, .fieldref 8 14), (0, .nameAndType 15 12), (0, u "spent"), (0, .methodref 8 17), (0, .nameAndType 18 19), (0, u "remaining"), (0, u "()I"), (18, u "spend"), (0, u "(I)V")] 54

def k2c0 : Code := { maxStack := 2, maxLocals := 2, code := prog_8_method_1_code, exceptionTable := #[], attributes := #[] }
def k2m0 : Method := { name := "<init>", desc := "(I)V", sig := { parameters := [.int], returnType := none }, accessFlags := 0, code := some k2c0 }
def k2c1 : Code := { maxStack := 2, maxLocals := 1, code := prog_8_method_2_code, exceptionTable := #[], attributes := #[] }
def k2m1 : Method := { name := "remaining", desc := "()I", sig := { parameters := [], returnType := some .int }, accessFlags := 0, code := some k2c1 }
def k2c2 : Code := { maxStack := 4, maxLocals := 2, code := prog_8_method_3_code, exceptionTable := #[], attributes := #[] }
def k2m2 : Method := { name := "spend", desc := "(I)V", sig := { parameters := [.int], returnType := none }, accessFlags := 0, code := some k2c2 }
/-- com/example/uni_frame/uniframe/UndoBudget -/
def k2 : Class := { plain "com/example/uni_frame/uniframe/UndoBudget" (some 0) with
  accessFlags := 48
  interfaces := #[]
  cf := some (fileOf pool2 8 #[] #[{ accessFlags := 0, nameIndex := 5, descriptorIndex := 39, attributes := #[] }, { accessFlags := 0, nameIndex := 18, descriptorIndex := 19, attributes := #[] }, { accessFlags := 0, nameIndex := 38, descriptorIndex := 39, attributes := #[] }] 48 2 #[] #[{ accessFlags := 18, nameIndex := 11, descriptorIndex := 12, attributes := #[] }, { accessFlags := 2, nameIndex := 15, descriptorIndex := 12, attributes := #[] }])
  fields := #[{ name := "limit", type := .int, accessFlags := 18, slot := 0, constantValue := 0 }, { name := "spent", type := .int, accessFlags := 2, slot := 1, constantValue := 0 }]
  methods := #[k2m0, k2m1, k2m2]
  instanceTypes := #[.int, .int]
  staticTypes := #[]
  resolved := Array.replicate 94 none
  statics := none }

def pool3 : Array CpInfo := pool [(1, u "java/lang/Cloneable"), (0, .class_ 1), (0, u "java/lang/Object"), (0, .class_ 3)] 3

/-- java/lang/Cloneable -/
def k3 : Class := { plain "java/lang/Cloneable" (some 0) with
  accessFlags := 1537
  interfaces := #[]
  cf := some (fileOf pool3 2 #[] #[] 1537 4 #[] #[])
  fields := #[]
  methods := #[]
  instanceTypes := #[]
  staticTypes := #[]
  resolved := Array.replicate 8 none
  statics := none }

def pool4 : Array CpInfo := pool [(1, u "java/io/Serializable"), (0, .class_ 1), (0, u "java/lang/Object"), (0, .class_ 3)] 3

/-- java/io/Serializable -/
def k4 : Class := { plain "java/io/Serializable" (some 0) with
  accessFlags := 1537
  interfaces := #[]
  cf := some (fileOf pool4 2 #[] #[] 1537 4 #[] #[])
  fields := #[]
  methods := #[]
  instanceTypes := #[]
  staticTypes := #[]
  resolved := Array.replicate 8 none
  statics := none }

/-- the primitive byte -/
def k5 : Class := { plain "byte" none with kind := .primitive 'B', accessFlags := 0x411 }
/-- [B -/
def k6 : Class := { plain "[B" (some 0) with kind := .array 5 .byte, interfaces := #[3, 4], accessFlags := 1041 }

/-- the primitive int -/
def k7 : Class := { plain "int" none with kind := .primitive 'I', accessFlags := 0x411 }
/-- [I -/
def k8 : Class := { plain "[I" (some 0) with kind := .array 7 .int, interfaces := #[3, 4], accessFlags := 1041 }

def heap : Heap := #[]
def classes : Array Class := #[k0, k1, k2, k3, k4, k5, k6, k7, k8]
def interned : List (Array UInt16 × Addr) := []
def slotsUsed : Nat := 0
def theMethod : MethodId := ⟨1, 1⟩
def args0 : Array Value := #[.int 5, .int 5, .int 5, .int 5]
def aboutOver (below : List Frame) : State where
  vm := { classes := classes, interned := interned.toArray }
  heap := heap
  slotsUsed := slotsUsed
  threads := #[{ frames := .invoking theMethod args0 :: below }]
def below0 : List Frame := [.native { method := ⟨0, 0⟩, args := #[] }]
def about1 : State := aboutOver below0
def p0 : Program := .bare "" "" ""
def e0 : Env := launch0.env 0 0 0
theorem w_frames : about1.frames = Frame.invoking theMethod args0 :: below0 := rfl
set_option maxRecDepth 65536 in
theorem w_args : argsFit about1.vm theMethod args0 = true := by decide +kernel
set_option maxRecDepth 65536 in
theorem w_heap : heapFits about1 = true := by decide +kernel
set_option maxRecDepth 65536 in
theorem w_runnable : about1.curStatus? = some .runnable := by decide +kernel
set_option maxRecDepth 65536 in
theorem w_alone : about1.alone = true := by decide +kernel
set_option maxRecDepth 65536 in
theorem w_named : about1.methodNamed? x = some theMethod := by decide +kernel
set_option maxRecDepth 65536 in
theorem w_hears : about1.hears theMethod below0 = true := by decide +kernel
set_option maxRecDepth 65536 in
theorem w_ripe : about1.ripe theMethod args0 below0 = true := by decide +kernel
theorem w_running : about1.status = .running := rfl
set_option maxRecDepth 65536 in
theorem w_room : about1.hasRoom e0.platform room_1 = true :=
  launch0.hasRoom_least _ room_1 (by decide +kernel) (by decide +kernel) (by decide +kernel) (by decide +kernel) (by decide +kernel) (by decide +kernel)
theorem allAtoms_all (ts : List Jvm.Cond) (a : Array Jvm.Value) (st : Jvm.State) : (allAtoms ts).before a st = ts.all (fun c => c.before a st) := by
  induction ts with
  | nil => rfl
  | cons c t ih =>
    show (Jvm.Cond.and c (allAtoms t)).before a st = _
    rw [Jvm.Cond.before_and, ih, List.all_cons]
def words1 : List Jvm.Cond := Jvm.Cond.code x code maxLocals ret :: tables_1
/-- a 'code' word, met by the world's own term for the bytes: nothing is compared byte by byte -/
theorem code_word {y : MethodName} {bytes : ByteArray} {mx : Nat} {rt : Option FieldType} {a : Array Value} {s : State} {m : MethodId} {meth : Method} {c : Code} (h1 : s.methodNamed? y = some m) (h2 : s.vm.method? m = some meth) (h3 : meth.code = some c) (h4 : c.code = bytes)
    (h5 : (c.maxLocals == mx && c.exceptionTable.isEmpty && decide (c.maxStack ≤ mostOperands) && decide (meth.sig.returnType = rt) && !meth.locks && decide (parseMethodDescriptor y.desc = some meth.sig)) = true) : (Jvm.Cond.code y bytes mx rt).before a s = true := by
  simp only [Bool.and_eq_true, beq_iff_eq, Bool.not_eq_true', decide_eq_true_eq] at h5
  obtain ⟨⟨⟨⟨⟨g1, g2⟩, g3⟩, g4⟩, g5⟩, g6⟩ := h5
  simp [Cond.before, Cond.holds, Cond.value, h1, h2, h3, h4, g1, g2, g3, g4, g5, g6]
def isCode : Jvm.Cond → Bool
  | .code _ _ _ _ => true
  | _ => false
theorem all_split {L : List Jvm.Cond} {P : Jvm.Cond → Bool} (h1 : L.all (fun c => isCode c || P c) = true) (h2 : ∀ c ∈ L.filter isCode, P c = true) : L.all P = true := by
  refine List.all_eq_true.mpr fun c hc => ?_
  have h := List.all_eq_true.mp h1 c hc
  rcases Bool.eq_false_or_eq_true (isCode c) with hi | hi
  · exact h2 c (List.mem_filter.mpr ⟨hc, hi⟩)
  · simpa [hi] using h
set_option maxRecDepth 65536 in
theorem w_c0 : (Jvm.Cond.code x code maxLocals ret).before args0 about1 = true := code_word (m := ⟨1, 1⟩) (meth := k1m1) (c := k1c1) (by decide +kernel) rfl rfl rfl (by decide +kernel)
set_option maxRecDepth 65536 in
theorem w_c1 : (Jvm.Cond.code ({ cls := "com/example/uni_frame/uniframe/UndoBudget", name := "<init>", desc := "(I)V" } : Jvm.MethodName) prog_8_method_1_code (2 : Nat) (Option.none : Option Jvm.ClassFile.FieldType)).before args0 about1 = true := code_word (m := ⟨2, 0⟩) (meth := k2m0) (c := k2c0) (by decide +kernel) rfl rfl rfl (by decide +kernel)
set_option maxRecDepth 65536 in
theorem w_c2 : (Jvm.Cond.code ({ cls := "java/lang/Object", name := "<init>", desc := "()V" } : Jvm.MethodName) object_method_1_code (1 : Nat) (Option.none : Option Jvm.ClassFile.FieldType)).before args0 about1 = true := code_word (m := ⟨0, 0⟩) (meth := k0m0) (c := k0c0) (by decide +kernel) rfl rfl rfl (by decide +kernel)
set_option maxRecDepth 65536 in
theorem w_c3 : (Jvm.Cond.code ({ cls := "com/example/uni_frame/uniframe/UndoBudget", name := "remaining", desc := "()I" } : Jvm.MethodName) prog_8_method_2_code (1 : Nat) (Option.some Jvm.ClassFile.FieldType.int)).before args0 about1 = true := code_word (m := ⟨2, 1⟩) (meth := k2m1) (c := k2c1) (by decide +kernel) rfl rfl rfl (by decide +kernel)
set_option maxRecDepth 65536 in
theorem w_c4 : (Jvm.Cond.code ({ cls := "com/example/uni_frame/uniframe/UndoBudget", name := "spend", desc := "(I)V" } : Jvm.MethodName) prog_8_method_3_code (2 : Nat) (Option.none : Option Jvm.ClassFile.FieldType)).before args0 about1 = true := code_word (m := ⟨2, 2⟩) (meth := k2m2) (c := k2c2) (by decide +kernel) rfl rfl rfl (by decide +kernel)
def codes1 : List Jvm.Cond := [Jvm.Cond.code x code maxLocals ret, Jvm.Cond.code ({ cls := "com/example/uni_frame/uniframe/UndoBudget", name := "<init>", desc := "(I)V" } : Jvm.MethodName) prog_8_method_1_code (2 : Nat) (Option.none : Option Jvm.ClassFile.FieldType), Jvm.Cond.code ({ cls := "java/lang/Object", name := "<init>", desc := "()V" } : Jvm.MethodName) object_method_1_code (1 : Nat) (Option.none : Option Jvm.ClassFile.FieldType), Jvm.Cond.code ({ cls := "com/example/uni_frame/uniframe/UndoBudget", name := "remaining", desc := "()I" } : Jvm.MethodName) prog_8_method_2_code (1 : Nat) (Option.some Jvm.ClassFile.FieldType.int), Jvm.Cond.code ({ cls := "com/example/uni_frame/uniframe/UndoBudget", name := "spend", desc := "(I)V" } : Jvm.MethodName) prog_8_method_3_code (2 : Nat) (Option.none : Option Jvm.ClassFile.FieldType)]
set_option maxRecDepth 65536 in
theorem codes_eq : words1.filter isCode = codes1 := rfl
theorem w_codes : ∀ c ∈ words1.filter isCode, c.before args0 about1 = true := by
  rw [codes_eq]
  intro c hc
  simp only [codes1, List.mem_cons, List.not_mem_nil, or_false] at hc
  rcases hc with rfl | rfl | rfl | rfl | rfl
  · exact w_c0
  · exact w_c1
  · exact w_c2
  · exact w_c3
  · exact w_c4
set_option maxRecDepth 65536 in
theorem w_t1 : (words1.take 24).all (fun c => isCode c || c.before args0 about1) = true := by decide +kernel
set_option maxRecDepth 65536 in
theorem w_t2 : (words1.drop 24).all (fun c => isCode c || c.before args0 about1) = true := by decide +kernel
theorem w_tables : (allAtoms (Jvm.Cond.code x code maxLocals ret :: tables_1)).before args0 about1 = true := by
  rw [allAtoms_all]
  show words1.all (fun c => c.before args0 about1) = true
  refine all_split ?_ w_codes
  rw [← List.take_append_drop 24 words1, List.all_append, w_t1, w_t2]
  rfl
set_option maxRecDepth 65536 in
theorem w_case : (Jvm.Cond.and given_1 narrow_1).before args0 about1 = true := by decide +kernel
theorem w_applies : (headSpec (Jvm.Cond.code x code maxLocals ret :: tables_1) room_1).applies x e0.platform about1 = true :=
  (Spec.applies_iff w_frames).mpr ⟨w_running, w_runnable, w_alone, w_named, w_hears, w_ripe, w_room, w_tables⟩
theorem atStart : AtStart classFile x code maxLocals ret World_1 tables_1 room_1 Calls_1 rest_1 Pre_1 launch0 p0 e0 about1 theMethod args0 below0 :=
  ⟨lists_1, trivial, launch0.admits_env _ _ _, launch0.least_env, fairChoices_fair.cas, fairChoices_fair.clock, w_frames, w_args, w_heap, w_applies, trivial, trivial, w_case⟩
end start1
theorem witness_1 : WitnessClaimed_1 := ⟨start1.p0, start1.e0, start1.about1, start1.theMethod, start1.args0, start1.below0, start1.atStart⟩
end Jvm.Pilot.@@N@@
