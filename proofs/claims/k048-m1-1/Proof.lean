import JvmDerived
import JvmDerived.Pilot.@@N@@Statement
import JvmDerived.Pilot.@@N@@Code
set_option linter.unusedVariables false
set_option linter.unusedSimpArgs false
namespace Jvm.Pilot.@@N@@
open Jvm Jvm.ClassFile Sem Op Lib Jvm.Free Jvm.Stand Jvm.LawKit Jvm.RoadKit Bundle Jvm.Pilot.@@N@@.Jvm.D
abbrev y1 : MethodName := ⟨"com/example/uni_frame/uniframe/protocol/TypeCode", "holdsValues", "(I)Z"⟩
abbrev y2 : MethodName := ⟨"com/example/uni_frame/uniframe/protocol/TypeCodeHoldsValuesPinLaw", "expected", "(I)Z"⟩

abbrev jv (x : Int64) : Slot := .val (.long x)
abbrev un : Slot := .unset
abbrev se : Slot := .second
abbrev AT (p : Program) (e : Env) (below : List Frame) (T : State) (m : MethodId) (pc : Nat) (ls : Array Slot) (st : List Value) (tg : State) : Prop := Steps p.tables e below (T.setTop (mkF m pc ls st)) tg
theorem ow {Z : State} {a0 : Array Value} (hw : ∀ d ∈ tables_1, d.before a0 Z = true) (i : Nat) {d : Jvm.Cond} (h : tables_1[i]? = some d) : d.before a0 Z = true := hw _ (List.mem_of_getElem? h)
theorem own_lrem {p : Program} {l : Launch} {e : Env} {R : Room} {s : State} {m : MethodId} {args : Array Value} {below : List Frame} {meth : Method} {c : Code} {T : State} {locs : List Loc} {cells slots : Nat} {g : JFrame} {target : State} (X : Stand p l e R s m args below meth c T locs cells slots) (hx : p.tables.exec = Jvm.exec) (hg : g.method = m) {x y : Int64} {rest : List Value} (hd : decode c.code g.pc = .ok (.lrem, 1)) (hs : g.stack = .long y :: .long x :: rest) (hy : y ≠ 0)
    (hr : Steps p.tables e below (T.setTop { g with pc := g.pc + 1, stack := .long (x % y) :: rest }) target) : Steps p.tables e below (T.setTop g) target :=
  XS.lrem X.here hx hg hd hs hy (by rw [lrem_mod]; exact hr)
theorem own_eqInt {args : Array Value} {first s : State} {o : Option Outcome} {idx : List Nat} {t : Term} {n : Int32} (h : (Jvm.Cond.eq t (.int n)).value args first o s idx = some true) : t.eval args first o idx s = some (.int n) := by
  simp only [Cond.value, Term.eval] at h
  cases ht : t.eval args first o idx s with
  | none => simp [ht] at h
  | some v => cases v <;> simp [ht] at h ⊢; exact h
theorem own_eqLong {args : Array Value} {first s : State} {o : Option Outcome} {idx : List Nat} {t : Term} {n : Int64} (h : (Jvm.Cond.eq t (.long n)).value args first o s idx = some true) : t.eval args first o idx s = some (.long n) := by
  simp only [Cond.value, Term.eval] at h
  cases ht : t.eval args first o idx s with
  | none => simp [ht] at h
  | some v => cases v <;> simp [ht] at h ⊢; exact h
theorem own_eqRef {args : Array Value} {first s : State} {o : Option Outcome} {idx : List Nat} {t u : Term} {a : Addr} (hu : u.eval args first o idx s = some (.ref a)) (h : (Jvm.Cond.eq t u).value args first o s idx = some true) : t.eval args first o idx s = some (.ref a) := by
  simp only [Cond.value, hu] at h
  cases ht : t.eval args first o idx s with
  | none => simp [ht] at h
  | some v => cases v <;> simp [ht] at h ⊢; exact h

theorem own_in {c : Cell} {n : Int32} (j : Int32) (S : c.slots.size = n.toNatClampNeg) (q : ¬ j < 0 ∧ j < n) : ¬ (j < 0 ∨ c.slots.size ≤ j.toNatClampNeg) := inb_of S q
theorem own_up {x a b : Int32} (h : x < a) (q : a.toInt ≤ b.toInt) : x < b := Int32.lt_iff_toInt_lt.mpr (Int.lt_of_lt_of_le (Int32.lt_iff_toInt_lt.mp h) q)
theorem own_dn {x a b : Int32} (h : ¬ x < a) (q : b.toInt ≤ a.toInt) : ¬ x < b := fun z => h (own_up z q)
theorem own_neInt {args : Array Value} {first s : State} {o : Option Outcome} {idx : List Nat} {t : Term} {x n : Int32} (ht : t.eval args first o idx s = some (.int x)) (h : (Jvm.Cond.not (Jvm.Cond.eq t (.int n))).value args first o s idx = some true) : ¬ x = n := by
  simpa [Cond.value, Term.eval, ht] using h

theorem own_len {Z : State} {args : Array Value} {t : Term} {a : Addr} {cl : Cell} {ty : FieldType} {n : Int32} (ev : t.eval args Z none [] Z = some (.ref a)) (A : Arr Z Z.heap a cl ty) (h : (Term.length t).eval args Z none [] Z = some (.int n)) : cl.slots.size < 2 ^ 31 ∧ cl.slots.size.toInt32 = n := by
  have q := A.fin (U := Z) (Vm.Alike.refl _)
  simp only [Term.eval, ev, q, Option.bind_eq_bind, Option.bind_some, Option.pure_def] at h
  split at h
  · rename_i hlt; exact ⟨hlt, by simpa using h⟩
  · simp at h

theorem own_nar {v : Value} {c : String} (h : v.isRef = true) : narrow (.object c) v = v := by cases v <;> first | rfl | simp [Value.isRef] at h
theorem own_fits {v : Value} {c : String} (h : v.isRef = true) : fits (.object c) v = true := by cases v <;> first | rfl | simp [Value.isRef] at h
theorem own_cat {v : Value} (h : v.isRef = true) : v.category = 1 := by cases v <;> first | rfl | simp [Value.isRef] at h

theorem own_notOf {Z : State} {a0 : Array Value} {C S K : String} {n : Nat} (w : (Jvm.Cond.superclass C S).before a0 Z = true) (w0 : (Jvm.Cond.noSuperclass S).before a0 Z = true) (wk : (Jvm.Cond.instantiable K n).before a0 Z = true) (h1 : C ≠ K) (h2 : S ≠ K) :
    ∃ c t, Z.vm.findClass C = some c ∧ Z.vm.findClass K = some t ∧ Z.vm.assignable c t = false := by
  obtain ⟨t, k', g0, g2, g5, g7, -⟩ := Cond.instantiable_spec wk
  obtain ⟨c, h0⟩ := found_sup w
  obtain ⟨p, k, kp, q1, q2, q3, q4, q5, q6, q7⟩ := Cond.superclass_spec h0 w
  obtain ⟨c0, k0, r1, r2, r3, -, -⟩ := Cond.noSuperclass_spec w0
  cases q1.symm.trans r1
  have ne1 := ids_ne h0 g0 h1
  have ne2 := ids_ne r1 g0 h2
  have g8 := (Bool.or_eq_false_iff.mp g7).1
  have n3 : ∀ fuel, Z.vm.isSubclassAux fuel c t = false := by
    intro fuel
    cases fuel with
    | zero => rfl
    | succ f =>
      cases f with
      | zero => simp [Vm.isSubclassAux, ne1, q2, q4]
      | succ g => simp [Vm.isSubclassAux, ne1, ne2, q2, q4, r2, r3]
  refine ⟨c, t, h0, g0, ?_⟩
  show Z.vm.assignableAux (255 + 1) c t = false
  simp [Vm.assignableAux, ne1, q2, g2, q5, g5, g8, Vm.isSubclass, n3]

theorem own_selP {Z s : State} {a0 args : Array Value} {y : MethodName} {n : Nat} (hZ : Z.Warmed39 s.vm) (wi : (Jvm.Cond.instantiable y.cls n).before a0 Z = true) (wp : (Jvm.Cond.privateMethod y).before a0 Z = true) (wm : (Jvm.Cond.instanceMethod y).before a0 Z = true) (hy : y.cls ≠ "java/lang/invoke/MethodHandle" ∧ y.cls ≠ "java/lang/invoke/VarHandle") : (Jvm.Cond.selects y.cls y y).before args s = true := by
  obtain ⟨c, k, hc, hk, -, hni, -⟩ := Cond.instantiable_spec (mvT (s := s) (args := args) hZ wi)
  exact selects_self_of_private hc hk (Bool.or_eq_false_iff.mp hni).1 (Cond.privateMethod_at (mvP hZ wp (args := #[]))) (mvT hZ wm) hy

theorem own_neS {Z : State} {h : Heap} {a b u w : Addr} {C f d : String} {k k' : ClassId} {ty : FieldType} {z z' : Int32} {vs vs' : List Value} {dv dv' : Value} (Fa : Fld Z h a C f d (.ref u)) (Va : Arv Z h u k ty z vs dv) (Fb : Fld Z h b C f d (.ref w)) (Vb : Arv Z h w k' ty z' vs' dv') (hn : z ≠ z' ∨ ∃ i : Nat, i < z.toNatClampNeg ∧ vs.getD i dv ≠ vs'.getD i dv') : a ≠ b := fun e => by
  subst e
  have hu : u = w := by
    rcases Decidable.em (u = w) with q | q
    · exact q
    · exact absurd rfl (Fld.ne Fa Fb (fun x => q (Value.ref.inj x)))
  subst hu
  obtain ⟨c1, A1, -, S1, N1, H1, -⟩ := Va
  obtain ⟨c2, A2, -, S2, N2, H2, -⟩ := Vb
  cases A1.1.symm.trans A2.1
  rcases hn with hn | ⟨i, hi, hn⟩
  · exact hn ((len_of S1 N1).symm.trans (len_of S2 N2))
  · have q1 := H1 i (by rw [S1]; exact hi)
    have q2 := H2 i (by rw [S1]; exact hi)
    exact hn (Option.some.inj (q1.symm.trans q2))
def Wd (Z : State)  : Prop :=
  Sta Z Z.heap "com/example/uni_frame/uniframe/protocol/TypeCode" "STRUCT" "I" (.int (10 : Int32)) ∧
  Sta Z Z.heap "com/example/uni_frame/uniframe/protocol/TypeCode" "LIST" "I" (.int (7 : Int32)) ∧
  Sta Z Z.heap "com/example/uni_frame/uniframe/protocol/TypeCode" "MAP" "I" (.int (9 : Int32)) ∧
  Sta Z Z.heap "com/example/uni_frame/uniframe/protocol/TypeCode" "SET" "I" (.int (8 : Int32))
theorem pn_0 : plainName "com/example/uni_frame/uniframe/protocol/TypeCode" = true := by first | (simp [plainName, overriddenIn]; done) | decide +kernel
theorem pn_1 : plainName "com/example/uni_frame/uniframe/protocol/TypeCodeHoldsValuesPinLaw" = true := by first | (simp [plainName, overriddenIn]; done) | decide +kernel
theorem pd_0 : parseMethodDescriptor "(I)Z" = some ⟨[.int], some .boolean⟩ := by decide +kernel
theorem d1_0 : decode prog_17_method_3_code 0 = .ok (.iload_n 0, 1) := by decide +kernel
theorem d1_1 : decode prog_17_method_3_code 1 = .ok (.getstatic 13, 3) := by decide +kernel
theorem d1_4 : decode prog_17_method_3_code 4 = .ok (.if_icmp .eq 24, 3) := by decide +kernel
theorem d1_7 : decode prog_17_method_3_code 7 = .ok (.iload_n 0, 1) := by decide +kernel
theorem d1_8 : decode prog_17_method_3_code 8 = .ok (.getstatic 17, 3) := by decide +kernel
theorem d1_11 : decode prog_17_method_3_code 11 = .ok (.if_icmp .eq 17, 3) := by decide +kernel
theorem d1_14 : decode prog_17_method_3_code 14 = .ok (.iload_n 0, 1) := by decide +kernel
theorem d1_15 : decode prog_17_method_3_code 15 = .ok (.getstatic 20, 3) := by decide +kernel
theorem d1_18 : decode prog_17_method_3_code 18 = .ok (.if_icmp .eq 10, 3) := by decide +kernel
theorem d1_21 : decode prog_17_method_3_code 21 = .ok (.iload_n 0, 1) := by decide +kernel
theorem d1_22 : decode prog_17_method_3_code 22 = .ok (.getstatic 23, 3) := by decide +kernel
theorem d1_25 : decode prog_17_method_3_code 25 = .ok (.if_icmp .ne 7, 3) := by decide +kernel
theorem d1_28 : decode prog_17_method_3_code 28 = .ok (.iconst 1, 1) := by decide +kernel
theorem d1_29 : decode prog_17_method_3_code 29 = .ok (.goto 4, 3) := by decide +kernel
theorem d1_32 : decode prog_17_method_3_code 32 = .ok (.iconst 0, 1) := by decide +kernel
theorem d1_33 : decode prog_17_method_3_code 33 = .ok (.ireturn, 1) := by decide +kernel
theorem ef_1 (m : MethodId) (p0 : Int32) : entryFrame m #[(.int p0)] 1 = mkF m 0 #[iv p0] [] := by first | (simp [entryFrame, mkF, argsToLocals, Value.category]; done) | rfl
def f1 (p0 : Int32) : Int32 := if p0 = (10 : Int32) then (1 : Int32) else (if p0 = (7 : Int32) then (1 : Int32) else (if p0 = (9 : Int32) then (1 : Int32) else (if p0 = (8 : Int32) then (1 : Int32) else (0 : Int32))))
def Q1 (Z : State) (p0 : Int32) (h0 : Heap) (n0 : Nat) (v : Option Value) (h : Heap) (L : List Loc) : Prop := v = some (.int (f1 p0)) ∧ Fr n0 L ∧ h = h0
set_option maxRecDepth 65536 in
set_option maxHeartbeats 40000000 in
theorem rm1 (l : Launch) (Z : State) (ar : Array Value) (hw : ∀ d ∈ tables_1, d.before ar Z = true) (ws : List Jvm.Cond) (p0 : Int32) (h0 : Heap) (n0 : Nat) (O0 : Old Z n0 h0) (HW : Wd Z ) :
    MetFree l y1 (head1 (Jvm.Cond.code y1 prog_17_method_3_code 1 (some .boolean) :: ws) ({ frames := 0, cells := 0, slots := 0, locals := 0 } : Room)) (fun a U => a = #[(.int p0)] ∧ Z.Warmed39 U.vm ∧ U.heap = h0) (fun _ _ _ _ _ => True) (fun _ U o U' => ∃ v L, o = .returned v ∧ Q1 Z p0 h0 n0 v U'.heap L ∧ FrameEnd U o U' L ({ frames := 0, cells := 0, slots := 0, locals := 0 } : Room).cells ({ frames := 0, cells := 0, slots := 0, locals := 0 } : Room).slots) := by
 refine MetFree.of_bodySF (plainFor_of_name pn_0) hisR ?_
 intro p e s m args below meth c s₁ Bd hml0 hP hK
 obtain ⟨rfl, hZ, hh⟩ := hP
 have hx := Bd.exec
 have hby := Bd.bytes
 have hml : c.maxLocals = 1 := hml0
 have hown : s.vm.findClass "com/example/uni_frame/uniframe/protocol/TypeCode" = some m.cls := findClass_of_methodNamed Bd.named
 have hnm := (name_of_methodNamed Bd.named Bd.method).1
 have X0 : Stand p l e ({ frames := 0, cells := 0, slots := 0, locals := 0 } : Room) s m #[(.int p0)] below meth c s₁ [] 0 0 := Stand.of_body Bd
 have e0 : s₁.heap = h0 := by rw [← hh, Bd.state]; rfl
 have N0 := Fr.nil n0
 have Z0 : n0 ≤ h0.size := Nat.le_trans (Nat.le_of_eq O0.1.symm) O0.2.1
 obtain ⟨S0, hS0⟩ : ∃ z, z = s₁.setTop (entryFrame m #[(.int p0)] 1) := ⟨_, rfl⟩
 have pre0 : ∀ tg, AT p e below s₁ m 0 #[iv p0] [] tg → Steps p.tables e below S0 tg := fun tg kg => by rw [hS0]; exact castTop (ef_1 m p0) kg
 obtain ⟨S_STRUCT, S_LIST, S_MAP, S_SET⟩ := id HW
 obtain ⟨T1, X1, e1, st1⟩ := getS2 X0 hx hZ hown (host := "") (Or.inl (ow hw 4 rfl)) Via.refl e0 (S_STRUCT.ext O0.2) (g := (mkF m 1 #[iv p0] [(.int p0)])) rfl (hb hby d1_1)
 have pre2 : ∀ tg, AT p e below T1 m 4 #[iv p0] [(.int (10 : Int32)), (.int p0)] tg → Steps p.tables e below S0 tg := fun tg kg => pre0 tg (by
  refine XS.iloadN X0.here hx rfl (hb hby d1_0) rfl ?_
  show AT p e below s₁ m 1 #[iv p0] [(.int p0)] _
  refine st1 _ ?_
  exact kg)
 rcases Decidable.em (p0 = (10 : Int32)) with hc3 | hc3
 ·
  obtain ⟨fs, hr, hrun, hended, hW, hsame⟩ := X1.leave (v := some (.int (1 : Int32))) (fun h => by rw [Bd.returns] at h; cases h)
  subst hS0
  refine ⟨_, _, pre2 _ ?_, hrun, hended, _, _, rfl, ?_, ⟨_, rfl⟩, hW, hsame.mono (by decide) (by decide)⟩
  ·
   refine XS.icmpYes X1.here hx rfl (pc0 := 4) (pc' := 28) rfl (hb hby d1_4) rfl (XT.ii_eq_t hc3) (by decide) (by decide) ?_
   show AT p e below T1 m 28 #[iv p0] [] _
   refine XS.iconst X1.here hx rfl (hb hby d1_28) ?_
   show AT p e below T1 m 29 #[iv p0] [(.int (1 : Int32))] _
   refine XS.goto X1.here hx rfl (pc0 := 29) (pc' := 33) rfl (hb hby d1_29) (by decide) (by decide) ?_
   show AT p e below T1 m 33 #[iv p0] [(.int (1 : Int32))] _
   exact retN X1 hx (t := .boolean) Bd.returns (by simp) (hb hby d1_33) hr
  ·
   show Q1 Z p0 h0 n0 _ T1.heap _
   rw [e1]
   exact ⟨(by rw [f1, if_pos hc3]), N0, rfl⟩
 ·
  obtain ⟨T4, X4, e4, st4⟩ := getS2 X1 hx hZ hown (host := "") (Or.inl (ow hw 6 rfl)) Via.refl e1 (S_LIST.ext O0.2) (g := (mkF m 8 #[iv p0] [(.int p0)])) rfl (hb hby d1_8)
  have pre5 : ∀ tg, AT p e below T4 m 11 #[iv p0] [(.int (7 : Int32)), (.int p0)] tg → Steps p.tables e below S0 tg := fun tg kg => pre2 tg (by
   refine XS.icmpNo X1.here hx rfl (hb hby d1_4) rfl (XT.ii_eq_f hc3) ?_
   show AT p e below T1 m 7 #[iv p0] [] _
   refine XS.iloadN X1.here hx rfl (hb hby d1_7) rfl ?_
   show AT p e below T1 m 8 #[iv p0] [(.int p0)] _
   refine st4 _ ?_
   exact kg)
  rcases Decidable.em (p0 = (7 : Int32)) with hc6 | hc6
  ·
   obtain ⟨fs, hr, hrun, hended, hW, hsame⟩ := X4.leave (v := some (.int (1 : Int32))) (fun h => by rw [Bd.returns] at h; cases h)
   subst hS0
   refine ⟨_, _, pre5 _ ?_, hrun, hended, _, _, rfl, ?_, ⟨_, rfl⟩, hW, hsame.mono (by decide) (by decide)⟩
   ·
    refine XS.icmpYes X4.here hx rfl (pc0 := 11) (pc' := 28) rfl (hb hby d1_11) rfl (XT.ii_eq_t hc6) (by decide) (by decide) ?_
    show AT p e below T4 m 28 #[iv p0] [] _
    refine XS.iconst X4.here hx rfl (hb hby d1_28) ?_
    show AT p e below T4 m 29 #[iv p0] [(.int (1 : Int32))] _
    refine XS.goto X4.here hx rfl (pc0 := 29) (pc' := 33) rfl (hb hby d1_29) (by decide) (by decide) ?_
    show AT p e below T4 m 33 #[iv p0] [(.int (1 : Int32))] _
    exact retN X4 hx (t := .boolean) Bd.returns (by simp) (hb hby d1_33) hr
   ·
    show Q1 Z p0 h0 n0 _ T4.heap _
    rw [e4]
    exact ⟨(by rw [f1, if_neg hc3, if_pos hc6]), N0, rfl⟩
  ·
   obtain ⟨T7, X7, e7, st7⟩ := getS2 X4 hx hZ hown (host := "") (Or.inl (ow hw 8 rfl)) Via.refl e4 (S_MAP.ext O0.2) (g := (mkF m 15 #[iv p0] [(.int p0)])) rfl (hb hby d1_15)
   have pre8 : ∀ tg, AT p e below T7 m 18 #[iv p0] [(.int (9 : Int32)), (.int p0)] tg → Steps p.tables e below S0 tg := fun tg kg => pre5 tg (by
    refine XS.icmpNo X4.here hx rfl (hb hby d1_11) rfl (XT.ii_eq_f hc6) ?_
    show AT p e below T4 m 14 #[iv p0] [] _
    refine XS.iloadN X4.here hx rfl (hb hby d1_14) rfl ?_
    show AT p e below T4 m 15 #[iv p0] [(.int p0)] _
    refine st7 _ ?_
    exact kg)
   rcases Decidable.em (p0 = (9 : Int32)) with hc9 | hc9
   ·
    obtain ⟨fs, hr, hrun, hended, hW, hsame⟩ := X7.leave (v := some (.int (1 : Int32))) (fun h => by rw [Bd.returns] at h; cases h)
    subst hS0
    refine ⟨_, _, pre8 _ ?_, hrun, hended, _, _, rfl, ?_, ⟨_, rfl⟩, hW, hsame.mono (by decide) (by decide)⟩
    ·
     refine XS.icmpYes X7.here hx rfl (pc0 := 18) (pc' := 28) rfl (hb hby d1_18) rfl (XT.ii_eq_t hc9) (by decide) (by decide) ?_
     show AT p e below T7 m 28 #[iv p0] [] _
     refine XS.iconst X7.here hx rfl (hb hby d1_28) ?_
     show AT p e below T7 m 29 #[iv p0] [(.int (1 : Int32))] _
     refine XS.goto X7.here hx rfl (pc0 := 29) (pc' := 33) rfl (hb hby d1_29) (by decide) (by decide) ?_
     show AT p e below T7 m 33 #[iv p0] [(.int (1 : Int32))] _
     exact retN X7 hx (t := .boolean) Bd.returns (by simp) (hb hby d1_33) hr
    ·
     show Q1 Z p0 h0 n0 _ T7.heap _
     rw [e7]
     exact ⟨(by rw [f1, if_neg hc3, if_neg hc6, if_pos hc9]), N0, rfl⟩
   ·
    obtain ⟨T10, X10, e10, st10⟩ := getS2 X7 hx hZ hown (host := "") (Or.inl (ow hw 10 rfl)) Via.refl e7 (S_SET.ext O0.2) (g := (mkF m 22 #[iv p0] [(.int p0)])) rfl (hb hby d1_22)
    have pre11 : ∀ tg, AT p e below T10 m 25 #[iv p0] [(.int (8 : Int32)), (.int p0)] tg → Steps p.tables e below S0 tg := fun tg kg => pre8 tg (by
     refine XS.icmpNo X7.here hx rfl (hb hby d1_18) rfl (XT.ii_eq_f hc9) ?_
     show AT p e below T7 m 21 #[iv p0] [] _
     refine XS.iloadN X7.here hx rfl (hb hby d1_21) rfl ?_
     show AT p e below T7 m 22 #[iv p0] [(.int p0)] _
     refine st10 _ ?_
     exact kg)
    rcases Decidable.em (p0 = (8 : Int32)) with hc12 | hc12
    ·
     obtain ⟨fs, hr, hrun, hended, hW, hsame⟩ := X10.leave (v := some (.int (1 : Int32))) (fun h => by rw [Bd.returns] at h; cases h)
     subst hS0
     refine ⟨_, _, pre11 _ ?_, hrun, hended, _, _, rfl, ?_, ⟨_, rfl⟩, hW, hsame.mono (by decide) (by decide)⟩
     ·
      refine XS.icmpNo X10.here hx rfl (hb hby d1_25) rfl (XT.ii_ne_f hc12) ?_
      show AT p e below T10 m 28 #[iv p0] [] _
      refine XS.iconst X10.here hx rfl (hb hby d1_28) ?_
      show AT p e below T10 m 29 #[iv p0] [(.int (1 : Int32))] _
      refine XS.goto X10.here hx rfl (pc0 := 29) (pc' := 33) rfl (hb hby d1_29) (by decide) (by decide) ?_
      show AT p e below T10 m 33 #[iv p0] [(.int (1 : Int32))] _
      exact retN X10 hx (t := .boolean) Bd.returns (by simp) (hb hby d1_33) hr
     ·
      show Q1 Z p0 h0 n0 _ T10.heap _
      rw [e10]
      exact ⟨(by rw [f1, if_neg hc3, if_neg hc6, if_neg hc9, if_pos hc12]), N0, rfl⟩
    ·
     obtain ⟨fs, hr, hrun, hended, hW, hsame⟩ := X10.leave (v := some (.int (0 : Int32))) (fun h => by rw [Bd.returns] at h; cases h)
     subst hS0
     refine ⟨_, _, pre11 _ ?_, hrun, hended, _, _, rfl, ?_, ⟨_, rfl⟩, hW, hsame.mono (by decide) (by decide)⟩
     ·
      refine XS.icmpYes X10.here hx rfl (pc0 := 25) (pc' := 32) rfl (hb hby d1_25) rfl (XT.ii_ne_t hc12) (by decide) (by decide) ?_
      show AT p e below T10 m 32 #[iv p0] [] _
      refine XS.iconst X10.here hx rfl (hb hby d1_32) ?_
      show AT p e below T10 m 33 #[iv p0] [(.int (0 : Int32))] _
      exact retN X10 hx (t := .boolean) Bd.returns (by simp) (hb hby d1_33) hr
     ·
      show Q1 Z p0 h0 n0 _ T10.heap _
      rw [e10]
      exact ⟨(by rw [f1, if_neg hc3, if_neg hc6, if_neg hc9, if_neg hc12]), N0, rfl⟩

theorem d2_0 : decode method_2_code 0 = .ok (.iload_n 0, 1) := by decide +kernel
theorem d2_1 : decode method_2_code 1 = .ok (.bipush 7, 2) := by decide +kernel
theorem d2_3 : decode method_2_code 3 = .ok (.if_icmp .lt 13, 3) := by decide +kernel
theorem d2_6 : decode method_2_code 6 = .ok (.iload_n 0, 1) := by decide +kernel
theorem d2_7 : decode method_2_code 7 = .ok (.bipush 10, 2) := by decide +kernel
theorem d2_9 : decode method_2_code 9 = .ok (.if_icmp .gt 7, 3) := by decide +kernel
theorem d2_12 : decode method_2_code 12 = .ok (.iconst 1, 1) := by decide +kernel
theorem d2_13 : decode method_2_code 13 = .ok (.goto 4, 3) := by decide +kernel
theorem d2_16 : decode method_2_code 16 = .ok (.iconst 0, 1) := by decide +kernel
theorem d2_17 : decode method_2_code 17 = .ok (.ireturn, 1) := by decide +kernel
theorem ef_2 (m : MethodId) (p0 : Int32) : entryFrame m #[(.int p0)] 1 = mkF m 0 #[iv p0] [] := by first | (simp [entryFrame, mkF, argsToLocals, Value.category]; done) | rfl
def f2 (p0 : Int32) : Int32 := if p0 < (7 : Int32) then (0 : Int32) else (if (10 : Int32) < p0 then (0 : Int32) else (1 : Int32))
def Q2 (Z : State) (p0 : Int32) (h0 : Heap) (n0 : Nat) (v : Option Value) (h : Heap) (L : List Loc) : Prop := v = some (.int (f2 p0)) ∧ Fr n0 L ∧ h = h0
set_option maxRecDepth 65536 in
set_option maxHeartbeats 40000000 in
theorem rm2 (l : Launch) (Z : State) (ar : Array Value) (hw : ∀ d ∈ tables_1, d.before ar Z = true) (ws : List Jvm.Cond) (p0 : Int32) (h0 : Heap) (n0 : Nat) (O0 : Old Z n0 h0) :
    MetFree l y2 (head1 (Jvm.Cond.code y2 method_2_code 1 (some .boolean) :: ws) ({ frames := 0, cells := 0, slots := 0, locals := 0 } : Room)) (fun a U => a = #[(.int p0)] ∧ Z.Warmed39 U.vm ∧ U.heap = h0) (fun _ _ _ _ _ => True) (fun _ U o U' => ∃ v L, o = .returned v ∧ Q2 Z p0 h0 n0 v U'.heap L ∧ FrameEnd U o U' L ({ frames := 0, cells := 0, slots := 0, locals := 0 } : Room).cells ({ frames := 0, cells := 0, slots := 0, locals := 0 } : Room).slots) := by
 refine MetFree.of_bodySF (plainFor_of_name pn_1) hisR ?_
 intro p e s m args below meth c s₁ Bd hml0 hP hK
 obtain ⟨rfl, hZ, hh⟩ := hP
 have hx := Bd.exec
 have hby := Bd.bytes
 have hml : c.maxLocals = 1 := hml0
 have hown : s.vm.findClass "com/example/uni_frame/uniframe/protocol/TypeCodeHoldsValuesPinLaw" = some m.cls := findClass_of_methodNamed Bd.named
 have hnm := (name_of_methodNamed Bd.named Bd.method).1
 have X0 : Stand p l e ({ frames := 0, cells := 0, slots := 0, locals := 0 } : Room) s m #[(.int p0)] below meth c s₁ [] 0 0 := Stand.of_body Bd
 have e0 : s₁.heap = h0 := by rw [← hh, Bd.state]; rfl
 have N0 := Fr.nil n0
 have Z0 : n0 ≤ h0.size := Nat.le_trans (Nat.le_of_eq O0.1.symm) O0.2.1
 obtain ⟨S0, hS0⟩ : ∃ z, z = s₁.setTop (entryFrame m #[(.int p0)] 1) := ⟨_, rfl⟩
 have pre0 : ∀ tg, AT p e below s₁ m 0 #[iv p0] [] tg → Steps p.tables e below S0 tg := fun tg kg => by rw [hS0]; exact castTop (ef_2 m p0) kg
 have pre1 : ∀ tg, AT p e below s₁ m 3 #[iv p0] [(.int (7 : Int32)), (.int p0)] tg → Steps p.tables e below S0 tg := fun tg kg => pre0 tg (by
  refine XS.iloadN X0.here hx rfl (hb hby d2_0) rfl ?_
  show AT p e below s₁ m 1 #[iv p0] [(.int p0)] _
  refine XS.bipush X0.here hx rfl (hb hby d2_1) ?_
  exact kg)
 rcases Decidable.em (p0 < (7 : Int32)) with hc2 | hc2
 ·
  obtain ⟨fs, hr, hrun, hended, hW, hsame⟩ := X0.leave (v := some (.int (0 : Int32))) (fun h => by rw [Bd.returns] at h; cases h)
  subst hS0
  refine ⟨_, _, pre1 _ ?_, hrun, hended, _, _, rfl, ?_, ⟨_, rfl⟩, hW, hsame.mono (by decide) (by decide)⟩
  ·
   refine XS.icmpYes X0.here hx rfl (pc0 := 3) (pc' := 16) rfl (hb hby d2_3) rfl (XT.ii_lt_t hc2) (by decide) (by decide) ?_
   show AT p e below s₁ m 16 #[iv p0] [] _
   refine XS.iconst X0.here hx rfl (hb hby d2_16) ?_
   show AT p e below s₁ m 17 #[iv p0] [(.int (0 : Int32))] _
   exact retN X0 hx (t := .boolean) Bd.returns (by simp) (hb hby d2_17) hr
  ·
   show Q2 Z p0 h0 n0 _ s₁.heap _
   rw [e0]
   exact ⟨(by rw [f2, if_pos hc2]), N0, rfl⟩
 ·
  have pre3 : ∀ tg, AT p e below s₁ m 9 #[iv p0] [(.int (10 : Int32)), (.int p0)] tg → Steps p.tables e below S0 tg := fun tg kg => pre1 tg (by
   refine XS.icmpNo X0.here hx rfl (hb hby d2_3) rfl (XT.ii_lt_f hc2) ?_
   show AT p e below s₁ m 6 #[iv p0] [] _
   refine XS.iloadN X0.here hx rfl (hb hby d2_6) rfl ?_
   show AT p e below s₁ m 7 #[iv p0] [(.int p0)] _
   refine XS.bipush X0.here hx rfl (hb hby d2_7) ?_
   exact kg)
  rcases Decidable.em ((10 : Int32) < p0) with hc4 | hc4
  ·
   obtain ⟨fs, hr, hrun, hended, hW, hsame⟩ := X0.leave (v := some (.int (0 : Int32))) (fun h => by rw [Bd.returns] at h; cases h)
   subst hS0
   refine ⟨_, _, pre3 _ ?_, hrun, hended, _, _, rfl, ?_, ⟨_, rfl⟩, hW, hsame.mono (by decide) (by decide)⟩
   ·
    refine XS.icmpYes X0.here hx rfl (pc0 := 9) (pc' := 16) rfl (hb hby d2_9) rfl (XT.ii_gt_t hc4) (by decide) (by decide) ?_
    show AT p e below s₁ m 16 #[iv p0] [] _
    refine XS.iconst X0.here hx rfl (hb hby d2_16) ?_
    show AT p e below s₁ m 17 #[iv p0] [(.int (0 : Int32))] _
    exact retN X0 hx (t := .boolean) Bd.returns (by simp) (hb hby d2_17) hr
   ·
    show Q2 Z p0 h0 n0 _ s₁.heap _
    rw [e0]
    exact ⟨(by rw [f2, if_neg hc2, if_pos hc4]), N0, rfl⟩
  ·
   obtain ⟨fs, hr, hrun, hended, hW, hsame⟩ := X0.leave (v := some (.int (1 : Int32))) (fun h => by rw [Bd.returns] at h; cases h)
   subst hS0
   refine ⟨_, _, pre3 _ ?_, hrun, hended, _, _, rfl, ?_, ⟨_, rfl⟩, hW, hsame.mono (by decide) (by decide)⟩
   ·
    refine XS.icmpNo X0.here hx rfl (hb hby d2_9) rfl (XT.ii_gt_f hc4) ?_
    show AT p e below s₁ m 12 #[iv p0] [] _
    refine XS.iconst X0.here hx rfl (hb hby d2_12) ?_
    show AT p e below s₁ m 13 #[iv p0] [(.int (1 : Int32))] _
    refine XS.goto X0.here hx rfl (pc0 := 13) (pc' := 17) rfl (hb hby d2_13) (by decide) (by decide) ?_
    show AT p e below s₁ m 17 #[iv p0] [(.int (1 : Int32))] _
    exact retN X0 hx (t := .boolean) Bd.returns (by simp) (hb hby d2_17) hr
   ·
    show Q2 Z p0 h0 n0 _ s₁.heap _
    rw [e0]
    exact ⟨(by rw [f2, if_neg hc2, if_neg hc4]), N0, rfl⟩


theorem f_eq (x : Int32) : f1 x = f2 x := by
  unfold f1 f2
  have l7 : ((7 : Int32)).toInt = 7 := rfl
  have l8 : ((8 : Int32)).toInt = 8 := rfl
  have l9 : ((9 : Int32)).toInt = 9 := rfl
  have l10 : ((10 : Int32)).toInt = 10 := rfl
  simp only [← Int32.toInt_inj, Int32.lt_iff_toInt_lt, l7, l8, l9, l10]
  repeat' split
  all_goals first | rfl | (exfalso; omega)

theorem ef_0 (m : MethodId) (p0 : Int32) (p1 : Int32) : entryFrame m #[(.int p0), (.int p1)] maxLocals = mkF m 0 #[iv p0, iv p1, un, un, un] [] := by first | (simp [entryFrame, mkF, argsToLocals, Value.category, maxLocals]; done) | rfl
def Q0 (Z : State) (p0 : Int32) (p1 : Int32) (h0 : Heap) (n0 : Nat) (v : Option Value) (h : Heap) (L : List Loc) : Prop := v = some (.int 1) ∧ Fr n0 L
set_option maxRecDepth 65536 in
set_option maxHeartbeats 40000000 in
theorem rm0 (l : Launch) (Z : State) (ar : Array Value) (hw : ∀ d ∈ tables_1, d.before ar Z = true) (ws : List Jvm.Cond) (p0 : Int32) (p1 : Int32) (h0 : Heap) (n0 : Nat) (O0 : Old Z n0 h0) (HW : Wd Z ) :
    MetFree l x (head1 (Jvm.Cond.code x code maxLocals ret :: ws) room_1) (fun a U => a = #[(.int p0), (.int p1)] ∧ Z.Warmed39 U.vm ∧ U.heap = h0) (fun _ _ _ _ _ => True) (fun _ U o U' => ∃ v L, o = .returned v ∧ Q0 Z p0 p1 h0 n0 v U'.heap L ∧ FrameEnd U o U' L 0 0) := by
 refine MetFree.of_bodySF (plainFor_of_name pn_1) hisR ?_
 intro p e s m args below meth c s₁ Bd hml0 hP hK
 obtain ⟨rfl, hZ, hh⟩ := hP
 have hx := Bd.exec
 have hby := Bd.bytes
 have hml : c.maxLocals = 5 := hml0
 have hown : s.vm.findClass "com/example/uni_frame/uniframe/protocol/TypeCodeHoldsValuesPinLaw" = some m.cls := findClass_of_methodNamed Bd.named
 have hnm := (name_of_methodNamed Bd.named Bd.method).1
 have X0 : Stand p l e room_1 s m #[(.int p0), (.int p1)] below meth c s₁ [] 0 0 := Stand.of_body Bd
 have e0 : s₁.heap = h0 := by rw [← hh, Bd.state]; rfl
 have N0 := Fr.nil n0
 have Z0 : n0 ≤ h0.size := Nat.le_trans (Nat.le_of_eq O0.1.symm) O0.2.1
 obtain ⟨S0, hS0⟩ : ∃ z, z = s₁.setTop (entryFrame m #[(.int p0), (.int p1)] maxLocals) := ⟨_, rfl⟩
 have pre0 : ∀ tg, AT p e below s₁ m 0 #[iv p0, iv p1, un, un, un] [] tg → Steps p.tables e below S0 tg := fun tg kg => by rw [hS0]; exact castTop (ef_0 m p0 p1) kg
 obtain ⟨S_STRUCT, S_LIST, S_MAP, S_SET⟩ := id HW
 obtain ⟨_, _, ⟨T1, L1, k1, n1⟩, -, X1, ⟨Lc1, hQ1, l1, y1, z1⟩, st1⟩ := Jvm.LawKit.callS X0 hx (y := y1) hown (mvT hZ (ow hw 0 rfl)) (mvT hZ (ow hw 1 rfl)) (mvT hZ (ow hw 2 rfl)) (mvT hZ (ow hw 3 rfl)) (by decide) (backOf (W := 0) (rm1 l Z ar hw [] p0 h0 n0 O0 HW) hZ (ow hw 3 rfl) (ow hw 2 rfl) (by decide) (by decide)) (g := (mkF m 8 #[iv p0, iv p1, iv ((p1 &&& (15 : Int32)) - (2 : Int32)), un, un] [(.int p0)])) rfl (by rw [hml]; rfl) (argsL := [(.int p0)]) (rest := []) (lenOf pd_0 rfl) rfl (by show 2 * 0 + _ ≤ _; exact Nat.le_of_eq rfl) (hb hby at_8) (fun _ _ => ⟨rfl, e0, (by decide : 0 + 0 ≤ _), (by decide : 0 + 0 ≤ _)⟩)
 dsimp only [Pt.U, Pt.locs, Pt.cells, Pt.slots] at X1 l1 y1 z1 st1 hQ1
 subst l1 y1 z1
 obtain ⟨rfl, N1q, e1⟩ := hQ1
 have N1 := Fr.app N0 N1q
 obtain ⟨_, _, ⟨T2, L2, k2, n2⟩, -, X2, ⟨Lc2, hQ2, l2, y2, z2⟩, st2⟩ := Jvm.LawKit.callS X1 hx (y := y2) hown (mvT hZ (ow hw 12 rfl)) (mvT hZ (ow hw 13 rfl)) (mvT hZ (ow hw 14 rfl)) (mvT hZ (ow hw 15 rfl)) (by decide) (backOf (W := 1) (rm2 l Z ar hw [] p0 h0 n0 O0) hZ (ow hw 15 rfl) (ow hw 14 rfl) (by decide) (by decide)) (g := (mkF m 12 #[iv p0, iv p1, iv ((p1 &&& (15 : Int32)) - (2 : Int32)), un, un] [(.int p0), (.int (f1 p0))])) rfl (by rw [hml]; rfl) (argsL := [(.int p0)]) (rest := [(.int (f1 p0))]) (lenOf pd_0 rfl) rfl (by show 2 * 0 + _ ≤ _; exact Nat.le_of_eq rfl) (hb hby at_12) (fun _ _ => ⟨rfl, e1, (by decide : 0 + 0 ≤ _), (by decide : 0 + 0 ≤ _)⟩)
 dsimp only [Pt.U, Pt.locs, Pt.cells, Pt.slots] at X2 l2 y2 z2 st2 hQ2
 subst l2 y2 z2
 obtain ⟨rfl, N2q, e2⟩ := hQ2
 have N2 := Fr.app N1 N2q
 have pre3 : ∀ tg, AT p e below T2 m 15 #[iv p0, iv p1, iv ((p1 &&& (15 : Int32)) - (2 : Int32)), un, un] [(.int (f2 p0)), (.int (f1 p0))] tg → Steps p.tables e below S0 tg := fun tg kg => pre0 tg (by
  refine XS.iloadN X0.here hx rfl (hb hby at_0) rfl ?_
  show AT p e below s₁ m 1 #[iv p0, iv p1, un, un, un] [(.int p1)] _
  refine XS.bipush X0.here hx rfl (hb hby at_1) ?_
  show AT p e below s₁ m 3 #[iv p0, iv p1, un, un, un] [(.int (15 : Int32)), (.int p1)] _
  refine XS.iand X0.here hx rfl (hb hby at_3) rfl ?_
  show AT p e below s₁ m 4 #[iv p0, iv p1, un, un, un] [(.int (p1 &&& (15 : Int32)))] _
  refine XS.iconst X0.here hx rfl (hb hby at_4) ?_
  show AT p e below s₁ m 5 #[iv p0, iv p1, un, un, un] [(.int (2 : Int32)), (.int (p1 &&& (15 : Int32)))] _
  refine XS.isub X0.here hx rfl (hb hby at_5) rfl ?_
  show AT p e below s₁ m 6 #[iv p0, iv p1, un, un, un] [(.int ((p1 &&& (15 : Int32)) - (2 : Int32)))] _
  refine XS.istoreN X0.here hx rfl (hb hby at_6) rfl (l' := #[iv p0, iv p1, iv ((p1 &&& (15 : Int32)) - (2 : Int32)), un, un]) rfl ?_
  show AT p e below s₁ m 7 #[iv p0, iv p1, iv ((p1 &&& (15 : Int32)) - (2 : Int32)), un, un] [] _
  refine XS.iloadN X0.here hx rfl (hb hby at_7) rfl ?_
  show AT p e below s₁ m 8 #[iv p0, iv p1, iv ((p1 &&& (15 : Int32)) - (2 : Int32)), un, un] [(.int p0)] _
  refine st1 _ ?_
  show AT p e below T1 m 11 #[iv p0, iv p1, iv ((p1 &&& (15 : Int32)) - (2 : Int32)), un, un] [(.int (f1 p0))] _
  refine XS.iloadN X1.here hx rfl (hb hby at_11) rfl ?_
  show AT p e below T1 m 12 #[iv p0, iv p1, iv ((p1 &&& (15 : Int32)) - (2 : Int32)), un, un] [(.int p0), (.int (f1 p0))] _
  refine st2 _ ?_
  exact kg)
 rcases Decidable.em ((f1 p0) = (f2 p0)) with hc4 | hc4
 ·
  obtain ⟨_, _, ⟨T5, L5, k5, n5⟩, -, X5, ⟨Lc5, hQ5, l5, y5, z5⟩, st5⟩ := Jvm.LawKit.callS X2 hx (y := y1) hown (mvT hZ (ow hw 0 rfl)) (mvT hZ (ow hw 1 rfl)) (mvT hZ (ow hw 2 rfl)) (mvT hZ (ow hw 3 rfl)) (by decide) (backOf (W := 0) (rm1 l Z ar hw [] ((p1 &&& (15 : Int32)) - (2 : Int32)) h0 n0 O0 HW) hZ (ow hw 3 rfl) (ow hw 2 rfl) (by decide) (by decide)) (g := (mkF m 25 #[iv p0, iv p1, iv ((p1 &&& (15 : Int32)) - (2 : Int32)), iv (1 : Int32), un] [(.int ((p1 &&& (15 : Int32)) - (2 : Int32)))])) rfl (by rw [hml]; rfl) (argsL := [(.int ((p1 &&& (15 : Int32)) - (2 : Int32)))]) (rest := []) (lenOf pd_0 rfl) rfl (by show 2 * 0 + _ ≤ _; exact Nat.le_of_eq rfl) (hb hby at_25) (fun _ _ => ⟨rfl, e2, (by decide : 0 + 0 ≤ _), (by decide : 0 + 0 ≤ _)⟩)
  dsimp only [Pt.U, Pt.locs, Pt.cells, Pt.slots] at X5 l5 y5 z5 st5 hQ5
  subst l5 y5 z5
  obtain ⟨rfl, N5q, e5⟩ := hQ5
  have N5 := Fr.app N2 N5q
  obtain ⟨_, _, ⟨T6, L6, k6, n6⟩, -, X6, ⟨Lc6, hQ6, l6, y6, z6⟩, st6⟩ := Jvm.LawKit.callS X5 hx (y := y2) hown (mvT hZ (ow hw 12 rfl)) (mvT hZ (ow hw 13 rfl)) (mvT hZ (ow hw 14 rfl)) (mvT hZ (ow hw 15 rfl)) (by decide) (backOf (W := 1) (rm2 l Z ar hw [] ((p1 &&& (15 : Int32)) - (2 : Int32)) h0 n0 O0) hZ (ow hw 15 rfl) (ow hw 14 rfl) (by decide) (by decide)) (g := (mkF m 29 #[iv p0, iv p1, iv ((p1 &&& (15 : Int32)) - (2 : Int32)), iv (1 : Int32), un] [(.int ((p1 &&& (15 : Int32)) - (2 : Int32))), (.int (f1 ((p1 &&& (15 : Int32)) - (2 : Int32))))])) rfl (by rw [hml]; rfl) (argsL := [(.int ((p1 &&& (15 : Int32)) - (2 : Int32)))]) (rest := [(.int (f1 ((p1 &&& (15 : Int32)) - (2 : Int32))))]) (lenOf pd_0 rfl) rfl (by show 2 * 0 + _ ≤ _; exact Nat.le_of_eq rfl) (hb hby at_29) (fun _ _ => ⟨rfl, e5, (by decide : 0 + 0 ≤ _), (by decide : 0 + 0 ≤ _)⟩)
  dsimp only [Pt.U, Pt.locs, Pt.cells, Pt.slots] at X6 l6 y6 z6 st6 hQ6
  subst l6 y6 z6
  obtain ⟨rfl, N6q, e6⟩ := hQ6
  have N6 := Fr.app N5 N6q
  have pre7 : ∀ tg, AT p e below T6 m 32 #[iv p0, iv p1, iv ((p1 &&& (15 : Int32)) - (2 : Int32)), iv (1 : Int32), un] [(.int (f2 ((p1 &&& (15 : Int32)) - (2 : Int32)))), (.int (f1 ((p1 &&& (15 : Int32)) - (2 : Int32))))] tg → Steps p.tables e below S0 tg := fun tg kg => pre3 tg (by
   refine XS.icmpNo X2.here hx rfl (hb hby at_15) rfl (XT.ii_ne_f hc4) ?_
   show AT p e below T2 m 18 #[iv p0, iv p1, iv ((p1 &&& (15 : Int32)) - (2 : Int32)), un, un] [] _
   refine XS.iconst X2.here hx rfl (hb hby at_18) ?_
   show AT p e below T2 m 19 #[iv p0, iv p1, iv ((p1 &&& (15 : Int32)) - (2 : Int32)), un, un] [(.int (1 : Int32))] _
   refine XS.goto X2.here hx rfl (pc0 := 19) (pc' := 23) rfl (hb hby at_19) (by decide) (by decide) ?_
   show AT p e below T2 m 23 #[iv p0, iv p1, iv ((p1 &&& (15 : Int32)) - (2 : Int32)), un, un] [(.int (1 : Int32))] _
   refine XS.istoreN X2.here hx rfl (hb hby at_23) rfl (l' := #[iv p0, iv p1, iv ((p1 &&& (15 : Int32)) - (2 : Int32)), iv (1 : Int32), un]) rfl ?_
   show AT p e below T2 m 24 #[iv p0, iv p1, iv ((p1 &&& (15 : Int32)) - (2 : Int32)), iv (1 : Int32), un] [] _
   refine XS.iloadN X2.here hx rfl (hb hby at_24) rfl ?_
   show AT p e below T2 m 25 #[iv p0, iv p1, iv ((p1 &&& (15 : Int32)) - (2 : Int32)), iv (1 : Int32), un] [(.int ((p1 &&& (15 : Int32)) - (2 : Int32)))] _
   refine st5 _ ?_
   show AT p e below T5 m 28 #[iv p0, iv p1, iv ((p1 &&& (15 : Int32)) - (2 : Int32)), iv (1 : Int32), un] [(.int (f1 ((p1 &&& (15 : Int32)) - (2 : Int32))))] _
   refine XS.iloadN X5.here hx rfl (hb hby at_28) rfl ?_
   show AT p e below T5 m 29 #[iv p0, iv p1, iv ((p1 &&& (15 : Int32)) - (2 : Int32)), iv (1 : Int32), un] [(.int ((p1 &&& (15 : Int32)) - (2 : Int32))), (.int (f1 ((p1 &&& (15 : Int32)) - (2 : Int32))))] _
   refine st6 _ ?_
   exact kg)
  rcases Decidable.em ((f1 ((p1 &&& (15 : Int32)) - (2 : Int32))) = (f2 ((p1 &&& (15 : Int32)) - (2 : Int32)))) with hc8 | hc8
  ·
   obtain ⟨fs, hr, hrun, hended, hW, hsame⟩ := X6.leave (v := some (.int (1 : Int32))) (fun h => by rw [Bd.returns] at h; cases h)
   subst hS0
   refine ⟨_, _, pre7 _ ?_, hrun, hended, _, _, rfl, ?_, ⟨_, rfl⟩, hW, hsame.mono (by decide) (by decide)⟩
   ·
    refine XS.icmpNo X6.here hx rfl (hb hby at_32) rfl (XT.ii_ne_f hc8) ?_
    show AT p e below T6 m 35 #[iv p0, iv p1, iv ((p1 &&& (15 : Int32)) - (2 : Int32)), iv (1 : Int32), un] [] _
    refine XS.iconst X6.here hx rfl (hb hby at_35) ?_
    show AT p e below T6 m 36 #[iv p0, iv p1, iv ((p1 &&& (15 : Int32)) - (2 : Int32)), iv (1 : Int32), un] [(.int (1 : Int32))] _
    refine XS.goto X6.here hx rfl (pc0 := 36) (pc' := 40) rfl (hb hby at_36) (by decide) (by decide) ?_
    show AT p e below T6 m 40 #[iv p0, iv p1, iv ((p1 &&& (15 : Int32)) - (2 : Int32)), iv (1 : Int32), un] [(.int (1 : Int32))] _
    refine XS.istore X6.here hx rfl (hb hby at_40) rfl (l' := #[iv p0, iv p1, iv ((p1 &&& (15 : Int32)) - (2 : Int32)), iv (1 : Int32), iv (1 : Int32)]) rfl ?_
    show AT p e below T6 m 42 #[iv p0, iv p1, iv ((p1 &&& (15 : Int32)) - (2 : Int32)), iv (1 : Int32), iv (1 : Int32)] [] _
    refine XS.iloadN X6.here hx rfl (hb hby at_42) rfl ?_
    show AT p e below T6 m 43 #[iv p0, iv p1, iv ((p1 &&& (15 : Int32)) - (2 : Int32)), iv (1 : Int32), iv (1 : Int32)] [(.int (1 : Int32))] _
    refine XS.ifNo X6.here hx rfl (hb hby at_43) rfl (XT.i0_eq_f ((by decide) : ¬ ((1 : Int32) = (0 : Int32)))) ?_
    show AT p e below T6 m 46 #[iv p0, iv p1, iv ((p1 &&& (15 : Int32)) - (2 : Int32)), iv (1 : Int32), iv (1 : Int32)] [] _
    refine XS.iload X6.here hx rfl (hb hby at_46) rfl ?_
    show AT p e below T6 m 48 #[iv p0, iv p1, iv ((p1 &&& (15 : Int32)) - (2 : Int32)), iv (1 : Int32), iv (1 : Int32)] [(.int (1 : Int32))] _
    refine XS.ifNo X6.here hx rfl (hb hby at_48) rfl (XT.i0_eq_f ((by decide) : ¬ ((1 : Int32) = (0 : Int32)))) ?_
    show AT p e below T6 m 51 #[iv p0, iv p1, iv ((p1 &&& (15 : Int32)) - (2 : Int32)), iv (1 : Int32), iv (1 : Int32)] [] _
    refine XS.iconst X6.here hx rfl (hb hby at_51) ?_
    show AT p e below T6 m 52 #[iv p0, iv p1, iv ((p1 &&& (15 : Int32)) - (2 : Int32)), iv (1 : Int32), iv (1 : Int32)] [(.int (1 : Int32))] _
    refine XS.goto X6.here hx rfl (pc0 := 52) (pc' := 56) rfl (hb hby at_52) (by decide) (by decide) ?_
    show AT p e below T6 m 56 #[iv p0, iv p1, iv ((p1 &&& (15 : Int32)) - (2 : Int32)), iv (1 : Int32), iv (1 : Int32)] [(.int (1 : Int32))] _
    exact retN X6 hx (t := .boolean) Bd.returns (by simp) (hb hby at_56) hr
   ·
    show Q0 Z p0 p1 h0 n0 _ T6.heap _
    rw [e6]
    exact ⟨rfl, N6⟩
  ·
   exact absurd (f_eq ((p1 &&& (15 : Int32)) - (2 : Int32))) hc8
 ·
  exact absurd (f_eq p0) hc4

set_option maxRecDepth 65536 in
set_option maxHeartbeats 40000000 in
theorem comes_1 {Post : Tables → Env → Array Value → State → Outcome → State → Prop} (hpost : ∀ tb e args s v u, (limb_1_1.after args s (.returned v) u = true ∧ limb_1_2.after args s (.returned v) u = true ∧ True) → FrameEnd s (.returned v) u (Jvm.fieldLocs frame_1_writes args s ++ Jvm.arrayLocs frame_1_arrays args s ++ Jvm.staticLocs frame_1_statics s) 0 0 → Post tb e args s (.returned v) u) :
    ArmFor flags0 classFile x code maxLocals ret World_1 tables_1 room_1 Calls_1 rest_1 Pre_1 Post := by
  intro l hfl _ _ p e ha hc hk s m args below hf hA hF happ hP
  obtain ⟨hcalls, hrest, hpre⟩ := hP
  obtain ⟨-, -, -, hnamed, -, -, -, hat⟩ := (Spec.applies_iff hf).mp happ
  obtain ⟨hg, hn⟩ := and_e (Cond.before_iff.mp (show (Jvm.Cond.and given_1 narrow_1).before args s = true from hpre))
  obtain ⟨hg1, hg2⟩ := and_e hg
  obtain ⟨hg21, hg22⟩ := and_e hg2
  obtain ⟨w0, w1, rfl⟩ : ∃ w0 w1 : Value, args = #[w0, w1] := by
    have hs : args.size = 2 := by simpa [Cond.value, given_1] using hg1
    obtain ⟨L⟩ := args
    match L, hs with
    | [w0, w1], _ => exact ⟨w0, w1, rfl⟩
  have hw := fun d (hd : d ∈ tables_1) => atoms_spec (ws := Jvm.Cond.code x code maxLocals ret :: tables_1) hat d (List.mem_cons_of_mem _ hd)
  have hfit : Fit s := fun {y c} hc i hi => by
    obtain ⟨ha, rfl⟩ := Array.getElem?_eq_some_iff.mp hc
    have q := List.all_eq_true.mp ((Array.all_eq_true_iff_forall_mem.mp hF) _ (Array.getElem_mem ha)) i (List.mem_range.mpr hi)
    simpa [Array.getElem?_eq_getElem hi] using q
  obtain ⟨i0, ei0⟩ := is_v hg21
  obtain rfl : w0 = (.int i0) := Option.some.inj ei0
  obtain ⟨i1, ei1⟩ := is_v hg22
  obtain rfl : w1 = (.int i1) := Option.some.inj ei1
  obtain ⟨hn1, hn2⟩ := and_e hn
  obtain ⟨hn21, hn22⟩ := and_e hn2
  obtain ⟨hn221, hn222⟩ := and_e hn22
  have evhn1 := own_eqInt hn1
  have S_STRUCT : Sta s s.heap "com/example/uni_frame/uniframe/protocol/TypeCode" "STRUCT" "I" (.int (10 : Int32)) := Sta.start evhn1 (Or.inr ⟨(ow hw 2 rfl), (ow hw 5 rfl)⟩)
  have evhn21 := own_eqInt hn21
  have S_LIST : Sta s s.heap "com/example/uni_frame/uniframe/protocol/TypeCode" "LIST" "I" (.int (7 : Int32)) := Sta.start evhn21 (Or.inr ⟨(ow hw 2 rfl), (ow hw 7 rfl)⟩)
  have evhn221 := own_eqInt hn221
  have S_MAP : Sta s s.heap "com/example/uni_frame/uniframe/protocol/TypeCode" "MAP" "I" (.int (9 : Int32)) := Sta.start evhn221 (Or.inr ⟨(ow hw 2 rfl), (ow hw 9 rfl)⟩)
  have evhn222 := own_eqInt hn222
  have S_SET : Sta s s.heap "com/example/uni_frame/uniframe/protocol/TypeCode" "SET" "I" (.int (8 : Int32)) := Sta.start evhn222 (Or.inr ⟨(ow hw 2 rfl), (ow hw 11 rfl)⟩)
  have HW : Wd s  := ⟨S_STRUCT, S_LIST, S_MAP, S_SET⟩
  obtain ⟨n, o, h1, h2, h3, _, L, rfl, ⟨rfl, N⟩, hq⟩ := rm0 l s _ hw tables_1 i0 i1 s.heap s.heap.size (Old.start s) HW p e ha hc hk s m _ below hf ((Spec.applies_iff_loose hf).mp happ).1 ⟨rfl, State.Warmed39.refl s, rfl⟩ trivial
  refine ⟨n, _, h1, h2, h3, hpost _ _ _ _ _ _ ⟨Cond.after_iff.mpr rfl, Cond.after_iff.mpr (eq_i res_at (Term.int_eval (1)) rfl), trivial⟩ ⟨hq.1, hq.2.1, (hq.2.2.sift fun y hy => Or.inr (N y hy)).mono (by decide) (by decide)⟩⟩
theorem main_1_1 : Claimed_1_1 := comes_1 fun _ _ _ _ _ _ h hF => ⟨h.1, hF⟩
theorem main_1_2 : Claimed_1_2 := comes_1 fun _ _ _ _ _ _ h hF => ⟨h.2.1, hF⟩
end Jvm.Pilot.@@N@@
namespace Jvm.Pilot.@@N@@
open Jvm Jvm.ClassFile Sem Op Lib Jvm.Free Jvm.Stand Jvm.Pilot.@@N@@.Jvm.D
/-! MADE BY PROGRAM (witnessworld.py) out of the Statement's table words and the real class files: 9 classes; the members and pool entries that the words name. The judged class is class 1, her method 2. -/
namespace start1
open Jvm.ClassFile
def u (s : String) : CpInfo := .utf8 (stringToUtf16 s)
/-- a pool by its gaps: so many unusable entries, then the entry; so many at the end -/
def gap : Nat → List CpInfo → List CpInfo
  | 0, r => r
  | n + 1, r => .unusable :: gap n r
def poolList (es : List (Nat × CpInfo)) (last : Nat) : List CpInfo := es.foldr (fun e r => gap e.1 (e.2 :: r)) (gap last [])
def pool (es : List (Nat × CpInfo)) (last : Nat) : Array CpInfo := ⟨poolList es last⟩
def fileOf (pool : Array CpInfo) (this : Nat) (attrs : Array Attribute := #[]) (ms : Array MethodInfo := #[]) (fl : Nat := 33) (sup : Nat := 0) (ifs : Array Nat := #[]) (fds : Array FieldInfo := #[]) : ClassFile where
  minorVersion := 0
  majorVersion := 65
  constantPool := pool
  accessFlags := fl
  thisClass := this
  superClass := sup
  interfaces := ifs
  fields := fds
  methods := ms
  attributes := attrs
def plain (name : String) (sup : Option ClassId) : Class where
  name := name
  kind := .ordinary
  loader := none
  accessFlags := 33
  super := sup
  interfaces := #[]
  cf := none
  fields := #[]
  methods := #[]
  instanceTypes := #[]
  staticTypes := #[]
  resolved := #[]
  callSites := []
  init := .initialized
  statics := none
  mirror := none

def pool0 : Array CpInfo := pool [(5, u "<init>"), (0, u "()V"), (1, .class_ 10), (1, u "java/lang/Object")] 113

def k0m0 : Method := { name := "<init>", desc := "()V", sig := { parameters := [], returnType := none }, accessFlags := 1, code := none }
/-- java/lang/Object -/
def k0 : Class := { plain "java/lang/Object" none with
  accessFlags := 33
  interfaces := #[]
  cf := some (fileOf pool0 8 #[] #[{ accessFlags := 1, nameIndex := 5, descriptorIndex := 6, attributes := #[] }] 33 0 #[] #[])
  fields := #[]
  methods := #[k0m0]
  instanceTypes := #[]
  staticTypes := #[]
  resolved := Array.replicate 124 none
  statics := none }

def pool1 : Array CpInfo := pool [(2, .class_ 4), (1, u "java/lang/Object"), (0, u "<init>"), (0, u "()V"), (0, .methodref 8 9), (0, .class_ 10), (0, .nameAndType 11 12), (0, u "com/example/uni_frame/uniframe/protocol/TypeCode"), (0, u "holdsValues"), (0, u "(I)Z"), (0, .methodref 14 15), (0, .class_ 16), (0, .nameAndType 17 12), (0, u "com/example/uni_frame/uniframe/protocol/TypeCodeHoldsValuesPinLaw"), (0, u "expected"), (3, u "law"), (0, u "(II)Z")] 2

def k1m0 : Method := { name := "<init>", desc := "()V", sig := { parameters := [], returnType := none }, accessFlags := 2, code := none }
def k1c1 : Code := { maxStack := 2, maxLocals := 1, code := method_2_code, exceptionTable := #[], attributes := #[] }
def k1m1 : Method := { name := "expected", desc := "(I)Z", sig := { parameters := [.int], returnType := some .boolean }, accessFlags := 10, code := some k1c1 }
def k1c2 : Code := { maxStack := 2, maxLocals := 5, code := code, exceptionTable := #[], attributes := #[] }
def k1m2 : Method := { name := "law", desc := "(II)Z", sig := { parameters := [.int, .int], returnType := some .boolean }, accessFlags := 9, code := some k1c2 }
/-- com/example/uni_frame/uniframe/protocol/TypeCodeHoldsValuesPinLaw -/
def k1 : Class := { plain "com/example/uni_frame/uniframe/protocol/TypeCodeHoldsValuesPinLaw" (some 0) with
  accessFlags := 49
  interfaces := #[]
  cf := some (fileOf pool1 14 #[] #[{ accessFlags := 2, nameIndex := 5, descriptorIndex := 6, attributes := #[] }, { accessFlags := 10, nameIndex := 17, descriptorIndex := 12, attributes := #[] }, { accessFlags := 9, nameIndex := 21, descriptorIndex := 22, attributes := #[] }] 49 2 #[] #[])
  fields := #[]
  methods := #[k1m0, k1m1, k1m2]
  instanceTypes := #[]
  staticTypes := #[]
  resolved := Array.replicate 25 none
  statics := none }

def pool2 : Array CpInfo := pool [(2, .class_ 4), (1, u "java/lang/Object"), (0, u "<init>"), (0, u "()V"), (0, .class_ 8), (0, u "com/example/uni_frame/uniframe/protocol/TypeCode"), (2, u "TYPES"), (0, u "[Lcom/example/uni_frame/uniframe/protocol/ValueType;"), (0, .fieldref 7 14), (0, .nameAndType 15 16), (0, u "STRUCT"), (0, u "I"), (0, .fieldref 7 18), (0, .nameAndType 19 16), (0, u "LIST"), (0, .fieldref 7 21), (0, .nameAndType 22 16), (0, u "MAP"), (0, .fieldref 7 24), (0, .nameAndType 25 16), (0, u "SET"), (4, u "BOOL"), (9, u "I8"), (4, u "I16"), (4, u "I32"), (4, u "I64"), (4, u "DOUBLE"), (4, u "BINARY"), (12, u "UUID"), (8, u "COUNT"), (0, u "NONE"), (7, u "holdsValues"), (0, u "(I)Z")] 3

def k2m0 : Method := { name := "<init>", desc := "()V", sig := { parameters := [], returnType := none }, accessFlags := 2, code := none }
def k2c1 : Code := { maxStack := 2, maxLocals := 1, code := prog_17_method_3_code, exceptionTable := #[], attributes := #[] }
def k2m1 : Method := { name := "holdsValues", desc := "(I)Z", sig := { parameters := [.int], returnType := some .boolean }, accessFlags := 8, code := some k2c1 }
/-- com/example/uni_frame/uniframe/protocol/TypeCode -/
def k2 : Class := { plain "com/example/uni_frame/uniframe/protocol/TypeCode" (some 0) with
  accessFlags := 48
  interfaces := #[]
  cf := some (fileOf pool2 7 #[] #[{ accessFlags := 2, nameIndex := 5, descriptorIndex := 6, attributes := #[] }, { accessFlags := 8, nameIndex := 96, descriptorIndex := 97, attributes := #[] }] 48 2 #[] #[{ accessFlags := 24, nameIndex := 88, descriptorIndex := 16, attributes := #[] }, { accessFlags := 24, nameIndex := 30, descriptorIndex := 16, attributes := #[] }, { accessFlags := 24, nameIndex := 40, descriptorIndex := 16, attributes := #[] }, { accessFlags := 24, nameIndex := 45, descriptorIndex := 16, attributes := #[] }, { accessFlags := 24, nameIndex := 50, descriptorIndex := 16, attributes := #[] }, { accessFlags := 24, nameIndex := 55, descriptorIndex := 16, attributes := #[] }, { accessFlags := 24, nameIndex := 60, descriptorIndex := 16, attributes := #[] }, { accessFlags := 24, nameIndex := 65, descriptorIndex := 16, attributes := #[] }, { accessFlags := 24, nameIndex := 19, descriptorIndex := 16, attributes := #[] }, { accessFlags := 24, nameIndex := 25, descriptorIndex := 16, attributes := #[] }, { accessFlags := 24, nameIndex := 22, descriptorIndex := 16, attributes := #[] }, { accessFlags := 24, nameIndex := 15, descriptorIndex := 16, attributes := #[] }, { accessFlags := 24, nameIndex := 78, descriptorIndex := 16, attributes := #[] }, { accessFlags := 24, nameIndex := 87, descriptorIndex := 16, attributes := #[] }, { accessFlags := 26, nameIndex := 11, descriptorIndex := 12, attributes := #[] }])
  fields := #[{ name := "NONE", type := .int, accessFlags := 24, slot := 0, constantValue := 0 }, { name := "BOOL", type := .int, accessFlags := 24, slot := 1, constantValue := 0 }, { name := "I8", type := .int, accessFlags := 24, slot := 2, constantValue := 0 }, { name := "I16", type := .int, accessFlags := 24, slot := 3, constantValue := 0 }, { name := "I32", type := .int, accessFlags := 24, slot := 4, constantValue := 0 }, { name := "I64", type := .int, accessFlags := 24, slot := 5, constantValue := 0 }, { name := "DOUBLE", type := .int, accessFlags := 24, slot := 6, constantValue := 0 }, { name := "BINARY", type := .int, accessFlags := 24, slot := 7, constantValue := 0 }, { name := "LIST", type := .int, accessFlags := 24, slot := 8, constantValue := 0 }, { name := "SET", type := .int, accessFlags := 24, slot := 9, constantValue := 0 }, { name := "MAP", type := .int, accessFlags := 24, slot := 10, constantValue := 0 }, { name := "STRUCT", type := .int, accessFlags := 24, slot := 11, constantValue := 0 }, { name := "UUID", type := .int, accessFlags := 24, slot := 12, constantValue := 0 }, { name := "COUNT", type := .int, accessFlags := 24, slot := 13, constantValue := 0 }, { name := "TYPES", type := (.array (.object "com/example/uni_frame/uniframe/protocol/ValueType")), accessFlags := 26, slot := 14, constantValue := 0 }]
  methods := #[k2m0, k2m1]
  instanceTypes := #[]
  staticTypes := #[.int, .int, .int, .int, .int, .int, .int, .int, .int, .int, .int, .int, .int, .int, (.array (.object "com/example/uni_frame/uniframe/protocol/ValueType"))]
  resolved := Array.replicate 101 none
  statics := some 0 }

def pool3 : Array CpInfo := pool [(1, u "java/lang/Cloneable"), (0, .class_ 1), (0, u "java/lang/Object"), (0, .class_ 3)] 3

/-- java/lang/Cloneable -/
def k3 : Class := { plain "java/lang/Cloneable" (some 0) with
  accessFlags := 1537
  interfaces := #[]
  cf := some (fileOf pool3 2 #[] #[] 1537 4 #[] #[])
  fields := #[]
  methods := #[]
  instanceTypes := #[]
  staticTypes := #[]
  resolved := Array.replicate 8 none
  statics := none }

def pool4 : Array CpInfo := pool [(1, u "java/io/Serializable"), (0, .class_ 1), (0, u "java/lang/Object"), (0, .class_ 3)] 3

/-- java/io/Serializable -/
def k4 : Class := { plain "java/io/Serializable" (some 0) with
  accessFlags := 1537
  interfaces := #[]
  cf := some (fileOf pool4 2 #[] #[] 1537 4 #[] #[])
  fields := #[]
  methods := #[]
  instanceTypes := #[]
  staticTypes := #[]
  resolved := Array.replicate 8 none
  statics := none }

/-- the primitive byte -/
def k5 : Class := { plain "byte" none with kind := .primitive 'B', accessFlags := 0x411 }
/-- [B -/
def k6 : Class := { plain "[B" (some 0) with kind := .array 5 .byte, interfaces := #[3, 4], accessFlags := 1041 }

/-- the primitive int -/
def k7 : Class := { plain "int" none with kind := .primitive 'I', accessFlags := 0x411 }
/-- [I -/
def k8 : Class := { plain "[I" (some 0) with kind := .array 7 .int, interfaces := #[3, 4], accessFlags := 1041 }

def heap : Heap := #[{ cls := 2, slots := #[.int 0, .int 0, .int 0, .int 0, .int 0, .int 0, .int 0, .int 0, .int 7, .int 8, .int 9, .int 10, .int 0, .int 0, .null], vm := .statics 2 }]
def classes : Array Class := #[k0, k1, k2, k3, k4, k5, k6, k7, k8]
def interned : List (Array UInt16 × Addr) := []
def slotsUsed : Nat := 15
def theMethod : MethodId := ⟨1, 2⟩
def args0 : Array Value := #[.int 5, .int 5]
def aboutOver (below : List Frame) : State where
  vm := { classes := classes, interned := interned.toArray }
  heap := heap
  slotsUsed := slotsUsed
  threads := #[{ frames := .invoking theMethod args0 :: below }]
def below0 : List Frame := [.native { method := ⟨0, 0⟩, args := #[] }]
def about1 : State := aboutOver below0
def p0 : Program := .bare "" "" ""
def e0 : Env := launch0.env 0 0 0
theorem w_frames : about1.frames = Frame.invoking theMethod args0 :: below0 := rfl
set_option maxRecDepth 65536 in
theorem w_args : argsFit about1.vm theMethod args0 = true := by decide +kernel
set_option maxRecDepth 65536 in
theorem w_heap : heapFits about1 = true := by decide +kernel
set_option maxRecDepth 65536 in
theorem w_runnable : about1.curStatus? = some .runnable := by decide +kernel
set_option maxRecDepth 65536 in
theorem w_alone : about1.alone = true := by decide +kernel
set_option maxRecDepth 65536 in
theorem w_named : about1.methodNamed? x = some theMethod := by decide +kernel
set_option maxRecDepth 65536 in
theorem w_hears : about1.hears theMethod below0 = true := by decide +kernel
set_option maxRecDepth 65536 in
theorem w_ripe : about1.ripe theMethod args0 below0 = true := by decide +kernel
theorem w_running : about1.status = .running := rfl
set_option maxRecDepth 65536 in
theorem w_room : about1.hasRoom e0.platform room_1 = true :=
  launch0.hasRoom_least _ room_1 (by decide +kernel) (by decide +kernel) (by decide +kernel) (by decide +kernel) (by decide +kernel) (by decide +kernel)
theorem allAtoms_all (ts : List Jvm.Cond) (a : Array Jvm.Value) (st : Jvm.State) : (allAtoms ts).before a st = ts.all (fun c => c.before a st) := by
  induction ts with
  | nil => rfl
  | cons c t ih =>
    show (Jvm.Cond.and c (allAtoms t)).before a st = _
    rw [Jvm.Cond.before_and, ih, List.all_cons]
def words1 : List Jvm.Cond := Jvm.Cond.code x code maxLocals ret :: tables_1
/-- a 'code' word, met by the world's own term for the bytes: nothing is compared byte by byte -/
theorem code_word {y : MethodName} {bytes : ByteArray} {mx : Nat} {rt : Option FieldType} {a : Array Value} {s : State} {m : MethodId} {meth : Method} {c : Code} (h1 : s.methodNamed? y = some m) (h2 : s.vm.method? m = some meth) (h3 : meth.code = some c) (h4 : c.code = bytes)
    (h5 : (c.maxLocals == mx && c.exceptionTable.isEmpty && decide (c.maxStack ≤ mostOperands) && decide (meth.sig.returnType = rt) && !meth.locks && decide (parseMethodDescriptor y.desc = some meth.sig)) = true) : (Jvm.Cond.code y bytes mx rt).before a s = true := by
  simp only [Bool.and_eq_true, beq_iff_eq, Bool.not_eq_true', decide_eq_true_eq] at h5
  obtain ⟨⟨⟨⟨⟨g1, g2⟩, g3⟩, g4⟩, g5⟩, g6⟩ := h5
  simp [Cond.before, Cond.holds, Cond.value, h1, h2, h3, h4, g1, g2, g3, g4, g5, g6]
def isCode : Jvm.Cond → Bool
  | .code _ _ _ _ => true
  | _ => false
theorem all_split {L : List Jvm.Cond} {P : Jvm.Cond → Bool} (h1 : L.all (fun c => isCode c || P c) = true) (h2 : ∀ c ∈ L.filter isCode, P c = true) : L.all P = true := by
  refine List.all_eq_true.mpr fun c hc => ?_
  have h := List.all_eq_true.mp h1 c hc
  rcases Bool.eq_false_or_eq_true (isCode c) with hi | hi
  · exact h2 c (List.mem_filter.mpr ⟨hc, hi⟩)
  · simpa [hi] using h
set_option maxRecDepth 65536 in
theorem w_c0 : (Jvm.Cond.code x code maxLocals ret).before args0 about1 = true := code_word (m := ⟨1, 2⟩) (meth := k1m2) (c := k1c2) (by decide +kernel) rfl rfl rfl (by decide +kernel)
set_option maxRecDepth 65536 in
theorem w_c1 : (Jvm.Cond.code ({ cls := "com/example/uni_frame/uniframe/protocol/TypeCode", name := "holdsValues", desc := "(I)Z" } : Jvm.MethodName) prog_17_method_3_code (1 : Nat) (Option.some Jvm.ClassFile.FieldType.boolean)).before args0 about1 = true := code_word (m := ⟨2, 1⟩) (meth := k2m1) (c := k2c1) (by decide +kernel) rfl rfl rfl (by decide +kernel)
set_option maxRecDepth 65536 in
theorem w_c2 : (Jvm.Cond.code ({ cls := "com/example/uni_frame/uniframe/protocol/TypeCodeHoldsValuesPinLaw", name := "expected", desc := "(I)Z" } : Jvm.MethodName) method_2_code (1 : Nat) (Option.some Jvm.ClassFile.FieldType.boolean)).before args0 about1 = true := code_word (m := ⟨1, 1⟩) (meth := k1m1) (c := k1c1) (by decide +kernel) rfl rfl rfl (by decide +kernel)
def codes1 : List Jvm.Cond := [Jvm.Cond.code x code maxLocals ret, Jvm.Cond.code ({ cls := "com/example/uni_frame/uniframe/protocol/TypeCode", name := "holdsValues", desc := "(I)Z" } : Jvm.MethodName) prog_17_method_3_code (1 : Nat) (Option.some Jvm.ClassFile.FieldType.boolean), Jvm.Cond.code ({ cls := "com/example/uni_frame/uniframe/protocol/TypeCodeHoldsValuesPinLaw", name := "expected", desc := "(I)Z" } : Jvm.MethodName) method_2_code (1 : Nat) (Option.some Jvm.ClassFile.FieldType.boolean)]
set_option maxRecDepth 65536 in
theorem codes_eq : words1.filter isCode = codes1 := rfl
theorem w_codes : ∀ c ∈ words1.filter isCode, c.before args0 about1 = true := by
  rw [codes_eq]
  intro c hc
  simp only [codes1, List.mem_cons, List.not_mem_nil, or_false] at hc
  rcases hc with rfl | rfl | rfl
  · exact w_c0
  · exact w_c1
  · exact w_c2
set_option maxRecDepth 65536 in
theorem w_t1 : words1.all (fun c => isCode c || c.before args0 about1) = true := by decide +kernel
theorem w_tables : (allAtoms (Jvm.Cond.code x code maxLocals ret :: tables_1)).before args0 about1 = true := by
  rw [allAtoms_all]
  show words1.all (fun c => c.before args0 about1) = true
  refine all_split ?_ w_codes
  rw [w_t1]
set_option maxRecDepth 65536 in
theorem w_case : (Jvm.Cond.and given_1 narrow_1).before args0 about1 = true := by decide +kernel
theorem w_applies : (headSpec (Jvm.Cond.code x code maxLocals ret :: tables_1) room_1).applies x e0.platform about1 = true :=
  (Spec.applies_iff w_frames).mpr ⟨w_running, w_runnable, w_alone, w_named, w_hears, w_ripe, w_room, w_tables⟩
theorem atStart : AtStart classFile x code maxLocals ret World_1 tables_1 room_1 Calls_1 rest_1 Pre_1 launch0 p0 e0 about1 theMethod args0 below0 :=
  ⟨lists_1, trivial, launch0.admits_env _ _ _, launch0.least_env, fairChoices_fair.cas, fairChoices_fair.clock, w_frames, w_args, w_heap, w_applies, trivial, trivial, w_case⟩
end start1
theorem witness_1 : WitnessClaimed_1 := ⟨start1.p0, start1.e0, start1.about1, start1.theMethod, start1.args0, start1.below0, start1.atStart⟩
end Jvm.Pilot.@@N@@
