import JvmDerived
import JvmDerived.Pilot.@@N@@Statement
import JvmDerived.Pilot.@@N@@Code
set_option linter.unusedVariables false
set_option linter.unusedSimpArgs false
namespace Jvm.Pilot.@@N@@
open Jvm Jvm.ClassFile Sem Op Lib Jvm.Free Jvm.Stand Jvm.LawKit Jvm.RoadKit Bundle Jvm.Pilot.@@N@@.Jvm.D
abbrev y1 : MethodName := ⟨"com/example/lease/lease/Sessions", "<init>", "(I)V"⟩
abbrev y2 : MethodName := ⟨"java/lang/Object", "<init>", "()V"⟩
abbrev y3 : MethodName := ⟨"com/example/lease/lease/Sessions", "lockWaits", "()I"⟩
abbrev y4 : MethodName := ⟨"java/lang/Math", "max", "(II)I"⟩

abbrev jv (x : Int64) : Slot := .val (.long x)
abbrev un : Slot := .unset
abbrev se : Slot := .second
abbrev AT (p : Program) (e : Env) (below : List Frame) (T : State) (m : MethodId) (pc : Nat) (ls : Array Slot) (st : List Value) (tg : State) : Prop := Steps p.tables e below (T.setTop (mkF m pc ls st)) tg
theorem ow {Z : State} {a0 : Array Value} (hw : ∀ d ∈ tables_1, d.before a0 Z = true) (i : Nat) {d : Jvm.Cond} (h : tables_1[i]? = some d) : d.before a0 Z = true := hw _ (List.mem_of_getElem? h)
theorem own_lrem {p : Program} {l : Launch} {e : Env} {R : Room} {s : State} {m : MethodId} {args : Array Value} {below : List Frame} {meth : Method} {c : Code} {T : State} {locs : List Loc} {cells slots : Nat} {g : JFrame} {target : State} (X : Stand p l e R s m args below meth c T locs cells slots) (hx : p.tables.exec = Jvm.exec) (hg : g.method = m) {x y : Int64} {rest : List Value} (hd : decode c.code g.pc = .ok (.lrem, 1)) (hs : g.stack = .long y :: .long x :: rest) (hy : y ≠ 0)
    (hr : Steps p.tables e below (T.setTop { g with pc := g.pc + 1, stack := .long (x % y) :: rest }) target) : Steps p.tables e below (T.setTop g) target :=
  XS.lrem X.here hx hg hd hs hy (by rw [lrem_mod]; exact hr)
theorem own_eqInt {args : Array Value} {first s : State} {o : Option Outcome} {idx : List Nat} {t : Term} {n : Int32} (h : (Jvm.Cond.eq t (.int n)).value args first o s idx = some true) : t.eval args first o idx s = some (.int n) := by
  simp only [Cond.value, Term.eval] at h
  cases ht : t.eval args first o idx s with
  | none => simp [ht] at h
  | some v => cases v <;> simp [ht] at h ⊢; exact h
theorem own_eqLong {args : Array Value} {first s : State} {o : Option Outcome} {idx : List Nat} {t : Term} {n : Int64} (h : (Jvm.Cond.eq t (.long n)).value args first o s idx = some true) : t.eval args first o idx s = some (.long n) := by
  simp only [Cond.value, Term.eval] at h
  cases ht : t.eval args first o idx s with
  | none => simp [ht] at h
  | some v => cases v <;> simp [ht] at h ⊢; exact h
theorem own_eqRef {args : Array Value} {first s : State} {o : Option Outcome} {idx : List Nat} {t u : Term} {a : Addr} (hu : u.eval args first o idx s = some (.ref a)) (h : (Jvm.Cond.eq t u).value args first o s idx = some true) : t.eval args first o idx s = some (.ref a) := by
  simp only [Cond.value, hu] at h
  cases ht : t.eval args first o idx s with
  | none => simp [ht] at h
  | some v => cases v <;> simp [ht] at h ⊢; exact h

theorem own_x32 {a b : Int} (h : (a - b) % 4294967296 = 0) (r : -2147483648 ≤ a ∧ a ≤ 2147483647) (q : -2147483648 ≤ b ∧ b ≤ 2147483647) : a = b := by omega
theorem own_x64 {a b : Int} (h : (a - b) % 18446744073709551616 = 0) (r : -9223372036854775808 ≤ a ∧ a ≤ 9223372036854775807) (q : -9223372036854775808 ≤ b ∧ b ≤ 9223372036854775807) : a = b := by omega
theorem own_in {c : Cell} {n : Int32} (j : Int32) (S : c.slots.size = n.toNatClampNeg) (q : ¬ j < 0 ∧ j < n) : ¬ (j < 0 ∨ c.slots.size ≤ j.toNatClampNeg) := inb_of S q
theorem own_up {x a b : Int32} (h : x < a) (q : a.toInt ≤ b.toInt) : x < b := Int32.lt_iff_toInt_lt.mpr (Int.lt_of_lt_of_le (Int32.lt_iff_toInt_lt.mp h) q)
theorem own_dn {x a b : Int32} (h : ¬ x < a) (q : b.toInt ≤ a.toInt) : ¬ x < b := fun z => h (own_up z q)
theorem own_neInt {args : Array Value} {first s : State} {o : Option Outcome} {idx : List Nat} {t : Term} {x n : Int32} (ht : t.eval args first o idx s = some (.int x)) (h : (Jvm.Cond.not (Jvm.Cond.eq t (.int n))).value args first o s idx = some true) : ¬ x = n := by
  simpa [Cond.value, Term.eval, ht] using h

theorem own_len {Z : State} {args : Array Value} {t : Term} {a : Addr} {cl : Cell} {ty : FieldType} {n : Int32} (ev : t.eval args Z none [] Z = some (.ref a)) (A : Arr Z Z.heap a cl ty) (h : (Term.length t).eval args Z none [] Z = some (.int n)) : cl.slots.size < 2 ^ 31 ∧ cl.slots.size.toInt32 = n := by
  have q := A.fin (U := Z) (Vm.Alike.refl _)
  simp only [Term.eval, ev, q, Option.bind_eq_bind, Option.bind_some, Option.pure_def] at h
  split at h
  · rename_i hlt; exact ⟨hlt, by simpa using h⟩
  · simp at h

theorem own_nar {v : Value} {c : String} (h : v.isRef = true) : narrow (.object c) v = v := by cases v <;> first | rfl | simp [Value.isRef] at h
theorem own_fits {v : Value} {c : String} (h : v.isRef = true) : fits (.object c) v = true := by cases v <;> first | rfl | simp [Value.isRef] at h
theorem own_cat {v : Value} (h : v.isRef = true) : v.category = 1 := by cases v <;> first | rfl | simp [Value.isRef] at h

theorem own_notOf {Z : State} {a0 : Array Value} {C S K : String} {n : Nat} (w : (Jvm.Cond.superclass C S).before a0 Z = true) (w0 : (Jvm.Cond.noSuperclass S).before a0 Z = true) (wk : (Jvm.Cond.instantiable K n).before a0 Z = true) (h1 : C ≠ K) (h2 : S ≠ K) :
    ∃ c t, Z.vm.findClass C = some c ∧ Z.vm.findClass K = some t ∧ Z.vm.assignable c t = false := by
  obtain ⟨t, k', g0, g2, g5, g7, -⟩ := Cond.instantiable_spec wk
  obtain ⟨c, h0⟩ := found_sup w
  obtain ⟨p, k, kp, q1, q2, q3, q4, q5, q6, q7⟩ := Cond.superclass_spec h0 w
  obtain ⟨c0, k0, r1, r2, r3, -, -⟩ := Cond.noSuperclass_spec w0
  cases q1.symm.trans r1
  have ne1 := ids_ne h0 g0 h1
  have ne2 := ids_ne r1 g0 h2
  have g8 := (Bool.or_eq_false_iff.mp g7).1
  have n3 : ∀ fuel, Z.vm.isSubclassAux fuel c t = false := by
    intro fuel
    cases fuel with
    | zero => rfl
    | succ f =>
      cases f with
      | zero => simp [Vm.isSubclassAux, ne1, q2, q4]
      | succ g => simp [Vm.isSubclassAux, ne1, ne2, q2, q4, r2, r3]
  refine ⟨c, t, h0, g0, ?_⟩
  show Z.vm.assignableAux (255 + 1) c t = false
  simp [Vm.assignableAux, ne1, q2, g2, q5, g5, g8, Vm.isSubclass, n3]

theorem own_selP {Z s : State} {a0 args : Array Value} {y : MethodName} {n : Nat} (hZ : Z.Warmed39 s.vm) (wi : (Jvm.Cond.instantiable y.cls n).before a0 Z = true) (wp : (Jvm.Cond.privateMethod y).before a0 Z = true) (wm : (Jvm.Cond.instanceMethod y).before a0 Z = true) (hy : y.cls ≠ "java/lang/invoke/MethodHandle" ∧ y.cls ≠ "java/lang/invoke/VarHandle") : (Jvm.Cond.selects y.cls y y).before args s = true := by
  obtain ⟨c, k, hc, hk, -, hni, -⟩ := Cond.instantiable_spec (mvT (s := s) (args := args) hZ wi)
  exact selects_self_of_private hc hk (Bool.or_eq_false_iff.mp hni).1 (Cond.privateMethod_at (mvP hZ wp (args := #[]))) (mvT hZ wm) hy

theorem own_neS {Z : State} {h : Heap} {a b u w : Addr} {C f d : String} {k k' : ClassId} {ty : FieldType} {z z' : Int32} {vs vs' : List Value} {dv dv' : Value} (Fa : Fld Z h a C f d (.ref u)) (Va : Arv Z h u k ty z vs dv) (Fb : Fld Z h b C f d (.ref w)) (Vb : Arv Z h w k' ty z' vs' dv') (hn : z ≠ z' ∨ ∃ i : Nat, i < z.toNatClampNeg ∧ vs.getD i dv ≠ vs'.getD i dv') : a ≠ b := fun e => by
  subst e
  have hu : u = w := by
    rcases Decidable.em (u = w) with q | q
    · exact q
    · exact absurd rfl (Fld.ne Fa Fb (fun x => q (Value.ref.inj x)))
  subst hu
  obtain ⟨c1, A1, -, S1, N1, H1, -⟩ := Va
  obtain ⟨c2, A2, -, S2, N2, H2, -⟩ := Vb
  cases A1.1.symm.trans A2.1
  rcases hn with hn | ⟨i, hi, hn⟩
  · exact hn ((len_of S1 N1).symm.trans (len_of S2 N2))
  · have q1 := H1 i (by rw [S1]; exact hi)
    have q2 := H2 i (by rw [S1]; exact hi)
    exact hn (Option.some.inj (q1.symm.trans q2))
theorem pn_0 : plainName "com/example/lease/lease/Sessions" = true := by first | (simp [plainName, overriddenIn]; done) | decide +kernel
theorem pn_1 : plainName "com/example/lease/lease/SessionsLockWaitsPinLaw" = true := by first | (simp [plainName, overriddenIn]; done) | decide +kernel
theorem pd_0 : parseMethodDescriptor "(II)I" = some ⟨[.int, .int], some .int⟩ := by decide +kernel
theorem pd_1 : parseMethodDescriptor "(I)V" = some ⟨[.int], none⟩ := by decide +kernel
theorem pd_2 : parseMethodDescriptor "()I" = some ⟨[], some .int⟩ := by decide +kernel
theorem d1_0 : decode prog_8_method_1_code 0 = .ok (.aload_n 0, 1) := by decide +kernel
theorem d1_1 : decode prog_8_method_1_code 1 = .ok (.invokespecial 1, 3) := by decide +kernel
theorem d1_4 : decode prog_8_method_1_code 4 = .ok (.iload_n 1, 1) := by decide +kernel
theorem d1_5 : decode prog_8_method_1_code 5 = .ok (.iconst 5, 1) := by decide +kernel
theorem d1_6 : decode prog_8_method_1_code 6 = .ok (.if_icmp .lt 10, 3) := by decide +kernel
theorem d1_9 : decode prog_8_method_1_code 9 = .ok (.iload_n 1, 1) := by decide +kernel
theorem d1_10 : decode prog_8_method_1_code 10 = .ok (.sipush 1000, 3) := by decide +kernel
theorem d1_13 : decode prog_8_method_1_code 13 = .ok (.if_icmp .le 17, 3) := by decide +kernel
theorem d1_30 : decode prog_8_method_1_code 30 = .ok (.aload_n 0, 1) := by decide +kernel
theorem d1_31 : decode prog_8_method_1_code 31 = .ok (.iload_n 1, 1) := by decide +kernel
theorem d1_32 : decode prog_8_method_1_code 32 = .ok (.putfield 18, 3) := by decide +kernel
theorem d1_35 : decode prog_8_method_1_code 35 = .ok (.return_, 1) := by decide +kernel
theorem ef_1 (m : MethodId) (a0 : Addr) (p1 : Int32) : entryFrame m #[(.ref a0), (.int p1)] 2 = mkF m 0 #[rv a0, iv p1] [] := by first | (simp [entryFrame, mkF, argsToLocals, Value.category]; done) | rfl
def Q1 (Z : State) (a0 : Addr) (p1 : Int32) (h0 : Heap) (n0 : Nat) (v : Option Value) (h : Heap) (L : List Loc) : Prop := v = none ∧ Fr n0 L ∧ Keep h0 h [a0] ∧ Exa Z h a0 "com/example/lease/lease/Sessions" ∧ Fld Z h a0 "com/example/lease/lease/Sessions" "total" "I" (.int p1)
set_option maxRecDepth 65536 in
set_option maxHeartbeats 40000000 in
theorem rm1 (l : Launch) (Z : State) (ar : Array Value) (hw : ∀ d ∈ tables_1, d.before ar Z = true) (ws : List Jvm.Cond) (a0 : Addr) (p1 : Int32) (h0 : Heap) (n0 : Nat) (O0 : Old Z n0 h0) (pf0 : Exa Z h0 a0 "com/example/lease/lease/Sessions") (pf1 : Fld Z h0 a0 "com/example/lease/lease/Sessions" "total" "I" (.int (0 : Int32))) (pf2 : n0 ≤ a0) (hlo : ¬ p1 < (5 : Int32)) (hhi : ¬ (1000 : Int32) < p1) :
    MetFree l y1 (head1 (Jvm.Cond.code y1 prog_8_method_1_code 2 none :: ws) ({ frames := 1, cells := 0, slots := 0, locals := 12 } : Room)) (fun a U => a = #[(.ref a0), (.int p1)] ∧ Z.Warmed39 U.vm ∧ U.heap = h0) (fun _ _ _ _ _ => True) (fun _ U o U' => ∃ v L, o = .returned v ∧ Q1 Z a0 p1 h0 n0 v U'.heap L ∧ FrameEnd U o U' L ({ frames := 1, cells := 0, slots := 0, locals := 12 } : Room).cells ({ frames := 1, cells := 0, slots := 0, locals := 12 } : Room).slots) := by
 refine MetFree.of_bodySF (plainFor_of_name pn_0) hisR ?_
 intro p e s m args below meth c s₁ Bd hml0 hP hK
 obtain ⟨rfl, hZ, hh⟩ := hP
 have hx := Bd.exec
 have hby := Bd.bytes
 have hml : c.maxLocals = 2 := hml0
 have hown : s.vm.findClass "com/example/lease/lease/Sessions" = some m.cls := findClass_of_methodNamed Bd.named
 have hnm := (name_of_methodNamed Bd.named Bd.method).1
 have X0 : Stand p l e ({ frames := 1, cells := 0, slots := 0, locals := 12 } : Room) s m #[(.ref a0), (.int p1)] below meth c s₁ [] 0 0 := Stand.of_body Bd
 have e0 : s₁.heap = h0 := by rw [← hh, Bd.state]; rfl
 have N0 := Fr.nil n0
 have Z0 : n0 ≤ h0.size := Nat.le_trans (Nat.le_of_eq O0.1.symm) O0.2.1
 obtain ⟨S0, hS0⟩ : ∃ z, z = s₁.setTop (entryFrame m #[(.ref a0), (.int p1)] 2) := ⟨_, rfl⟩
 have pre0 : ∀ tg, AT p e below s₁ m 0 #[rv a0, iv p1] [] tg → Steps p.tables e below S0 tg := fun tg kg => by rw [hS0]; exact castTop (ef_1 m a0 p1) kg
 obtain ⟨T1, X1, e1, st1⟩ := initO X0 hx hZ hown (ow hw 7 rfl) (ow hw 8 rfl) (ow hw 9 rfl) e0 (g := (mkF m 1 #[rv a0, iv p1] [(.ref a0)])) rfl (by rw [hml]; rfl) rfl (hb hby d1_1) (by decide) (W := 0) (by show 2 * 0 + _ ≤ _; exact Nat.le_of_eq rfl) (by decide)
 obtain ⟨T2, h2, X2, e2, W2, st2⟩ := putF X1 hx hZ hown (host := "") (Or.inl (ow hw 10 rfl)) Via.refl e1 pf1 pf0 (Or.inr ⟨(ow hw 11 rfl), rfl, hnm⟩) (ow hw 2 rfl) (ty := .int) (by decide) rfl rfl (g := (mkF m 32 #[rv a0, iv p1] [(.int p1), (.ref a0)])) rfl rfl (hb hby d1_32)
 have E2_3 := pf0.wr W2
 have F2_4 : Fld Z h2 a0 "com/example/lease/lease/Sessions" "total" "I" (.int p1) := pf1.same W2
 have K2 := (Keep.refl h0 [a0]).wr W2 (Or.inl (List.mem_of_getElem? (i := 0) rfl))
 have O2 := O0.wr W2 pf2
 have N2 := Fr.snoc X2 N0 pf2
 obtain ⟨fs, hr, hrun, hended, hW, hsame⟩ := X2.leave (v := none) (fun _ => rfl)
 subst hS0
 refine ⟨_, _, pre0 _ ?_, hrun, hended, _, _, rfl, ?_, ⟨_, rfl⟩, hW, hsame.mono (by decide) (by decide)⟩
 ·
  refine XS.aloadN X0.here hx rfl (hb hby d1_0) rfl rfl ?_
  show AT p e below s₁ m 1 #[rv a0, iv p1] [(.ref a0)] _
  refine st1 _ ?_
  show AT p e below T1 m 4 #[rv a0, iv p1] [] _
  refine XS.iloadN X1.here hx rfl (hb hby d1_4) rfl ?_
  show AT p e below T1 m 5 #[rv a0, iv p1] [(.int p1)] _
  refine XS.iconst X1.here hx rfl (hb hby d1_5) ?_
  show AT p e below T1 m 6 #[rv a0, iv p1] [(.int (5 : Int32)), (.int p1)] _
  refine XS.icmpNo X1.here hx rfl (hb hby d1_6) rfl (XT.ii_lt_f (hlo : ¬ (p1 < (5 : Int32)))) ?_
  show AT p e below T1 m 9 #[rv a0, iv p1] [] _
  refine XS.iloadN X1.here hx rfl (hb hby d1_9) rfl ?_
  show AT p e below T1 m 10 #[rv a0, iv p1] [(.int p1)] _
  refine XS.sipush X1.here hx rfl (hb hby d1_10) ?_
  show AT p e below T1 m 13 #[rv a0, iv p1] [(.int (1000 : Int32)), (.int p1)] _
  refine XS.icmpYes X1.here hx rfl (pc0 := 13) (pc' := 30) rfl (hb hby d1_13) rfl (XT.ii_le_t (hhi : ¬ ((1000 : Int32) < p1))) (by decide) (by decide) ?_
  show AT p e below T1 m 30 #[rv a0, iv p1] [] _
  refine XS.aloadN X1.here hx rfl (hb hby d1_30) rfl rfl ?_
  show AT p e below T1 m 31 #[rv a0, iv p1] [(.ref a0)] _
  refine XS.iloadN X1.here hx rfl (hb hby d1_31) rfl ?_
  show AT p e below T1 m 32 #[rv a0, iv p1] [(.int p1), (.ref a0)] _
  refine st2 _ ?_
  show AT p e below T2 m 35 #[rv a0, iv p1] [] _
  exact X2.returnOut hx Bd.returns (hb hby d1_35) hr
 ·
  show Q1 Z a0 p1 h0 n0 _ T2.heap _
  rw [e2]
  exact ⟨rfl, N2, K2, E2_3, F2_4⟩

theorem d4_0 : decode jdk_29_method_65_code 0 = .ok (.iload_n 0, 1) := by decide +kernel
theorem d4_1 : decode jdk_29_method_65_code 1 = .ok (.iload_n 1, 1) := by decide +kernel
theorem d4_2 : decode jdk_29_method_65_code 2 = .ok (.if_icmp .lt 7, 3) := by decide +kernel
theorem d4_5 : decode jdk_29_method_65_code 5 = .ok (.iload_n 0, 1) := by decide +kernel
theorem d4_6 : decode jdk_29_method_65_code 6 = .ok (.goto 4, 3) := by decide +kernel
theorem d4_9 : decode jdk_29_method_65_code 9 = .ok (.iload_n 1, 1) := by decide +kernel
theorem d4_10 : decode jdk_29_method_65_code 10 = .ok (.ireturn, 1) := by decide +kernel
theorem ef_4 (m : MethodId) (p0 : Int32) (p1 : Int32) : entryFrame m #[(.int p0), (.int p1)] 2 = mkF m 0 #[iv p0, iv p1] [] := by first | (simp [entryFrame, mkF, argsToLocals, Value.category]; done) | rfl
def f4 (p0 : Int32) (p1 : Int32) : Int32 := if p0 < p1 then p1 else p0
def Q4 (Z : State) (p0 : Int32) (p1 : Int32) (h0 : Heap) (n0 : Nat) (v : Option Value) (h : Heap) (L : List Loc) : Prop := v = some (.int (f4 p0 p1)) ∧ Fr n0 L ∧ h = h0
set_option maxRecDepth 65536 in
set_option maxHeartbeats 40000000 in
theorem rm4 (l : Launch) (Z : State) (ar : Array Value) (hw : ∀ d ∈ tables_1, d.before ar Z = true) (ws : List Jvm.Cond) (p0 : Int32) (p1 : Int32) (h0 : Heap) (n0 : Nat) (O0 : Old Z n0 h0) :
    MetFree l y4 (head1 (Jvm.Cond.code y4 jdk_29_method_65_code 2 (some .int) :: ws) ({ frames := 0, cells := 0, slots := 0, locals := 0 } : Room)) (fun a U => a = #[(.int p0), (.int p1)] ∧ Z.Warmed39 U.vm ∧ U.heap = h0) (fun _ _ _ _ _ => True) (fun _ U o U' => ∃ v L, o = .returned v ∧ Q4 Z p0 p1 h0 n0 v U'.heap L ∧ FrameEnd U o U' L ({ frames := 0, cells := 0, slots := 0, locals := 0 } : Room).cells ({ frames := 0, cells := 0, slots := 0, locals := 0 } : Room).slots) := by
 refine MetFree.of_bodySF (Jvm.Free.JP.mathPlain rfl (by decide +kernel)) hisR ?_
 intro p e s m args below meth c s₁ Bd hml0 hP hK
 obtain ⟨rfl, hZ, hh⟩ := hP
 have hx := Bd.exec
 have hby := Bd.bytes
 have hml : c.maxLocals = 2 := hml0
 have hown : s.vm.findClass "java/lang/Math" = some m.cls := findClass_of_methodNamed Bd.named
 have hnm := (name_of_methodNamed Bd.named Bd.method).1
 have X0 : Stand p l e ({ frames := 0, cells := 0, slots := 0, locals := 0 } : Room) s m #[(.int p0), (.int p1)] below meth c s₁ [] 0 0 := Stand.of_body Bd
 have e0 : s₁.heap = h0 := by rw [← hh, Bd.state]; rfl
 have N0 := Fr.nil n0
 have Z0 : n0 ≤ h0.size := Nat.le_trans (Nat.le_of_eq O0.1.symm) O0.2.1
 obtain ⟨S0, hS0⟩ : ∃ z, z = s₁.setTop (entryFrame m #[(.int p0), (.int p1)] 2) := ⟨_, rfl⟩
 have pre0 : ∀ tg, AT p e below s₁ m 0 #[iv p0, iv p1] [] tg → Steps p.tables e below S0 tg := fun tg kg => by rw [hS0]; exact castTop (ef_4 m p0 p1) kg
 have pre1 : ∀ tg, AT p e below s₁ m 2 #[iv p0, iv p1] [(.int p1), (.int p0)] tg → Steps p.tables e below S0 tg := fun tg kg => pre0 tg (by
  refine XS.iloadN X0.here hx rfl (hb hby d4_0) rfl ?_
  show AT p e below s₁ m 1 #[iv p0, iv p1] [(.int p0)] _
  refine XS.iloadN X0.here hx rfl (hb hby d4_1) rfl ?_
  exact kg)
 rcases Decidable.em (p0 < p1) with hc2 | hc2
 ·
  obtain ⟨fs, hr, hrun, hended, hW, hsame⟩ := X0.leave (v := some (.int p1)) (fun h => by rw [Bd.returns] at h; cases h)
  subst hS0
  refine ⟨_, _, pre1 _ ?_, hrun, hended, _, _, rfl, ?_, ⟨_, rfl⟩, hW, hsame.mono (by decide) (by decide)⟩
  ·
   refine XS.icmpYes X0.here hx rfl (pc0 := 2) (pc' := 9) rfl (hb hby d4_2) rfl (XT.ii_lt_t hc2) (by decide) (by decide) ?_
   show AT p e below s₁ m 9 #[iv p0, iv p1] [] _
   refine XS.iloadN X0.here hx rfl (hb hby d4_9) rfl ?_
   show AT p e below s₁ m 10 #[iv p0, iv p1] [(.int p1)] _
   exact retOut X0 hx (t := .int) (i := .ireturn) Bd.returns rfl (Or.inl ⟨rfl, Or.inl rfl, _, rfl⟩) (hb hby d4_10) hr
  ·
   show Q4 Z p0 p1 h0 n0 _ s₁.heap _
   rw [e0]
   exact ⟨(by rw [f4, if_pos hc2]), N0, rfl⟩
 ·
  obtain ⟨fs, hr, hrun, hended, hW, hsame⟩ := X0.leave (v := some (.int p0)) (fun h => by rw [Bd.returns] at h; cases h)
  subst hS0
  refine ⟨_, _, pre1 _ ?_, hrun, hended, _, _, rfl, ?_, ⟨_, rfl⟩, hW, hsame.mono (by decide) (by decide)⟩
  ·
   refine XS.icmpNo X0.here hx rfl (hb hby d4_2) rfl (XT.ii_lt_f hc2) ?_
   show AT p e below s₁ m 5 #[iv p0, iv p1] [] _
   refine XS.iloadN X0.here hx rfl (hb hby d4_5) rfl ?_
   show AT p e below s₁ m 6 #[iv p0, iv p1] [(.int p0)] _
   refine XS.goto X0.here hx rfl (pc0 := 6) (pc' := 10) rfl (hb hby d4_6) (by decide) (by decide) ?_
   show AT p e below s₁ m 10 #[iv p0, iv p1] [(.int p0)] _
   exact retOut X0 hx (t := .int) (i := .ireturn) Bd.returns rfl (Or.inl ⟨rfl, Or.inl rfl, _, rfl⟩) (hb hby d4_10) hr
  ·
   show Q4 Z p0 p1 h0 n0 _ s₁.heap _
   rw [e0]
   exact ⟨(by rw [f4, if_neg hc2]), N0, rfl⟩

theorem d3_0 : decode prog_8_method_3_code 0 = .ok (.iconst 1, 1) := by decide +kernel
theorem d3_1 : decode prog_8_method_3_code 1 = .ok (.aload_n 0, 1) := by decide +kernel
theorem d3_2 : decode prog_8_method_3_code 2 = .ok (.getfield 18, 3) := by decide +kernel
theorem d3_5 : decode prog_8_method_3_code 5 = .ok (.iconst 1, 1) := by decide +kernel
theorem d3_6 : decode prog_8_method_3_code 6 = .ok (.isub, 1) := by decide +kernel
theorem d3_7 : decode prog_8_method_3_code 7 = .ok (.iconst 2, 1) := by decide +kernel
theorem d3_8 : decode prog_8_method_3_code 8 = .ok (.imul, 1) := by decide +kernel
theorem d3_9 : decode prog_8_method_3_code 9 = .ok (.bipush 7, 2) := by decide +kernel
theorem d3_11 : decode prog_8_method_3_code 11 = .ok (.idiv, 1) := by decide +kernel
theorem d3_12 : decode prog_8_method_3_code 12 = .ok (.invokestatic 22, 3) := by decide +kernel
theorem d3_15 : decode prog_8_method_3_code 15 = .ok (.ireturn, 1) := by decide +kernel
theorem ef_3 (m : MethodId) (a0 : Addr) : entryFrame m #[(.ref a0)] 1 = mkF m 0 #[rv a0] [] := by first | (simp [entryFrame, mkF, argsToLocals, Value.category]; done) | rfl
def Q3 (Z : State) (a0 : Addr) (wt : Int32) (h0 : Heap) (n0 : Nat) (v : Option Value) (h : Heap) (L : List Loc) : Prop := v = some (.int (f4 (1 : Int32) (((wt - (1 : Int32)) * (2 : Int32)) / (7 : Int32)))) ∧ Fr n0 L ∧ h = h0
set_option maxRecDepth 65536 in
set_option maxHeartbeats 40000000 in
theorem rm3 (l : Launch) (Z : State) (ar : Array Value) (hw : ∀ d ∈ tables_1, d.before ar Z = true) (ws : List Jvm.Cond) (a0 : Addr) (wt : Int32) (h0 : Heap) (n0 : Nat) (O0 : Old Z n0 h0) (pf0 : Fld Z h0 a0 "com/example/lease/lease/Sessions" "total" "I" (.int wt)) :
    MetFree l y3 (head1 (Jvm.Cond.code y3 prog_8_method_3_code 1 (some .int) :: ws) ({ frames := 1, cells := 0, slots := 0, locals := 13 } : Room)) (fun a U => a = #[(.ref a0)] ∧ Z.Warmed39 U.vm ∧ U.heap = h0) (fun _ _ _ _ _ => True) (fun _ U o U' => ∃ v L, o = .returned v ∧ Q3 Z a0 wt h0 n0 v U'.heap L ∧ FrameEnd U o U' L ({ frames := 1, cells := 0, slots := 0, locals := 13 } : Room).cells ({ frames := 1, cells := 0, slots := 0, locals := 13 } : Room).slots) := by
 refine MetFree.of_bodySF (plainFor_of_name pn_0) hisR ?_
 intro p e s m args below meth c s₁ Bd hml0 hP hK
 obtain ⟨rfl, hZ, hh⟩ := hP
 have hx := Bd.exec
 have hby := Bd.bytes
 have hml : c.maxLocals = 1 := hml0
 have hown : s.vm.findClass "com/example/lease/lease/Sessions" = some m.cls := findClass_of_methodNamed Bd.named
 have hnm := (name_of_methodNamed Bd.named Bd.method).1
 have X0 : Stand p l e ({ frames := 1, cells := 0, slots := 0, locals := 13 } : Room) s m #[(.ref a0)] below meth c s₁ [] 0 0 := Stand.of_body Bd
 have e0 : s₁.heap = h0 := by rw [← hh, Bd.state]; rfl
 have N0 := Fr.nil n0
 have Z0 : n0 ≤ h0.size := Nat.le_trans (Nat.le_of_eq O0.1.symm) O0.2.1
 obtain ⟨S0, hS0⟩ : ∃ z, z = s₁.setTop (entryFrame m #[(.ref a0)] 1) := ⟨_, rfl⟩
 have pre0 : ∀ tg, AT p e below s₁ m 0 #[rv a0] [] tg → Steps p.tables e below S0 tg := fun tg kg => by rw [hS0]; exact castTop (ef_3 m a0) kg
 obtain ⟨T1, X1, e1, st1⟩ := getF X0 hx hZ hown (host := "") (Or.inl (ow hw 10 rfl)) Via.refl e0 pf0 (g := (mkF m 2 #[rv a0] [(.ref a0), (.int (1 : Int32))])) rfl rfl (hb hby d3_2)
 obtain ⟨_, _, ⟨T2, L2, k2, n2⟩, -, X2, ⟨Lc2, hQ2, l2, y2, z2⟩, st2⟩ := Jvm.LawKit.callS X1 hx (y := y4) hown (mvT hZ (ow hw 17 rfl)) (mvT hZ (ow hw 18 rfl)) (mvT hZ (ow hw 19 rfl)) (mvT hZ (ow hw 20 rfl)) (by decide) (backOf (W := 0) (rm4 l Z ar hw [] (1 : Int32) (((wt - (1 : Int32)) * (2 : Int32)) / (7 : Int32)) h0 n0 O0) hZ (ow hw 20 rfl) (ow hw 19 rfl) (by decide) (by decide)) (g := (mkF m 12 #[rv a0] [(.int (((wt - (1 : Int32)) * (2 : Int32)) / (7 : Int32))), (.int (1 : Int32))])) rfl (by rw [hml]; rfl) (argsL := [(.int (1 : Int32)), (.int (((wt - (1 : Int32)) * (2 : Int32)) / (7 : Int32)))]) (rest := []) (lenOf pd_0 rfl) rfl (by show 2 * 0 + _ ≤ _; exact Nat.le_of_eq rfl) (hb hby d3_12) (fun _ _ => ⟨rfl, e1, (by decide : 0 + 0 ≤ _), (by decide : 0 + 0 ≤ _)⟩)
 dsimp only [Pt.U, Pt.locs, Pt.cells, Pt.slots] at X2 l2 y2 z2 st2 hQ2
 subst l2 y2 z2
 obtain ⟨rfl, N2q, e2⟩ := hQ2
 have N2 := Fr.app N0 N2q
 obtain ⟨fs, hr, hrun, hended, hW, hsame⟩ := X2.leave (v := some (.int (f4 (1 : Int32) (((wt - (1 : Int32)) * (2 : Int32)) / (7 : Int32))))) (fun h => by rw [Bd.returns] at h; cases h)
 subst hS0
 refine ⟨_, _, pre0 _ ?_, hrun, hended, _, _, rfl, ?_, ⟨_, rfl⟩, hW, hsame.mono (by decide) (by decide)⟩
 ·
  refine XS.iconst X0.here hx rfl (hb hby d3_0) ?_
  show AT p e below s₁ m 1 #[rv a0] [(.int (1 : Int32))] _
  refine XS.aloadN X0.here hx rfl (hb hby d3_1) rfl rfl ?_
  show AT p e below s₁ m 2 #[rv a0] [(.ref a0), (.int (1 : Int32))] _
  refine st1 _ ?_
  show AT p e below T1 m 5 #[rv a0] [(.int wt), (.int (1 : Int32))] _
  refine XS.iconst X1.here hx rfl (hb hby d3_5) ?_
  show AT p e below T1 m 6 #[rv a0] [(.int (1 : Int32)), (.int wt), (.int (1 : Int32))] _
  refine XS.isub X1.here hx rfl (hb hby d3_6) rfl ?_
  show AT p e below T1 m 7 #[rv a0] [(.int (wt - (1 : Int32))), (.int (1 : Int32))] _
  refine XS.iconst X1.here hx rfl (hb hby d3_7) ?_
  show AT p e below T1 m 8 #[rv a0] [(.int (2 : Int32)), (.int (wt - (1 : Int32))), (.int (1 : Int32))] _
  refine XS.imul X1.here hx rfl (hb hby d3_8) rfl ?_
  show AT p e below T1 m 9 #[rv a0] [(.int ((wt - (1 : Int32)) * (2 : Int32))), (.int (1 : Int32))] _
  refine XS.bipush X1.here hx rfl (hb hby d3_9) ?_
  show AT p e below T1 m 11 #[rv a0] [(.int (7 : Int32)), (.int ((wt - (1 : Int32)) * (2 : Int32))), (.int (1 : Int32))] _
  refine XS.idiv X1.here hx rfl (hb hby d3_11) rfl (by decide) ?_
  show AT p e below T1 m 12 #[rv a0] [(.int (((wt - (1 : Int32)) * (2 : Int32)) / (7 : Int32))), (.int (1 : Int32))] _
  refine st2 _ ?_
  show AT p e below T2 m 15 #[rv a0] [(.int (f4 (1 : Int32) (((wt - (1 : Int32)) * (2 : Int32)) / (7 : Int32))))] _
  exact retOut X2 hx (t := .int) (i := .ireturn) Bd.returns rfl (Or.inl ⟨rfl, Or.inl rfl, _, rfl⟩) (hb hby d3_15) hr
 ·
  show Q3 Z a0 wt h0 n0 _ T2.heap _
  rw [e2]
  exact ⟨rfl, N2, rfl⟩


theorem own_t (x : Int32) : 5 ≤ ((5 : Int32) + ((x &&& (2147483647 : Int32)) % (996 : Int32))).toInt ∧ ((5 : Int32) + ((x &&& (2147483647 : Int32)) % (996 : Int32))).toInt ≤ 1000 := by
  have h1 := c_mask x (2147483647 : Int32) 31 (by decide) (by decide)
  have h0 : 0 ≤ x.toInt % (2 ^ 31 : Nat) := Int.emod_nonneg _ (by decide)
  have h2 := (c_irem (x &&& (2147483647 : Int32)) (996 : Int32) 996 rfl).1 (by rw [h1]; exact h0)
  have h3 := c_iadd (5 : Int32) ((x &&& (2147483647 : Int32)) % (996 : Int32))
  have h4 := rng32 ((5 : Int32) + ((x &&& (2147483647 : Int32)) % (996 : Int32)))
  have k : ((5 : Int32)).toInt = 5 := rfl
  omega
theorem own_w (t : Int32) (a : 5 ≤ t.toInt) (b : t.toInt ≤ 1000) : ((f4 (1 : Int32) (((t - (1 : Int32)) * (2 : Int32)) / (7 : Int32)))).toInt = (t.toInt - 1) * 2 / 7 := by
  have k1 : ((1 : Int32)).toInt = 1 := rfl
  have k2 : ((2 : Int32)).toInt = 2 := rfl
  have k7 : ((7 : Int32)).toInt = 7 := rfl
  have h1 := c_isub t (1 : Int32)
  have r1 := rng32 (t - (1 : Int32))
  have h2 := c_imul (t - (1 : Int32)) (2 : Int32)
  have r2 := rng32 ((t - (1 : Int32)) * (2 : Int32))
  rw [k2] at h2
  have e1 : (t - (1 : Int32)).toInt = t.toInt - 1 := by omega
  rw [e1] at h2
  have e2 : ((t - (1 : Int32)) * (2 : Int32)).toInt = (t.toInt - 1) * 2 := by omega
  have h3 := (c_idiv ((t - (1 : Int32)) * (2 : Int32)) (7 : Int32) 7 rfl (by decide)).1 (by omega)
  rw [e2] at h3
  unfold f4
  split
  · rename_i q; omega
  · rename_i q; rw [Int32.lt_iff_toInt_lt] at q; omega
theorem own_lt (a b : Int64) : a < b ↔ a.toInt < b.toInt := Int64.lt_iff_toInt_lt
theorem own_tw (t : Int32) (a : 5 ≤ t.toInt) (b : t.toInt ≤ 1000) : ((2 : Int64) * ((t - (1 : Int32)).toInt64)).toInt = 2 * (t.toInt - 1) := by
  have k1 : ((1 : Int32)).toInt = 1 := rfl
  have k2 : ((2 : Int64)).toInt = 2 := rfl
  have h1 := c_isub t (1 : Int32)
  have r1 := rng32 (t - (1 : Int32))
  have h0 := c_i2l (t - (1 : Int32))
  have h2 := c_lmul (2 : Int64) ((t - (1 : Int32)).toInt64)
  have r2 := rng64 ((2 : Int64) * ((t - (1 : Int32)).toInt64))
  rw [k2] at h2
  omega
theorem own_7 (w : Int64) (a : 0 ≤ w.toInt) (b : w.toInt ≤ 1000) : ((7 : Int64) * w).toInt = 7 * w.toInt ∧ (((7 : Int64) * w) + (7 : Int64)).toInt = 7 * w.toInt + 7 := by
  have k7 : ((7 : Int64)).toInt = 7 := rfl
  have h := c_lmul (7 : Int64) w
  have r := rng64 ((7 : Int64) * w)
  rw [k7] at h
  have h2 := c_ladd ((7 : Int64) * w) (7 : Int64)
  have r2 := rng64 (((7 : Int64) * w) + (7 : Int64))
  omega
theorem own_lv (t : Int32) (w : Int64) (a : 5 ≤ t.toInt) (b : t.toInt ≤ 1000) (h : w.toInt = (t.toInt - 1) * 2 / 7) : ((((t.toInt64) - (1 : Int64)) - w) - (2 : Int64)).toInt = t.toInt - 1 - w.toInt - 2 := by
  have k1 : ((1 : Int64)).toInt = 1 := rfl
  have k2 : ((2 : Int64)).toInt = 2 := rfl
  have h0 := c_i2l t
  have h1 := c_lsub t.toInt64 (1 : Int64)
  have h2 := c_lsub ((t.toInt64) - (1 : Int64)) w
  have h3 := c_lsub (((t.toInt64) - (1 : Int64)) - w) (2 : Int64)
  have r1 := rng64 ((t.toInt64) - (1 : Int64))
  have r2 := rng64 (((t.toInt64) - (1 : Int64)) - w)
  have r3 := rng64 ((((t.toInt64) - (1 : Int64)) - w) - (2 : Int64))
  omega

theorem ef_0 (m : MethodId) (p0 : Int32) : entryFrame m #[(.int p0)] maxLocals = mkF m 0 #[iv p0, un, un, un, un, un, un, un, un, un] [] := by first | (simp [entryFrame, mkF, argsToLocals, Value.category, maxLocals]; done) | rfl
def Q0 (Z : State) (p0 : Int32) (h0 : Heap) (n0 : Nat) (v : Option Value) (h : Heap) (L : List Loc) : Prop := v = some (.int 1) ∧ Fr n0 L
set_option maxRecDepth 65536 in
set_option maxHeartbeats 40000000 in
theorem rm0 (l : Launch) (Z : State) (ar : Array Value) (hw : ∀ d ∈ tables_1, d.before ar Z = true) (ws : List Jvm.Cond) (p0 : Int32) (h0 : Heap) (n0 : Nat) (O0 : Old Z n0 h0) :
    MetFree l x (head1 (Jvm.Cond.code x code maxLocals ret :: ws) room_1) (fun a U => a = #[(.int p0)] ∧ Z.Warmed39 U.vm ∧ U.heap = h0) (fun _ _ _ _ _ => True) (fun _ U o U' => ∃ v L, o = .returned v ∧ Q0 Z p0 h0 n0 v U'.heap L ∧ FrameEnd U o U' L 16 128) := by
 refine MetFree.of_bodySF (plainFor_of_name pn_1) hisR ?_
 intro p e s m args below meth c s₁ Bd hml0 hP hK
 obtain ⟨rfl, hZ, hh⟩ := hP
 have hx := Bd.exec
 have hby := Bd.bytes
 have hml : c.maxLocals = 10 := hml0
 have hown : s.vm.findClass "com/example/lease/lease/SessionsLockWaitsPinLaw" = some m.cls := findClass_of_methodNamed Bd.named
 have hnm := (name_of_methodNamed Bd.named Bd.method).1
 have X0 : Stand p l e room_1 s m #[(.int p0)] below meth c s₁ [] 0 0 := Stand.of_body Bd
 have e0 : s₁.heap = h0 := by rw [← hh, Bd.state]; rfl
 have N0 := Fr.nil n0
 have Z0 : n0 ≤ h0.size := Nat.le_trans (Nat.le_of_eq O0.1.symm) O0.2.1
 obtain ⟨S0, hS0⟩ : ∃ z, z = s₁.setTop (entryFrame m #[(.int p0)] maxLocals) := ⟨_, rfl⟩
 have pre0 : ∀ tg, AT p e below s₁ m 0 #[iv p0, un, un, un, un, un, un, un, un, un] [] tg → Steps p.tables e below S0 tg := fun tg kg => by rw [hS0]; exact castTop (ef_0 m p0) kg
 have pre1 : ∀ tg, AT p e below s₁ m 11 #[iv p0, iv ((5 : Int32) + ((p0 &&& (2147483647 : Int32)) % (996 : Int32))), un, un, un, un, un, un, un, un] [] tg → Steps p.tables e below S0 tg := fun tg kg => pre0 tg (by
  refine XS.iconst X0.here hx rfl (hb hby at_0) ?_
  show AT p e below s₁ m 1 #[iv p0, un, un, un, un, un, un, un, un, un] [(.int (5 : Int32))] _
  refine XS.iloadN X0.here hx rfl (hb hby at_1) rfl ?_
  show AT p e below s₁ m 2 #[iv p0, un, un, un, un, un, un, un, un, un] [(.int p0), (.int (5 : Int32))] _
  refine X0.ldcInt hx hown (mvT hZ (ow hw 0 rfl)) (g := (mkF m 2 #[iv p0, un, un, un, un, un, un, un, un, un] [(.int p0), (.int (5 : Int32))])) rfl (hb hby at_2) _ ?_
  show AT p e below s₁ m 4 #[iv p0, un, un, un, un, un, un, un, un, un] [(.int (2147483647 : Int32)), (.int p0), (.int (5 : Int32))] _
  refine XS.iand X0.here hx rfl (hb hby at_4) rfl ?_
  show AT p e below s₁ m 5 #[iv p0, un, un, un, un, un, un, un, un, un] [(.int (p0 &&& (2147483647 : Int32))), (.int (5 : Int32))] _
  refine XS.sipush X0.here hx rfl (hb hby at_5) ?_
  show AT p e below s₁ m 8 #[iv p0, un, un, un, un, un, un, un, un, un] [(.int (996 : Int32)), (.int (p0 &&& (2147483647 : Int32))), (.int (5 : Int32))] _
  refine iremM X0 hx rfl (hb hby at_8) rfl (by decide) ?_
  show AT p e below s₁ m 9 #[iv p0, un, un, un, un, un, un, un, un, un] [(.int ((p0 &&& (2147483647 : Int32)) % (996 : Int32))), (.int (5 : Int32))] _
  refine XS.iadd X0.here hx rfl (hb hby at_9) rfl ?_
  show AT p e below s₁ m 10 #[iv p0, un, un, un, un, un, un, un, un, un] [(.int ((5 : Int32) + ((p0 &&& (2147483647 : Int32)) % (996 : Int32))))] _
  refine XS.istoreN X0.here hx rfl (hb hby at_10) rfl (l' := #[iv p0, iv ((5 : Int32) + ((p0 &&& (2147483647 : Int32)) % (996 : Int32))), un, un, un, un, un, un, un, un]) rfl ?_
  exact kg)
 obtain ⟨tt, htt⟩ : ∃ z, z = ((5 : Int32) + ((p0 &&& (2147483647 : Int32)) % (996 : Int32))) := ⟨_, rfl⟩
 have pre2 : ∀ tg, AT p e below s₁ m 11 #[iv p0, iv tt, un, un, un, un, un, un, un, un] [] tg → Steps p.tables e below S0 tg := by rw [htt]; exact pre1
 have htb : 5 ≤ tt.toInt ∧ tt.toInt ≤ 1000 := by rw [htt]; exact own_t p0
 have htlo : ¬ tt < (5 : Int32) := by rw [Int32.lt_iff_toInt_lt]; have k : ((5 : Int32)).toInt = 5 := rfl; omega
 have hthi : ¬ (1000 : Int32) < tt := by rw [Int32.lt_iff_toInt_lt]; have k : ((1000 : Int32)).toInt = 1000 := rfl; omega
 obtain ⟨T3, h3, X3, e3, E3, A3, D3, -, st3⟩ := newO X0 hx hZ hown (ow hw 1 rfl) (ow hw 2 rfl) (ow hw 3 rfl) e0 (g := (mkF m 11 #[iv p0, iv tt, un, un, un, un, un, un, un, un] [])) rfl (hb hby at_11) (by decide) (by decide)
 obtain ⟨b3, g3⟩ : ∃ z, z = h0.size := ⟨_, rfl⟩
 rw [← g3] at A3 D3 st3
 have gn3 : n0 ≤ b3 := Nat.le_trans (Nat.le_trans (Nat.le_of_eq O0.1.symm) O0.2.1) (Nat.le_of_eq g3.symm)
 have sz3 : h0.size ≤ b3 := Nat.le_trans (Keep.refl h0 []).1 (Nat.le_of_eq g3.symm)
 have K3 := (Keep.refl h0 []).ext E3
 have O3 := O0.ext E3
 have F3_4 : Fld Z h3 b3 "com/example/lease/lease/Sessions" "total" "I" (.int (0 : Int32)) := D3 (Or.inr (ow hw 11 rfl)) (ty := .int) (by decide)
 obtain ⟨_, _, ⟨T5, L5, k5, n5⟩, -, X5, ⟨Lc5, hQ5, l5, y5, z5⟩, st5⟩ := X3.specialBack hx (y := y1) rfl hown (mvT hZ (ow hw 4 rfl)) (mvT hZ (ow hw 5 rfl)) (mvT hZ (ow hw 6 rfl)) (by decide) (backOf (W := 1) (rm1 l Z ar hw [] b3 tt h3 n0 O3 A3 F3_4 gn3 htlo hthi) hZ (ow hw 6 rfl) (ow hw 3 rfl) (by decide) (by decide)) (g := (mkF m 16 #[iv p0, iv tt, un, un, un, un, un, un, un, un] [(.int tt), (.ref b3), (.ref b3)])) rfl (by rw [hml]; rfl) (Steps.refl _) (a := b3) (argsL := [(.int tt)]) (rest := [(.ref b3)]) (lenOf pd_1 rfl) rfl (by show 2 * 0 + _ ≤ _; exact Nat.le_of_eq rfl) (hb hby at_16) (fun _ _ => ⟨rfl, e3, (by decide : 1 + 0 ≤ _), (by decide : 1 + 0 ≤ _)⟩)
 dsimp only [Pt.U, Pt.locs, Pt.cells, Pt.slots] at X5 l5 y5 z5 st5 hQ5
 subst l5 y5 z5
 obtain ⟨rfl, N5q, Kq5, u5_0, u5_1⟩ := hQ5
 have N5 := Fr.app N0 N5q
 have E5_6 := A3.keep Kq5
 have K5 := K3.trans Kq5 (allS (Or.inr sz3) all0)
 have O5 := O3.keep Kq5 (allS gn3 all0)
 obtain ⟨cq7, kq7, q7a, q7b, q7c⟩ := isOf hZ rfl E5_6
 obtain ⟨_, _, ⟨T7, L7, k7, n7⟩, -, X7, ⟨Lc7, hQ7, l7, y7, z7⟩, st7⟩ := X5.virtualBack hx (y := y3) (z := y3) hown (mvT hZ (ow hw 12 rfl)) (mvT hZ (ow hw 13 rfl)) (notFace_of_selects (args := #[]) (mvT hZ (ow hw 15 rfl))) (mvT hZ (ow hw 15 rfl)) (mvT hZ (ow hw 14 rfl)) (by decide) (backOf (W := 0) (rm3 l Z ar hw [] b3 tt T5.heap n0 O5 u5_1) hZ (ow hw 16 rfl) (ow hw 3 rfl) (by decide) (by decide)) q7a q7c (g := (mkF m 21 #[iv p0, iv tt, rv b3, un, un, un, un, un, un, un] [(.ref b3)])) rfl (by rw [hml]; rfl) (Steps.refl _) (argsL := []) (rest := []) (lenOf pd_2 rfl) rfl (by show 2 * 0 + _ ≤ _; exact Nat.le_of_eq rfl) (hb hby at_21) (fun _ _ => ⟨rfl, rfl, (by decide : 1 + 0 ≤ _), (by decide : 1 + 0 ≤ _)⟩)
 dsimp only [Pt.U, Pt.locs, Pt.cells, Pt.slots] at X7 l7 y7 z7 st7 hQ7
 subst l7 y7 z7
 obtain ⟨rfl, N7q, e7⟩ := hQ7
 have N7 := Fr.app N5 N7q
 have pre8 : ∀ tg, AT p e below T7 m 26 #[iv p0, iv tt, rv b3, jv ((f4 (1 : Int32) (((tt - (1 : Int32)) * (2 : Int32)) / (7 : Int32))).toInt64), se, un, un, un, un, un] [] tg → Steps p.tables e below S0 tg := fun tg kg => pre2 tg (by
  refine st3 _ ?_
  show AT p e below T3 m 14 #[iv p0, iv tt, un, un, un, un, un, un, un, un] [(.ref b3)] _
  refine XS.dup X3.here hx rfl (hb hby at_14) rfl rfl ?_
  show AT p e below T3 m 15 #[iv p0, iv tt, un, un, un, un, un, un, un, un] [(.ref b3), (.ref b3)] _
  refine XS.iloadN X3.here hx rfl (hb hby at_15) rfl ?_
  show AT p e below T3 m 16 #[iv p0, iv tt, un, un, un, un, un, un, un, un] [(.int tt), (.ref b3), (.ref b3)] _
  refine st5.trans ?_
  show AT p e below T5 m 19 #[iv p0, iv tt, un, un, un, un, un, un, un, un] [(.ref b3)] _
  refine XS.astoreN X5.here hx rfl (hb hby at_19) rfl rfl (l' := #[iv p0, iv tt, rv b3, un, un, un, un, un, un, un]) rfl ?_
  show AT p e below T5 m 20 #[iv p0, iv tt, rv b3, un, un, un, un, un, un, un] [] _
  refine XS.aloadN X5.here hx rfl (hb hby at_20) rfl rfl ?_
  show AT p e below T5 m 21 #[iv p0, iv tt, rv b3, un, un, un, un, un, un, un] [(.ref b3)] _
  refine st7.trans ?_
  show AT p e below T7 m 24 #[iv p0, iv tt, rv b3, un, un, un, un, un, un, un] [(.int (f4 (1 : Int32) (((tt - (1 : Int32)) * (2 : Int32)) / (7 : Int32))))] _
  refine XS.i2l X7.here hx rfl (hb hby at_24) rfl ?_
  show AT p e below T7 m 25 #[iv p0, iv tt, rv b3, un, un, un, un, un, un, un] [(.long ((f4 (1 : Int32) (((tt - (1 : Int32)) * (2 : Int32)) / (7 : Int32))).toInt64))] _
  refine XS.lstoreN X7.here hx rfl (hb hby at_25) rfl (l' := #[iv p0, iv tt, rv b3, jv ((f4 (1 : Int32) (((tt - (1 : Int32)) * (2 : Int32)) / (7 : Int32))).toInt64), se, un, un, un, un, un]) rfl ?_
  exact kg)
 obtain ⟨wv, hwv⟩ : ∃ z, z = ((f4 (1 : Int32) (((tt - (1 : Int32)) * (2 : Int32)) / (7 : Int32))).toInt64) := ⟨_, rfl⟩
 have pre9 : ∀ tg, AT p e below T7 m 26 #[iv p0, iv tt, rv b3, jv wv, se, un, un, un, un, un] [] tg → Steps p.tables e below S0 tg := by rw [hwv]; exact pre8
 have hwv' : wv.toInt = (tt.toInt - 1) * 2 / 7 := by rw [hwv, c_i2l]; exact own_w tt htb.1 htb.2
 have hw0 : 0 ≤ wv.toInt := by omega
 have hw1 : wv.toInt ≤ 1000 := by omega
 have h7 := own_7 wv hw0 hw1
 have htw := own_tw tt htb.1 htb.2
 have hlv := own_lv tt wv htb.1 htb.2 hwv'
 have one : ((1 : Int64)).toInt = 1 := rfl
 have pre10 : ∀ tg, AT p e below T7 m 39 #[iv p0, iv tt, rv b3, jv wv, se, jv ((2 : Int64) * ((tt - (1 : Int32)).toInt64)), se, un, un, un] [(.int (XT.cmpL wv (1 : Int64)))] tg → Steps p.tables e below S0 tg := fun tg kg => pre9 tg (by
  refine X7.ldc2Long hx hown (mvT hZ (ow hw 21 rfl)) (g := (mkF m 26 #[iv p0, iv tt, rv b3, jv wv, se, un, un, un, un, un] [])) rfl (hb hby at_26) _ ?_
  show AT p e below T7 m 29 #[iv p0, iv tt, rv b3, jv wv, se, un, un, un, un, un] [(.long (2 : Int64))] _
  refine XS.iloadN X7.here hx rfl (hb hby at_29) rfl ?_
  show AT p e below T7 m 30 #[iv p0, iv tt, rv b3, jv wv, se, un, un, un, un, un] [(.int tt), (.long (2 : Int64))] _
  refine XS.iconst X7.here hx rfl (hb hby at_30) ?_
  show AT p e below T7 m 31 #[iv p0, iv tt, rv b3, jv wv, se, un, un, un, un, un] [(.int (1 : Int32)), (.int tt), (.long (2 : Int64))] _
  refine XS.isub X7.here hx rfl (hb hby at_31) rfl ?_
  show AT p e below T7 m 32 #[iv p0, iv tt, rv b3, jv wv, se, un, un, un, un, un] [(.int (tt - (1 : Int32))), (.long (2 : Int64))] _
  refine XS.i2l X7.here hx rfl (hb hby at_32) rfl ?_
  show AT p e below T7 m 33 #[iv p0, iv tt, rv b3, jv wv, se, un, un, un, un, un] [(.long ((tt - (1 : Int32)).toInt64)), (.long (2 : Int64))] _
  refine XS.lmul X7.here hx rfl (hb hby at_33) rfl ?_
  show AT p e below T7 m 34 #[iv p0, iv tt, rv b3, jv wv, se, un, un, un, un, un] [(.long ((2 : Int64) * ((tt - (1 : Int32)).toInt64)))] _
  refine XS.lstore X7.here hx rfl (hb hby at_34) rfl (l' := #[iv p0, iv tt, rv b3, jv wv, se, jv ((2 : Int64) * ((tt - (1 : Int32)).toInt64)), se, un, un, un]) rfl ?_
  show AT p e below T7 m 36 #[iv p0, iv tt, rv b3, jv wv, se, jv ((2 : Int64) * ((tt - (1 : Int32)).toInt64)), se, un, un, un] [] _
  refine XS.lloadN X7.here hx rfl (hb hby at_36) rfl ?_
  show AT p e below T7 m 37 #[iv p0, iv tt, rv b3, jv wv, se, jv ((2 : Int64) * ((tt - (1 : Int32)).toInt64)), se, un, un, un] [(.long wv)] _
  refine XS.lconst X7.here hx rfl (hb hby at_37) ?_
  show AT p e below T7 m 38 #[iv p0, iv tt, rv b3, jv wv, se, jv ((2 : Int64) * ((tt - (1 : Int32)).toInt64)), se, un, un, un] [(.long (1 : Int64)), (.long wv)] _
  refine XS.lcmp X7.here hx rfl (hb hby at_38) rfl ?_
  exact kg)
 rcases Decidable.em (wv < (1 : Int64)) with hc11 | hc11
 ·
  exfalso; rw [own_lt] at hc11; omega
 ·
  have pre12 : ∀ tg, AT p e below T7 m 57 #[iv p0, iv tt, rv b3, jv wv, se, jv ((2 : Int64) * ((tt - (1 : Int32)).toInt64)), se, iv (1 : Int32), un, un] [(.int (XT.cmpL ((7 : Int64) * wv) ((2 : Int64) * ((tt - (1 : Int32)).toInt64))))] tg → Steps p.tables e below S0 tg := fun tg kg => pre10 tg (by
   refine XS.ifNo X7.here hx rfl (hb hby at_39) rfl (XT.ll_lt_f hc11) ?_
   show AT p e below T7 m 42 #[iv p0, iv tt, rv b3, jv wv, se, jv ((2 : Int64) * ((tt - (1 : Int32)).toInt64)), se, un, un, un] [] _
   refine XS.iconst X7.here hx rfl (hb hby at_42) ?_
   show AT p e below T7 m 43 #[iv p0, iv tt, rv b3, jv wv, se, jv ((2 : Int64) * ((tt - (1 : Int32)).toInt64)), se, un, un, un] [(.int (1 : Int32))] _
   refine XS.goto X7.here hx rfl (pc0 := 43) (pc' := 47) rfl (hb hby at_43) (by decide) (by decide) ?_
   show AT p e below T7 m 47 #[iv p0, iv tt, rv b3, jv wv, se, jv ((2 : Int64) * ((tt - (1 : Int32)).toInt64)), se, un, un, un] [(.int (1 : Int32))] _
   refine XS.istore X7.here hx rfl (hb hby at_47) rfl (l' := #[iv p0, iv tt, rv b3, jv wv, se, jv ((2 : Int64) * ((tt - (1 : Int32)).toInt64)), se, iv (1 : Int32), un, un]) rfl ?_
   show AT p e below T7 m 49 #[iv p0, iv tt, rv b3, jv wv, se, jv ((2 : Int64) * ((tt - (1 : Int32)).toInt64)), se, iv (1 : Int32), un, un] [] _
   refine X7.ldc2Long hx hown (mvT hZ (ow hw 22 rfl)) (g := (mkF m 49 #[iv p0, iv tt, rv b3, jv wv, se, jv ((2 : Int64) * ((tt - (1 : Int32)).toInt64)), se, iv (1 : Int32), un, un] [])) rfl (hb hby at_49) _ ?_
   show AT p e below T7 m 52 #[iv p0, iv tt, rv b3, jv wv, se, jv ((2 : Int64) * ((tt - (1 : Int32)).toInt64)), se, iv (1 : Int32), un, un] [(.long (7 : Int64))] _
   refine XS.lloadN X7.here hx rfl (hb hby at_52) rfl ?_
   show AT p e below T7 m 53 #[iv p0, iv tt, rv b3, jv wv, se, jv ((2 : Int64) * ((tt - (1 : Int32)).toInt64)), se, iv (1 : Int32), un, un] [(.long wv), (.long (7 : Int64))] _
   refine XS.lmul X7.here hx rfl (hb hby at_53) rfl ?_
   show AT p e below T7 m 54 #[iv p0, iv tt, rv b3, jv wv, se, jv ((2 : Int64) * ((tt - (1 : Int32)).toInt64)), se, iv (1 : Int32), un, un] [(.long ((7 : Int64) * wv))] _
   refine XS.lload X7.here hx rfl (hb hby at_54) rfl ?_
   show AT p e below T7 m 56 #[iv p0, iv tt, rv b3, jv wv, se, jv ((2 : Int64) * ((tt - (1 : Int32)).toInt64)), se, iv (1 : Int32), un, un] [(.long ((2 : Int64) * ((tt - (1 : Int32)).toInt64))), (.long ((7 : Int64) * wv))] _
   refine XS.lcmp X7.here hx rfl (hb hby at_56) rfl ?_
   exact kg)
  rcases Decidable.em (((2 : Int64) * ((tt - (1 : Int32)).toInt64)) < ((7 : Int64) * wv)) with hc13 | hc13
  ·
   exfalso; rw [own_lt] at hc13; omega
  ·
   have pre14 : ∀ tg, AT p e below T7 m 72 #[iv p0, iv tt, rv b3, jv wv, se, jv ((2 : Int64) * ((tt - (1 : Int32)).toInt64)), se, iv (1 : Int32), un, un] [(.int (XT.cmpL ((2 : Int64) * ((tt - (1 : Int32)).toInt64)) (((7 : Int64) * wv) + (7 : Int64))))] tg → Steps p.tables e below S0 tg := fun tg kg => pre12 tg (by
    refine XS.ifNo X7.here hx rfl (hb hby at_57) rfl (XT.ll_gt_f hc13) ?_
    show AT p e below T7 m 60 #[iv p0, iv tt, rv b3, jv wv, se, jv ((2 : Int64) * ((tt - (1 : Int32)).toInt64)), se, iv (1 : Int32), un, un] [] _
    refine XS.lload X7.here hx rfl (hb hby at_60) rfl ?_
    show AT p e below T7 m 62 #[iv p0, iv tt, rv b3, jv wv, se, jv ((2 : Int64) * ((tt - (1 : Int32)).toInt64)), se, iv (1 : Int32), un, un] [(.long ((2 : Int64) * ((tt - (1 : Int32)).toInt64)))] _
    refine X7.ldc2Long hx hown (mvT hZ (ow hw 22 rfl)) (g := (mkF m 62 #[iv p0, iv tt, rv b3, jv wv, se, jv ((2 : Int64) * ((tt - (1 : Int32)).toInt64)), se, iv (1 : Int32), un, un] [(.long ((2 : Int64) * ((tt - (1 : Int32)).toInt64)))])) rfl (hb hby at_62) _ ?_
    show AT p e below T7 m 65 #[iv p0, iv tt, rv b3, jv wv, se, jv ((2 : Int64) * ((tt - (1 : Int32)).toInt64)), se, iv (1 : Int32), un, un] [(.long (7 : Int64)), (.long ((2 : Int64) * ((tt - (1 : Int32)).toInt64)))] _
    refine XS.lloadN X7.here hx rfl (hb hby at_65) rfl ?_
    show AT p e below T7 m 66 #[iv p0, iv tt, rv b3, jv wv, se, jv ((2 : Int64) * ((tt - (1 : Int32)).toInt64)), se, iv (1 : Int32), un, un] [(.long wv), (.long (7 : Int64)), (.long ((2 : Int64) * ((tt - (1 : Int32)).toInt64)))] _
    refine XS.lmul X7.here hx rfl (hb hby at_66) rfl ?_
    show AT p e below T7 m 67 #[iv p0, iv tt, rv b3, jv wv, se, jv ((2 : Int64) * ((tt - (1 : Int32)).toInt64)), se, iv (1 : Int32), un, un] [(.long ((7 : Int64) * wv)), (.long ((2 : Int64) * ((tt - (1 : Int32)).toInt64)))] _
    refine X7.ldc2Long hx hown (mvT hZ (ow hw 22 rfl)) (g := (mkF m 67 #[iv p0, iv tt, rv b3, jv wv, se, jv ((2 : Int64) * ((tt - (1 : Int32)).toInt64)), se, iv (1 : Int32), un, un] [(.long ((7 : Int64) * wv)), (.long ((2 : Int64) * ((tt - (1 : Int32)).toInt64)))])) rfl (hb hby at_67) _ ?_
    show AT p e below T7 m 70 #[iv p0, iv tt, rv b3, jv wv, se, jv ((2 : Int64) * ((tt - (1 : Int32)).toInt64)), se, iv (1 : Int32), un, un] [(.long (7 : Int64)), (.long ((7 : Int64) * wv)), (.long ((2 : Int64) * ((tt - (1 : Int32)).toInt64)))] _
    refine XS.ladd X7.here hx rfl (hb hby at_70) rfl ?_
    show AT p e below T7 m 71 #[iv p0, iv tt, rv b3, jv wv, se, jv ((2 : Int64) * ((tt - (1 : Int32)).toInt64)), se, iv (1 : Int32), un, un] [(.long (((7 : Int64) * wv) + (7 : Int64))), (.long ((2 : Int64) * ((tt - (1 : Int32)).toInt64)))] _
    refine XS.lcmp X7.here hx rfl (hb hby at_71) rfl ?_
    exact kg)
   rcases Decidable.em (((2 : Int64) * ((tt - (1 : Int32)).toInt64)) < (((7 : Int64) * wv) + (7 : Int64))) with hc15 | hc15
   ·
    have pre16 : ∀ tg, AT p e below T7 m 94 #[iv p0, iv tt, rv b3, jv wv, se, jv ((2 : Int64) * ((tt - (1 : Int32)).toInt64)), se, iv (1 : Int32), iv (1 : Int32), un] [(.int (XT.cmpL ((((tt.toInt64) - (1 : Int64)) - wv) - (2 : Int64)) (1 : Int64)))] tg → Steps p.tables e below S0 tg := fun tg kg => pre14 tg (by
     refine XS.ifNo X7.here hx rfl (hb hby at_72) rfl (XT.ll_ge_f hc15) ?_
     show AT p e below T7 m 75 #[iv p0, iv tt, rv b3, jv wv, se, jv ((2 : Int64) * ((tt - (1 : Int32)).toInt64)), se, iv (1 : Int32), un, un] [] _
     refine XS.iconst X7.here hx rfl (hb hby at_75) ?_
     show AT p e below T7 m 76 #[iv p0, iv tt, rv b3, jv wv, se, jv ((2 : Int64) * ((tt - (1 : Int32)).toInt64)), se, iv (1 : Int32), un, un] [(.int (1 : Int32))] _
     refine XS.goto X7.here hx rfl (pc0 := 76) (pc' := 80) rfl (hb hby at_76) (by decide) (by decide) ?_
     show AT p e below T7 m 80 #[iv p0, iv tt, rv b3, jv wv, se, jv ((2 : Int64) * ((tt - (1 : Int32)).toInt64)), se, iv (1 : Int32), un, un] [(.int (1 : Int32))] _
     refine XS.istore X7.here hx rfl (hb hby at_80) rfl (l' := #[iv p0, iv tt, rv b3, jv wv, se, jv ((2 : Int64) * ((tt - (1 : Int32)).toInt64)), se, iv (1 : Int32), iv (1 : Int32), un]) rfl ?_
     show AT p e below T7 m 82 #[iv p0, iv tt, rv b3, jv wv, se, jv ((2 : Int64) * ((tt - (1 : Int32)).toInt64)), se, iv (1 : Int32), iv (1 : Int32), un] [] _
     refine XS.iloadN X7.here hx rfl (hb hby at_82) rfl ?_
     show AT p e below T7 m 83 #[iv p0, iv tt, rv b3, jv wv, se, jv ((2 : Int64) * ((tt - (1 : Int32)).toInt64)), se, iv (1 : Int32), iv (1 : Int32), un] [(.int tt)] _
     refine XS.i2l X7.here hx rfl (hb hby at_83) rfl ?_
     show AT p e below T7 m 84 #[iv p0, iv tt, rv b3, jv wv, se, jv ((2 : Int64) * ((tt - (1 : Int32)).toInt64)), se, iv (1 : Int32), iv (1 : Int32), un] [(.long (tt.toInt64))] _
     refine XS.lconst X7.here hx rfl (hb hby at_84) ?_
     show AT p e below T7 m 85 #[iv p0, iv tt, rv b3, jv wv, se, jv ((2 : Int64) * ((tt - (1 : Int32)).toInt64)), se, iv (1 : Int32), iv (1 : Int32), un] [(.long (1 : Int64)), (.long (tt.toInt64))] _
     refine XS.lsub X7.here hx rfl (hb hby at_85) rfl ?_
     show AT p e below T7 m 86 #[iv p0, iv tt, rv b3, jv wv, se, jv ((2 : Int64) * ((tt - (1 : Int32)).toInt64)), se, iv (1 : Int32), iv (1 : Int32), un] [(.long ((tt.toInt64) - (1 : Int64)))] _
     refine XS.lloadN X7.here hx rfl (hb hby at_86) rfl ?_
     show AT p e below T7 m 87 #[iv p0, iv tt, rv b3, jv wv, se, jv ((2 : Int64) * ((tt - (1 : Int32)).toInt64)), se, iv (1 : Int32), iv (1 : Int32), un] [(.long wv), (.long ((tt.toInt64) - (1 : Int64)))] _
     refine XS.lsub X7.here hx rfl (hb hby at_87) rfl ?_
     show AT p e below T7 m 88 #[iv p0, iv tt, rv b3, jv wv, se, jv ((2 : Int64) * ((tt - (1 : Int32)).toInt64)), se, iv (1 : Int32), iv (1 : Int32), un] [(.long (((tt.toInt64) - (1 : Int64)) - wv))] _
     refine X7.ldc2Long hx hown (mvT hZ (ow hw 21 rfl)) (g := (mkF m 88 #[iv p0, iv tt, rv b3, jv wv, se, jv ((2 : Int64) * ((tt - (1 : Int32)).toInt64)), se, iv (1 : Int32), iv (1 : Int32), un] [(.long (((tt.toInt64) - (1 : Int64)) - wv))])) rfl (hb hby at_88) _ ?_
     show AT p e below T7 m 91 #[iv p0, iv tt, rv b3, jv wv, se, jv ((2 : Int64) * ((tt - (1 : Int32)).toInt64)), se, iv (1 : Int32), iv (1 : Int32), un] [(.long (2 : Int64)), (.long (((tt.toInt64) - (1 : Int64)) - wv))] _
     refine XS.lsub X7.here hx rfl (hb hby at_91) rfl ?_
     show AT p e below T7 m 92 #[iv p0, iv tt, rv b3, jv wv, se, jv ((2 : Int64) * ((tt - (1 : Int32)).toInt64)), se, iv (1 : Int32), iv (1 : Int32), un] [(.long ((((tt.toInt64) - (1 : Int64)) - wv) - (2 : Int64)))] _
     refine XS.lconst X7.here hx rfl (hb hby at_92) ?_
     show AT p e below T7 m 93 #[iv p0, iv tt, rv b3, jv wv, se, jv ((2 : Int64) * ((tt - (1 : Int32)).toInt64)), se, iv (1 : Int32), iv (1 : Int32), un] [(.long (1 : Int64)), (.long ((((tt.toInt64) - (1 : Int64)) - wv) - (2 : Int64)))] _
     refine XS.lcmp X7.here hx rfl (hb hby at_93) rfl ?_
     exact kg)
    rcases Decidable.em (((((tt.toInt64) - (1 : Int64)) - wv) - (2 : Int64)) < (1 : Int64)) with hc17 | hc17
    ·
     exfalso; rw [own_lt] at hc17; omega
    ·
     obtain ⟨fs, hr, hrun, hended, hW, hsame⟩ := X7.leave (v := some (.int (1 : Int32))) (fun h => by rw [Bd.returns] at h; cases h)
     subst hS0
     refine ⟨_, _, pre16 _ ?_, hrun, hended, _, _, rfl, ?_, ⟨_, rfl⟩, hW, hsame.mono (by decide) (by decide)⟩
     ·
      refine XS.ifNo X7.here hx rfl (hb hby at_94) rfl (XT.ll_lt_f hc17) ?_
      show AT p e below T7 m 97 #[iv p0, iv tt, rv b3, jv wv, se, jv ((2 : Int64) * ((tt - (1 : Int32)).toInt64)), se, iv (1 : Int32), iv (1 : Int32), un] [] _
      refine XS.iconst X7.here hx rfl (hb hby at_97) ?_
      show AT p e below T7 m 98 #[iv p0, iv tt, rv b3, jv wv, se, jv ((2 : Int64) * ((tt - (1 : Int32)).toInt64)), se, iv (1 : Int32), iv (1 : Int32), un] [(.int (1 : Int32))] _
      refine XS.goto X7.here hx rfl (pc0 := 98) (pc' := 102) rfl (hb hby at_98) (by decide) (by decide) ?_
      show AT p e below T7 m 102 #[iv p0, iv tt, rv b3, jv wv, se, jv ((2 : Int64) * ((tt - (1 : Int32)).toInt64)), se, iv (1 : Int32), iv (1 : Int32), un] [(.int (1 : Int32))] _
      refine XS.istore X7.here hx rfl (hb hby at_102) rfl (l' := #[iv p0, iv tt, rv b3, jv wv, se, jv ((2 : Int64) * ((tt - (1 : Int32)).toInt64)), se, iv (1 : Int32), iv (1 : Int32), iv (1 : Int32)]) rfl ?_
      show AT p e below T7 m 104 #[iv p0, iv tt, rv b3, jv wv, se, jv ((2 : Int64) * ((tt - (1 : Int32)).toInt64)), se, iv (1 : Int32), iv (1 : Int32), iv (1 : Int32)] [] _
      refine XS.iload X7.here hx rfl (hb hby at_104) rfl ?_
      show AT p e below T7 m 106 #[iv p0, iv tt, rv b3, jv wv, se, jv ((2 : Int64) * ((tt - (1 : Int32)).toInt64)), se, iv (1 : Int32), iv (1 : Int32), iv (1 : Int32)] [(.int (1 : Int32))] _
      refine XS.ifNo X7.here hx rfl (hb hby at_106) rfl (XT.i0_eq_f ((by decide) : ¬ ((1 : Int32) = (0 : Int32)))) ?_
      show AT p e below T7 m 109 #[iv p0, iv tt, rv b3, jv wv, se, jv ((2 : Int64) * ((tt - (1 : Int32)).toInt64)), se, iv (1 : Int32), iv (1 : Int32), iv (1 : Int32)] [] _
      refine XS.iload X7.here hx rfl (hb hby at_109) rfl ?_
      show AT p e below T7 m 111 #[iv p0, iv tt, rv b3, jv wv, se, jv ((2 : Int64) * ((tt - (1 : Int32)).toInt64)), se, iv (1 : Int32), iv (1 : Int32), iv (1 : Int32)] [(.int (1 : Int32))] _
      refine XS.ifNo X7.here hx rfl (hb hby at_111) rfl (XT.i0_eq_f ((by decide) : ¬ ((1 : Int32) = (0 : Int32)))) ?_
      show AT p e below T7 m 114 #[iv p0, iv tt, rv b3, jv wv, se, jv ((2 : Int64) * ((tt - (1 : Int32)).toInt64)), se, iv (1 : Int32), iv (1 : Int32), iv (1 : Int32)] [] _
      refine XS.iload X7.here hx rfl (hb hby at_114) rfl ?_
      show AT p e below T7 m 116 #[iv p0, iv tt, rv b3, jv wv, se, jv ((2 : Int64) * ((tt - (1 : Int32)).toInt64)), se, iv (1 : Int32), iv (1 : Int32), iv (1 : Int32)] [(.int (1 : Int32))] _
      refine XS.ifNo X7.here hx rfl (hb hby at_116) rfl (XT.i0_eq_f ((by decide) : ¬ ((1 : Int32) = (0 : Int32)))) ?_
      show AT p e below T7 m 119 #[iv p0, iv tt, rv b3, jv wv, se, jv ((2 : Int64) * ((tt - (1 : Int32)).toInt64)), se, iv (1 : Int32), iv (1 : Int32), iv (1 : Int32)] [] _
      refine XS.iconst X7.here hx rfl (hb hby at_119) ?_
      show AT p e below T7 m 120 #[iv p0, iv tt, rv b3, jv wv, se, jv ((2 : Int64) * ((tt - (1 : Int32)).toInt64)), se, iv (1 : Int32), iv (1 : Int32), iv (1 : Int32)] [(.int (1 : Int32))] _
      refine XS.goto X7.here hx rfl (pc0 := 120) (pc' := 124) rfl (hb hby at_120) (by decide) (by decide) ?_
      show AT p e below T7 m 124 #[iv p0, iv tt, rv b3, jv wv, se, jv ((2 : Int64) * ((tt - (1 : Int32)).toInt64)), se, iv (1 : Int32), iv (1 : Int32), iv (1 : Int32)] [(.int (1 : Int32))] _
      exact retN X7 hx (t := .boolean) Bd.returns (by simp) (hb hby at_124) hr
     ·
      show Q0 Z p0 h0 n0 _ T7.heap _
      rw [e7]
      exact ⟨rfl, N7⟩
   ·
    exfalso; rw [own_lt] at hc15; omega

set_option maxRecDepth 65536 in
set_option maxHeartbeats 40000000 in
theorem comes_1 {Post : Tables → Env → Array Value → State → Outcome → State → Prop} (hpost : ∀ tb e args s v u, (limb_1_1.after args s (.returned v) u = true ∧ limb_1_2.after args s (.returned v) u = true ∧ True) → FrameEnd s (.returned v) u (Jvm.fieldLocs frame_1_writes args s ++ Jvm.arrayLocs frame_1_arrays args s ++ Jvm.staticLocs frame_1_statics s) 16 128 → Post tb e args s (.returned v) u) :
    ArmFor flags0 classFile x code maxLocals ret World_1 tables_1 room_1 Calls_1 rest_1 Pre_1 Post := by
  intro l hfl _ _ p e ha hc hk s m args below hf hA hF happ hP
  obtain ⟨hcalls, hrest, hpre⟩ := hP
  obtain ⟨-, -, -, hnamed, -, -, -, hat⟩ := (Spec.applies_iff hf).mp happ
  obtain ⟨hg, hn⟩ := and_e (Cond.before_iff.mp (show (Jvm.Cond.and given_1 narrow_1).before args s = true from hpre))
  obtain ⟨hg1, hg2⟩ := and_e hg
  obtain ⟨w0, rfl⟩ : ∃ w0 : Value, args = #[w0] := by
    have hs : args.size = 1 := by simpa [Cond.value, given_1] using hg1
    obtain ⟨L⟩ := args
    match L, hs with
    | [w0], _ => exact ⟨w0, rfl⟩
  have hw := fun d (hd : d ∈ tables_1) => atoms_spec (ws := Jvm.Cond.code x code maxLocals ret :: tables_1) hat d (List.mem_cons_of_mem _ hd)
  have hfit : Fit s := fun {y c} hc i hi => by
    obtain ⟨ha, rfl⟩ := Array.getElem?_eq_some_iff.mp hc
    have q := List.all_eq_true.mp ((Array.all_eq_true_iff_forall_mem.mp hF) _ (Array.getElem_mem ha)) i (List.mem_range.mpr hi)
    simpa [Array.getElem?_eq_getElem hi] using q
  obtain ⟨i0, ei0⟩ := is_v hg2
  obtain rfl : w0 = (.int i0) := Option.some.inj ei0
  obtain ⟨n, o, h1, h2, h3, _, L, rfl, ⟨rfl, N⟩, hq⟩ := rm0 l s _ hw tables_1 i0 s.heap s.heap.size (Old.start s) p e ha hc hk s m _ below hf ((Spec.applies_iff_loose hf).mp happ).1 ⟨rfl, State.Warmed39.refl s, rfl⟩ trivial
  refine ⟨n, _, h1, h2, h3, hpost _ _ _ _ _ _ ⟨Cond.after_iff.mpr rfl, Cond.after_iff.mpr (eq_i res_at (Term.int_eval (1)) rfl), trivial⟩ ⟨hq.1, hq.2.1, (hq.2.2.sift fun y hy => Or.inr (N y hy)).mono (by decide) (by decide)⟩⟩
theorem main_1_1 : Claimed_1_1 := comes_1 fun _ _ _ _ _ _ h hF => ⟨h.1, hF⟩
theorem main_1_2 : Claimed_1_2 := comes_1 fun _ _ _ _ _ _ h hF => ⟨h.2.1, hF⟩
end Jvm.Pilot.@@N@@
namespace Jvm.Pilot.@@N@@
open Jvm Jvm.ClassFile Sem Op Lib Jvm.Free Jvm.Stand Jvm.Pilot.@@N@@.Jvm.D
/-! MADE BY PROGRAM (witnessworld.py) out of the Statement's table words and the real class files: 10 classes; the members and pool entries that the words name. The judged class is class 1, her method 1. -/
namespace start1
open Jvm.ClassFile
def u (s : String) : CpInfo := .utf8 (stringToUtf16 s)
/-- a pool by its gaps: so many unusable entries, then the entry; so many at the end -/
def gap : Nat → List CpInfo → List CpInfo
  | 0, r => r
  | n + 1, r => .unusable :: gap n r
def poolList (es : List (Nat × CpInfo)) (last : Nat) : List CpInfo := es.foldr (fun e r => gap e.1 (e.2 :: r)) (gap last [])
def pool (es : List (Nat × CpInfo)) (last : Nat) : Array CpInfo := ⟨poolList es last⟩
def fileOf (pool : Array CpInfo) (this : Nat) (attrs : Array Attribute := #[]) (ms : Array MethodInfo := #[]) (fl : Nat := 33) (sup : Nat := 0) (ifs : Array Nat := #[]) (fds : Array FieldInfo := #[]) : ClassFile where
  minorVersion := 0
  majorVersion := 65
  constantPool := pool
  accessFlags := fl
  thisClass := this
  superClass := sup
  interfaces := ifs
  fields := fds
  methods := ms
  attributes := attrs
def plain (name : String) (sup : Option ClassId) : Class where
  name := name
  kind := .ordinary
  loader := none
  accessFlags := 33
  super := sup
  interfaces := #[]
  cf := none
  fields := #[]
  methods := #[]
  instanceTypes := #[]
  staticTypes := #[]
  resolved := #[]
  callSites := []
  init := .initialized
  statics := none
  mirror := none

def pool0 : Array CpInfo := pool [(5, u "<init>"), (0, u "()V"), (1, .class_ 10), (1, u "java/lang/Object")] 113

def k0c0 : Code := { maxStack := 0, maxLocals := 1, code := object_method_1_code, exceptionTable := #[], attributes := #[] }
def k0m0 : Method := { name := "<init>", desc := "()V", sig := { parameters := [], returnType := none }, accessFlags := 1, code := some k0c0 }
/-- java/lang/Object -/
def k0 : Class := { plain "java/lang/Object" none with
  accessFlags := 33
  interfaces := #[]
  cf := some (fileOf pool0 8 #[] #[{ accessFlags := 1, nameIndex := 5, descriptorIndex := 6, attributes := #[] }] 33 0 #[] #[])
  fields := #[]
  methods := #[k0m0]
  instanceTypes := #[]
  staticTypes := #[]
  resolved := Array.replicate 124 none
  statics := none }

def pool1 : Array CpInfo := pool [(2, .class_ 4), (1, u "java/lang/Object"), (0, u "<init>"), (0, u "()V"), (0, .integer 2147483647), (0, .class_ 9), (0, u "com/example/lease/lease/Sessions"), (0, .methodref 8 11), (0, .nameAndType 5 12), (0, u "(I)V"), (0, .methodref 8 14), (0, .nameAndType 15 16), (0, u "lockWaits"), (0, u "()I"), (0, .long 2), (1, .long 7), (1, .class_ 22), (0, u "com/example/lease/lease/SessionsLockWaitsPinLaw"), (2, u "law"), (0, u "(I)Z")] 3

def k1m0 : Method := { name := "<init>", desc := "()V", sig := { parameters := [], returnType := none }, accessFlags := 1, code := none }
def k1c1 : Code := { maxStack := 6, maxLocals := 10, code := code, exceptionTable := #[], attributes := #[] }
def k1m1 : Method := { name := "law", desc := "(I)Z", sig := { parameters := [.int], returnType := some .boolean }, accessFlags := 9, code := some k1c1 }
/-- com/example/lease/lease/SessionsLockWaitsPinLaw -/
def k1 : Class := { plain "com/example/lease/lease/SessionsLockWaitsPinLaw" (some 0) with
  accessFlags := 49
  interfaces := #[]
  cf := some (fileOf pool1 21 #[] #[{ accessFlags := 1, nameIndex := 5, descriptorIndex := 6, attributes := #[] }, { accessFlags := 9, nameIndex := 25, descriptorIndex := 26, attributes := #[] }] 49 2 #[] #[])
  fields := #[]
  methods := #[k1m0, k1m1]
  instanceTypes := #[]
  staticTypes := #[]
  resolved := Array.replicate 30 none
  statics := none }

def pool2 : Array CpInfo := pool [(1, .methodref 2 3), (0, .class_ 4), (0, .nameAndType 5 6), (0, u "java/lang/Object"), (0, u "<init>"), (0, u "()V"), (0, .class_ 8), (0, u "com/example/lease/lease/Sessions"), (9, .fieldref 7 19), (0, .nameAndType 20 21), (0, u "total"), (0, u "I"), (0, .methodref 23 24), (0, .class_ 25), (0, .nameAndType 26 27), (0, u "java/lang/Math"), (0, u "max"), (0, u "(II)I"), (2, u "lockWaits"), (0, u "()I"), (3, u "DEFAULT"), (2, u "FEWEST"), (1, u "MOST"), (1, u "BATCHERS"), (1, u "LISTENING"), (1, u "LOCK_WAITS_SEVENTHS"), (0, u "(I)V")] 21

def k2c0 : Code := { maxStack := 3, maxLocals := 2, code := prog_8_method_1_code, exceptionTable := #[], attributes := #[] }
def k2m0 : Method := { name := "<init>", desc := "(I)V", sig := { parameters := [.int], returnType := none }, accessFlags := 0, code := some k2c0 }
def k2c1 : Code := { maxStack := 3, maxLocals := 1, code := prog_8_method_3_code, exceptionTable := #[], attributes := #[] }
def k2m1 : Method := { name := "lockWaits", desc := "()I", sig := { parameters := [], returnType := some .int }, accessFlags := 0, code := some k2c1 }
/-- com/example/lease/lease/Sessions -/
def k2 : Class := { plain "com/example/lease/lease/Sessions" (some 0) with
  accessFlags := 48
  interfaces := #[]
  cf := some (fileOf pool2 7 #[] #[{ accessFlags := 0, nameIndex := 5, descriptorIndex := 47, attributes := #[] }, { accessFlags := 0, nameIndex := 30, descriptorIndex := 31, attributes := #[] }] 48 2 #[] #[{ accessFlags := 24, nameIndex := 35, descriptorIndex := 21, attributes := #[] }, { accessFlags := 24, nameIndex := 38, descriptorIndex := 21, attributes := #[] }, { accessFlags := 24, nameIndex := 40, descriptorIndex := 21, attributes := #[] }, { accessFlags := 24, nameIndex := 42, descriptorIndex := 21, attributes := #[] }, { accessFlags := 26, nameIndex := 44, descriptorIndex := 21, attributes := #[] }, { accessFlags := 26, nameIndex := 46, descriptorIndex := 21, attributes := #[] }, { accessFlags := 18, nameIndex := 20, descriptorIndex := 21, attributes := #[] }])
  fields := #[{ name := "DEFAULT", type := .int, accessFlags := 24, slot := 0, constantValue := 0 }, { name := "FEWEST", type := .int, accessFlags := 24, slot := 1, constantValue := 0 }, { name := "MOST", type := .int, accessFlags := 24, slot := 2, constantValue := 0 }, { name := "BATCHERS", type := .int, accessFlags := 24, slot := 3, constantValue := 0 }, { name := "LISTENING", type := .int, accessFlags := 26, slot := 4, constantValue := 0 }, { name := "LOCK_WAITS_SEVENTHS", type := .int, accessFlags := 26, slot := 5, constantValue := 0 }, { name := "total", type := .int, accessFlags := 18, slot := 0, constantValue := 0 }]
  methods := #[k2m0, k2m1]
  instanceTypes := #[.int]
  staticTypes := #[.int, .int, .int, .int, .int, .int]
  resolved := Array.replicate 69 none
  statics := none }

def pool3 : Array CpInfo := pool [(1, .class_ 2), (0, u "java/lang/Math"), (1, .class_ 6), (1, u "java/lang/Object"), (0, u "<init>"), (0, u "()V"), (89, .class_ 100), (1, u "java/lang/Math$RandomNumberGeneratorHolder"), (71, u "negativeZeroFloatBits"), (0, u "J"), (2, u "negativeZeroDoubleBits"), (21, u "max"), (46, u "$assertionsDisabled"), (0, u "Z"), (88, u "(II)I"), (2, u "twoToTheDoubleScaleDown"), (0, u "D"), (4, u "twoToTheDoubleScaleUp"), (9, u "E"), (3, u "PI"), (2, u "TAU"), (2, u "DEGREES_TO_RADIANS"), (0, u "RADIANS_TO_DEGREES")] 94

def k3m0 : Method := { name := "<init>", desc := "()V", sig := { parameters := [], returnType := none }, accessFlags := 2, code := none }
def k3c1 : Code := { maxStack := 2, maxLocals := 2, code := jdk_29_method_65_code, exceptionTable := #[], attributes := #[] }
def k3m1 : Method := { name := "max", desc := "(II)I", sig := { parameters := [.int, .int], returnType := some .int }, accessFlags := 9, code := some k3c1 }
/-- java/lang/Math -/
def k3 : Class := { plain "java/lang/Math" (some 0) with
  accessFlags := 49
  interfaces := #[]
  cf := some (fileOf pool3 1 #[.nestMembers #[98]] #[{ accessFlags := 2, nameIndex := 7, descriptorIndex := 8, attributes := #[] }, { accessFlags := 9, nameIndex := 198, descriptorIndex := 335, attributes := #[] }] 49 4 #[] #[{ accessFlags := 25, nameIndex := 354, descriptorIndex := 339, attributes := #[] }, { accessFlags := 25, nameIndex := 358, descriptorIndex := 339, attributes := #[] }, { accessFlags := 25, nameIndex := 361, descriptorIndex := 339, attributes := #[] }, { accessFlags := 26, nameIndex := 364, descriptorIndex := 339, attributes := #[] }, { accessFlags := 26, nameIndex := 365, descriptorIndex := 339, attributes := #[] }, { accessFlags := 26, nameIndex := 172, descriptorIndex := 173, attributes := #[] }, { accessFlags := 26, nameIndex := 176, descriptorIndex := 173, attributes := #[] }, { accessFlags := 8, nameIndex := 344, descriptorIndex := 339, attributes := #[] }, { accessFlags := 8, nameIndex := 338, descriptorIndex := 339, attributes := #[] }, { accessFlags := 4120, nameIndex := 245, descriptorIndex := 246, attributes := #[] }])
  fields := #[{ name := "E", type := .double, accessFlags := 25, slot := 0, constantValue := 0 }, { name := "PI", type := .double, accessFlags := 25, slot := 1, constantValue := 0 }, { name := "TAU", type := .double, accessFlags := 25, slot := 2, constantValue := 0 }, { name := "DEGREES_TO_RADIANS", type := .double, accessFlags := 26, slot := 3, constantValue := 0 }, { name := "RADIANS_TO_DEGREES", type := .double, accessFlags := 26, slot := 4, constantValue := 0 }, { name := "negativeZeroFloatBits", type := .long, accessFlags := 26, slot := 5, constantValue := 0 }, { name := "negativeZeroDoubleBits", type := .long, accessFlags := 26, slot := 6, constantValue := 0 }, { name := "twoToTheDoubleScaleUp", type := .double, accessFlags := 8, slot := 7, constantValue := 0 }, { name := "twoToTheDoubleScaleDown", type := .double, accessFlags := 8, slot := 8, constantValue := 0 }, { name := "$assertionsDisabled", type := .boolean, accessFlags := 4120, slot := 9, constantValue := 0 }]
  methods := #[k3m0, k3m1]
  instanceTypes := #[]
  staticTypes := #[.double, .double, .double, .double, .double, .long, .long, .double, .double, .boolean]
  resolved := Array.replicate 460 none
  statics := none }

def pool4 : Array CpInfo := pool [(1, u "java/lang/Cloneable"), (0, .class_ 1), (0, u "java/lang/Object"), (0, .class_ 3)] 3

/-- java/lang/Cloneable -/
def k4 : Class := { plain "java/lang/Cloneable" (some 0) with
  accessFlags := 1537
  interfaces := #[]
  cf := some (fileOf pool4 2 #[] #[] 1537 4 #[] #[])
  fields := #[]
  methods := #[]
  instanceTypes := #[]
  staticTypes := #[]
  resolved := Array.replicate 8 none
  statics := none }

def pool5 : Array CpInfo := pool [(1, u "java/io/Serializable"), (0, .class_ 1), (0, u "java/lang/Object"), (0, .class_ 3)] 3

/-- java/io/Serializable -/
def k5 : Class := { plain "java/io/Serializable" (some 0) with
  accessFlags := 1537
  interfaces := #[]
  cf := some (fileOf pool5 2 #[] #[] 1537 4 #[] #[])
  fields := #[]
  methods := #[]
  instanceTypes := #[]
  staticTypes := #[]
  resolved := Array.replicate 8 none
  statics := none }

/-- the primitive byte -/
def k6 : Class := { plain "byte" none with kind := .primitive 'B', accessFlags := 0x411 }
/-- [B -/
def k7 : Class := { plain "[B" (some 0) with kind := .array 6 .byte, interfaces := #[4, 5], accessFlags := 1041 }

/-- the primitive int -/
def k8 : Class := { plain "int" none with kind := .primitive 'I', accessFlags := 0x411 }
/-- [I -/
def k9 : Class := { plain "[I" (some 0) with kind := .array 8 .int, interfaces := #[4, 5], accessFlags := 1041 }

def heap : Heap := #[]
def classes : Array Class := #[k0, k1, k2, k3, k4, k5, k6, k7, k8, k9]
def interned : List (Array UInt16 × Addr) := []
def slotsUsed : Nat := 0
def theMethod : MethodId := ⟨1, 1⟩
def args0 : Array Value := #[.int 5]
def aboutOver (below : List Frame) : State where
  vm := { classes := classes, interned := interned.toArray }
  heap := heap
  slotsUsed := slotsUsed
  threads := #[{ frames := .invoking theMethod args0 :: below }]
def below0 : List Frame := [.native { method := ⟨0, 0⟩, args := #[] }]
def about1 : State := aboutOver below0
def p0 : Program := .bare "" "" ""
def e0 : Env := launch0.env 0 0 0
theorem w_frames : about1.frames = Frame.invoking theMethod args0 :: below0 := rfl
set_option maxRecDepth 65536 in
theorem w_args : argsFit about1.vm theMethod args0 = true := by decide +kernel
set_option maxRecDepth 65536 in
theorem w_heap : heapFits about1 = true := by decide +kernel
set_option maxRecDepth 65536 in
theorem w_runnable : about1.curStatus? = some .runnable := by decide +kernel
set_option maxRecDepth 65536 in
theorem w_alone : about1.alone = true := by decide +kernel
set_option maxRecDepth 65536 in
theorem w_named : about1.methodNamed? x = some theMethod := by decide +kernel
set_option maxRecDepth 65536 in
theorem w_hears : about1.hears theMethod below0 = true := by decide +kernel
set_option maxRecDepth 65536 in
theorem w_ripe : about1.ripe theMethod args0 below0 = true := by decide +kernel
theorem w_running : about1.status = .running := rfl
set_option maxRecDepth 65536 in
theorem w_room : about1.hasRoom e0.platform room_1 = true :=
  launch0.hasRoom_least _ room_1 (by decide +kernel) (by decide +kernel) (by decide +kernel) (by decide +kernel) (by decide +kernel) (by decide +kernel)
theorem allAtoms_all (ts : List Jvm.Cond) (a : Array Jvm.Value) (st : Jvm.State) : (allAtoms ts).before a st = ts.all (fun c => c.before a st) := by
  induction ts with
  | nil => rfl
  | cons c t ih =>
    show (Jvm.Cond.and c (allAtoms t)).before a st = _
    rw [Jvm.Cond.before_and, ih, List.all_cons]
def words1 : List Jvm.Cond := Jvm.Cond.code x code maxLocals ret :: tables_1
/-- a 'code' word, met by the world's own term for the bytes: nothing is compared byte by byte -/
theorem code_word {y : MethodName} {bytes : ByteArray} {mx : Nat} {rt : Option FieldType} {a : Array Value} {s : State} {m : MethodId} {meth : Method} {c : Code} (h1 : s.methodNamed? y = some m) (h2 : s.vm.method? m = some meth) (h3 : meth.code = some c) (h4 : c.code = bytes)
    (h5 : (c.maxLocals == mx && c.exceptionTable.isEmpty && decide (c.maxStack ≤ mostOperands) && decide (meth.sig.returnType = rt) && !meth.locks && decide (parseMethodDescriptor y.desc = some meth.sig)) = true) : (Jvm.Cond.code y bytes mx rt).before a s = true := by
  simp only [Bool.and_eq_true, beq_iff_eq, Bool.not_eq_true', decide_eq_true_eq] at h5
  obtain ⟨⟨⟨⟨⟨g1, g2⟩, g3⟩, g4⟩, g5⟩, g6⟩ := h5
  simp [Cond.before, Cond.holds, Cond.value, h1, h2, h3, h4, g1, g2, g3, g4, g5, g6]
def isCode : Jvm.Cond → Bool
  | .code _ _ _ _ => true
  | _ => false
theorem all_split {L : List Jvm.Cond} {P : Jvm.Cond → Bool} (h1 : L.all (fun c => isCode c || P c) = true) (h2 : ∀ c ∈ L.filter isCode, P c = true) : L.all P = true := by
  refine List.all_eq_true.mpr fun c hc => ?_
  have h := List.all_eq_true.mp h1 c hc
  rcases Bool.eq_false_or_eq_true (isCode c) with hi | hi
  · exact h2 c (List.mem_filter.mpr ⟨hc, hi⟩)
  · simpa [hi] using h
set_option maxRecDepth 65536 in
theorem w_c0 : (Jvm.Cond.code x code maxLocals ret).before args0 about1 = true := code_word (m := ⟨1, 1⟩) (meth := k1m1) (c := k1c1) (by decide +kernel) rfl rfl rfl (by decide +kernel)
set_option maxRecDepth 65536 in
theorem w_c1 : (Jvm.Cond.code ({ cls := "com/example/lease/lease/Sessions", name := "<init>", desc := "(I)V" } : Jvm.MethodName) prog_8_method_1_code (2 : Nat) (Option.none : Option Jvm.ClassFile.FieldType)).before args0 about1 = true := code_word (m := ⟨2, 0⟩) (meth := k2m0) (c := k2c0) (by decide +kernel) rfl rfl rfl (by decide +kernel)
set_option maxRecDepth 65536 in
theorem w_c2 : (Jvm.Cond.code ({ cls := "java/lang/Object", name := "<init>", desc := "()V" } : Jvm.MethodName) object_method_1_code (1 : Nat) (Option.none : Option Jvm.ClassFile.FieldType)).before args0 about1 = true := code_word (m := ⟨0, 0⟩) (meth := k0m0) (c := k0c0) (by decide +kernel) rfl rfl rfl (by decide +kernel)
set_option maxRecDepth 65536 in
theorem w_c3 : (Jvm.Cond.code ({ cls := "com/example/lease/lease/Sessions", name := "lockWaits", desc := "()I" } : Jvm.MethodName) prog_8_method_3_code (1 : Nat) (Option.some Jvm.ClassFile.FieldType.int)).before args0 about1 = true := code_word (m := ⟨2, 1⟩) (meth := k2m1) (c := k2c1) (by decide +kernel) rfl rfl rfl (by decide +kernel)
set_option maxRecDepth 65536 in
theorem w_c4 : (Jvm.Cond.code ({ cls := "java/lang/Math", name := "max", desc := "(II)I" } : Jvm.MethodName) jdk_29_method_65_code (2 : Nat) (Option.some Jvm.ClassFile.FieldType.int)).before args0 about1 = true := code_word (m := ⟨3, 1⟩) (meth := k3m1) (c := k3c1) (by decide +kernel) rfl rfl rfl (by decide +kernel)
def codes1 : List Jvm.Cond := [Jvm.Cond.code x code maxLocals ret, Jvm.Cond.code ({ cls := "com/example/lease/lease/Sessions", name := "<init>", desc := "(I)V" } : Jvm.MethodName) prog_8_method_1_code (2 : Nat) (Option.none : Option Jvm.ClassFile.FieldType), Jvm.Cond.code ({ cls := "java/lang/Object", name := "<init>", desc := "()V" } : Jvm.MethodName) object_method_1_code (1 : Nat) (Option.none : Option Jvm.ClassFile.FieldType), Jvm.Cond.code ({ cls := "com/example/lease/lease/Sessions", name := "lockWaits", desc := "()I" } : Jvm.MethodName) prog_8_method_3_code (1 : Nat) (Option.some Jvm.ClassFile.FieldType.int), Jvm.Cond.code ({ cls := "java/lang/Math", name := "max", desc := "(II)I" } : Jvm.MethodName) jdk_29_method_65_code (2 : Nat) (Option.some Jvm.ClassFile.FieldType.int)]
set_option maxRecDepth 65536 in
theorem codes_eq : words1.filter isCode = codes1 := rfl
theorem w_codes : ∀ c ∈ words1.filter isCode, c.before args0 about1 = true := by
  rw [codes_eq]
  intro c hc
  simp only [codes1, List.mem_cons, List.not_mem_nil, or_false] at hc
  rcases hc with rfl | rfl | rfl | rfl | rfl
  · exact w_c0
  · exact w_c1
  · exact w_c2
  · exact w_c3
  · exact w_c4
set_option maxRecDepth 65536 in
theorem w_t1 : words1.all (fun c => isCode c || c.before args0 about1) = true := by decide +kernel
theorem w_tables : (allAtoms (Jvm.Cond.code x code maxLocals ret :: tables_1)).before args0 about1 = true := by
  rw [allAtoms_all]
  show words1.all (fun c => c.before args0 about1) = true
  refine all_split ?_ w_codes
  rw [w_t1]
set_option maxRecDepth 65536 in
theorem w_case : (Jvm.Cond.and given_1 narrow_1).before args0 about1 = true := by decide +kernel
theorem w_applies : (headSpec (Jvm.Cond.code x code maxLocals ret :: tables_1) room_1).applies x e0.platform about1 = true :=
  (Spec.applies_iff w_frames).mpr ⟨w_running, w_runnable, w_alone, w_named, w_hears, w_ripe, w_room, w_tables⟩
theorem atStart : AtStart classFile x code maxLocals ret World_1 tables_1 room_1 Calls_1 rest_1 Pre_1 launch0 p0 e0 about1 theMethod args0 below0 :=
  ⟨lists_1, trivial, launch0.admits_env _ _ _, launch0.least_env, fairChoices_fair.cas, fairChoices_fair.clock, w_frames, w_args, w_heap, w_applies, trivial, trivial, w_case⟩
end start1
theorem witness_1 : WitnessClaimed_1 := ⟨start1.p0, start1.e0, start1.about1, start1.theMethod, start1.args0, start1.below0, start1.atStart⟩
end Jvm.Pilot.@@N@@
