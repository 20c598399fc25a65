import JvmDerived
import JvmDerived.Pilot.@@N@@Statement
import JvmDerived.Pilot.@@N@@Code
set_option linter.unusedVariables false
set_option linter.unusedSimpArgs false
namespace Jvm.Pilot.@@N@@
open Jvm Jvm.ClassFile Sem Op Lib Jvm.Free Jvm.Stand Jvm.LawKit Jvm.RoadKit Bundle Jvm.Pilot.@@N@@.Jvm.D
abbrev y1 : MethodName := ⟨"com/example/minderd/minderd/config/Limits", "defaultMemory", "(J)J"⟩
abbrev y2 : MethodName := ⟨"com/example/minderd/minderd/config/Limits", "percent", "(JI)J"⟩
abbrev y3 : MethodName := ⟨"java/lang/Math", "min", "(JJ)J"⟩

abbrev jv (x : Int64) : Slot := .val (.long x)
abbrev un : Slot := .unset
abbrev se : Slot := .second
abbrev AT (p : Program) (e : Env) (below : List Frame) (T : State) (m : MethodId) (pc : Nat) (ls : Array Slot) (st : List Value) (tg : State) : Prop := Steps p.tables e below (T.setTop (mkF m pc ls st)) tg
theorem ow {Z : State} {a0 : Array Value} (hw : ∀ d ∈ tables_1, d.before a0 Z = true) (i : Nat) {d : Jvm.Cond} (h : tables_1[i]? = some d) : d.before a0 Z = true := hw _ (List.mem_of_getElem? h)
theorem own_lrem {p : Program} {l : Launch} {e : Env} {R : Room} {s : State} {m : MethodId} {args : Array Value} {below : List Frame} {meth : Method} {c : Code} {T : State} {locs : List Loc} {cells slots : Nat} {g : JFrame} {target : State} (X : Stand p l e R s m args below meth c T locs cells slots) (hx : p.tables.exec = Jvm.exec) (hg : g.method = m) {x y : Int64} {rest : List Value} (hd : decode c.code g.pc = .ok (.lrem, 1)) (hs : g.stack = .long y :: .long x :: rest) (hy : y ≠ 0)
    (hr : Steps p.tables e below (T.setTop { g with pc := g.pc + 1, stack := .long (x % y) :: rest }) target) : Steps p.tables e below (T.setTop g) target :=
  XS.lrem X.here hx hg hd hs hy (by rw [lrem_mod]; exact hr)
theorem own_eqInt {args : Array Value} {first s : State} {o : Option Outcome} {idx : List Nat} {t : Term} {n : Int32} (h : (Jvm.Cond.eq t (.int n)).value args first o s idx = some true) : t.eval args first o idx s = some (.int n) := by
  simp only [Cond.value, Term.eval] at h
  cases ht : t.eval args first o idx s with
  | none => simp [ht] at h
  | some v => cases v <;> simp [ht] at h ⊢; exact h
theorem own_eqLong {args : Array Value} {first s : State} {o : Option Outcome} {idx : List Nat} {t : Term} {n : Int64} (h : (Jvm.Cond.eq t (.long n)).value args first o s idx = some true) : t.eval args first o idx s = some (.long n) := by
  simp only [Cond.value, Term.eval] at h
  cases ht : t.eval args first o idx s with
  | none => simp [ht] at h
  | some v => cases v <;> simp [ht] at h ⊢; exact h
theorem own_eqRef {args : Array Value} {first s : State} {o : Option Outcome} {idx : List Nat} {t u : Term} {a : Addr} (hu : u.eval args first o idx s = some (.ref a)) (h : (Jvm.Cond.eq t u).value args first o s idx = some true) : t.eval args first o idx s = some (.ref a) := by
  simp only [Cond.value, hu] at h
  cases ht : t.eval args first o idx s with
  | none => simp [ht] at h
  | some v => cases v <;> simp [ht] at h ⊢; exact h

theorem own_x32 {a b : Int} (h : (a - b) % 4294967296 = 0) (r : -2147483648 ≤ a ∧ a ≤ 2147483647) (q : -2147483648 ≤ b ∧ b ≤ 2147483647) : a = b := by omega
theorem own_x64 {a b : Int} (h : (a - b) % 18446744073709551616 = 0) (r : -9223372036854775808 ≤ a ∧ a ≤ 9223372036854775807) (q : -9223372036854775808 ≤ b ∧ b ≤ 9223372036854775807) : a = b := by omega
theorem own_in {c : Cell} {n : Int32} (j : Int32) (S : c.slots.size = n.toNatClampNeg) (q : ¬ j < 0 ∧ j < n) : ¬ (j < 0 ∨ c.slots.size ≤ j.toNatClampNeg) := inb_of S q
theorem own_up {x a b : Int32} (h : x < a) (q : a.toInt ≤ b.toInt) : x < b := Int32.lt_iff_toInt_lt.mpr (Int.lt_of_lt_of_le (Int32.lt_iff_toInt_lt.mp h) q)
theorem own_dn {x a b : Int32} (h : ¬ x < a) (q : b.toInt ≤ a.toInt) : ¬ x < b := fun z => h (own_up z q)
theorem own_neInt {args : Array Value} {first s : State} {o : Option Outcome} {idx : List Nat} {t : Term} {x n : Int32} (ht : t.eval args first o idx s = some (.int x)) (h : (Jvm.Cond.not (Jvm.Cond.eq t (.int n))).value args first o s idx = some true) : ¬ x = n := by
  simpa [Cond.value, Term.eval, ht] using h

theorem own_len {Z : State} {args : Array Value} {t : Term} {a : Addr} {cl : Cell} {ty : FieldType} {n : Int32} (ev : t.eval args Z none [] Z = some (.ref a)) (A : Arr Z Z.heap a cl ty) (h : (Term.length t).eval args Z none [] Z = some (.int n)) : cl.slots.size < 2 ^ 31 ∧ cl.slots.size.toInt32 = n := by
  have q := A.fin (U := Z) (Vm.Alike.refl _)
  simp only [Term.eval, ev, q, Option.bind_eq_bind, Option.bind_some, Option.pure_def] at h
  split at h
  · rename_i hlt; exact ⟨hlt, by simpa using h⟩
  · simp at h

theorem own_nar {v : Value} {c : String} (h : v.isRef = true) : narrow (.object c) v = v := by cases v <;> first | rfl | simp [Value.isRef] at h
theorem own_fits {v : Value} {c : String} (h : v.isRef = true) : fits (.object c) v = true := by cases v <;> first | rfl | simp [Value.isRef] at h
theorem own_cat {v : Value} (h : v.isRef = true) : v.category = 1 := by cases v <;> first | rfl | simp [Value.isRef] at h

theorem own_notOf {Z : State} {a0 : Array Value} {C S K : String} {n : Nat} (w : (Jvm.Cond.superclass C S).before a0 Z = true) (w0 : (Jvm.Cond.noSuperclass S).before a0 Z = true) (wk : (Jvm.Cond.instantiable K n).before a0 Z = true) (h1 : C ≠ K) (h2 : S ≠ K) :
    ∃ c t, Z.vm.findClass C = some c ∧ Z.vm.findClass K = some t ∧ Z.vm.assignable c t = false := by
  obtain ⟨t, k', g0, g2, g5, g7, -⟩ := Cond.instantiable_spec wk
  obtain ⟨c, h0⟩ := found_sup w
  obtain ⟨p, k, kp, q1, q2, q3, q4, q5, q6, q7⟩ := Cond.superclass_spec h0 w
  obtain ⟨c0, k0, r1, r2, r3, -, -⟩ := Cond.noSuperclass_spec w0
  cases q1.symm.trans r1
  have ne1 := ids_ne h0 g0 h1
  have ne2 := ids_ne r1 g0 h2
  have g8 := (Bool.or_eq_false_iff.mp g7).1
  have n3 : ∀ fuel, Z.vm.isSubclassAux fuel c t = false := by
    intro fuel
    cases fuel with
    | zero => rfl
    | succ f =>
      cases f with
      | zero => simp [Vm.isSubclassAux, ne1, q2, q4]
      | succ g => simp [Vm.isSubclassAux, ne1, ne2, q2, q4, r2, r3]
  refine ⟨c, t, h0, g0, ?_⟩
  show Z.vm.assignableAux (255 + 1) c t = false
  simp [Vm.assignableAux, ne1, q2, g2, q5, g5, g8, Vm.isSubclass, n3]

theorem own_selP {Z s : State} {a0 args : Array Value} {y : MethodName} {n : Nat} (hZ : Z.Warmed39 s.vm) (wi : (Jvm.Cond.instantiable y.cls n).before a0 Z = true) (wp : (Jvm.Cond.privateMethod y).before a0 Z = true) (wm : (Jvm.Cond.instanceMethod y).before a0 Z = true) (hy : y.cls ≠ "java/lang/invoke/MethodHandle" ∧ y.cls ≠ "java/lang/invoke/VarHandle") : (Jvm.Cond.selects y.cls y y).before args s = true := by
  obtain ⟨c, k, hc, hk, -, hni, -⟩ := Cond.instantiable_spec (mvT (s := s) (args := args) hZ wi)
  exact selects_self_of_private hc hk (Bool.or_eq_false_iff.mp hni).1 (Cond.privateMethod_at (mvP hZ wp (args := #[]))) (mvT hZ wm) hy

theorem own_neS {Z : State} {h : Heap} {a b u w : Addr} {C f d : String} {k k' : ClassId} {ty : FieldType} {z z' : Int32} {vs vs' : List Value} {dv dv' : Value} (Fa : Fld Z h a C f d (.ref u)) (Va : Arv Z h u k ty z vs dv) (Fb : Fld Z h b C f d (.ref w)) (Vb : Arv Z h w k' ty z' vs' dv') (hn : z ≠ z' ∨ ∃ i : Nat, i < z.toNatClampNeg ∧ vs.getD i dv ≠ vs'.getD i dv') : a ≠ b := fun e => by
  subst e
  have hu : u = w := by
    rcases Decidable.em (u = w) with q | q
    · exact q
    · exact absurd rfl (Fld.ne Fa Fb (fun x => q (Value.ref.inj x)))
  subst hu
  obtain ⟨c1, A1, -, S1, N1, H1, -⟩ := Va
  obtain ⟨c2, A2, -, S2, N2, H2, -⟩ := Vb
  cases A1.1.symm.trans A2.1
  rcases hn with hn | ⟨i, hi, hn⟩
  · exact hn ((len_of S1 N1).symm.trans (len_of S2 N2))
  · have q1 := H1 i (by rw [S1]; exact hi)
    have q2 := H2 i (by rw [S1]; exact hi)
    exact hn (Option.some.inj (q1.symm.trans q2))
theorem pn_0 : plainName "com/example/minderd/minderd/config/Limits" = true := by first | (simp [plainName, overriddenIn]; done) | decide +kernel
theorem pn_1 : plainName "com/example/minderd/minderd/config/LimitsDefaultMemoryPinLaw" = true := by first | (simp [plainName, overriddenIn]; done) | decide +kernel
theorem pd_0 : parseMethodDescriptor "(JI)J" = some ⟨[.long, .int], some .long⟩ := by decide +kernel
theorem pd_1 : parseMethodDescriptor "(JJ)J" = some ⟨[.long, .long], some .long⟩ := by decide +kernel
theorem pd_2 : parseMethodDescriptor "(J)J" = some ⟨[.long], some .long⟩ := by decide +kernel
theorem d3_0 : decode jdk_29_method_70_code 0 = .ok (.lload_n 0, 1) := by decide +kernel
theorem d3_1 : decode jdk_29_method_70_code 1 = .ok (.lload_n 2, 1) := by decide +kernel
theorem d3_2 : decode jdk_29_method_70_code 2 = .ok (.lcmp, 1) := by decide +kernel
theorem d3_3 : decode jdk_29_method_70_code 3 = .ok (.ifCond .gt 7, 3) := by decide +kernel
theorem d3_6 : decode jdk_29_method_70_code 6 = .ok (.lload_n 0, 1) := by decide +kernel
theorem d3_7 : decode jdk_29_method_70_code 7 = .ok (.goto 4, 3) := by decide +kernel
theorem d3_10 : decode jdk_29_method_70_code 10 = .ok (.lload_n 2, 1) := by decide +kernel
theorem d3_11 : decode jdk_29_method_70_code 11 = .ok (.lreturn, 1) := by decide +kernel
theorem ef_3 (m : MethodId) (q0 : Int64) (q1 : Int64) : entryFrame m #[(.long q0), (.long q1)] 4 = mkF m 0 #[jv q0, se, jv q1, se] [] := by first | (simp [entryFrame, mkF, argsToLocals, Value.category]; done) | rfl
def f3 (q0 : Int64) (q1 : Int64) : Int64 := if q1 < q0 then q1 else q0
def Q3 (Z : State) (q0 : Int64) (q1 : Int64) (h0 : Heap) (n0 : Nat) (v : Option Value) (h : Heap) (L : List Loc) : Prop := v = some (.long (f3 q0 q1)) ∧ Fr n0 L ∧ h = h0
set_option maxRecDepth 65536 in
set_option maxHeartbeats 40000000 in
theorem rm3 (l : Launch) (Z : State) (ar : Array Value) (hw : ∀ d ∈ tables_1, d.before ar Z = true) (ws : List Jvm.Cond) (q0 : Int64) (q1 : Int64) (h0 : Heap) (n0 : Nat) (O0 : Old Z n0 h0) :
    MetFree l y3 (head1 (Jvm.Cond.code y3 jdk_29_method_70_code 4 (some .long) :: ws) ({ frames := 0, cells := 0, slots := 0, locals := 0 } : Room)) (fun a U => a = #[(.long q0), (.long q1)] ∧ Z.Warmed39 U.vm ∧ U.heap = h0) (fun _ _ _ _ _ => True) (fun _ U o U' => ∃ v L, o = .returned v ∧ Q3 Z q0 q1 h0 n0 v U'.heap L ∧ FrameEnd U o U' L ({ frames := 0, cells := 0, slots := 0, locals := 0 } : Room).cells ({ frames := 0, cells := 0, slots := 0, locals := 0 } : Room).slots) := by
 refine MetFree.of_bodySF (Jvm.Free.JP.mathPlain rfl (by decide +kernel)) hisR ?_
 intro p e s m args below meth c s₁ Bd hml0 hP hK
 obtain ⟨rfl, hZ, hh⟩ := hP
 have hx := Bd.exec
 have hby := Bd.bytes
 have hml : c.maxLocals = 4 := hml0
 have hown : s.vm.findClass "java/lang/Math" = some m.cls := findClass_of_methodNamed Bd.named
 have hnm := (name_of_methodNamed Bd.named Bd.method).1
 have X0 : Stand p l e ({ frames := 0, cells := 0, slots := 0, locals := 0 } : Room) s m #[(.long q0), (.long q1)] below meth c s₁ [] 0 0 := Stand.of_body Bd
 have e0 : s₁.heap = h0 := by rw [← hh, Bd.state]; rfl
 have N0 := Fr.nil n0
 have Z0 : n0 ≤ h0.size := Nat.le_trans (Nat.le_of_eq O0.1.symm) O0.2.1
 obtain ⟨S0, hS0⟩ : ∃ z, z = s₁.setTop (entryFrame m #[(.long q0), (.long q1)] 4) := ⟨_, rfl⟩
 have pre0 : ∀ tg, AT p e below s₁ m 0 #[jv q0, se, jv q1, se] [] tg → Steps p.tables e below S0 tg := fun tg kg => by rw [hS0]; exact castTop (ef_3 m q0 q1) kg
 have pre1 : ∀ tg, AT p e below s₁ m 3 #[jv q0, se, jv q1, se] [(.int (XT.cmpL q0 q1))] tg → Steps p.tables e below S0 tg := fun tg kg => pre0 tg (by
  refine XS.lloadN X0.here hx rfl (hb hby d3_0) rfl ?_
  show AT p e below s₁ m 1 #[jv q0, se, jv q1, se] [(.long q0)] _
  refine XS.lloadN X0.here hx rfl (hb hby d3_1) rfl ?_
  show AT p e below s₁ m 2 #[jv q0, se, jv q1, se] [(.long q1), (.long q0)] _
  refine XS.lcmp X0.here hx rfl (hb hby d3_2) rfl ?_
  exact kg)
 rcases Decidable.em (q1 < q0) with hc2 | hc2
 ·
  obtain ⟨fs, hr, hrun, hended, hW, hsame⟩ := X0.leave (v := some (.long q1)) (fun h => by rw [Bd.returns] at h; cases h)
  subst hS0
  refine ⟨_, _, pre1 _ ?_, hrun, hended, _, _, rfl, ?_, ⟨_, rfl⟩, hW, hsame.mono (by decide) (by decide)⟩
  ·
   refine XS.ifYes X0.here hx rfl (pc0 := 3) (pc' := 10) rfl (hb hby d3_3) rfl (XT.ll_gt_t hc2) (by decide) (by decide) ?_
   show AT p e below s₁ m 10 #[jv q0, se, jv q1, se] [] _
   refine XS.lloadN X0.here hx rfl (hb hby d3_10) rfl ?_
   show AT p e below s₁ m 11 #[jv q0, se, jv q1, se] [(.long q1)] _
   exact retOut X0 hx (t := .long) (i := .lreturn) Bd.returns rfl (Or.inr (Or.inl ⟨rfl, rfl, _, rfl⟩)) (hb hby d3_11) hr
  ·
   show Q3 Z q0 q1 h0 n0 _ s₁.heap _
   rw [e0]
   exact ⟨(by rw [f3, if_pos hc2]), N0, rfl⟩
 ·
  obtain ⟨fs, hr, hrun, hended, hW, hsame⟩ := X0.leave (v := some (.long q0)) (fun h => by rw [Bd.returns] at h; cases h)
  subst hS0
  refine ⟨_, _, pre1 _ ?_, hrun, hended, _, _, rfl, ?_, ⟨_, rfl⟩, hW, hsame.mono (by decide) (by decide)⟩
  ·
   refine XS.ifNo X0.here hx rfl (hb hby d3_3) rfl (XT.ll_gt_f hc2) ?_
   show AT p e below s₁ m 6 #[jv q0, se, jv q1, se] [] _
   refine XS.lloadN X0.here hx rfl (hb hby d3_6) rfl ?_
   show AT p e below s₁ m 7 #[jv q0, se, jv q1, se] [(.long q0)] _
   refine XS.goto X0.here hx rfl (pc0 := 7) (pc' := 11) rfl (hb hby d3_7) (by decide) (by decide) ?_
   show AT p e below s₁ m 11 #[jv q0, se, jv q1, se] [(.long q0)] _
   exact retOut X0 hx (t := .long) (i := .lreturn) Bd.returns rfl (Or.inr (Or.inl ⟨rfl, rfl, _, rfl⟩)) (hb hby d3_11) hr
  ·
   show Q3 Z q0 q1 h0 n0 _ s₁.heap _
   rw [e0]
   exact ⟨(by rw [f3, if_neg hc2]), N0, rfl⟩

theorem d2_0 : decode prog_9_method_4_code 0 = .ok (.lload_n 0, 1) := by decide +kernel
theorem d2_1 : decode prog_9_method_4_code 1 = .ok (.ldc2_w 32, 3) := by decide +kernel
theorem d2_4 : decode prog_9_method_4_code 4 = .ok (.ldiv, 1) := by decide +kernel
theorem d2_5 : decode prog_9_method_4_code 5 = .ok (.iload_n 2, 1) := by decide +kernel
theorem d2_6 : decode prog_9_method_4_code 6 = .ok (.i2l, 1) := by decide +kernel
theorem d2_7 : decode prog_9_method_4_code 7 = .ok (.lmul, 1) := by decide +kernel
theorem d2_8 : decode prog_9_method_4_code 8 = .ok (.lload_n 0, 1) := by decide +kernel
theorem d2_9 : decode prog_9_method_4_code 9 = .ok (.ldc2_w 32, 3) := by decide +kernel
theorem d2_12 : decode prog_9_method_4_code 12 = .ok (.lrem, 1) := by decide +kernel
theorem d2_13 : decode prog_9_method_4_code 13 = .ok (.iload_n 2, 1) := by decide +kernel
theorem d2_14 : decode prog_9_method_4_code 14 = .ok (.i2l, 1) := by decide +kernel
theorem d2_15 : decode prog_9_method_4_code 15 = .ok (.lmul, 1) := by decide +kernel
theorem d2_16 : decode prog_9_method_4_code 16 = .ok (.ldc2_w 32, 3) := by decide +kernel
theorem d2_19 : decode prog_9_method_4_code 19 = .ok (.ldiv, 1) := by decide +kernel
theorem d2_20 : decode prog_9_method_4_code 20 = .ok (.ladd, 1) := by decide +kernel
theorem d2_21 : decode prog_9_method_4_code 21 = .ok (.lreturn, 1) := by decide +kernel
theorem ef_2 (m : MethodId) (q0 : Int64) (p1 : Int32) : entryFrame m #[(.long q0), (.int p1)] 3 = mkF m 0 #[jv q0, se, iv p1] [] := by first | (simp [entryFrame, mkF, argsToLocals, Value.category]; done) | rfl
def f2 (q0 : Int64) (p1 : Int32) : Int64 := (((q0 / (100 : Int64)) * (p1.toInt64)) + (((q0 % (100 : Int64)) * (p1.toInt64)) / (100 : Int64)))
def Q2 (Z : State) (q0 : Int64) (p1 : Int32) (h0 : Heap) (n0 : Nat) (v : Option Value) (h : Heap) (L : List Loc) : Prop := v = some (.long (f2 q0 p1)) ∧ Fr n0 L ∧ h = h0
set_option maxRecDepth 65536 in
set_option maxHeartbeats 40000000 in
theorem rm2 (l : Launch) (Z : State) (ar : Array Value) (hw : ∀ d ∈ tables_1, d.before ar Z = true) (ws : List Jvm.Cond) (q0 : Int64) (p1 : Int32) (h0 : Heap) (n0 : Nat) (O0 : Old Z n0 h0) :
    MetFree l y2 (head1 (Jvm.Cond.code y2 prog_9_method_4_code 3 (some .long) :: ws) ({ frames := 0, cells := 0, slots := 0, locals := 0 } : Room)) (fun a U => a = #[(.long q0), (.int p1)] ∧ Z.Warmed39 U.vm ∧ U.heap = h0) (fun _ _ _ _ _ => True) (fun _ U o U' => ∃ v L, o = .returned v ∧ Q2 Z q0 p1 h0 n0 v U'.heap L ∧ FrameEnd U o U' L ({ frames := 0, cells := 0, slots := 0, locals := 0 } : Room).cells ({ frames := 0, cells := 0, slots := 0, locals := 0 } : Room).slots) := by
 refine MetFree.of_bodySF (plainFor_of_name pn_0) hisR ?_
 intro p e s m args below meth c s₁ Bd hml0 hP hK
 obtain ⟨rfl, hZ, hh⟩ := hP
 have hx := Bd.exec
 have hby := Bd.bytes
 have hml : c.maxLocals = 3 := hml0
 have hown : s.vm.findClass "com/example/minderd/minderd/config/Limits" = some m.cls := findClass_of_methodNamed Bd.named
 have hnm := (name_of_methodNamed Bd.named Bd.method).1
 have X0 : Stand p l e ({ frames := 0, cells := 0, slots := 0, locals := 0 } : Room) s m #[(.long q0), (.int p1)] below meth c s₁ [] 0 0 := Stand.of_body Bd
 have e0 : s₁.heap = h0 := by rw [← hh, Bd.state]; rfl
 have N0 := Fr.nil n0
 have Z0 : n0 ≤ h0.size := Nat.le_trans (Nat.le_of_eq O0.1.symm) O0.2.1
 obtain ⟨S0, hS0⟩ : ∃ z, z = s₁.setTop (entryFrame m #[(.long q0), (.int p1)] 3) := ⟨_, rfl⟩
 have pre0 : ∀ tg, AT p e below s₁ m 0 #[jv q0, se, iv p1] [] tg → Steps p.tables e below S0 tg := fun tg kg => by rw [hS0]; exact castTop (ef_2 m q0 p1) kg
 obtain ⟨fs, hr, hrun, hended, hW, hsame⟩ := X0.leave (v := some (.long (((q0 / (100 : Int64)) * (p1.toInt64)) + (((q0 % (100 : Int64)) * (p1.toInt64)) / (100 : Int64))))) (fun h => by rw [Bd.returns] at h; cases h)
 subst hS0
 refine ⟨_, _, pre0 _ ?_, hrun, hended, _, _, rfl, ?_, ⟨_, rfl⟩, hW, hsame.mono (by decide) (by decide)⟩
 ·
  refine XS.lloadN X0.here hx rfl (hb hby d2_0) rfl ?_
  show AT p e below s₁ m 1 #[jv q0, se, iv p1] [(.long q0)] _
  refine X0.ldc2Long hx hown (mvT hZ (ow hw 11 rfl)) (g := (mkF m 1 #[jv q0, se, iv p1] [(.long q0)])) rfl (hb hby d2_1) _ ?_
  show AT p e below s₁ m 4 #[jv q0, se, iv p1] [(.long (100 : Int64)), (.long q0)] _
  refine XS.ldiv X0.here hx rfl (hb hby d2_4) rfl (by decide) ?_
  show AT p e below s₁ m 5 #[jv q0, se, iv p1] [(.long (q0 / (100 : Int64)))] _
  refine XS.iloadN X0.here hx rfl (hb hby d2_5) rfl ?_
  show AT p e below s₁ m 6 #[jv q0, se, iv p1] [(.int p1), (.long (q0 / (100 : Int64)))] _
  refine XS.i2l X0.here hx rfl (hb hby d2_6) rfl ?_
  show AT p e below s₁ m 7 #[jv q0, se, iv p1] [(.long (p1.toInt64)), (.long (q0 / (100 : Int64)))] _
  refine XS.lmul X0.here hx rfl (hb hby d2_7) rfl ?_
  show AT p e below s₁ m 8 #[jv q0, se, iv p1] [(.long ((q0 / (100 : Int64)) * (p1.toInt64)))] _
  refine XS.lloadN X0.here hx rfl (hb hby d2_8) rfl ?_
  show AT p e below s₁ m 9 #[jv q0, se, iv p1] [(.long q0), (.long ((q0 / (100 : Int64)) * (p1.toInt64)))] _
  refine X0.ldc2Long hx hown (mvT hZ (ow hw 11 rfl)) (g := (mkF m 9 #[jv q0, se, iv p1] [(.long q0), (.long ((q0 / (100 : Int64)) * (p1.toInt64)))])) rfl (hb hby d2_9) _ ?_
  show AT p e below s₁ m 12 #[jv q0, se, iv p1] [(.long (100 : Int64)), (.long q0), (.long ((q0 / (100 : Int64)) * (p1.toInt64)))] _
  refine own_lrem X0 hx rfl (hb hby d2_12) rfl (by decide) ?_
  show AT p e below s₁ m 13 #[jv q0, se, iv p1] [(.long (q0 % (100 : Int64))), (.long ((q0 / (100 : Int64)) * (p1.toInt64)))] _
  refine XS.iloadN X0.here hx rfl (hb hby d2_13) rfl ?_
  show AT p e below s₁ m 14 #[jv q0, se, iv p1] [(.int p1), (.long (q0 % (100 : Int64))), (.long ((q0 / (100 : Int64)) * (p1.toInt64)))] _
  refine XS.i2l X0.here hx rfl (hb hby d2_14) rfl ?_
  show AT p e below s₁ m 15 #[jv q0, se, iv p1] [(.long (p1.toInt64)), (.long (q0 % (100 : Int64))), (.long ((q0 / (100 : Int64)) * (p1.toInt64)))] _
  refine XS.lmul X0.here hx rfl (hb hby d2_15) rfl ?_
  show AT p e below s₁ m 16 #[jv q0, se, iv p1] [(.long ((q0 % (100 : Int64)) * (p1.toInt64))), (.long ((q0 / (100 : Int64)) * (p1.toInt64)))] _
  refine X0.ldc2Long hx hown (mvT hZ (ow hw 11 rfl)) (g := (mkF m 16 #[jv q0, se, iv p1] [(.long ((q0 % (100 : Int64)) * (p1.toInt64))), (.long ((q0 / (100 : Int64)) * (p1.toInt64)))])) rfl (hb hby d2_16) _ ?_
  show AT p e below s₁ m 19 #[jv q0, se, iv p1] [(.long (100 : Int64)), (.long ((q0 % (100 : Int64)) * (p1.toInt64))), (.long ((q0 / (100 : Int64)) * (p1.toInt64)))] _
  refine XS.ldiv X0.here hx rfl (hb hby d2_19) rfl (by decide) ?_
  show AT p e below s₁ m 20 #[jv q0, se, iv p1] [(.long (((q0 % (100 : Int64)) * (p1.toInt64)) / (100 : Int64))), (.long ((q0 / (100 : Int64)) * (p1.toInt64)))] _
  refine XS.ladd X0.here hx rfl (hb hby d2_20) rfl ?_
  show AT p e below s₁ m 21 #[jv q0, se, iv p1] [(.long (((q0 / (100 : Int64)) * (p1.toInt64)) + (((q0 % (100 : Int64)) * (p1.toInt64)) / (100 : Int64))))] _
  exact retOut X0 hx (t := .long) (i := .lreturn) Bd.returns rfl (Or.inr (Or.inl ⟨rfl, rfl, _, rfl⟩)) (hb hby d2_21) hr
 ·
  show Q2 Z q0 p1 h0 n0 _ s₁.heap _
  rw [e0]
  exact ⟨rfl, N0, rfl⟩

theorem d1_0 : decode prog_9_method_2_code 0 = .ok (.lload_n 0, 1) := by decide +kernel
theorem d1_1 : decode prog_9_method_2_code 1 = .ok (.bipush 35, 2) := by decide +kernel
theorem d1_3 : decode prog_9_method_2_code 3 = .ok (.invokestatic 20, 3) := by decide +kernel
theorem d1_6 : decode prog_9_method_2_code 6 = .ok (.ldc2_w 24, 3) := by decide +kernel
theorem d1_9 : decode prog_9_method_2_code 9 = .ok (.invokestatic 26, 3) := by decide +kernel
theorem d1_12 : decode prog_9_method_2_code 12 = .ok (.lreturn, 1) := by decide +kernel
theorem ef_1 (m : MethodId) (q0 : Int64) : entryFrame m #[(.long q0)] 2 = mkF m 0 #[jv q0, se] [] := by first | (simp [entryFrame, mkF, argsToLocals, Value.category]; done) | rfl
def f1 (q0 : Int64) : Int64 := (f3 (f2 q0 (35 : Int32)) (2516582400 : Int64))
def Q1 (Z : State) (q0 : Int64) (h0 : Heap) (n0 : Nat) (v : Option Value) (h : Heap) (L : List Loc) : Prop := v = some (.long (f1 q0)) ∧ Fr n0 L ∧ h = h0
set_option maxRecDepth 65536 in
set_option maxHeartbeats 40000000 in
theorem rm1 (l : Launch) (Z : State) (ar : Array Value) (hw : ∀ d ∈ tables_1, d.before ar Z = true) (ws : List Jvm.Cond) (q0 : Int64) (h0 : Heap) (n0 : Nat) (O0 : Old Z n0 h0) :
    MetFree l y1 (head1 (Jvm.Cond.code y1 prog_9_method_2_code 2 (some .long) :: ws) ({ frames := 1, cells := 0, slots := 0, locals := 15 } : Room)) (fun a U => a = #[(.long q0)] ∧ Z.Warmed39 U.vm ∧ U.heap = h0) (fun _ _ _ _ _ => True) (fun _ U o U' => ∃ v L, o = .returned v ∧ Q1 Z q0 h0 n0 v U'.heap L ∧ FrameEnd U o U' L ({ frames := 1, cells := 0, slots := 0, locals := 15 } : Room).cells ({ frames := 1, cells := 0, slots := 0, locals := 15 } : Room).slots) := by
 refine MetFree.of_bodySF (plainFor_of_name pn_0) hisR ?_
 intro p e s m args below meth c s₁ Bd hml0 hP hK
 obtain ⟨rfl, hZ, hh⟩ := hP
 have hx := Bd.exec
 have hby := Bd.bytes
 have hml : c.maxLocals = 2 := hml0
 have hown : s.vm.findClass "com/example/minderd/minderd/config/Limits" = some m.cls := findClass_of_methodNamed Bd.named
 have hnm := (name_of_methodNamed Bd.named Bd.method).1
 have X0 : Stand p l e ({ frames := 1, cells := 0, slots := 0, locals := 15 } : Room) s m #[(.long q0)] below meth c s₁ [] 0 0 := Stand.of_body Bd
 have e0 : s₁.heap = h0 := by rw [← hh, Bd.state]; rfl
 have N0 := Fr.nil n0
 have Z0 : n0 ≤ h0.size := Nat.le_trans (Nat.le_of_eq O0.1.symm) O0.2.1
 obtain ⟨S0, hS0⟩ : ∃ z, z = s₁.setTop (entryFrame m #[(.long q0)] 2) := ⟨_, rfl⟩
 have pre0 : ∀ tg, AT p e below s₁ m 0 #[jv q0, se] [] tg → Steps p.tables e below S0 tg := fun tg kg => by rw [hS0]; exact castTop (ef_1 m q0) kg
 obtain ⟨_, _, ⟨T1, L1, k1, n1⟩, -, X1, ⟨Lc1, hQ1, l1, y1, z1⟩, st1⟩ := Jvm.LawKit.callS X0 hx (y := y2) hown (mvT hZ (ow hw 8 rfl)) (mvT hZ (ow hw 9 rfl)) (mvT hZ (ow hw 6 rfl)) (mvT hZ (ow hw 10 rfl)) (by decide) (backOf (W := 0) (rm2 l Z ar hw [] q0 (35 : Int32) h0 n0 O0) hZ (ow hw 10 rfl) (ow hw 6 rfl) (by decide) (by decide)) (g := (mkF m 3 #[jv q0, se] [(.int (35 : Int32)), (.long q0)])) rfl (by rw [hml]; rfl) (argsL := [(.long q0), (.int (35 : Int32))]) (rest := []) (lenOf pd_0 rfl) rfl (by show 2 * 0 + _ ≤ _; exact Nat.le_of_eq rfl) (hb hby d1_3) (fun _ _ => ⟨rfl, e0, (by decide : 0 + 0 ≤ _), (by decide : 0 + 0 ≤ _)⟩)
 dsimp only [Pt.U, Pt.locs, Pt.cells, Pt.slots] at X1 l1 y1 z1 st1 hQ1
 subst l1 y1 z1
 obtain ⟨rfl, N1q, e1⟩ := hQ1
 have N1 := Fr.app N0 N1q
 obtain ⟨_, _, ⟨T2, L2, k2, n2⟩, -, X2, ⟨Lc2, hQ2, l2, y2, z2⟩, st2⟩ := Jvm.LawKit.callS X1 hx (y := y3) hown (mvT hZ (ow hw 13 rfl)) (mvT hZ (ow hw 14 rfl)) (mvT hZ (ow hw 15 rfl)) (mvT hZ (ow hw 16 rfl)) (by decide) (backOf (W := 0) (rm3 l Z ar hw [] (f2 q0 (35 : Int32)) (2516582400 : Int64) h0 n0 O0) hZ (ow hw 16 rfl) (ow hw 15 rfl) (by decide) (by decide)) (g := (mkF m 9 #[jv q0, se] [(.long (2516582400 : Int64)), (.long (f2 q0 (35 : Int32)))])) rfl (by rw [hml]; rfl) (argsL := [(.long (f2 q0 (35 : Int32))), (.long (2516582400 : Int64))]) (rest := []) (lenOf pd_1 rfl) rfl (by show 2 * 0 + _ ≤ _; exact Nat.le_of_eq rfl) (hb hby d1_9) (fun _ _ => ⟨rfl, e1, (by decide : 0 + 0 ≤ _), (by decide : 0 + 0 ≤ _)⟩)
 dsimp only [Pt.U, Pt.locs, Pt.cells, Pt.slots] at X2 l2 y2 z2 st2 hQ2
 subst l2 y2 z2
 obtain ⟨rfl, N2q, e2⟩ := hQ2
 have N2 := Fr.app N1 N2q
 obtain ⟨fs, hr, hrun, hended, hW, hsame⟩ := X2.leave (v := some (.long (f3 (f2 q0 (35 : Int32)) (2516582400 : Int64)))) (fun h => by rw [Bd.returns] at h; cases h)
 subst hS0
 refine ⟨_, _, pre0 _ ?_, hrun, hended, _, _, rfl, ?_, ⟨_, rfl⟩, hW, hsame.mono (by decide) (by decide)⟩
 ·
  refine XS.lloadN X0.here hx rfl (hb hby d1_0) rfl ?_
  show AT p e below s₁ m 1 #[jv q0, se] [(.long q0)] _
  refine XS.bipush X0.here hx rfl (hb hby d1_1) ?_
  show AT p e below s₁ m 3 #[jv q0, se] [(.int (35 : Int32)), (.long q0)] _
  refine st1 _ ?_
  show AT p e below T1 m 6 #[jv q0, se] [(.long (f2 q0 (35 : Int32)))] _
  refine X1.ldc2Long hx hown (mvT hZ (ow hw 12 rfl)) (g := (mkF m 6 #[jv q0, se] [(.long (f2 q0 (35 : Int32)))])) rfl (hb hby d1_6) _ ?_
  show AT p e below T1 m 9 #[jv q0, se] [(.long (2516582400 : Int64)), (.long (f2 q0 (35 : Int32)))] _
  refine st2 _ ?_
  show AT p e below T2 m 12 #[jv q0, se] [(.long (f3 (f2 q0 (35 : Int32)) (2516582400 : Int64)))] _
  exact retOut X2 hx (t := .long) (i := .lreturn) Bd.returns rfl (Or.inr (Or.inl ⟨rfl, rfl, _, rfl⟩)) (hb hby d1_12) hr
 ·
  show Q1 Z q0 h0 n0 _ T2.heap _
  rw [e2]
  exact ⟨rfl, N2, rfl⟩


theorem own_dm (h : Int64) (h0 : 0 ≤ h.toInt) : ((((7 : Int64) * (h / (20 : Int64))) + (((7 : Int64) * (h % (20 : Int64))) / (20 : Int64))) < (2516582400 : Int64) → f1 h = (((7 : Int64) * (h / (20 : Int64))) + (((7 : Int64) * (h % (20 : Int64))) / (20 : Int64)))) ∧ (¬ (((7 : Int64) * (h / (20 : Int64))) + (((7 : Int64) * (h % (20 : Int64))) / (20 : Int64))) < (2516582400 : Int64) → f1 h = (2516582400 : Int64)) := by
  have rh := rng64 h
  have k20 : ((20 : Int64)).toInt = 20 := rfl
  have k7 : ((7 : Int64)).toInt = 7 := rfl
  have k100 : ((100 : Int64)).toInt = 100 := rfl
  have kc : ((2516582400 : Int64)).toInt = 2516582400 := rfl
  have k35 : (((35 : Int32)).toInt64).toInt = 35 := rfl
  have a1 := (c_ldiv h (20 : Int64) 20 rfl (by decide)).1 h0
  have a2 : (h % (20 : Int64)).toInt = h.toInt % 20 := by rw [Int64.toInt_mod, k20]; exact (tr _ _).1 h0
  have a3 := c_lmul (7 : Int64) (h / (20 : Int64))
  have a4 := c_lmul (7 : Int64) (h % (20 : Int64))
  have r3 := rng64 ((7 : Int64) * (h / (20 : Int64)))
  have r4 := rng64 ((7 : Int64) * (h % (20 : Int64)))
  rw [k7] at a3 a4
  have c3 := own_x64 a3 (by omega) (by omega)
  have c4 := own_x64 a4 (by omega) (by omega)
  have a5 := (c_ldiv ((7 : Int64) * (h % (20 : Int64))) (20 : Int64) 20 rfl (by decide)).1 (by omega)
  have a6 := c_ladd ((7 : Int64) * (h / (20 : Int64))) (((7 : Int64) * (h % (20 : Int64))) / (20 : Int64))
  have r6 := rng64 (((7 : Int64) * (h / (20 : Int64))) + (((7 : Int64) * (h % (20 : Int64))) / (20 : Int64)))
  have b1 := (c_ldiv h (100 : Int64) 100 rfl (by decide)).1 h0
  have b2 : (h % (100 : Int64)).toInt = h.toInt % 100 := by rw [Int64.toInt_mod, k100]; exact (tr _ _).1 h0
  have b3 := c_lmul (h / (100 : Int64)) ((35 : Int32).toInt64)
  have b4 := c_lmul (h % (100 : Int64)) ((35 : Int32).toInt64)
  have s3 := rng64 ((h / (100 : Int64)) * ((35 : Int32).toInt64))
  have s4 := rng64 ((h % (100 : Int64)) * ((35 : Int32).toInt64))
  rw [k35] at b3 b4
  have d3 := own_x64 b3 (by omega) (by omega)
  have d4 := own_x64 b4 (by omega) (by omega)
  have b5 := (c_ldiv ((h % (100 : Int64)) * ((35 : Int32).toInt64)) (100 : Int64) 100 rfl (by decide)).1 (by omega)
  have b6 := c_ladd ((h / (100 : Int64)) * ((35 : Int32).toInt64)) (((h % (100 : Int64)) * ((35 : Int32).toInt64)) / (100 : Int64))
  have s6 := rng64 (((h / (100 : Int64)) * ((35 : Int32).toInt64)) + (((h % (100 : Int64)) * ((35 : Int32).toInt64)) / (100 : Int64)))
  have c6 := own_x64 a6 (by omega) (by omega)
  have d6 := own_x64 b6 (by omega) (by omega)
  have g1 : 7 * (h.toInt / 20) + 7 * (h.toInt % 20) / 20 = 7 * h.toInt / 20 := by omega
  have g2 : (h.toInt / 100) * 35 + (h.toInt % 100) * 35 / 100 = 35 * h.toInt / 100 := by omega
  have g3 : 35 * h.toInt / 100 = 7 * h.toInt / 20 := by omega
  have e : (((h / (100 : Int64)) * ((35 : Int32).toInt64)) + (((h % (100 : Int64)) * ((35 : Int32).toInt64)) / (100 : Int64))) = (((7 : Int64) * (h / (20 : Int64))) + (((7 : Int64) * (h % (20 : Int64))) / (20 : Int64))) := by rw [← Int64.toInt_inj, c6, d6, c3, d3, a5, b5, c4, d4, a1, b1, a2, b2, g1, g2, g3]
  have e1 : f1 h = f3 (f2 h (35 : Int32)) (2516582400 : Int64) := rfl
  have e2 : f2 h (35 : Int32) = (((h / (100 : Int64)) * ((35 : Int32).toInt64)) + (((h % (100 : Int64)) * ((35 : Int32).toInt64)) / (100 : Int64))) := rfl
  rw [e1, e2, e]
  unfold f3
  constructor
  · intro q; rw [if_neg]; rw [Int64.lt_iff_toInt_lt] at q ⊢; omega
  · intro q
    rw [Int64.lt_iff_toInt_lt] at q
    split
    · rfl
    · rename_i u; rw [Int64.lt_iff_toInt_lt] at u; rw [← Int64.toInt_inj]; omega
theorem own_p1 (x : Int64) : 0 ≤ (x &&& (9223372036854775807 : Int64)).toInt := by
  rw [c_maskL x (9223372036854775807 : Int64) 63 (by decide) (by decide)]; exact Int.emod_nonneg _ (by decide)
theorem own_p2 (x : Int64) : 0 ≤ (x &&& (68719476735 : Int64)).toInt := by
  rw [c_maskL x (68719476735 : Int64) 36 (by decide) (by decide)]; exact Int.emod_nonneg _ (by decide)

theorem ef_0 (m : MethodId) (q0 : Int64) (p1 : Int32) : entryFrame m #[(.long q0), (.int p1)] maxLocals = mkF m 0 #[jv q0, se, iv p1, un, un, un, un, un, un, un, un, un, un, un, un] [] := by first | (simp [entryFrame, mkF, argsToLocals, Value.category, maxLocals]; done) | rfl
def Q0 (Z : State) (q0 : Int64) (p1 : Int32) (h0 : Heap) (n0 : Nat) (v : Option Value) (h : Heap) (L : List Loc) : Prop := v = some (.int 1) ∧ Fr n0 L
set_option maxRecDepth 65536 in
set_option maxHeartbeats 40000000 in
theorem rm0 (l : Launch) (Z : State) (ar : Array Value) (hw : ∀ d ∈ tables_1, d.before ar Z = true) (ws : List Jvm.Cond) (q0 : Int64) (p1 : Int32) (h0 : Heap) (n0 : Nat) (O0 : Old Z n0 h0) :
    MetFree l x (head1 (Jvm.Cond.code x code maxLocals ret :: ws) room_1) (fun a U => a = #[(.long q0), (.int p1)] ∧ Z.Warmed39 U.vm ∧ U.heap = h0) (fun _ _ _ _ _ => True) (fun _ U o U' => ∃ v L, o = .returned v ∧ Q0 Z q0 p1 h0 n0 v U'.heap L ∧ FrameEnd U o U' L 0 0) := by
 refine MetFree.of_bodySF (plainFor_of_name pn_1) hisR ?_
 intro p e s m args below meth c s₁ Bd hml0 hP hK
 obtain ⟨rfl, hZ, hh⟩ := hP
 have hx := Bd.exec
 have hby := Bd.bytes
 have hml : c.maxLocals = 15 := hml0
 have hown : s.vm.findClass "com/example/minderd/minderd/config/LimitsDefaultMemoryPinLaw" = some m.cls := findClass_of_methodNamed Bd.named
 have hnm := (name_of_methodNamed Bd.named Bd.method).1
 have X0 : Stand p l e room_1 s m #[(.long q0), (.int p1)] below meth c s₁ [] 0 0 := Stand.of_body Bd
 have e0 : s₁.heap = h0 := by rw [← hh, Bd.state]; rfl
 have N0 := Fr.nil n0
 have Z0 : n0 ≤ h0.size := Nat.le_trans (Nat.le_of_eq O0.1.symm) O0.2.1
 obtain ⟨S0, hS0⟩ : ∃ z, z = s₁.setTop (entryFrame m #[(.long q0), (.int p1)] maxLocals) := ⟨_, rfl⟩
 have pre0 : ∀ tg, AT p e below s₁ m 0 #[jv q0, se, iv p1, un, un, un, un, un, un, un, un, un, un, un, un] [] tg → Steps p.tables e below S0 tg := fun tg kg => by rw [hS0]; exact castTop (ef_0 m q0 p1) kg
 have pre1 : ∀ tg, AT p e below s₁ m 3 #[jv q0, se, iv p1, un, un, un, un, un, un, un, un, un, un, un, un] [(.int (p1 &&& (1 : Int32)))] tg → Steps p.tables e below S0 tg := fun tg kg => pre0 tg (by
  refine XS.iloadN X0.here hx rfl (hb hby at_0) rfl ?_
  show AT p e below s₁ m 1 #[jv q0, se, iv p1, un, un, un, un, un, un, un, un, un, un, un, un] [(.int p1)] _
  refine XS.iconst X0.here hx rfl (hb hby at_1) ?_
  show AT p e below s₁ m 2 #[jv q0, se, iv p1, un, un, un, un, un, un, un, un, un, un, un, un] [(.int (1 : Int32)), (.int p1)] _
  refine XS.iand X0.here hx rfl (hb hby at_2) rfl ?_
  exact kg)
 rcases Decidable.em ((p1 &&& (1 : Int32)) = (0 : Int32)) with hc2 | hc2
 ·
  have pre3 : ∀ tg, AT p e below s₁ m 20 #[jv q0, se, iv p1, jv (q0 &&& (68719476735 : Int64)), se, un, un, un, un, un, un, un, un, un, un] [] tg → Steps p.tables e below S0 tg := fun tg kg => pre1 tg (by
   refine XS.ifYes X0.here hx rfl (pc0 := 3) (pc' := 14) rfl (hb hby at_3) rfl (XT.i0_eq_t hc2) (by decide) (by decide) ?_
   show AT p e below s₁ m 14 #[jv q0, se, iv p1, un, un, un, un, un, un, un, un, un, un, un, un] [] _
   refine XS.lloadN X0.here hx rfl (hb hby at_14) rfl ?_
   show AT p e below s₁ m 15 #[jv q0, se, iv p1, un, un, un, un, un, un, un, un, un, un, un, un] [(.long q0)] _
   refine X0.ldc2Long hx hown (mvT hZ (ow hw 0 rfl)) (g := (mkF m 15 #[jv q0, se, iv p1, un, un, un, un, un, un, un, un, un, un, un, un] [(.long q0)])) rfl (hb hby at_15) _ ?_
   show AT p e below s₁ m 18 #[jv q0, se, iv p1, un, un, un, un, un, un, un, un, un, un, un, un] [(.long (68719476735 : Int64)), (.long q0)] _
   refine XS.land X0.here hx rfl (hb hby at_18) rfl ?_
   show AT p e below s₁ m 19 #[jv q0, se, iv p1, un, un, un, un, un, un, un, un, un, un, un, un] [(.long (q0 &&& (68719476735 : Int64)))] _
   refine XS.lstoreN X0.here hx rfl (hb hby at_19) rfl (l' := #[jv q0, se, iv p1, jv (q0 &&& (68719476735 : Int64)), se, un, un, un, un, un, un, un, un, un, un]) rfl ?_
   exact kg)
  obtain ⟨hh, hhh⟩ : ∃ z, z = (q0 &&& (68719476735 : Int64)) := ⟨_, rfl⟩
  have pre4 : ∀ tg, AT p e below s₁ m 20 #[jv q0, se, iv p1, jv hh, se, un, un, un, un, un, un, un, un, un, un] [] tg → Steps p.tables e below S0 tg := by rw [hhh]; exact pre3
  have hpos : 0 ≤ hh.toInt := by rw [hhh]; exact own_p2 q0
  have pre5 : ∀ tg, AT p e below s₁ m 63 #[jv q0, se, iv p1, jv hh, se, jv (2516582400 : Int64), se, jv (hh / (20 : Int64)), se, jv (hh % (20 : Int64)), se, jv (((7 : Int64) * (hh / (20 : Int64))) + (((7 : Int64) * (hh % (20 : Int64))) / (20 : Int64))), se, un, un] [(.int (XT.cmpL (((7 : Int64) * (hh / (20 : Int64))) + (((7 : Int64) * (hh % (20 : Int64))) / (20 : Int64))) (2516582400 : Int64)))] tg → Steps p.tables e below S0 tg := fun tg kg => pre4 tg (by
   refine X0.ldc2Long hx hown (mvT hZ (ow hw 1 rfl)) (g := (mkF m 20 #[jv q0, se, iv p1, jv hh, se, un, un, un, un, un, un, un, un, un, un] [])) rfl (hb hby at_20) _ ?_
   show AT p e below s₁ m 23 #[jv q0, se, iv p1, jv hh, se, un, un, un, un, un, un, un, un, un, un] [(.long (2516582400 : Int64))] _
   refine XS.lstore X0.here hx rfl (hb hby at_23) rfl (l' := #[jv q0, se, iv p1, jv hh, se, jv (2516582400 : Int64), se, un, un, un, un, un, un, un, un]) rfl ?_
   show AT p e below s₁ m 25 #[jv q0, se, iv p1, jv hh, se, jv (2516582400 : Int64), se, un, un, un, un, un, un, un, un] [] _
   refine XS.lloadN X0.here hx rfl (hb hby at_25) rfl ?_
   show AT p e below s₁ m 26 #[jv q0, se, iv p1, jv hh, se, jv (2516582400 : Int64), se, un, un, un, un, un, un, un, un] [(.long hh)] _
   refine X0.ldc2Long hx hown (mvT hZ (ow hw 2 rfl)) (g := (mkF m 26 #[jv q0, se, iv p1, jv hh, se, jv (2516582400 : Int64), se, un, un, un, un, un, un, un, un] [(.long hh)])) rfl (hb hby at_26) _ ?_
   show AT p e below s₁ m 29 #[jv q0, se, iv p1, jv hh, se, jv (2516582400 : Int64), se, un, un, un, un, un, un, un, un] [(.long (20 : Int64)), (.long hh)] _
   refine XS.ldiv X0.here hx rfl (hb hby at_29) rfl (by decide) ?_
   show AT p e below s₁ m 30 #[jv q0, se, iv p1, jv hh, se, jv (2516582400 : Int64), se, un, un, un, un, un, un, un, un] [(.long (hh / (20 : Int64)))] _
   refine XS.lstore X0.here hx rfl (hb hby at_30) rfl (l' := #[jv q0, se, iv p1, jv hh, se, jv (2516582400 : Int64), se, jv (hh / (20 : Int64)), se, un, un, un, un, un, un]) rfl ?_
   show AT p e below s₁ m 32 #[jv q0, se, iv p1, jv hh, se, jv (2516582400 : Int64), se, jv (hh / (20 : Int64)), se, un, un, un, un, un, un] [] _
   refine XS.lloadN X0.here hx rfl (hb hby at_32) rfl ?_
   show AT p e below s₁ m 33 #[jv q0, se, iv p1, jv hh, se, jv (2516582400 : Int64), se, jv (hh / (20 : Int64)), se, un, un, un, un, un, un] [(.long hh)] _
   refine X0.ldc2Long hx hown (mvT hZ (ow hw 2 rfl)) (g := (mkF m 33 #[jv q0, se, iv p1, jv hh, se, jv (2516582400 : Int64), se, jv (hh / (20 : Int64)), se, un, un, un, un, un, un] [(.long hh)])) rfl (hb hby at_33) _ ?_
   show AT p e below s₁ m 36 #[jv q0, se, iv p1, jv hh, se, jv (2516582400 : Int64), se, jv (hh / (20 : Int64)), se, un, un, un, un, un, un] [(.long (20 : Int64)), (.long hh)] _
   refine own_lrem X0 hx rfl (hb hby at_36) rfl (by decide) ?_
   show AT p e below s₁ m 37 #[jv q0, se, iv p1, jv hh, se, jv (2516582400 : Int64), se, jv (hh / (20 : Int64)), se, un, un, un, un, un, un] [(.long (hh % (20 : Int64)))] _
   refine XS.lstore X0.here hx rfl (hb hby at_37) rfl (l' := #[jv q0, se, iv p1, jv hh, se, jv (2516582400 : Int64), se, jv (hh / (20 : Int64)), se, jv (hh % (20 : Int64)), se, un, un, un, un]) rfl ?_
   show AT p e below s₁ m 39 #[jv q0, se, iv p1, jv hh, se, jv (2516582400 : Int64), se, jv (hh / (20 : Int64)), se, jv (hh % (20 : Int64)), se, un, un, un, un] [] _
   refine X0.ldc2Long hx hown (mvT hZ (ow hw 3 rfl)) (g := (mkF m 39 #[jv q0, se, iv p1, jv hh, se, jv (2516582400 : Int64), se, jv (hh / (20 : Int64)), se, jv (hh % (20 : Int64)), se, un, un, un, un] [])) rfl (hb hby at_39) _ ?_
   show AT p e below s₁ m 42 #[jv q0, se, iv p1, jv hh, se, jv (2516582400 : Int64), se, jv (hh / (20 : Int64)), se, jv (hh % (20 : Int64)), se, un, un, un, un] [(.long (7 : Int64))] _
   refine XS.lload X0.here hx rfl (hb hby at_42) rfl ?_
   show AT p e below s₁ m 44 #[jv q0, se, iv p1, jv hh, se, jv (2516582400 : Int64), se, jv (hh / (20 : Int64)), se, jv (hh % (20 : Int64)), se, un, un, un, un] [(.long (hh / (20 : Int64))), (.long (7 : Int64))] _
   refine XS.lmul X0.here hx rfl (hb hby at_44) rfl ?_
   show AT p e below s₁ m 45 #[jv q0, se, iv p1, jv hh, se, jv (2516582400 : Int64), se, jv (hh / (20 : Int64)), se, jv (hh % (20 : Int64)), se, un, un, un, un] [(.long ((7 : Int64) * (hh / (20 : Int64))))] _
   refine X0.ldc2Long hx hown (mvT hZ (ow hw 3 rfl)) (g := (mkF m 45 #[jv q0, se, iv p1, jv hh, se, jv (2516582400 : Int64), se, jv (hh / (20 : Int64)), se, jv (hh % (20 : Int64)), se, un, un, un, un] [(.long ((7 : Int64) * (hh / (20 : Int64))))])) rfl (hb hby at_45) _ ?_
   show AT p e below s₁ m 48 #[jv q0, se, iv p1, jv hh, se, jv (2516582400 : Int64), se, jv (hh / (20 : Int64)), se, jv (hh % (20 : Int64)), se, un, un, un, un] [(.long (7 : Int64)), (.long ((7 : Int64) * (hh / (20 : Int64))))] _
   refine XS.lload X0.here hx rfl (hb hby at_48) rfl ?_
   show AT p e below s₁ m 50 #[jv q0, se, iv p1, jv hh, se, jv (2516582400 : Int64), se, jv (hh / (20 : Int64)), se, jv (hh % (20 : Int64)), se, un, un, un, un] [(.long (hh % (20 : Int64))), (.long (7 : Int64)), (.long ((7 : Int64) * (hh / (20 : Int64))))] _
   refine XS.lmul X0.here hx rfl (hb hby at_50) rfl ?_
   show AT p e below s₁ m 51 #[jv q0, se, iv p1, jv hh, se, jv (2516582400 : Int64), se, jv (hh / (20 : Int64)), se, jv (hh % (20 : Int64)), se, un, un, un, un] [(.long ((7 : Int64) * (hh % (20 : Int64)))), (.long ((7 : Int64) * (hh / (20 : Int64))))] _
   refine X0.ldc2Long hx hown (mvT hZ (ow hw 2 rfl)) (g := (mkF m 51 #[jv q0, se, iv p1, jv hh, se, jv (2516582400 : Int64), se, jv (hh / (20 : Int64)), se, jv (hh % (20 : Int64)), se, un, un, un, un] [(.long ((7 : Int64) * (hh % (20 : Int64)))), (.long ((7 : Int64) * (hh / (20 : Int64))))])) rfl (hb hby at_51) _ ?_
   show AT p e below s₁ m 54 #[jv q0, se, iv p1, jv hh, se, jv (2516582400 : Int64), se, jv (hh / (20 : Int64)), se, jv (hh % (20 : Int64)), se, un, un, un, un] [(.long (20 : Int64)), (.long ((7 : Int64) * (hh % (20 : Int64)))), (.long ((7 : Int64) * (hh / (20 : Int64))))] _
   refine XS.ldiv X0.here hx rfl (hb hby at_54) rfl (by decide) ?_
   show AT p e below s₁ m 55 #[jv q0, se, iv p1, jv hh, se, jv (2516582400 : Int64), se, jv (hh / (20 : Int64)), se, jv (hh % (20 : Int64)), se, un, un, un, un] [(.long (((7 : Int64) * (hh % (20 : Int64))) / (20 : Int64))), (.long ((7 : Int64) * (hh / (20 : Int64))))] _
   refine XS.ladd X0.here hx rfl (hb hby at_55) rfl ?_
   show AT p e below s₁ m 56 #[jv q0, se, iv p1, jv hh, se, jv (2516582400 : Int64), se, jv (hh / (20 : Int64)), se, jv (hh % (20 : Int64)), se, un, un, un, un] [(.long (((7 : Int64) * (hh / (20 : Int64))) + (((7 : Int64) * (hh % (20 : Int64))) / (20 : Int64))))] _
   refine XS.lstore X0.here hx rfl (hb hby at_56) rfl (l' := #[jv q0, se, iv p1, jv hh, se, jv (2516582400 : Int64), se, jv (hh / (20 : Int64)), se, jv (hh % (20 : Int64)), se, jv (((7 : Int64) * (hh / (20 : Int64))) + (((7 : Int64) * (hh % (20 : Int64))) / (20 : Int64))), se, un, un]) rfl ?_
   show AT p e below s₁ m 58 #[jv q0, se, iv p1, jv hh, se, jv (2516582400 : Int64), se, jv (hh / (20 : Int64)), se, jv (hh % (20 : Int64)), se, jv (((7 : Int64) * (hh / (20 : Int64))) + (((7 : Int64) * (hh % (20 : Int64))) / (20 : Int64))), se, un, un] [] _
   refine XS.lload X0.here hx rfl (hb hby at_58) rfl ?_
   show AT p e below s₁ m 60 #[jv q0, se, iv p1, jv hh, se, jv (2516582400 : Int64), se, jv (hh / (20 : Int64)), se, jv (hh % (20 : Int64)), se, jv (((7 : Int64) * (hh / (20 : Int64))) + (((7 : Int64) * (hh % (20 : Int64))) / (20 : Int64))), se, un, un] [(.long (((7 : Int64) * (hh / (20 : Int64))) + (((7 : Int64) * (hh % (20 : Int64))) / (20 : Int64))))] _
   refine XS.lload X0.here hx rfl (hb hby at_60) rfl ?_
   show AT p e below s₁ m 62 #[jv q0, se, iv p1, jv hh, se, jv (2516582400 : Int64), se, jv (hh / (20 : Int64)), se, jv (hh % (20 : Int64)), se, jv (((7 : Int64) * (hh / (20 : Int64))) + (((7 : Int64) * (hh % (20 : Int64))) / (20 : Int64))), se, un, un] [(.long (2516582400 : Int64)), (.long (((7 : Int64) * (hh / (20 : Int64))) + (((7 : Int64) * (hh % (20 : Int64))) / (20 : Int64))))] _
   refine XS.lcmp X0.here hx rfl (hb hby at_62) rfl ?_
   exact kg)
  rcases Decidable.em ((((7 : Int64) * (hh / (20 : Int64))) + (((7 : Int64) * (hh % (20 : Int64))) / (20 : Int64))) < (2516582400 : Int64)) with hc6 | hc6
  ·
   obtain ⟨_, _, ⟨T7, L7, k7, n7⟩, -, X7, ⟨Lc7, hQ7, l7, y7, z7⟩, st7⟩ := Jvm.LawKit.callS X0 hx (y := y1) hown (mvT hZ (ow hw 4 rfl)) (mvT hZ (ow hw 5 rfl)) (mvT hZ (ow hw 6 rfl)) (mvT hZ (ow hw 7 rfl)) (by decide) (backOf (W := 0) (rm1 l Z ar hw [] hh h0 n0 O0) hZ (ow hw 7 rfl) (ow hw 6 rfl) (by decide) (by decide)) (g := (mkF m 76 #[jv q0, se, iv p1, jv hh, se, jv (2516582400 : Int64), se, jv (hh / (20 : Int64)), se, jv (hh % (20 : Int64)), se, jv (((7 : Int64) * (hh / (20 : Int64))) + (((7 : Int64) * (hh % (20 : Int64))) / (20 : Int64))), se, jv (((7 : Int64) * (hh / (20 : Int64))) + (((7 : Int64) * (hh % (20 : Int64))) / (20 : Int64))), se] [(.long hh)])) rfl (by rw [hml]; rfl) (argsL := [(.long hh)]) (rest := []) (lenOf pd_2 rfl) rfl (by show 2 * 0 + _ ≤ _; exact Nat.le_of_eq rfl) (hb hby at_76) (fun _ _ => ⟨rfl, e0, (by decide : 0 + 0 ≤ _), (by decide : 0 + 0 ≤ _)⟩)
   dsimp only [Pt.U, Pt.locs, Pt.cells, Pt.slots] at X7 l7 y7 z7 st7 hQ7
   subst l7 y7 z7
   obtain ⟨rfl, N7q, e7⟩ := hQ7
   have N7 := Fr.app N0 N7q
   have pre8 : ∀ tg, AT p e below T7 m 82 #[jv q0, se, iv p1, jv hh, se, jv (2516582400 : Int64), se, jv (hh / (20 : Int64)), se, jv (hh % (20 : Int64)), se, jv (((7 : Int64) * (hh / (20 : Int64))) + (((7 : Int64) * (hh % (20 : Int64))) / (20 : Int64))), se, jv (((7 : Int64) * (hh / (20 : Int64))) + (((7 : Int64) * (hh % (20 : Int64))) / (20 : Int64))), se] [(.int (XT.cmpL (f1 hh) (((7 : Int64) * (hh / (20 : Int64))) + (((7 : Int64) * (hh % (20 : Int64))) / (20 : Int64)))))] tg → Steps p.tables e below S0 tg := fun tg kg => pre5 tg (by
    refine XS.ifNo X0.here hx rfl (hb hby at_63) rfl (XT.ll_ge_f hc6) ?_
    show AT p e below s₁ m 66 #[jv q0, se, iv p1, jv hh, se, jv (2516582400 : Int64), se, jv (hh / (20 : Int64)), se, jv (hh % (20 : Int64)), se, jv (((7 : Int64) * (hh / (20 : Int64))) + (((7 : Int64) * (hh % (20 : Int64))) / (20 : Int64))), se, un, un] [] _
    refine XS.lload X0.here hx rfl (hb hby at_66) rfl ?_
    show AT p e below s₁ m 68 #[jv q0, se, iv p1, jv hh, se, jv (2516582400 : Int64), se, jv (hh / (20 : Int64)), se, jv (hh % (20 : Int64)), se, jv (((7 : Int64) * (hh / (20 : Int64))) + (((7 : Int64) * (hh % (20 : Int64))) / (20 : Int64))), se, un, un] [(.long (((7 : Int64) * (hh / (20 : Int64))) + (((7 : Int64) * (hh % (20 : Int64))) / (20 : Int64))))] _
    refine XS.goto X0.here hx rfl (pc0 := 68) (pc' := 73) rfl (hb hby at_68) (by decide) (by decide) ?_
    show AT p e below s₁ m 73 #[jv q0, se, iv p1, jv hh, se, jv (2516582400 : Int64), se, jv (hh / (20 : Int64)), se, jv (hh % (20 : Int64)), se, jv (((7 : Int64) * (hh / (20 : Int64))) + (((7 : Int64) * (hh % (20 : Int64))) / (20 : Int64))), se, un, un] [(.long (((7 : Int64) * (hh / (20 : Int64))) + (((7 : Int64) * (hh % (20 : Int64))) / (20 : Int64))))] _
    refine XS.lstore X0.here hx rfl (hb hby at_73) rfl (l' := #[jv q0, se, iv p1, jv hh, se, jv (2516582400 : Int64), se, jv (hh / (20 : Int64)), se, jv (hh % (20 : Int64)), se, jv (((7 : Int64) * (hh / (20 : Int64))) + (((7 : Int64) * (hh % (20 : Int64))) / (20 : Int64))), se, jv (((7 : Int64) * (hh / (20 : Int64))) + (((7 : Int64) * (hh % (20 : Int64))) / (20 : Int64))), se]) rfl ?_
    show AT p e below s₁ m 75 #[jv q0, se, iv p1, jv hh, se, jv (2516582400 : Int64), se, jv (hh / (20 : Int64)), se, jv (hh % (20 : Int64)), se, jv (((7 : Int64) * (hh / (20 : Int64))) + (((7 : Int64) * (hh % (20 : Int64))) / (20 : Int64))), se, jv (((7 : Int64) * (hh / (20 : Int64))) + (((7 : Int64) * (hh % (20 : Int64))) / (20 : Int64))), se] [] _
    refine XS.lloadN X0.here hx rfl (hb hby at_75) rfl ?_
    show AT p e below s₁ m 76 #[jv q0, se, iv p1, jv hh, se, jv (2516582400 : Int64), se, jv (hh / (20 : Int64)), se, jv (hh % (20 : Int64)), se, jv (((7 : Int64) * (hh / (20 : Int64))) + (((7 : Int64) * (hh % (20 : Int64))) / (20 : Int64))), se, jv (((7 : Int64) * (hh / (20 : Int64))) + (((7 : Int64) * (hh % (20 : Int64))) / (20 : Int64))), se] [(.long hh)] _
    refine st7 _ ?_
    show AT p e below T7 m 79 #[jv q0, se, iv p1, jv hh, se, jv (2516582400 : Int64), se, jv (hh / (20 : Int64)), se, jv (hh % (20 : Int64)), se, jv (((7 : Int64) * (hh / (20 : Int64))) + (((7 : Int64) * (hh % (20 : Int64))) / (20 : Int64))), se, jv (((7 : Int64) * (hh / (20 : Int64))) + (((7 : Int64) * (hh % (20 : Int64))) / (20 : Int64))), se] [(.long (f1 hh))] _
    refine XS.lload X7.here hx rfl (hb hby at_79) rfl ?_
    show AT p e below T7 m 81 #[jv q0, se, iv p1, jv hh, se, jv (2516582400 : Int64), se, jv (hh / (20 : Int64)), se, jv (hh % (20 : Int64)), se, jv (((7 : Int64) * (hh / (20 : Int64))) + (((7 : Int64) * (hh % (20 : Int64))) / (20 : Int64))), se, jv (((7 : Int64) * (hh / (20 : Int64))) + (((7 : Int64) * (hh % (20 : Int64))) / (20 : Int64))), se] [(.long (((7 : Int64) * (hh / (20 : Int64))) + (((7 : Int64) * (hh % (20 : Int64))) / (20 : Int64)))), (.long (f1 hh))] _
    refine XS.lcmp X7.here hx rfl (hb hby at_81) rfl ?_
    exact kg)
   rcases Decidable.em ((f1 hh) = (((7 : Int64) * (hh / (20 : Int64))) + (((7 : Int64) * (hh % (20 : Int64))) / (20 : Int64)))) with hc9 | hc9
   ·
    obtain ⟨fs, hr, hrun, hended, hW, hsame⟩ := X7.leave (v := some (.int (1 : Int32))) (fun h => by rw [Bd.returns] at h; cases h)
    subst hS0
    refine ⟨_, _, pre8 _ ?_, hrun, hended, _, _, rfl, ?_, ⟨_, rfl⟩, hW, hsame.mono (by decide) (by decide)⟩
    ·
     refine XS.ifNo X7.here hx rfl (hb hby at_82) rfl (XT.ll_ne_f hc9) ?_
     show AT p e below T7 m 85 #[jv q0, se, iv p1, jv hh, se, jv (2516582400 : Int64), se, jv (hh / (20 : Int64)), se, jv (hh % (20 : Int64)), se, jv (((7 : Int64) * (hh / (20 : Int64))) + (((7 : Int64) * (hh % (20 : Int64))) / (20 : Int64))), se, jv (((7 : Int64) * (hh / (20 : Int64))) + (((7 : Int64) * (hh % (20 : Int64))) / (20 : Int64))), se] [] _
     refine XS.iconst X7.here hx rfl (hb hby at_85) ?_
     show AT p e below T7 m 86 #[jv q0, se, iv p1, jv hh, se, jv (2516582400 : Int64), se, jv (hh / (20 : Int64)), se, jv (hh % (20 : Int64)), se, jv (((7 : Int64) * (hh / (20 : Int64))) + (((7 : Int64) * (hh % (20 : Int64))) / (20 : Int64))), se, jv (((7 : Int64) * (hh / (20 : Int64))) + (((7 : Int64) * (hh % (20 : Int64))) / (20 : Int64))), se] [(.int (1 : Int32))] _
     refine XS.goto X7.here hx rfl (pc0 := 86) (pc' := 90) rfl (hb hby at_86) (by decide) (by decide) ?_
     show AT p e below T7 m 90 #[jv q0, se, iv p1, jv hh, se, jv (2516582400 : Int64), se, jv (hh / (20 : Int64)), se, jv (hh % (20 : Int64)), se, jv (((7 : Int64) * (hh / (20 : Int64))) + (((7 : Int64) * (hh % (20 : Int64))) / (20 : Int64))), se, jv (((7 : Int64) * (hh / (20 : Int64))) + (((7 : Int64) * (hh % (20 : Int64))) / (20 : Int64))), se] [(.int (1 : Int32))] _
     exact retN X7 hx (t := .boolean) Bd.returns (by simp) (hb hby at_90) hr
    ·
     show Q0 Z q0 p1 h0 n0 _ T7.heap _
     rw [e7]
     exact ⟨rfl, N7⟩
   ·
    exact absurd ((own_dm hh hpos).1 hc6) hc9
  ·
   obtain ⟨_, _, ⟨T10, L10, k10, n10⟩, -, X10, ⟨Lc10, hQ10, l10, y10, z10⟩, st10⟩ := Jvm.LawKit.callS X0 hx (y := y1) hown (mvT hZ (ow hw 4 rfl)) (mvT hZ (ow hw 5 rfl)) (mvT hZ (ow hw 6 rfl)) (mvT hZ (ow hw 7 rfl)) (by decide) (backOf (W := 0) (rm1 l Z ar hw [] hh h0 n0 O0) hZ (ow hw 7 rfl) (ow hw 6 rfl) (by decide) (by decide)) (g := (mkF m 76 #[jv q0, se, iv p1, jv hh, se, jv (2516582400 : Int64), se, jv (hh / (20 : Int64)), se, jv (hh % (20 : Int64)), se, jv (((7 : Int64) * (hh / (20 : Int64))) + (((7 : Int64) * (hh % (20 : Int64))) / (20 : Int64))), se, jv (2516582400 : Int64), se] [(.long hh)])) rfl (by rw [hml]; rfl) (argsL := [(.long hh)]) (rest := []) (lenOf pd_2 rfl) rfl (by show 2 * 0 + _ ≤ _; exact Nat.le_of_eq rfl) (hb hby at_76) (fun _ _ => ⟨rfl, e0, (by decide : 0 + 0 ≤ _), (by decide : 0 + 0 ≤ _)⟩)
   dsimp only [Pt.U, Pt.locs, Pt.cells, Pt.slots] at X10 l10 y10 z10 st10 hQ10
   subst l10 y10 z10
   obtain ⟨rfl, N10q, e10⟩ := hQ10
   have N10 := Fr.app N0 N10q
   have pre11 : ∀ tg, AT p e below T10 m 82 #[jv q0, se, iv p1, jv hh, se, jv (2516582400 : Int64), se, jv (hh / (20 : Int64)), se, jv (hh % (20 : Int64)), se, jv (((7 : Int64) * (hh / (20 : Int64))) + (((7 : Int64) * (hh % (20 : Int64))) / (20 : Int64))), se, jv (2516582400 : Int64), se] [(.int (XT.cmpL (f1 hh) (2516582400 : Int64)))] tg → Steps p.tables e below S0 tg := fun tg kg => pre5 tg (by
    refine XS.ifYes X0.here hx rfl (pc0 := 63) (pc' := 71) rfl (hb hby at_63) rfl (XT.ll_ge_t hc6) (by decide) (by decide) ?_
    show AT p e below s₁ m 71 #[jv q0, se, iv p1, jv hh, se, jv (2516582400 : Int64), se, jv (hh / (20 : Int64)), se, jv (hh % (20 : Int64)), se, jv (((7 : Int64) * (hh / (20 : Int64))) + (((7 : Int64) * (hh % (20 : Int64))) / (20 : Int64))), se, un, un] [] _
    refine XS.lload X0.here hx rfl (hb hby at_71) rfl ?_
    show AT p e below s₁ m 73 #[jv q0, se, iv p1, jv hh, se, jv (2516582400 : Int64), se, jv (hh / (20 : Int64)), se, jv (hh % (20 : Int64)), se, jv (((7 : Int64) * (hh / (20 : Int64))) + (((7 : Int64) * (hh % (20 : Int64))) / (20 : Int64))), se, un, un] [(.long (2516582400 : Int64))] _
    refine XS.lstore X0.here hx rfl (hb hby at_73) rfl (l' := #[jv q0, se, iv p1, jv hh, se, jv (2516582400 : Int64), se, jv (hh / (20 : Int64)), se, jv (hh % (20 : Int64)), se, jv (((7 : Int64) * (hh / (20 : Int64))) + (((7 : Int64) * (hh % (20 : Int64))) / (20 : Int64))), se, jv (2516582400 : Int64), se]) rfl ?_
    show AT p e below s₁ m 75 #[jv q0, se, iv p1, jv hh, se, jv (2516582400 : Int64), se, jv (hh / (20 : Int64)), se, jv (hh % (20 : Int64)), se, jv (((7 : Int64) * (hh / (20 : Int64))) + (((7 : Int64) * (hh % (20 : Int64))) / (20 : Int64))), se, jv (2516582400 : Int64), se] [] _
    refine XS.lloadN X0.here hx rfl (hb hby at_75) rfl ?_
    show AT p e below s₁ m 76 #[jv q0, se, iv p1, jv hh, se, jv (2516582400 : Int64), se, jv (hh / (20 : Int64)), se, jv (hh % (20 : Int64)), se, jv (((7 : Int64) * (hh / (20 : Int64))) + (((7 : Int64) * (hh % (20 : Int64))) / (20 : Int64))), se, jv (2516582400 : Int64), se] [(.long hh)] _
    refine st10 _ ?_
    show AT p e below T10 m 79 #[jv q0, se, iv p1, jv hh, se, jv (2516582400 : Int64), se, jv (hh / (20 : Int64)), se, jv (hh % (20 : Int64)), se, jv (((7 : Int64) * (hh / (20 : Int64))) + (((7 : Int64) * (hh % (20 : Int64))) / (20 : Int64))), se, jv (2516582400 : Int64), se] [(.long (f1 hh))] _
    refine XS.lload X10.here hx rfl (hb hby at_79) rfl ?_
    show AT p e below T10 m 81 #[jv q0, se, iv p1, jv hh, se, jv (2516582400 : Int64), se, jv (hh / (20 : Int64)), se, jv (hh % (20 : Int64)), se, jv (((7 : Int64) * (hh / (20 : Int64))) + (((7 : Int64) * (hh % (20 : Int64))) / (20 : Int64))), se, jv (2516582400 : Int64), se] [(.long (2516582400 : Int64)), (.long (f1 hh))] _
    refine XS.lcmp X10.here hx rfl (hb hby at_81) rfl ?_
    exact kg)
   rcases Decidable.em ((f1 hh) = (2516582400 : Int64)) with hc12 | hc12
   ·
    obtain ⟨fs, hr, hrun, hended, hW, hsame⟩ := X10.leave (v := some (.int (1 : Int32))) (fun h => by rw [Bd.returns] at h; cases h)
    subst hS0
    refine ⟨_, _, pre11 _ ?_, hrun, hended, _, _, rfl, ?_, ⟨_, rfl⟩, hW, hsame.mono (by decide) (by decide)⟩
    ·
     refine XS.ifNo X10.here hx rfl (hb hby at_82) rfl (XT.ll_ne_f hc12) ?_
     show AT p e below T10 m 85 #[jv q0, se, iv p1, jv hh, se, jv (2516582400 : Int64), se, jv (hh / (20 : Int64)), se, jv (hh % (20 : Int64)), se, jv (((7 : Int64) * (hh / (20 : Int64))) + (((7 : Int64) * (hh % (20 : Int64))) / (20 : Int64))), se, jv (2516582400 : Int64), se] [] _
     refine XS.iconst X10.here hx rfl (hb hby at_85) ?_
     show AT p e below T10 m 86 #[jv q0, se, iv p1, jv hh, se, jv (2516582400 : Int64), se, jv (hh / (20 : Int64)), se, jv (hh % (20 : Int64)), se, jv (((7 : Int64) * (hh / (20 : Int64))) + (((7 : Int64) * (hh % (20 : Int64))) / (20 : Int64))), se, jv (2516582400 : Int64), se] [(.int (1 : Int32))] _
     refine XS.goto X10.here hx rfl (pc0 := 86) (pc' := 90) rfl (hb hby at_86) (by decide) (by decide) ?_
     show AT p e below T10 m 90 #[jv q0, se, iv p1, jv hh, se, jv (2516582400 : Int64), se, jv (hh / (20 : Int64)), se, jv (hh % (20 : Int64)), se, jv (((7 : Int64) * (hh / (20 : Int64))) + (((7 : Int64) * (hh % (20 : Int64))) / (20 : Int64))), se, jv (2516582400 : Int64), se] [(.int (1 : Int32))] _
     exact retN X10 hx (t := .boolean) Bd.returns (by simp) (hb hby at_90) hr
    ·
     show Q0 Z q0 p1 h0 n0 _ T10.heap _
     rw [e10]
     exact ⟨rfl, N10⟩
   ·
    exact absurd ((own_dm hh hpos).2 hc6) hc12
 ·
  have pre13 : ∀ tg, AT p e below s₁ m 20 #[jv q0, se, iv p1, jv (q0 &&& (9223372036854775807 : Int64)), se, un, un, un, un, un, un, un, un, un, un] [] tg → Steps p.tables e below S0 tg := fun tg kg => pre1 tg (by
   refine XS.ifNo X0.here hx rfl (hb hby at_3) rfl (XT.i0_eq_f hc2) ?_
   show AT p e below s₁ m 6 #[jv q0, se, iv p1, un, un, un, un, un, un, un, un, un, un, un, un] [] _
   refine XS.lloadN X0.here hx rfl (hb hby at_6) rfl ?_
   show AT p e below s₁ m 7 #[jv q0, se, iv p1, un, un, un, un, un, un, un, un, un, un, un, un] [(.long q0)] _
   refine X0.ldc2Long hx hown (mvT hZ (ow hw 17 rfl)) (g := (mkF m 7 #[jv q0, se, iv p1, un, un, un, un, un, un, un, un, un, un, un, un] [(.long q0)])) rfl (hb hby at_7) _ ?_
   show AT p e below s₁ m 10 #[jv q0, se, iv p1, un, un, un, un, un, un, un, un, un, un, un, un] [(.long (9223372036854775807 : Int64)), (.long q0)] _
   refine XS.land X0.here hx rfl (hb hby at_10) rfl ?_
   show AT p e below s₁ m 11 #[jv q0, se, iv p1, un, un, un, un, un, un, un, un, un, un, un, un] [(.long (q0 &&& (9223372036854775807 : Int64)))] _
   refine XS.goto X0.here hx rfl (pc0 := 11) (pc' := 19) rfl (hb hby at_11) (by decide) (by decide) ?_
   show AT p e below s₁ m 19 #[jv q0, se, iv p1, un, un, un, un, un, un, un, un, un, un, un, un] [(.long (q0 &&& (9223372036854775807 : Int64)))] _
   refine XS.lstoreN X0.here hx rfl (hb hby at_19) rfl (l' := #[jv q0, se, iv p1, jv (q0 &&& (9223372036854775807 : Int64)), se, un, un, un, un, un, un, un, un, un, un]) rfl ?_
   exact kg)
  obtain ⟨hh, hhh⟩ : ∃ z, z = (q0 &&& (9223372036854775807 : Int64)) := ⟨_, rfl⟩
  have pre14 : ∀ tg, AT p e below s₁ m 20 #[jv q0, se, iv p1, jv hh, se, un, un, un, un, un, un, un, un, un, un] [] tg → Steps p.tables e below S0 tg := by rw [hhh]; exact pre13
  have hpos : 0 ≤ hh.toInt := by rw [hhh]; exact own_p1 q0
  have pre15 : ∀ tg, AT p e below s₁ m 63 #[jv q0, se, iv p1, jv hh, se, jv (2516582400 : Int64), se, jv (hh / (20 : Int64)), se, jv (hh % (20 : Int64)), se, jv (((7 : Int64) * (hh / (20 : Int64))) + (((7 : Int64) * (hh % (20 : Int64))) / (20 : Int64))), se, un, un] [(.int (XT.cmpL (((7 : Int64) * (hh / (20 : Int64))) + (((7 : Int64) * (hh % (20 : Int64))) / (20 : Int64))) (2516582400 : Int64)))] tg → Steps p.tables e below S0 tg := fun tg kg => pre14 tg (by
   refine X0.ldc2Long hx hown (mvT hZ (ow hw 1 rfl)) (g := (mkF m 20 #[jv q0, se, iv p1, jv hh, se, un, un, un, un, un, un, un, un, un, un] [])) rfl (hb hby at_20) _ ?_
   show AT p e below s₁ m 23 #[jv q0, se, iv p1, jv hh, se, un, un, un, un, un, un, un, un, un, un] [(.long (2516582400 : Int64))] _
   refine XS.lstore X0.here hx rfl (hb hby at_23) rfl (l' := #[jv q0, se, iv p1, jv hh, se, jv (2516582400 : Int64), se, un, un, un, un, un, un, un, un]) rfl ?_
   show AT p e below s₁ m 25 #[jv q0, se, iv p1, jv hh, se, jv (2516582400 : Int64), se, un, un, un, un, un, un, un, un] [] _
   refine XS.lloadN X0.here hx rfl (hb hby at_25) rfl ?_
   show AT p e below s₁ m 26 #[jv q0, se, iv p1, jv hh, se, jv (2516582400 : Int64), se, un, un, un, un, un, un, un, un] [(.long hh)] _
   refine X0.ldc2Long hx hown (mvT hZ (ow hw 2 rfl)) (g := (mkF m 26 #[jv q0, se, iv p1, jv hh, se, jv (2516582400 : Int64), se, un, un, un, un, un, un, un, un] [(.long hh)])) rfl (hb hby at_26) _ ?_
   show AT p e below s₁ m 29 #[jv q0, se, iv p1, jv hh, se, jv (2516582400 : Int64), se, un, un, un, un, un, un, un, un] [(.long (20 : Int64)), (.long hh)] _
   refine XS.ldiv X0.here hx rfl (hb hby at_29) rfl (by decide) ?_
   show AT p e below s₁ m 30 #[jv q0, se, iv p1, jv hh, se, jv (2516582400 : Int64), se, un, un, un, un, un, un, un, un] [(.long (hh / (20 : Int64)))] _
   refine XS.lstore X0.here hx rfl (hb hby at_30) rfl (l' := #[jv q0, se, iv p1, jv hh, se, jv (2516582400 : Int64), se, jv (hh / (20 : Int64)), se, un, un, un, un, un, un]) rfl ?_
   show AT p e below s₁ m 32 #[jv q0, se, iv p1, jv hh, se, jv (2516582400 : Int64), se, jv (hh / (20 : Int64)), se, un, un, un, un, un, un] [] _
   refine XS.lloadN X0.here hx rfl (hb hby at_32) rfl ?_
   show AT p e below s₁ m 33 #[jv q0, se, iv p1, jv hh, se, jv (2516582400 : Int64), se, jv (hh / (20 : Int64)), se, un, un, un, un, un, un] [(.long hh)] _
   refine X0.ldc2Long hx hown (mvT hZ (ow hw 2 rfl)) (g := (mkF m 33 #[jv q0, se, iv p1, jv hh, se, jv (2516582400 : Int64), se, jv (hh / (20 : Int64)), se, un, un, un, un, un, un] [(.long hh)])) rfl (hb hby at_33) _ ?_
   show AT p e below s₁ m 36 #[jv q0, se, iv p1, jv hh, se, jv (2516582400 : Int64), se, jv (hh / (20 : Int64)), se, un, un, un, un, un, un] [(.long (20 : Int64)), (.long hh)] _
   refine own_lrem X0 hx rfl (hb hby at_36) rfl (by decide) ?_
   show AT p e below s₁ m 37 #[jv q0, se, iv p1, jv hh, se, jv (2516582400 : Int64), se, jv (hh / (20 : Int64)), se, un, un, un, un, un, un] [(.long (hh % (20 : Int64)))] _
   refine XS.lstore X0.here hx rfl (hb hby at_37) rfl (l' := #[jv q0, se, iv p1, jv hh, se, jv (2516582400 : Int64), se, jv (hh / (20 : Int64)), se, jv (hh % (20 : Int64)), se, un, un, un, un]) rfl ?_
   show AT p e below s₁ m 39 #[jv q0, se, iv p1, jv hh, se, jv (2516582400 : Int64), se, jv (hh / (20 : Int64)), se, jv (hh % (20 : Int64)), se, un, un, un, un] [] _
   refine X0.ldc2Long hx hown (mvT hZ (ow hw 3 rfl)) (g := (mkF m 39 #[jv q0, se, iv p1, jv hh, se, jv (2516582400 : Int64), se, jv (hh / (20 : Int64)), se, jv (hh % (20 : Int64)), se, un, un, un, un] [])) rfl (hb hby at_39) _ ?_
   show AT p e below s₁ m 42 #[jv q0, se, iv p1, jv hh, se, jv (2516582400 : Int64), se, jv (hh / (20 : Int64)), se, jv (hh % (20 : Int64)), se, un, un, un, un] [(.long (7 : Int64))] _
   refine XS.lload X0.here hx rfl (hb hby at_42) rfl ?_
   show AT p e below s₁ m 44 #[jv q0, se, iv p1, jv hh, se, jv (2516582400 : Int64), se, jv (hh / (20 : Int64)), se, jv (hh % (20 : Int64)), se, un, un, un, un] [(.long (hh / (20 : Int64))), (.long (7 : Int64))] _
   refine XS.lmul X0.here hx rfl (hb hby at_44) rfl ?_
   show AT p e below s₁ m 45 #[jv q0, se, iv p1, jv hh, se, jv (2516582400 : Int64), se, jv (hh / (20 : Int64)), se, jv (hh % (20 : Int64)), se, un, un, un, un] [(.long ((7 : Int64) * (hh / (20 : Int64))))] _
   refine X0.ldc2Long hx hown (mvT hZ (ow hw 3 rfl)) (g := (mkF m 45 #[jv q0, se, iv p1, jv hh, se, jv (2516582400 : Int64), se, jv (hh / (20 : Int64)), se, jv (hh % (20 : Int64)), se, un, un, un, un] [(.long ((7 : Int64) * (hh / (20 : Int64))))])) rfl (hb hby at_45) _ ?_
   show AT p e below s₁ m 48 #[jv q0, se, iv p1, jv hh, se, jv (2516582400 : Int64), se, jv (hh / (20 : Int64)), se, jv (hh % (20 : Int64)), se, un, un, un, un] [(.long (7 : Int64)), (.long ((7 : Int64) * (hh / (20 : Int64))))] _
   refine XS.lload X0.here hx rfl (hb hby at_48) rfl ?_
   show AT p e below s₁ m 50 #[jv q0, se, iv p1, jv hh, se, jv (2516582400 : Int64), se, jv (hh / (20 : Int64)), se, jv (hh % (20 : Int64)), se, un, un, un, un] [(.long (hh % (20 : Int64))), (.long (7 : Int64)), (.long ((7 : Int64) * (hh / (20 : Int64))))] _
   refine XS.lmul X0.here hx rfl (hb hby at_50) rfl ?_
   show AT p e below s₁ m 51 #[jv q0, se, iv p1, jv hh, se, jv (2516582400 : Int64), se, jv (hh / (20 : Int64)), se, jv (hh % (20 : Int64)), se, un, un, un, un] [(.long ((7 : Int64) * (hh % (20 : Int64)))), (.long ((7 : Int64) * (hh / (20 : Int64))))] _
   refine X0.ldc2Long hx hown (mvT hZ (ow hw 2 rfl)) (g := (mkF m 51 #[jv q0, se, iv p1, jv hh, se, jv (2516582400 : Int64), se, jv (hh / (20 : Int64)), se, jv (hh % (20 : Int64)), se, un, un, un, un] [(.long ((7 : Int64) * (hh % (20 : Int64)))), (.long ((7 : Int64) * (hh / (20 : Int64))))])) rfl (hb hby at_51) _ ?_
   show AT p e below s₁ m 54 #[jv q0, se, iv p1, jv hh, se, jv (2516582400 : Int64), se, jv (hh / (20 : Int64)), se, jv (hh % (20 : Int64)), se, un, un, un, un] [(.long (20 : Int64)), (.long ((7 : Int64) * (hh % (20 : Int64)))), (.long ((7 : Int64) * (hh / (20 : Int64))))] _
   refine XS.ldiv X0.here hx rfl (hb hby at_54) rfl (by decide) ?_
   show AT p e below s₁ m 55 #[jv q0, se, iv p1, jv hh, se, jv (2516582400 : Int64), se, jv (hh / (20 : Int64)), se, jv (hh % (20 : Int64)), se, un, un, un, un] [(.long (((7 : Int64) * (hh % (20 : Int64))) / (20 : Int64))), (.long ((7 : Int64) * (hh / (20 : Int64))))] _
   refine XS.ladd X0.here hx rfl (hb hby at_55) rfl ?_
   show AT p e below s₁ m 56 #[jv q0, se, iv p1, jv hh, se, jv (2516582400 : Int64), se, jv (hh / (20 : Int64)), se, jv (hh % (20 : Int64)), se, un, un, un, un] [(.long (((7 : Int64) * (hh / (20 : Int64))) + (((7 : Int64) * (hh % (20 : Int64))) / (20 : Int64))))] _
   refine XS.lstore X0.here hx rfl (hb hby at_56) rfl (l' := #[jv q0, se, iv p1, jv hh, se, jv (2516582400 : Int64), se, jv (hh / (20 : Int64)), se, jv (hh % (20 : Int64)), se, jv (((7 : Int64) * (hh / (20 : Int64))) + (((7 : Int64) * (hh % (20 : Int64))) / (20 : Int64))), se, un, un]) rfl ?_
   show AT p e below s₁ m 58 #[jv q0, se, iv p1, jv hh, se, jv (2516582400 : Int64), se, jv (hh / (20 : Int64)), se, jv (hh % (20 : Int64)), se, jv (((7 : Int64) * (hh / (20 : Int64))) + (((7 : Int64) * (hh % (20 : Int64))) / (20 : Int64))), se, un, un] [] _
   refine XS.lload X0.here hx rfl (hb hby at_58) rfl ?_
   show AT p e below s₁ m 60 #[jv q0, se, iv p1, jv hh, se, jv (2516582400 : Int64), se, jv (hh / (20 : Int64)), se, jv (hh % (20 : Int64)), se, jv (((7 : Int64) * (hh / (20 : Int64))) + (((7 : Int64) * (hh % (20 : Int64))) / (20 : Int64))), se, un, un] [(.long (((7 : Int64) * (hh / (20 : Int64))) + (((7 : Int64) * (hh % (20 : Int64))) / (20 : Int64))))] _
   refine XS.lload X0.here hx rfl (hb hby at_60) rfl ?_
   show AT p e below s₁ m 62 #[jv q0, se, iv p1, jv hh, se, jv (2516582400 : Int64), se, jv (hh / (20 : Int64)), se, jv (hh % (20 : Int64)), se, jv (((7 : Int64) * (hh / (20 : Int64))) + (((7 : Int64) * (hh % (20 : Int64))) / (20 : Int64))), se, un, un] [(.long (2516582400 : Int64)), (.long (((7 : Int64) * (hh / (20 : Int64))) + (((7 : Int64) * (hh % (20 : Int64))) / (20 : Int64))))] _
   refine XS.lcmp X0.here hx rfl (hb hby at_62) rfl ?_
   exact kg)
  rcases Decidable.em ((((7 : Int64) * (hh / (20 : Int64))) + (((7 : Int64) * (hh % (20 : Int64))) / (20 : Int64))) < (2516582400 : Int64)) with hc16 | hc16
  ·
   obtain ⟨_, _, ⟨T17, L17, k17, n17⟩, -, X17, ⟨Lc17, hQ17, l17, y17, z17⟩, st17⟩ := Jvm.LawKit.callS X0 hx (y := y1) hown (mvT hZ (ow hw 4 rfl)) (mvT hZ (ow hw 5 rfl)) (mvT hZ (ow hw 6 rfl)) (mvT hZ (ow hw 7 rfl)) (by decide) (backOf (W := 0) (rm1 l Z ar hw [] hh h0 n0 O0) hZ (ow hw 7 rfl) (ow hw 6 rfl) (by decide) (by decide)) (g := (mkF m 76 #[jv q0, se, iv p1, jv hh, se, jv (2516582400 : Int64), se, jv (hh / (20 : Int64)), se, jv (hh % (20 : Int64)), se, jv (((7 : Int64) * (hh / (20 : Int64))) + (((7 : Int64) * (hh % (20 : Int64))) / (20 : Int64))), se, jv (((7 : Int64) * (hh / (20 : Int64))) + (((7 : Int64) * (hh % (20 : Int64))) / (20 : Int64))), se] [(.long hh)])) rfl (by rw [hml]; rfl) (argsL := [(.long hh)]) (rest := []) (lenOf pd_2 rfl) rfl (by show 2 * 0 + _ ≤ _; exact Nat.le_of_eq rfl) (hb hby at_76) (fun _ _ => ⟨rfl, e0, (by decide : 0 + 0 ≤ _), (by decide : 0 + 0 ≤ _)⟩)
   dsimp only [Pt.U, Pt.locs, Pt.cells, Pt.slots] at X17 l17 y17 z17 st17 hQ17
   subst l17 y17 z17
   obtain ⟨rfl, N17q, e17⟩ := hQ17
   have N17 := Fr.app N0 N17q
   have pre18 : ∀ tg, AT p e below T17 m 82 #[jv q0, se, iv p1, jv hh, se, jv (2516582400 : Int64), se, jv (hh / (20 : Int64)), se, jv (hh % (20 : Int64)), se, jv (((7 : Int64) * (hh / (20 : Int64))) + (((7 : Int64) * (hh % (20 : Int64))) / (20 : Int64))), se, jv (((7 : Int64) * (hh / (20 : Int64))) + (((7 : Int64) * (hh % (20 : Int64))) / (20 : Int64))), se] [(.int (XT.cmpL (f1 hh) (((7 : Int64) * (hh / (20 : Int64))) + (((7 : Int64) * (hh % (20 : Int64))) / (20 : Int64)))))] tg → Steps p.tables e below S0 tg := fun tg kg => pre15 tg (by
    refine XS.ifNo X0.here hx rfl (hb hby at_63) rfl (XT.ll_ge_f hc16) ?_
    show AT p e below s₁ m 66 #[jv q0, se, iv p1, jv hh, se, jv (2516582400 : Int64), se, jv (hh / (20 : Int64)), se, jv (hh % (20 : Int64)), se, jv (((7 : Int64) * (hh / (20 : Int64))) + (((7 : Int64) * (hh % (20 : Int64))) / (20 : Int64))), se, un, un] [] _
    refine XS.lload X0.here hx rfl (hb hby at_66) rfl ?_
    show AT p e below s₁ m 68 #[jv q0, se, iv p1, jv hh, se, jv (2516582400 : Int64), se, jv (hh / (20 : Int64)), se, jv (hh % (20 : Int64)), se, jv (((7 : Int64) * (hh / (20 : Int64))) + (((7 : Int64) * (hh % (20 : Int64))) / (20 : Int64))), se, un, un] [(.long (((7 : Int64) * (hh / (20 : Int64))) + (((7 : Int64) * (hh % (20 : Int64))) / (20 : Int64))))] _
    refine XS.goto X0.here hx rfl (pc0 := 68) (pc' := 73) rfl (hb hby at_68) (by decide) (by decide) ?_
    show AT p e below s₁ m 73 #[jv q0, se, iv p1, jv hh, se, jv (2516582400 : Int64), se, jv (hh / (20 : Int64)), se, jv (hh % (20 : Int64)), se, jv (((7 : Int64) * (hh / (20 : Int64))) + (((7 : Int64) * (hh % (20 : Int64))) / (20 : Int64))), se, un, un] [(.long (((7 : Int64) * (hh / (20 : Int64))) + (((7 : Int64) * (hh % (20 : Int64))) / (20 : Int64))))] _
    refine XS.lstore X0.here hx rfl (hb hby at_73) rfl (l' := #[jv q0, se, iv p1, jv hh, se, jv (2516582400 : Int64), se, jv (hh / (20 : Int64)), se, jv (hh % (20 : Int64)), se, jv (((7 : Int64) * (hh / (20 : Int64))) + (((7 : Int64) * (hh % (20 : Int64))) / (20 : Int64))), se, jv (((7 : Int64) * (hh / (20 : Int64))) + (((7 : Int64) * (hh % (20 : Int64))) / (20 : Int64))), se]) rfl ?_
    show AT p e below s₁ m 75 #[jv q0, se, iv p1, jv hh, se, jv (2516582400 : Int64), se, jv (hh / (20 : Int64)), se, jv (hh % (20 : Int64)), se, jv (((7 : Int64) * (hh / (20 : Int64))) + (((7 : Int64) * (hh % (20 : Int64))) / (20 : Int64))), se, jv (((7 : Int64) * (hh / (20 : Int64))) + (((7 : Int64) * (hh % (20 : Int64))) / (20 : Int64))), se] [] _
    refine XS.lloadN X0.here hx rfl (hb hby at_75) rfl ?_
    show AT p e below s₁ m 76 #[jv q0, se, iv p1, jv hh, se, jv (2516582400 : Int64), se, jv (hh / (20 : Int64)), se, jv (hh % (20 : Int64)), se, jv (((7 : Int64) * (hh / (20 : Int64))) + (((7 : Int64) * (hh % (20 : Int64))) / (20 : Int64))), se, jv (((7 : Int64) * (hh / (20 : Int64))) + (((7 : Int64) * (hh % (20 : Int64))) / (20 : Int64))), se] [(.long hh)] _
    refine st17 _ ?_
    show AT p e below T17 m 79 #[jv q0, se, iv p1, jv hh, se, jv (2516582400 : Int64), se, jv (hh / (20 : Int64)), se, jv (hh % (20 : Int64)), se, jv (((7 : Int64) * (hh / (20 : Int64))) + (((7 : Int64) * (hh % (20 : Int64))) / (20 : Int64))), se, jv (((7 : Int64) * (hh / (20 : Int64))) + (((7 : Int64) * (hh % (20 : Int64))) / (20 : Int64))), se] [(.long (f1 hh))] _
    refine XS.lload X17.here hx rfl (hb hby at_79) rfl ?_
    show AT p e below T17 m 81 #[jv q0, se, iv p1, jv hh, se, jv (2516582400 : Int64), se, jv (hh / (20 : Int64)), se, jv (hh % (20 : Int64)), se, jv (((7 : Int64) * (hh / (20 : Int64))) + (((7 : Int64) * (hh % (20 : Int64))) / (20 : Int64))), se, jv (((7 : Int64) * (hh / (20 : Int64))) + (((7 : Int64) * (hh % (20 : Int64))) / (20 : Int64))), se] [(.long (((7 : Int64) * (hh / (20 : Int64))) + (((7 : Int64) * (hh % (20 : Int64))) / (20 : Int64)))), (.long (f1 hh))] _
    refine XS.lcmp X17.here hx rfl (hb hby at_81) rfl ?_
    exact kg)
   rcases Decidable.em ((f1 hh) = (((7 : Int64) * (hh / (20 : Int64))) + (((7 : Int64) * (hh % (20 : Int64))) / (20 : Int64)))) with hc19 | hc19
   ·
    obtain ⟨fs, hr, hrun, hended, hW, hsame⟩ := X17.leave (v := some (.int (1 : Int32))) (fun h => by rw [Bd.returns] at h; cases h)
    subst hS0
    refine ⟨_, _, pre18 _ ?_, hrun, hended, _, _, rfl, ?_, ⟨_, rfl⟩, hW, hsame.mono (by decide) (by decide)⟩
    ·
     refine XS.ifNo X17.here hx rfl (hb hby at_82) rfl (XT.ll_ne_f hc19) ?_
     show AT p e below T17 m 85 #[jv q0, se, iv p1, jv hh, se, jv (2516582400 : Int64), se, jv (hh / (20 : Int64)), se, jv (hh % (20 : Int64)), se, jv (((7 : Int64) * (hh / (20 : Int64))) + (((7 : Int64) * (hh % (20 : Int64))) / (20 : Int64))), se, jv (((7 : Int64) * (hh / (20 : Int64))) + (((7 : Int64) * (hh % (20 : Int64))) / (20 : Int64))), se] [] _
     refine XS.iconst X17.here hx rfl (hb hby at_85) ?_
     show AT p e below T17 m 86 #[jv q0, se, iv p1, jv hh, se, jv (2516582400 : Int64), se, jv (hh / (20 : Int64)), se, jv (hh % (20 : Int64)), se, jv (((7 : Int64) * (hh / (20 : Int64))) + (((7 : Int64) * (hh % (20 : Int64))) / (20 : Int64))), se, jv (((7 : Int64) * (hh / (20 : Int64))) + (((7 : Int64) * (hh % (20 : Int64))) / (20 : Int64))), se] [(.int (1 : Int32))] _
     refine XS.goto X17.here hx rfl (pc0 := 86) (pc' := 90) rfl (hb hby at_86) (by decide) (by decide) ?_
     show AT p e below T17 m 90 #[jv q0, se, iv p1, jv hh, se, jv (2516582400 : Int64), se, jv (hh / (20 : Int64)), se, jv (hh % (20 : Int64)), se, jv (((7 : Int64) * (hh / (20 : Int64))) + (((7 : Int64) * (hh % (20 : Int64))) / (20 : Int64))), se, jv (((7 : Int64) * (hh / (20 : Int64))) + (((7 : Int64) * (hh % (20 : Int64))) / (20 : Int64))), se] [(.int (1 : Int32))] _
     exact retN X17 hx (t := .boolean) Bd.returns (by simp) (hb hby at_90) hr
    ·
     show Q0 Z q0 p1 h0 n0 _ T17.heap _
     rw [e17]
     exact ⟨rfl, N17⟩
   ·
    exact absurd ((own_dm hh hpos).1 hc16) hc19
  ·
   obtain ⟨_, _, ⟨T20, L20, k20, n20⟩, -, X20, ⟨Lc20, hQ20, l20, y20, z20⟩, st20⟩ := Jvm.LawKit.callS X0 hx (y := y1) hown (mvT hZ (ow hw 4 rfl)) (mvT hZ (ow hw 5 rfl)) (mvT hZ (ow hw 6 rfl)) (mvT hZ (ow hw 7 rfl)) (by decide) (backOf (W := 0) (rm1 l Z ar hw [] hh h0 n0 O0) hZ (ow hw 7 rfl) (ow hw 6 rfl) (by decide) (by decide)) (g := (mkF m 76 #[jv q0, se, iv p1, jv hh, se, jv (2516582400 : Int64), se, jv (hh / (20 : Int64)), se, jv (hh % (20 : Int64)), se, jv (((7 : Int64) * (hh / (20 : Int64))) + (((7 : Int64) * (hh % (20 : Int64))) / (20 : Int64))), se, jv (2516582400 : Int64), se] [(.long hh)])) rfl (by rw [hml]; rfl) (argsL := [(.long hh)]) (rest := []) (lenOf pd_2 rfl) rfl (by show 2 * 0 + _ ≤ _; exact Nat.le_of_eq rfl) (hb hby at_76) (fun _ _ => ⟨rfl, e0, (by decide : 0 + 0 ≤ _), (by decide : 0 + 0 ≤ _)⟩)
   dsimp only [Pt.U, Pt.locs, Pt.cells, Pt.slots] at X20 l20 y20 z20 st20 hQ20
   subst l20 y20 z20
   obtain ⟨rfl, N20q, e20⟩ := hQ20
   have N20 := Fr.app N0 N20q
   have pre21 : ∀ tg, AT p e below T20 m 82 #[jv q0, se, iv p1, jv hh, se, jv (2516582400 : Int64), se, jv (hh / (20 : Int64)), se, jv (hh % (20 : Int64)), se, jv (((7 : Int64) * (hh / (20 : Int64))) + (((7 : Int64) * (hh % (20 : Int64))) / (20 : Int64))), se, jv (2516582400 : Int64), se] [(.int (XT.cmpL (f1 hh) (2516582400 : Int64)))] tg → Steps p.tables e below S0 tg := fun tg kg => pre15 tg (by
    refine XS.ifYes X0.here hx rfl (pc0 := 63) (pc' := 71) rfl (hb hby at_63) rfl (XT.ll_ge_t hc16) (by decide) (by decide) ?_
    show AT p e below s₁ m 71 #[jv q0, se, iv p1, jv hh, se, jv (2516582400 : Int64), se, jv (hh / (20 : Int64)), se, jv (hh % (20 : Int64)), se, jv (((7 : Int64) * (hh / (20 : Int64))) + (((7 : Int64) * (hh % (20 : Int64))) / (20 : Int64))), se, un, un] [] _
    refine XS.lload X0.here hx rfl (hb hby at_71) rfl ?_
    show AT p e below s₁ m 73 #[jv q0, se, iv p1, jv hh, se, jv (2516582400 : Int64), se, jv (hh / (20 : Int64)), se, jv (hh % (20 : Int64)), se, jv (((7 : Int64) * (hh / (20 : Int64))) + (((7 : Int64) * (hh % (20 : Int64))) / (20 : Int64))), se, un, un] [(.long (2516582400 : Int64))] _
    refine XS.lstore X0.here hx rfl (hb hby at_73) rfl (l' := #[jv q0, se, iv p1, jv hh, se, jv (2516582400 : Int64), se, jv (hh / (20 : Int64)), se, jv (hh % (20 : Int64)), se, jv (((7 : Int64) * (hh / (20 : Int64))) + (((7 : Int64) * (hh % (20 : Int64))) / (20 : Int64))), se, jv (2516582400 : Int64), se]) rfl ?_
    show AT p e below s₁ m 75 #[jv q0, se, iv p1, jv hh, se, jv (2516582400 : Int64), se, jv (hh / (20 : Int64)), se, jv (hh % (20 : Int64)), se, jv (((7 : Int64) * (hh / (20 : Int64))) + (((7 : Int64) * (hh % (20 : Int64))) / (20 : Int64))), se, jv (2516582400 : Int64), se] [] _
    refine XS.lloadN X0.here hx rfl (hb hby at_75) rfl ?_
    show AT p e below s₁ m 76 #[jv q0, se, iv p1, jv hh, se, jv (2516582400 : Int64), se, jv (hh / (20 : Int64)), se, jv (hh % (20 : Int64)), se, jv (((7 : Int64) * (hh / (20 : Int64))) + (((7 : Int64) * (hh % (20 : Int64))) / (20 : Int64))), se, jv (2516582400 : Int64), se] [(.long hh)] _
    refine st20 _ ?_
    show AT p e below T20 m 79 #[jv q0, se, iv p1, jv hh, se, jv (2516582400 : Int64), se, jv (hh / (20 : Int64)), se, jv (hh % (20 : Int64)), se, jv (((7 : Int64) * (hh / (20 : Int64))) + (((7 : Int64) * (hh % (20 : Int64))) / (20 : Int64))), se, jv (2516582400 : Int64), se] [(.long (f1 hh))] _
    refine XS.lload X20.here hx rfl (hb hby at_79) rfl ?_
    show AT p e below T20 m 81 #[jv q0, se, iv p1, jv hh, se, jv (2516582400 : Int64), se, jv (hh / (20 : Int64)), se, jv (hh % (20 : Int64)), se, jv (((7 : Int64) * (hh / (20 : Int64))) + (((7 : Int64) * (hh % (20 : Int64))) / (20 : Int64))), se, jv (2516582400 : Int64), se] [(.long (2516582400 : Int64)), (.long (f1 hh))] _
    refine XS.lcmp X20.here hx rfl (hb hby at_81) rfl ?_
    exact kg)
   rcases Decidable.em ((f1 hh) = (2516582400 : Int64)) with hc22 | hc22
   ·
    obtain ⟨fs, hr, hrun, hended, hW, hsame⟩ := X20.leave (v := some (.int (1 : Int32))) (fun h => by rw [Bd.returns] at h; cases h)
    subst hS0
    refine ⟨_, _, pre21 _ ?_, hrun, hended, _, _, rfl, ?_, ⟨_, rfl⟩, hW, hsame.mono (by decide) (by decide)⟩
    ·
     refine XS.ifNo X20.here hx rfl (hb hby at_82) rfl (XT.ll_ne_f hc22) ?_
     show AT p e below T20 m 85 #[jv q0, se, iv p1, jv hh, se, jv (2516582400 : Int64), se, jv (hh / (20 : Int64)), se, jv (hh % (20 : Int64)), se, jv (((7 : Int64) * (hh / (20 : Int64))) + (((7 : Int64) * (hh % (20 : Int64))) / (20 : Int64))), se, jv (2516582400 : Int64), se] [] _
     refine XS.iconst X20.here hx rfl (hb hby at_85) ?_
     show AT p e below T20 m 86 #[jv q0, se, iv p1, jv hh, se, jv (2516582400 : Int64), se, jv (hh / (20 : Int64)), se, jv (hh % (20 : Int64)), se, jv (((7 : Int64) * (hh / (20 : Int64))) + (((7 : Int64) * (hh % (20 : Int64))) / (20 : Int64))), se, jv (2516582400 : Int64), se] [(.int (1 : Int32))] _
     refine XS.goto X20.here hx rfl (pc0 := 86) (pc' := 90) rfl (hb hby at_86) (by decide) (by decide) ?_
     show AT p e below T20 m 90 #[jv q0, se, iv p1, jv hh, se, jv (2516582400 : Int64), se, jv (hh / (20 : Int64)), se, jv (hh % (20 : Int64)), se, jv (((7 : Int64) * (hh / (20 : Int64))) + (((7 : Int64) * (hh % (20 : Int64))) / (20 : Int64))), se, jv (2516582400 : Int64), se] [(.int (1 : Int32))] _
     exact retN X20 hx (t := .boolean) Bd.returns (by simp) (hb hby at_90) hr
    ·
     show Q0 Z q0 p1 h0 n0 _ T20.heap _
     rw [e20]
     exact ⟨rfl, N20⟩
   ·
    exact absurd ((own_dm hh hpos).2 hc16) hc22

set_option maxRecDepth 65536 in
set_option maxHeartbeats 40000000 in
theorem comes_1 {Post : Tables → Env → Array Value → State → Outcome → State → Prop} (hpost : ∀ tb e args s v u, (limb_1_1.after args s (.returned v) u = true ∧ limb_1_2.after args s (.returned v) u = true ∧ True) → FrameEnd s (.returned v) u (Jvm.fieldLocs frame_1_writes args s ++ Jvm.arrayLocs frame_1_arrays args s ++ Jvm.staticLocs frame_1_statics s) 0 0 → Post tb e args s (.returned v) u) :
    ArmFor flags0 classFile x code maxLocals ret World_1 tables_1 room_1 Calls_1 rest_1 Pre_1 Post := by
  intro l hfl _ _ p e ha hc hk s m args below hf hA hF happ hP
  obtain ⟨hcalls, hrest, hpre⟩ := hP
  obtain ⟨-, -, -, hnamed, -, -, -, hat⟩ := (Spec.applies_iff hf).mp happ
  obtain ⟨hg, hn⟩ := and_e (Cond.before_iff.mp (show (Jvm.Cond.and given_1 narrow_1).before args s = true from hpre))
  obtain ⟨hg1, hg2⟩ := and_e hg
  obtain ⟨hg21, hg22⟩ := and_e hg2
  obtain ⟨w0, w1, rfl⟩ : ∃ w0 w1 : Value, args = #[w0, w1] := by
    have hs : args.size = 2 := by simpa [Cond.value, given_1] using hg1
    obtain ⟨L⟩ := args
    match L, hs with
    | [w0, w1], _ => exact ⟨w0, w1, rfl⟩
  have hw := fun d (hd : d ∈ tables_1) => atoms_spec (ws := Jvm.Cond.code x code maxLocals ret :: tables_1) hat d (List.mem_cons_of_mem _ hd)
  have hfit : Fit s := fun {y c} hc i hi => by
    obtain ⟨ha, rfl⟩ := Array.getElem?_eq_some_iff.mp hc
    have q := List.all_eq_true.mp ((Array.all_eq_true_iff_forall_mem.mp hF) _ (Array.getElem_mem ha)) i (List.mem_range.mpr hi)
    simpa [Array.getElem?_eq_getElem hi] using q
  obtain ⟨i0, ei0⟩ := isL_v hg21
  obtain rfl : w0 = (.long i0) := Option.some.inj ei0
  obtain ⟨i1, ei1⟩ := is_v hg22
  obtain rfl : w1 = (.int i1) := Option.some.inj ei1
  obtain ⟨n, o, h1, h2, h3, _, L, rfl, ⟨rfl, N⟩, hq⟩ := rm0 l s _ hw tables_1 i0 i1 s.heap s.heap.size (Old.start s) p e ha hc hk s m _ below hf ((Spec.applies_iff_loose hf).mp happ).1 ⟨rfl, State.Warmed39.refl s, rfl⟩ trivial
  refine ⟨n, _, h1, h2, h3, hpost _ _ _ _ _ _ ⟨Cond.after_iff.mpr rfl, Cond.after_iff.mpr (eq_i res_at (Term.int_eval (1)) rfl), trivial⟩ ⟨hq.1, hq.2.1, (hq.2.2.sift fun y hy => Or.inr (N y hy)).mono (by decide) (by decide)⟩⟩
theorem main_1_1 : Claimed_1_1 := comes_1 fun _ _ _ _ _ _ h hF => ⟨h.1, hF⟩
theorem main_1_2 : Claimed_1_2 := comes_1 fun _ _ _ _ _ _ h hF => ⟨h.2.1, hF⟩
end Jvm.Pilot.@@N@@
namespace Jvm.Pilot.@@N@@
open Jvm Jvm.ClassFile Sem Op Lib Jvm.Free Jvm.Stand Jvm.Pilot.@@N@@.Jvm.D
/-! MADE BY PROGRAM (witnessworld.py) out of the Statement's table words and the real class files: 10 classes; the members and pool entries that the words name. The judged class is class 1, her method 1. -/
namespace start1
open Jvm.ClassFile
def u (s : String) : CpInfo := .utf8 (stringToUtf16 s)
/-- a pool by its gaps: so many unusable entries, then the entry; so many at the end -/
def gap : Nat → List CpInfo → List CpInfo
  | 0, r => r
  | n + 1, r => .unusable :: gap n r
def poolList (es : List (Nat × CpInfo)) (last : Nat) : List CpInfo := es.foldr (fun e r => gap e.1 (e.2 :: r)) (gap last [])
def pool (es : List (Nat × CpInfo)) (last : Nat) : Array CpInfo := ⟨poolList es last⟩
def fileOf (pool : Array CpInfo) (this : Nat) (attrs : Array Attribute := #[]) (ms : Array MethodInfo := #[]) (fl : Nat := 33) (sup : Nat := 0) (ifs : Array Nat := #[]) (fds : Array FieldInfo := #[]) : ClassFile where
  minorVersion := 0
  majorVersion := 65
  constantPool := pool
  accessFlags := fl
  thisClass := this
  superClass := sup
  interfaces := ifs
  fields := fds
  methods := ms
  attributes := attrs
def plain (name : String) (sup : Option ClassId) : Class where
  name := name
  kind := .ordinary
  loader := none
  accessFlags := 33
  super := sup
  interfaces := #[]
  cf := none
  fields := #[]
  methods := #[]
  instanceTypes := #[]
  staticTypes := #[]
  resolved := #[]
  callSites := []
  init := .initialized
  statics := none
  mirror := none

def pool0 : Array CpInfo := pool [(5, u "<init>"), (0, u "()V"), (1, .class_ 10), (1, u "java/lang/Object")] 113

def k0m0 : Method := { name := "<init>", desc := "()V", sig := { parameters := [], returnType := none }, accessFlags := 1, code := none }
/-- java/lang/Object -/
def k0 : Class := { plain "java/lang/Object" none with
  accessFlags := 33
  interfaces := #[]
  cf := some (fileOf pool0 8 #[] #[{ accessFlags := 1, nameIndex := 5, descriptorIndex := 6, attributes := #[] }] 33 0 #[] #[])
  fields := #[]
  methods := #[k0m0]
  instanceTypes := #[]
  staticTypes := #[]
  resolved := Array.replicate 124 none
  statics := none }

def pool1 : Array CpInfo := pool [(2, .class_ 4), (1, u "java/lang/Object"), (0, u "<init>"), (0, u "()V"), (2, .long 9223372036854775807), (1, .long 68719476735), (1, .long 2516582400), (1, .long 20), (1, .long 7), (1, .methodref 20 21), (0, .class_ 22), (0, .nameAndType 23 24), (0, u "com/example/minderd/minderd/config/Limits"), (0, u "defaultMemory"), (0, u "(J)J"), (0, .class_ 26), (0, u "com/example/minderd/minderd/config/LimitsDefaultMemoryPinLaw"), (2, u "law"), (0, u "(JI)Z")] 3

def k1m0 : Method := { name := "<init>", desc := "()V", sig := { parameters := [], returnType := none }, accessFlags := 1, code := none }
def k1c1 : Code := { maxStack := 6, maxLocals := 15, code := code, exceptionTable := #[], attributes := #[] }
def k1m1 : Method := { name := "law", desc := "(JI)Z", sig := { parameters := [.long, .int], returnType := some .boolean }, accessFlags := 9, code := some k1c1 }
/-- com/example/minderd/minderd/config/LimitsDefaultMemoryPinLaw -/
def k1 : Class := { plain "com/example/minderd/minderd/config/LimitsDefaultMemoryPinLaw" (some 0) with
  accessFlags := 49
  interfaces := #[]
  cf := some (fileOf pool1 25 #[] #[{ accessFlags := 1, nameIndex := 5, descriptorIndex := 6, attributes := #[] }, { accessFlags := 9, nameIndex := 29, descriptorIndex := 30, attributes := #[] }] 49 2 #[] #[])
  fields := #[]
  methods := #[k1m0, k1m1]
  instanceTypes := #[]
  staticTypes := #[]
  resolved := Array.replicate 34 none
  statics := none }

def pool2 : Array CpInfo := pool [(2, .class_ 4), (1, u "java/lang/Object"), (3, .class_ 10), (1, u "com/example/minderd/minderd/config/Limits"), (0, u "memory"), (0, u "J"), (2, u "memoryWarn"), (2, u "retryDelay"), (0, u "Ljava/time/Duration;"), (0, .methodref 8 21), (0, .nameAndType 22 23), (0, u "percent"), (0, u "(JI)J"), (0, .long 2516582400), (1, .methodref 27 28), (0, .class_ 29), (0, .nameAndType 30 31), (0, u "java/lang/Math"), (0, u "min"), (0, u "(JJ)J"), (0, .long 100), (27, u "DEFAULT_RETRY_DELAY"), (0, u "DEFAULT_MEMORY_CAP"), (1, u "DEFAULT_MEMORY_PERCENT"), (0, u "I"), (1, u "DEFAULT_WARN_PERCENT"), (4, u "defaultMemory"), (0, u "(J)J")] 12

def k2c0 : Code := { maxStack := 4, maxLocals := 2, code := prog_9_method_2_code, exceptionTable := #[], attributes := #[] }
def k2m0 : Method := { name := "defaultMemory", desc := "(J)J", sig := { parameters := [.long], returnType := some .long }, accessFlags := 8, code := some k2c0 }
def k2c1 : Code := { maxStack := 6, maxLocals := 3, code := prog_9_method_4_code, exceptionTable := #[], attributes := #[] }
def k2m1 : Method := { name := "percent", desc := "(JI)J", sig := { parameters := [.long, .int], returnType := some .long }, accessFlags := 10, code := some k2c1 }
/-- com/example/minderd/minderd/config/Limits -/
def k2 : Class := { plain "com/example/minderd/minderd/config/Limits" (some 0) with
  accessFlags := 33
  interfaces := #[]
  cf := some (fileOf pool2 8 #[] #[{ accessFlags := 8, nameIndex := 71, descriptorIndex := 72, attributes := #[] }, { accessFlags := 10, nameIndex := 22, descriptorIndex := 23, attributes := #[] }] 33 2 #[] #[{ accessFlags := 25, nameIndex := 60, descriptorIndex := 19, attributes := #[] }, { accessFlags := 26, nameIndex := 61, descriptorIndex := 12, attributes := #[] }, { accessFlags := 26, nameIndex := 63, descriptorIndex := 64, attributes := #[] }, { accessFlags := 26, nameIndex := 66, descriptorIndex := 64, attributes := #[] }, { accessFlags := 18, nameIndex := 11, descriptorIndex := 12, attributes := #[] }, { accessFlags := 18, nameIndex := 15, descriptorIndex := 12, attributes := #[] }, { accessFlags := 18, nameIndex := 18, descriptorIndex := 19, attributes := #[] }])
  fields := #[{ name := "DEFAULT_RETRY_DELAY", type := (.object "java/time/Duration"), accessFlags := 25, slot := 0, constantValue := 0 }, { name := "DEFAULT_MEMORY_CAP", type := .long, accessFlags := 26, slot := 1, constantValue := 0 }, { name := "DEFAULT_MEMORY_PERCENT", type := .int, accessFlags := 26, slot := 2, constantValue := 0 }, { name := "DEFAULT_WARN_PERCENT", type := .int, accessFlags := 26, slot := 3, constantValue := 0 }, { name := "memory", type := .long, accessFlags := 18, slot := 0, constantValue := 0 }, { name := "memoryWarn", type := .long, accessFlags := 18, slot := 1, constantValue := 0 }, { name := "retryDelay", type := (.object "java/time/Duration"), accessFlags := 18, slot := 2, constantValue := 0 }]
  methods := #[k2m0, k2m1]
  instanceTypes := #[.long, .long, (.object "java/time/Duration")]
  staticTypes := #[(.object "java/time/Duration"), .long, .int, .int]
  resolved := Array.replicate 85 none
  statics := none }

def pool3 : Array CpInfo := pool [(1, .class_ 2), (0, u "java/lang/Math"), (1, .class_ 6), (1, u "java/lang/Object"), (0, u "<init>"), (0, u "()V"), (89, .class_ 100), (1, u "java/lang/Math$RandomNumberGeneratorHolder"), (20, u "(JJ)J"), (50, u "negativeZeroFloatBits"), (0, u "J"), (2, u "negativeZeroDoubleBits"), (24, u "min"), (43, u "$assertionsDisabled"), (0, u "Z"), (91, u "twoToTheDoubleScaleDown"), (0, u "D"), (4, u "twoToTheDoubleScaleUp"), (9, u "E"), (3, u "PI"), (2, u "TAU"), (2, u "DEGREES_TO_RADIANS"), (0, u "RADIANS_TO_DEGREES")] 94

def k3m0 : Method := { name := "<init>", desc := "()V", sig := { parameters := [], returnType := none }, accessFlags := 2, code := none }
def k3c1 : Code := { maxStack := 4, maxLocals := 4, code := jdk_29_method_70_code, exceptionTable := #[], attributes := #[] }
def k3m1 : Method := { name := "min", desc := "(JJ)J", sig := { parameters := [.long, .long], returnType := some .long }, accessFlags := 9, code := some k3c1 }
/-- java/lang/Math -/
def k3 : Class := { plain "java/lang/Math" (some 0) with
  accessFlags := 49
  interfaces := #[]
  cf := some (fileOf pool3 1 #[.nestMembers #[98]] #[{ accessFlags := 2, nameIndex := 7, descriptorIndex := 8, attributes := #[] }, { accessFlags := 9, nameIndex := 201, descriptorIndex := 121, attributes := #[] }] 49 4 #[] #[{ accessFlags := 25, nameIndex := 354, descriptorIndex := 339, attributes := #[] }, { accessFlags := 25, nameIndex := 358, descriptorIndex := 339, attributes := #[] }, { accessFlags := 25, nameIndex := 361, descriptorIndex := 339, attributes := #[] }, { accessFlags := 26, nameIndex := 364, descriptorIndex := 339, attributes := #[] }, { accessFlags := 26, nameIndex := 365, descriptorIndex := 339, attributes := #[] }, { accessFlags := 26, nameIndex := 172, descriptorIndex := 173, attributes := #[] }, { accessFlags := 26, nameIndex := 176, descriptorIndex := 173, attributes := #[] }, { accessFlags := 8, nameIndex := 344, descriptorIndex := 339, attributes := #[] }, { accessFlags := 8, nameIndex := 338, descriptorIndex := 339, attributes := #[] }, { accessFlags := 4120, nameIndex := 245, descriptorIndex := 246, attributes := #[] }])
  fields := #[{ name := "E", type := .double, accessFlags := 25, slot := 0, constantValue := 0 }, { name := "PI", type := .double, accessFlags := 25, slot := 1, constantValue := 0 }, { name := "TAU", type := .double, accessFlags := 25, slot := 2, constantValue := 0 }, { name := "DEGREES_TO_RADIANS", type := .double, accessFlags := 26, slot := 3, constantValue := 0 }, { name := "RADIANS_TO_DEGREES", type := .double, accessFlags := 26, slot := 4, constantValue := 0 }, { name := "negativeZeroFloatBits", type := .long, accessFlags := 26, slot := 5, constantValue := 0 }, { name := "negativeZeroDoubleBits", type := .long, accessFlags := 26, slot := 6, constantValue := 0 }, { name := "twoToTheDoubleScaleUp", type := .double, accessFlags := 8, slot := 7, constantValue := 0 }, { name := "twoToTheDoubleScaleDown", type := .double, accessFlags := 8, slot := 8, constantValue := 0 }, { name := "$assertionsDisabled", type := .boolean, accessFlags := 4120, slot := 9, constantValue := 0 }]
  methods := #[k3m0, k3m1]
  instanceTypes := #[]
  staticTypes := #[.double, .double, .double, .double, .double, .long, .long, .double, .double, .boolean]
  resolved := Array.replicate 460 none
  statics := none }

def pool4 : Array CpInfo := pool [(1, u "java/lang/Cloneable"), (0, .class_ 1), (0, u "java/lang/Object"), (0, .class_ 3)] 3

/-- java/lang/Cloneable -/
def k4 : Class := { plain "java/lang/Cloneable" (some 0) with
  accessFlags := 1537
  interfaces := #[]
  cf := some (fileOf pool4 2 #[] #[] 1537 4 #[] #[])
  fields := #[]
  methods := #[]
  instanceTypes := #[]
  staticTypes := #[]
  resolved := Array.replicate 8 none
  statics := none }

def pool5 : Array CpInfo := pool [(1, u "java/io/Serializable"), (0, .class_ 1), (0, u "java/lang/Object"), (0, .class_ 3)] 3

/-- java/io/Serializable -/
def k5 : Class := { plain "java/io/Serializable" (some 0) with
  accessFlags := 1537
  interfaces := #[]
  cf := some (fileOf pool5 2 #[] #[] 1537 4 #[] #[])
  fields := #[]
  methods := #[]
  instanceTypes := #[]
  staticTypes := #[]
  resolved := Array.replicate 8 none
  statics := none }

/-- the primitive byte -/
def k6 : Class := { plain "byte" none with kind := .primitive 'B', accessFlags := 0x411 }
/-- [B -/
def k7 : Class := { plain "[B" (some 0) with kind := .array 6 .byte, interfaces := #[4, 5], accessFlags := 1041 }

/-- the primitive int -/
def k8 : Class := { plain "int" none with kind := .primitive 'I', accessFlags := 0x411 }
/-- [I -/
def k9 : Class := { plain "[I" (some 0) with kind := .array 8 .int, interfaces := #[4, 5], accessFlags := 1041 }

def heap : Heap := #[]
def classes : Array Class := #[k0, k1, k2, k3, k4, k5, k6, k7, k8, k9]
def interned : List (Array UInt16 × Addr) := []
def slotsUsed : Nat := 0
def theMethod : MethodId := ⟨1, 1⟩
def args0 : Array Value := #[.long 5, .int 5]
def aboutOver (below : List Frame) : State where
  vm := { classes := classes, interned := interned.toArray }
  heap := heap
  slotsUsed := slotsUsed
  threads := #[{ frames := .invoking theMethod args0 :: below }]
def below0 : List Frame := [.native { method := ⟨0, 0⟩, args := #[] }]
def about1 : State := aboutOver below0
def p0 : Program := .bare "" "" ""
def e0 : Env := launch0.env 0 0 0
theorem w_frames : about1.frames = Frame.invoking theMethod args0 :: below0 := rfl
set_option maxRecDepth 65536 in
theorem w_args : argsFit about1.vm theMethod args0 = true := by decide +kernel
set_option maxRecDepth 65536 in
theorem w_heap : heapFits about1 = true := by decide +kernel
set_option maxRecDepth 65536 in
theorem w_runnable : about1.curStatus? = some .runnable := by decide +kernel
set_option maxRecDepth 65536 in
theorem w_alone : about1.alone = true := by decide +kernel
set_option maxRecDepth 65536 in
theorem w_named : about1.methodNamed? x = some theMethod := by decide +kernel
set_option maxRecDepth 65536 in
theorem w_hears : about1.hears theMethod below0 = true := by decide +kernel
set_option maxRecDepth 65536 in
theorem w_ripe : about1.ripe theMethod args0 below0 = true := by decide +kernel
theorem w_running : about1.status = .running := rfl
set_option maxRecDepth 65536 in
theorem w_room : about1.hasRoom e0.platform room_1 = true :=
  launch0.hasRoom_least _ room_1 (by decide +kernel) (by decide +kernel) (by decide +kernel) (by decide +kernel) (by decide +kernel) (by decide +kernel)
theorem allAtoms_all (ts : List Jvm.Cond) (a : Array Jvm.Value) (st : Jvm.State) : (allAtoms ts).before a st = ts.all (fun c => c.before a st) := by
  induction ts with
  | nil => rfl
  | cons c t ih =>
    show (Jvm.Cond.and c (allAtoms t)).before a st = _
    rw [Jvm.Cond.before_and, ih, List.all_cons]
def words1 : List Jvm.Cond := Jvm.Cond.code x code maxLocals ret :: tables_1
/-- a 'code' word, met by the world's own term for the bytes: nothing is compared byte by byte -/
theorem code_word {y : MethodName} {bytes : ByteArray} {mx : Nat} {rt : Option FieldType} {a : Array Value} {s : State} {m : MethodId} {meth : Method} {c : Code} (h1 : s.methodNamed? y = some m) (h2 : s.vm.method? m = some meth) (h3 : meth.code = some c) (h4 : c.code = bytes)
    (h5 : (c.maxLocals == mx && c.exceptionTable.isEmpty && decide (c.maxStack ≤ mostOperands) && decide (meth.sig.returnType = rt) && !meth.locks && decide (parseMethodDescriptor y.desc = some meth.sig)) = true) : (Jvm.Cond.code y bytes mx rt).before a s = true := by
  simp only [Bool.and_eq_true, beq_iff_eq, Bool.not_eq_true', decide_eq_true_eq] at h5
  obtain ⟨⟨⟨⟨⟨g1, g2⟩, g3⟩, g4⟩, g5⟩, g6⟩ := h5
  simp [Cond.before, Cond.holds, Cond.value, h1, h2, h3, h4, g1, g2, g3, g4, g5, g6]
def isCode : Jvm.Cond → Bool
  | .code _ _ _ _ => true
  | _ => false
theorem all_split {L : List Jvm.Cond} {P : Jvm.Cond → Bool} (h1 : L.all (fun c => isCode c || P c) = true) (h2 : ∀ c ∈ L.filter isCode, P c = true) : L.all P = true := by
  refine List.all_eq_true.mpr fun c hc => ?_
  have h := List.all_eq_true.mp h1 c hc
  rcases Bool.eq_false_or_eq_true (isCode c) with hi | hi
  · exact h2 c (List.mem_filter.mpr ⟨hc, hi⟩)
  · simpa [hi] using h
set_option maxRecDepth 65536 in
theorem w_c0 : (Jvm.Cond.code x code maxLocals ret).before args0 about1 = true := code_word (m := ⟨1, 1⟩) (meth := k1m1) (c := k1c1) (by decide +kernel) rfl rfl rfl (by decide +kernel)
set_option maxRecDepth 65536 in
theorem w_c1 : (Jvm.Cond.code ({ cls := "com/example/minderd/minderd/config/Limits", name := "defaultMemory", desc := "(J)J" } : Jvm.MethodName) prog_9_method_2_code (2 : Nat) (Option.some Jvm.ClassFile.FieldType.long)).before args0 about1 = true := code_word (m := ⟨2, 0⟩) (meth := k2m0) (c := k2c0) (by decide +kernel) rfl rfl rfl (by decide +kernel)
set_option maxRecDepth 65536 in
theorem w_c2 : (Jvm.Cond.code ({ cls := "com/example/minderd/minderd/config/Limits", name := "percent", desc := "(JI)J" } : Jvm.MethodName) prog_9_method_4_code (3 : Nat) (Option.some Jvm.ClassFile.FieldType.long)).before args0 about1 = true := code_word (m := ⟨2, 1⟩) (meth := k2m1) (c := k2c1) (by decide +kernel) rfl rfl rfl (by decide +kernel)
set_option maxRecDepth 65536 in
theorem w_c3 : (Jvm.Cond.code ({ cls := "java/lang/Math", name := "min", desc := "(JJ)J" } : Jvm.MethodName) jdk_29_method_70_code (4 : Nat) (Option.some Jvm.ClassFile.FieldType.long)).before args0 about1 = true := code_word (m := ⟨3, 1⟩) (meth := k3m1) (c := k3c1) (by decide +kernel) rfl rfl rfl (by decide +kernel)
def codes1 : List Jvm.Cond := [Jvm.Cond.code x code maxLocals ret, Jvm.Cond.code ({ cls := "com/example/minderd/minderd/config/Limits", name := "defaultMemory", desc := "(J)J" } : Jvm.MethodName) prog_9_method_2_code (2 : Nat) (Option.some Jvm.ClassFile.FieldType.long), Jvm.Cond.code ({ cls := "com/example/minderd/minderd/config/Limits", name := "percent", desc := "(JI)J" } : Jvm.MethodName) prog_9_method_4_code (3 : Nat) (Option.some Jvm.ClassFile.FieldType.long), Jvm.Cond.code ({ cls := "java/lang/Math", name := "min", desc := "(JJ)J" } : Jvm.MethodName) jdk_29_method_70_code (4 : Nat) (Option.some Jvm.ClassFile.FieldType.long)]
set_option maxRecDepth 65536 in
theorem codes_eq : words1.filter isCode = codes1 := rfl
theorem w_codes : ∀ c ∈ words1.filter isCode, c.before args0 about1 = true := by
  rw [codes_eq]
  intro c hc
  simp only [codes1, List.mem_cons, List.not_mem_nil, or_false] at hc
  rcases hc with rfl | rfl | rfl | rfl
  · exact w_c0
  · exact w_c1
  · exact w_c2
  · exact w_c3
set_option maxRecDepth 65536 in
theorem w_t1 : words1.all (fun c => isCode c || c.before args0 about1) = true := by decide +kernel
theorem w_tables : (allAtoms (Jvm.Cond.code x code maxLocals ret :: tables_1)).before args0 about1 = true := by
  rw [allAtoms_all]
  show words1.all (fun c => c.before args0 about1) = true
  refine all_split ?_ w_codes
  rw [w_t1]
set_option maxRecDepth 65536 in
theorem w_case : (Jvm.Cond.and given_1 narrow_1).before args0 about1 = true := by decide +kernel
theorem w_applies : (headSpec (Jvm.Cond.code x code maxLocals ret :: tables_1) room_1).applies x e0.platform about1 = true :=
  (Spec.applies_iff w_frames).mpr ⟨w_running, w_runnable, w_alone, w_named, w_hears, w_ripe, w_room, w_tables⟩
theorem atStart : AtStart classFile x code maxLocals ret World_1 tables_1 room_1 Calls_1 rest_1 Pre_1 launch0 p0 e0 about1 theMethod args0 below0 :=
  ⟨lists_1, trivial, launch0.admits_env _ _ _, launch0.least_env, fairChoices_fair.cas, fairChoices_fair.clock, w_frames, w_args, w_heap, w_applies, trivial, trivial, w_case⟩
end start1
theorem witness_1 : WitnessClaimed_1 := ⟨start1.p0, start1.e0, start1.about1, start1.theMethod, start1.args0, start1.below0, start1.atStart⟩
end Jvm.Pilot.@@N@@
