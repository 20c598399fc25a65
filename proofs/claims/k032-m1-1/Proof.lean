import JvmDerived
import JvmDerived.Pilot.@@N@@Statement
import JvmDerived.Pilot.@@N@@Code
set_option linter.unusedVariables false
set_option linter.unusedSimpArgs false
namespace Jvm.Pilot.@@N@@
open Jvm Jvm.ClassFile Sem Op Lib Jvm.Free Jvm.Stand Jvm.LawKit Jvm.RoadKit Bundle Jvm.Pilot.@@N@@.Jvm.D
abbrev y1 : MethodName := ⟨"com/example/filters_under_siege/filtersundersiege/CoverIsCompletePinLaw", "shared", "(I)[Z"⟩
abbrev y2 : MethodName := ⟨"com/example/filters_under_siege/filtersundersiege/CoverIsCompletePinLaw", "bit", "(II)I"⟩
abbrev y3 : MethodName := ⟨"com/example/filters_under_siege/filtersundersiege/Cover", "<init>", "(II)V"⟩
abbrev y4 : MethodName := ⟨"java/lang/Object", "<init>", "()V"⟩
abbrev y5 : MethodName := ⟨"java/util/ArrayList", "<init>", "()V"⟩
abbrev y6 : MethodName := ⟨"java/util/AbstractList", "<init>", "()V"⟩
abbrev y7 : MethodName := ⟨"java/util/AbstractCollection", "<init>", "()V"⟩
abbrev y8 : MethodName := ⟨"java/util/Arrays", "fill", "([II)V"⟩
abbrev y9 : MethodName := ⟨"com/example/filters_under_siege/filtersundersiege/Cover", "isComplete", "()Z"⟩
abbrev y10 : MethodName := ⟨"com/example/filters_under_siege/filtersundersiege/CoverIsCompletePinLaw", "expected", "(IIIIIII)Z"⟩
abbrev y11 : MethodName := ⟨"com/example/filters_under_siege/filtersundersiege/Cover", "offer", "([B[Z)V"⟩
abbrev y12 : MethodName := ⟨"com/example/filters_under_siege/filtersundersiege/CoverIsCompletePinLaw", "hits", "(IIIIII)I"⟩
abbrev y13 : MethodName := ⟨"java/util/ArrayList", "add", "(Ljava/lang/Object;)Z"⟩
abbrev y14 : MethodName := ⟨"java/util/ArrayList", "add", "(Ljava/lang/Object;[Ljava/lang/Object;I)V"⟩
abbrev y15 : MethodName := ⟨"java/util/ArrayList", "grow", "()[Ljava/lang/Object;"⟩
abbrev y16 : MethodName := ⟨"java/util/ArrayList", "grow", "(I)[Ljava/lang/Object;"⟩
abbrev y17 : MethodName := ⟨"java/lang/Math", "max", "(II)I"⟩

abbrev jv (x : Int64) : Slot := .val (.long x)
abbrev un : Slot := .unset
abbrev se : Slot := .second
abbrev AT (p : Program) (e : Env) (below : List Frame) (T : State) (m : MethodId) (pc : Nat) (ls : Array Slot) (st : List Value) (tg : State) : Prop := Steps p.tables e below (T.setTop (mkF m pc ls st)) tg
theorem ow {Z : State} {a0 : Array Value} (hw : ∀ d ∈ tables_1, d.before a0 Z = true) (i : Nat) {d : Jvm.Cond} (h : tables_1[i]? = some d) : d.before a0 Z = true := hw _ (List.mem_of_getElem? h)
theorem own_lrem {p : Program} {l : Launch} {e : Env} {R : Room} {s : State} {m : MethodId} {args : Array Value} {below : List Frame} {meth : Method} {c : Code} {T : State} {locs : List Loc} {cells slots : Nat} {g : JFrame} {target : State} (X : Stand p l e R s m args below meth c T locs cells slots) (hx : p.tables.exec = Jvm.exec) (hg : g.method = m) {x y : Int64} {rest : List Value} (hd : decode c.code g.pc = .ok (.lrem, 1)) (hs : g.stack = .long y :: .long x :: rest) (hy : y ≠ 0)
    (hr : Steps p.tables e below (T.setTop { g with pc := g.pc + 1, stack := .long (x % y) :: rest }) target) : Steps p.tables e below (T.setTop g) target :=
  XS.lrem X.here hx hg hd hs hy (by rw [lrem_mod]; exact hr)
theorem own_eqInt {args : Array Value} {first s : State} {o : Option Outcome} {idx : List Nat} {t : Term} {n : Int32} (h : (Jvm.Cond.eq t (.int n)).value args first o s idx = some true) : t.eval args first o idx s = some (.int n) := by
  simp only [Cond.value, Term.eval] at h
  cases ht : t.eval args first o idx s with
  | none => simp [ht] at h
  | some v => cases v <;> simp [ht] at h ⊢; exact h
theorem own_eqLong {args : Array Value} {first s : State} {o : Option Outcome} {idx : List Nat} {t : Term} {n : Int64} (h : (Jvm.Cond.eq t (.long n)).value args first o s idx = some true) : t.eval args first o idx s = some (.long n) := by
  simp only [Cond.value, Term.eval] at h
  cases ht : t.eval args first o idx s with
  | none => simp [ht] at h
  | some v => cases v <;> simp [ht] at h ⊢; exact h
theorem own_eqRef {args : Array Value} {first s : State} {o : Option Outcome} {idx : List Nat} {t u : Term} {a : Addr} (hu : u.eval args first o idx s = some (.ref a)) (h : (Jvm.Cond.eq t u).value args first o s idx = some true) : t.eval args first o idx s = some (.ref a) := by
  simp only [Cond.value, hu] at h
  cases ht : t.eval args first o idx s with
  | none => simp [ht] at h
  | some v => cases v <;> simp [ht] at h ⊢; exact h

theorem own_x32 {a b : Int} (h : (a - b) % 4294967296 = 0) (r : -2147483648 ≤ a ∧ a ≤ 2147483647) (q : -2147483648 ≤ b ∧ b ≤ 2147483647) : a = b := by omega
theorem own_x64 {a b : Int} (h : (a - b) % 18446744073709551616 = 0) (r : -9223372036854775808 ≤ a ∧ a ≤ 9223372036854775807) (q : -9223372036854775808 ≤ b ∧ b ≤ 9223372036854775807) : a = b := by omega
theorem own_in {c : Cell} {n : Int32} (j : Int32) (S : c.slots.size = n.toNatClampNeg) (q : ¬ j < 0 ∧ j < n) : ¬ (j < 0 ∨ c.slots.size ≤ j.toNatClampNeg) := inb_of S q
theorem own_up {x a b : Int32} (h : x < a) (q : a.toInt ≤ b.toInt) : x < b := Int32.lt_iff_toInt_lt.mpr (Int.lt_of_lt_of_le (Int32.lt_iff_toInt_lt.mp h) q)
theorem own_dn {x a b : Int32} (h : ¬ x < a) (q : b.toInt ≤ a.toInt) : ¬ x < b := fun z => h (own_up z q)
theorem own_neInt {args : Array Value} {first s : State} {o : Option Outcome} {idx : List Nat} {t : Term} {x n : Int32} (ht : t.eval args first o idx s = some (.int x)) (h : (Jvm.Cond.not (Jvm.Cond.eq t (.int n))).value args first o s idx = some true) : ¬ x = n := by
  simpa [Cond.value, Term.eval, ht] using h

theorem own_len {Z : State} {args : Array Value} {t : Term} {a : Addr} {cl : Cell} {ty : FieldType} {n : Int32} (ev : t.eval args Z none [] Z = some (.ref a)) (A : Arr Z Z.heap a cl ty) (h : (Term.length t).eval args Z none [] Z = some (.int n)) : cl.slots.size < 2 ^ 31 ∧ cl.slots.size.toInt32 = n := by
  have q := A.fin (U := Z) (Vm.Alike.refl _)
  simp only [Term.eval, ev, q, Option.bind_eq_bind, Option.bind_some, Option.pure_def] at h
  split at h
  · rename_i hlt; exact ⟨hlt, by simpa using h⟩
  · simp at h

theorem own_nar {v : Value} {c : String} (h : v.isRef = true) : narrow (.object c) v = v := by cases v <;> first | rfl | simp [Value.isRef] at h
theorem own_fits {v : Value} {c : String} (h : v.isRef = true) : fits (.object c) v = true := by cases v <;> first | rfl | simp [Value.isRef] at h
theorem own_cat {v : Value} (h : v.isRef = true) : v.category = 1 := by cases v <;> first | rfl | simp [Value.isRef] at h

theorem own_notOf {Z : State} {a0 : Array Value} {C S K : String} {n : Nat} (w : (Jvm.Cond.superclass C S).before a0 Z = true) (w0 : (Jvm.Cond.noSuperclass S).before a0 Z = true) (wk : (Jvm.Cond.instantiable K n).before a0 Z = true) (h1 : C ≠ K) (h2 : S ≠ K) :
    ∃ c t, Z.vm.findClass C = some c ∧ Z.vm.findClass K = some t ∧ Z.vm.assignable c t = false := by
  obtain ⟨t, k', g0, g2, g5, g7, -⟩ := Cond.instantiable_spec wk
  obtain ⟨c, h0⟩ := found_sup w
  obtain ⟨p, k, kp, q1, q2, q3, q4, q5, q6, q7⟩ := Cond.superclass_spec h0 w
  obtain ⟨c0, k0, r1, r2, r3, -, -⟩ := Cond.noSuperclass_spec w0
  cases q1.symm.trans r1
  have ne1 := ids_ne h0 g0 h1
  have ne2 := ids_ne r1 g0 h2
  have g8 := (Bool.or_eq_false_iff.mp g7).1
  have n3 : ∀ fuel, Z.vm.isSubclassAux fuel c t = false := by
    intro fuel
    cases fuel with
    | zero => rfl
    | succ f =>
      cases f with
      | zero => simp [Vm.isSubclassAux, ne1, q2, q4]
      | succ g => simp [Vm.isSubclassAux, ne1, ne2, q2, q4, r2, r3]
  refine ⟨c, t, h0, g0, ?_⟩
  show Z.vm.assignableAux (255 + 1) c t = false
  simp [Vm.assignableAux, ne1, q2, g2, q5, g5, g8, Vm.isSubclass, n3]

theorem own_selP {Z s : State} {a0 args : Array Value} {y : MethodName} {n : Nat} (hZ : Z.Warmed39 s.vm) (wi : (Jvm.Cond.instantiable y.cls n).before a0 Z = true) (wp : (Jvm.Cond.privateMethod y).before a0 Z = true) (wm : (Jvm.Cond.instanceMethod y).before a0 Z = true) (hy : y.cls ≠ "java/lang/invoke/MethodHandle" ∧ y.cls ≠ "java/lang/invoke/VarHandle") : (Jvm.Cond.selects y.cls y y).before args s = true := by
  obtain ⟨c, k, hc, hk, -, hni, -⟩ := Cond.instantiable_spec (mvT (s := s) (args := args) hZ wi)
  exact selects_self_of_private hc hk (Bool.or_eq_false_iff.mp hni).1 (Cond.privateMethod_at (mvP hZ wp (args := #[]))) (mvT hZ wm) hy

theorem own_neS {Z : State} {h : Heap} {a b u w : Addr} {C f d : String} {k k' : ClassId} {ty : FieldType} {z z' : Int32} {vs vs' : List Value} {dv dv' : Value} (Fa : Fld Z h a C f d (.ref u)) (Va : Arv Z h u k ty z vs dv) (Fb : Fld Z h b C f d (.ref w)) (Vb : Arv Z h w k' ty z' vs' dv') (hn : z ≠ z' ∨ ∃ i : Nat, i < z.toNatClampNeg ∧ vs.getD i dv ≠ vs'.getD i dv') : a ≠ b := fun e => by
  subst e
  have hu : u = w := by
    rcases Decidable.em (u = w) with q | q
    · exact q
    · exact absurd rfl (Fld.ne Fa Fb (fun x => q (Value.ref.inj x)))
  subst hu
  obtain ⟨c1, A1, -, S1, N1, H1, -⟩ := Va
  obtain ⟨c2, A2, -, S2, N2, H2, -⟩ := Vb
  cases A1.1.symm.trans A2.1
  rcases hn with hn | ⟨i, hi, hn⟩
  · exact hn ((len_of S1 N1).symm.trans (len_of S2 N2))
  · have q1 := H1 i (by rw [S1]; exact hi)
    have q2 := H2 i (by rw [S1]; exact hi)
    exact hn (Option.some.inj (q1.symm.trans q2))
def Wd (Z : State) (w_EE0 : Addr) (w_DEE1 : Addr) (k_EE0 : ClassId) (k_DEE1 : ClassId) : Prop :=
  Sta Z Z.heap "java/util/ArrayList" "EMPTY_ELEMENTDATA" "[Ljava/lang/Object;" (.ref w_EE0) ∧
  Exa Z Z.heap w_EE0 "[Ljava/lang/Object;" ∧
  Sta Z Z.heap "java/util/ArrayList" "DEFAULTCAPACITY_EMPTY_ELEMENTDATA" "[Ljava/lang/Object;" (.ref w_DEE1) ∧
  Exa Z Z.heap w_DEE1 "[Ljava/lang/Object;" ∧
  Arv Z Z.heap w_EE0 k_EE0 (.object "java/lang/Object") (0 : Int32) [] .null ∧
  Arv Z Z.heap w_DEE1 k_DEE1 (.object "java/lang/Object") (0 : Int32) [] .null
theorem pn_0 : plainName "com/example/filters_under_siege/filtersundersiege/CoverIsCompletePinLaw" = true := by first | (simp [plainName, overriddenIn]; done) | decide +kernel
theorem pn_1 : plainName "java/util/AbstractCollection" = true := by first | (simp [plainName, overriddenIn]; done) | decide +kernel
theorem pn_2 : plainName "java/util/AbstractList" = true := by first | (simp [plainName, overriddenIn]; done) | decide +kernel
theorem pn_3 : plainName "java/util/ArrayList" = true := by first | (simp [plainName, overriddenIn]; done) | decide +kernel
theorem pn_4 : plainName "java/util/Arrays" = true := by first | (simp [plainName, overriddenIn]; done) | decide +kernel
theorem pn_5 : plainName "com/example/filters_under_siege/filtersundersiege/Cover" = true := by first | (simp [plainName, overriddenIn]; done) | decide +kernel
theorem pd_0 : parseMethodDescriptor "(II)I" = some ⟨[.int, .int], some .int⟩ := by decide +kernel
theorem pd_1 : parseMethodDescriptor "(IIIIII)I" = some ⟨[.int, .int, .int, .int, .int, .int], some .int⟩ := by decide +kernel
theorem pd_2 : parseMethodDescriptor "()V" = some ⟨[], none⟩ := by decide +kernel
theorem pd_3 : parseMethodDescriptor "(I)[Ljava/lang/Object;" = some ⟨[.int], some (.array (.object "java/lang/Object"))⟩ := by decide +kernel
theorem pd_4 : parseMethodDescriptor "()[Ljava/lang/Object;" = some ⟨[], some (.array (.object "java/lang/Object"))⟩ := by decide +kernel
theorem pd_5 : parseMethodDescriptor "(Ljava/lang/Object;[Ljava/lang/Object;I)V" = some ⟨[(.object "java/lang/Object"), (.array (.object "java/lang/Object")), .int], none⟩ := by decide +kernel
theorem pd_6 : parseMethodDescriptor "([II)V" = some ⟨[(.array .int), .int], none⟩ := by decide +kernel
theorem pd_7 : parseMethodDescriptor "(Ljava/lang/Object;)Z" = some ⟨[(.object "java/lang/Object")], some .boolean⟩ := by decide +kernel
theorem pd_8 : parseMethodDescriptor "(I)[Z" = some ⟨[.int], some (.array .boolean)⟩ := by decide +kernel
theorem pd_9 : parseMethodDescriptor "(II)V" = some ⟨[.int, .int], none⟩ := by decide +kernel
theorem pd_10 : parseMethodDescriptor "()Z" = some ⟨[], some .boolean⟩ := by decide +kernel
theorem pd_11 : parseMethodDescriptor "(IIIIIII)Z" = some ⟨[.int, .int, .int, .int, .int, .int, .int], some .boolean⟩ := by decide +kernel
theorem pd_12 : parseMethodDescriptor "([B[Z)V" = some ⟨[(.array .byte), (.array .boolean)], none⟩ := by decide +kernel
theorem d2_0 : decode method_2_code 0 = .ok (.iload_n 0, 1) := by decide +kernel
theorem d2_1 : decode method_2_code 1 = .ok (.iload_n 1, 1) := by decide +kernel
theorem d2_2 : decode method_2_code 2 = .ok (.iushr, 1) := by decide +kernel
theorem d2_3 : decode method_2_code 3 = .ok (.iconst 1, 1) := by decide +kernel
theorem d2_4 : decode method_2_code 4 = .ok (.iand, 1) := by decide +kernel
theorem d2_5 : decode method_2_code 5 = .ok (.ireturn, 1) := by decide +kernel
theorem ef_2 (m : MethodId) (p0 : Int32) (p1 : Int32) : entryFrame m #[(.int p0), (.int p1)] 2 = mkF m 0 #[iv p0, iv p1] [] := by first | (simp [entryFrame, mkF, argsToLocals, Value.category]; done) | rfl
def f2 (p0 : Int32) (p1 : Int32) : Int32 := (((p0.toUInt32 >>> (p1 &&& 31).toUInt32).toInt32) &&& (1 : Int32))
def Q2 (Z : State) (p0 : Int32) (p1 : Int32) (h0 : Heap) (n0 : Nat) (v : Option Value) (h : Heap) (L : List Loc) : Prop := v = some (.int (f2 p0 p1)) ∧ Fr n0 L ∧ h = h0
set_option maxRecDepth 65536 in
set_option maxHeartbeats 40000000 in
theorem rm2 (l : Launch) (Z : State) (ar : Array Value) (hw : ∀ d ∈ tables_1, d.before ar Z = true) (ws : List Jvm.Cond) (p0 : Int32) (p1 : Int32) (h0 : Heap) (n0 : Nat) (O0 : Old Z n0 h0) :
    MetFree l y2 (head1 (Jvm.Cond.code y2 method_2_code 2 (some .int) :: ws) ({ frames := 0, cells := 0, slots := 0, locals := 0 } : Room)) (fun a U => a = #[(.int p0), (.int p1)] ∧ Z.Warmed39 U.vm ∧ U.heap = h0) (fun _ _ _ _ _ => True) (fun _ U o U' => ∃ v L, o = .returned v ∧ Q2 Z p0 p1 h0 n0 v U'.heap L ∧ FrameEnd U o U' L ({ frames := 0, cells := 0, slots := 0, locals := 0 } : Room).cells ({ frames := 0, cells := 0, slots := 0, locals := 0 } : Room).slots) := by
 refine MetFree.of_bodySF (plainFor_of_name pn_0) hisR ?_
 intro p e s m args below meth c s₁ Bd hml0 hP hK
 obtain ⟨rfl, hZ, hh⟩ := hP
 have hx := Bd.exec
 have hby := Bd.bytes
 have hml : c.maxLocals = 2 := hml0
 have hown : s.vm.findClass "com/example/filters_under_siege/filtersundersiege/CoverIsCompletePinLaw" = some m.cls := findClass_of_methodNamed Bd.named
 have hnm := (name_of_methodNamed Bd.named Bd.method).1
 have X0 : Stand p l e ({ frames := 0, cells := 0, slots := 0, locals := 0 } : Room) s m #[(.int p0), (.int p1)] below meth c s₁ [] 0 0 := Stand.of_body Bd
 have e0 : s₁.heap = h0 := by rw [← hh, Bd.state]; rfl
 have N0 := Fr.nil n0
 have Z0 : n0 ≤ h0.size := Nat.le_trans (Nat.le_of_eq O0.1.symm) O0.2.1
 obtain ⟨S0, hS0⟩ : ∃ z, z = s₁.setTop (entryFrame m #[(.int p0), (.int p1)] 2) := ⟨_, rfl⟩
 have pre0 : ∀ tg, AT p e below s₁ m 0 #[iv p0, iv p1] [] tg → Steps p.tables e below S0 tg := fun tg kg => by rw [hS0]; exact castTop (ef_2 m p0 p1) kg
 obtain ⟨fs, hr, hrun, hended, hW, hsame⟩ := X0.leave (v := some (.int (((p0.toUInt32 >>> (p1 &&& 31).toUInt32).toInt32) &&& (1 : Int32)))) (fun h => by rw [Bd.returns] at h; cases h)
 subst hS0
 refine ⟨_, _, pre0 _ ?_, hrun, hended, _, _, rfl, ?_, ⟨_, rfl⟩, hW, hsame.mono (by decide) (by decide)⟩
 ·
  refine XS.iloadN X0.here hx rfl (hb hby d2_0) rfl ?_
  refine XS.iloadN X0.here hx rfl (hb hby d2_1) rfl ?_
  refine XS.iushr X0.here hx rfl (hb hby d2_2) rfl ?_
  refine XS.iconst X0.here hx rfl (hb hby d2_3) ?_
  refine XS.iand X0.here hx rfl (hb hby d2_4) rfl ?_
  exact retOut X0 hx (t := .int) (i := .ireturn) Bd.returns rfl (Or.inl ⟨rfl, Or.inl rfl, _, rfl⟩) (hb hby d2_5) hr
 ·
  show Q2 Z p0 p1 h0 n0 _ s₁.heap _
  rw [e0]
  exact ⟨rfl, N0, rfl⟩

theorem d12_0 : decode method_3_code 0 = .ok (.iconst 0, 1) := by decide +kernel
theorem d12_1 : decode method_3_code 1 = .ok (.istore 6, 2) := by decide +kernel
theorem d12_3 : decode method_3_code 3 = .ok (.iload_n 1, 1) := by decide +kernel
theorem d12_4 : decode method_3_code 4 = .ok (.iconst 1, 1) := by decide +kernel
theorem d12_5 : decode method_3_code 5 = .ok (.if_icmp .lt 13, 3) := by decide +kernel
theorem d12_8 : decode method_3_code 8 = .ok (.iload 6, 2) := by decide +kernel
theorem d12_10 : decode method_3_code 10 = .ok (.iload_n 2, 1) := by decide +kernel
theorem d12_11 : decode method_3_code 11 = .ok (.iload_n 0, 1) := by decide +kernel
theorem d12_12 : decode method_3_code 12 = .ok (.invokestatic 7, 3) := by decide +kernel
theorem d12_15 : decode method_3_code 15 = .ok (.iadd, 1) := by decide +kernel
theorem d12_16 : decode method_3_code 16 = .ok (.istore 6, 2) := by decide +kernel
theorem d12_18 : decode method_3_code 18 = .ok (.iload_n 1, 1) := by decide +kernel
theorem d12_19 : decode method_3_code 19 = .ok (.iconst 2, 1) := by decide +kernel
theorem d12_20 : decode method_3_code 20 = .ok (.if_icmp .lt 13, 3) := by decide +kernel
theorem d12_23 : decode method_3_code 23 = .ok (.iload 6, 2) := by decide +kernel
theorem d12_25 : decode method_3_code 25 = .ok (.iload_n 3, 1) := by decide +kernel
theorem d12_26 : decode method_3_code 26 = .ok (.iload_n 0, 1) := by decide +kernel
theorem d12_27 : decode method_3_code 27 = .ok (.invokestatic 7, 3) := by decide +kernel
theorem d12_30 : decode method_3_code 30 = .ok (.iadd, 1) := by decide +kernel
theorem d12_31 : decode method_3_code 31 = .ok (.istore 6, 2) := by decide +kernel
theorem d12_33 : decode method_3_code 33 = .ok (.iload_n 1, 1) := by decide +kernel
theorem d12_34 : decode method_3_code 34 = .ok (.iconst 3, 1) := by decide +kernel
theorem d12_35 : decode method_3_code 35 = .ok (.if_icmp .lt 14, 3) := by decide +kernel
theorem d12_38 : decode method_3_code 38 = .ok (.iload 6, 2) := by decide +kernel
theorem d12_40 : decode method_3_code 40 = .ok (.iload 4, 2) := by decide +kernel
theorem d12_42 : decode method_3_code 42 = .ok (.iload_n 0, 1) := by decide +kernel
theorem d12_43 : decode method_3_code 43 = .ok (.invokestatic 7, 3) := by decide +kernel
theorem d12_46 : decode method_3_code 46 = .ok (.iadd, 1) := by decide +kernel
theorem d12_47 : decode method_3_code 47 = .ok (.istore 6, 2) := by decide +kernel
theorem d12_49 : decode method_3_code 49 = .ok (.iload_n 1, 1) := by decide +kernel
theorem d12_50 : decode method_3_code 50 = .ok (.iconst 4, 1) := by decide +kernel
theorem d12_51 : decode method_3_code 51 = .ok (.if_icmp .lt 14, 3) := by decide +kernel
theorem d12_54 : decode method_3_code 54 = .ok (.iload 6, 2) := by decide +kernel
theorem d12_56 : decode method_3_code 56 = .ok (.iload 5, 2) := by decide +kernel
theorem d12_58 : decode method_3_code 58 = .ok (.iload_n 0, 1) := by decide +kernel
theorem d12_59 : decode method_3_code 59 = .ok (.invokestatic 7, 3) := by decide +kernel
theorem d12_62 : decode method_3_code 62 = .ok (.iadd, 1) := by decide +kernel
theorem d12_63 : decode method_3_code 63 = .ok (.istore 6, 2) := by decide +kernel
theorem d12_65 : decode method_3_code 65 = .ok (.iload 6, 2) := by decide +kernel
theorem d12_67 : decode method_3_code 67 = .ok (.ireturn, 1) := by decide +kernel
theorem ef_12 (m : MethodId) (p0 : Int32) (p1 : Int32) (p2 : Int32) (p3 : Int32) (p4 : Int32) (p5 : Int32) : entryFrame m #[(.int p0), (.int p1), (.int p2), (.int p3), (.int p4), (.int p5)] 7 = mkF m 0 #[iv p0, iv p1, iv p2, iv p3, iv p4, iv p5, un] [] := by first | (simp [entryFrame, mkF, argsToLocals, Value.category]; done) | rfl
def f12 (p0 : Int32) (p1 : Int32) (p2 : Int32) (p3 : Int32) (p4 : Int32) (p5 : Int32) : Int32 := if p1 < (1 : Int32) then (0 : Int32) else (if p1 < (2 : Int32) then ((0 : Int32) + (f2 p2 p0)) else (if p1 < (3 : Int32) then (((0 : Int32) + (f2 p2 p0)) + (f2 p3 p0)) else (if p1 < (4 : Int32) then ((((0 : Int32) + (f2 p2 p0)) + (f2 p3 p0)) + (f2 p4 p0)) else (((((0 : Int32) + (f2 p2 p0)) + (f2 p3 p0)) + (f2 p4 p0)) + (f2 p5 p0)))))
def Q12 (Z : State) (p0 : Int32) (p1 : Int32) (p2 : Int32) (p3 : Int32) (p4 : Int32) (p5 : Int32) (h0 : Heap) (n0 : Nat) (v : Option Value) (h : Heap) (L : List Loc) : Prop := v = some (.int (f12 p0 p1 p2 p3 p4 p5)) ∧ Fr n0 L ∧ h = h0
set_option maxRecDepth 65536 in
set_option maxHeartbeats 40000000 in
theorem rm12 (l : Launch) (Z : State) (ar : Array Value) (hw : ∀ d ∈ tables_1, d.before ar Z = true) (ws : List Jvm.Cond) (p0 : Int32) (p1 : Int32) (p2 : Int32) (p3 : Int32) (p4 : Int32) (p5 : Int32) (h0 : Heap) (n0 : Nat) (O0 : Old Z n0 h0) :
    MetFree l y12 (head1 (Jvm.Cond.code y12 method_3_code 7 (some .int) :: ws) ({ frames := 1, cells := 0, slots := 0, locals := 14 } : Room)) (fun a U => a = #[(.int p0), (.int p1), (.int p2), (.int p3), (.int p4), (.int p5)] ∧ Z.Warmed39 U.vm ∧ U.heap = h0) (fun _ _ _ _ _ => True) (fun _ U o U' => ∃ v L, o = .returned v ∧ Q12 Z p0 p1 p2 p3 p4 p5 h0 n0 v U'.heap L ∧ FrameEnd U o U' L ({ frames := 1, cells := 0, slots := 0, locals := 14 } : Room).cells ({ frames := 1, cells := 0, slots := 0, locals := 14 } : Room).slots) := by
 refine MetFree.of_bodySF (plainFor_of_name pn_0) hisR ?_
 intro p e s m args below meth c s₁ Bd hml0 hP hK
 obtain ⟨rfl, hZ, hh⟩ := hP
 have hx := Bd.exec
 have hby := Bd.bytes
 have hml : c.maxLocals = 7 := hml0
 have hown : s.vm.findClass "com/example/filters_under_siege/filtersundersiege/CoverIsCompletePinLaw" = some m.cls := findClass_of_methodNamed Bd.named
 have hnm := (name_of_methodNamed Bd.named Bd.method).1
 have X0 : Stand p l e ({ frames := 1, cells := 0, slots := 0, locals := 14 } : Room) s m #[(.int p0), (.int p1), (.int p2), (.int p3), (.int p4), (.int p5)] below meth c s₁ [] 0 0 := Stand.of_body Bd
 have e0 : s₁.heap = h0 := by rw [← hh, Bd.state]; rfl
 have N0 := Fr.nil n0
 have Z0 : n0 ≤ h0.size := Nat.le_trans (Nat.le_of_eq O0.1.symm) O0.2.1
 obtain ⟨S0, hS0⟩ : ∃ z, z = s₁.setTop (entryFrame m #[(.int p0), (.int p1), (.int p2), (.int p3), (.int p4), (.int p5)] 7) := ⟨_, rfl⟩
 have pre0 : ∀ tg, AT p e below s₁ m 0 #[iv p0, iv p1, iv p2, iv p3, iv p4, iv p5, un] [] tg → Steps p.tables e below S0 tg := fun tg kg => by rw [hS0]; exact castTop (ef_12 m p0 p1 p2 p3 p4 p5) kg
 have pre1 : ∀ tg, AT p e below s₁ m 5 #[iv p0, iv p1, iv p2, iv p3, iv p4, iv p5, iv (0 : Int32)] [(.int (1 : Int32)), (.int p1)] tg → Steps p.tables e below S0 tg := fun tg kg => pre0 tg (by
  refine XS.iconst X0.here hx rfl (hb hby d12_0) ?_
  refine XS.istore X0.here hx rfl (hb hby d12_1) rfl (l' := #[iv p0, iv p1, iv p2, iv p3, iv p4, iv p5, iv (0 : Int32)]) rfl ?_
  refine XS.iloadN X0.here hx rfl (hb hby d12_3) rfl ?_
  refine XS.iconst X0.here hx rfl (hb hby d12_4) ?_
  exact kg)
 rcases Decidable.em (p1 < (1 : Int32)) with hc2 | hc2
 ·
  obtain ⟨fs, hr, hrun, hended, hW, hsame⟩ := X0.leave (v := some (.int (0 : Int32))) (fun h => by rw [Bd.returns] at h; cases h)
  subst hS0
  refine ⟨_, _, pre1 _ ?_, hrun, hended, _, _, rfl, ?_, ⟨_, rfl⟩, hW, hsame.mono (by decide) (by decide)⟩
  ·
   refine XS.icmpYes X0.here hx rfl (pc0 := 5) (pc' := 18) rfl (hb hby d12_5) rfl (XT.ii_lt_t hc2) (by decide) (by decide) ?_
   refine XS.iloadN X0.here hx rfl (hb hby d12_18) rfl ?_
   refine XS.iconst X0.here hx rfl (hb hby d12_19) ?_
   show AT p e below s₁ m 20 #[iv p0, iv p1, iv p2, iv p3, iv p4, iv p5, iv (0 : Int32)] [(.int (2 : Int32)), (.int p1)] _
   refine XS.icmpYes X0.here hx rfl (pc0 := 20) (pc' := 33) rfl (hb hby d12_20) rfl (XT.ii_lt_t ((own_up hc2 (by decide)) : p1 < (2 : Int32))) (by decide) (by decide) ?_
   show AT p e below s₁ m 33 #[iv p0, iv p1, iv p2, iv p3, iv p4, iv p5, iv (0 : Int32)] [] _
   refine XS.iloadN X0.here hx rfl (hb hby d12_33) rfl ?_
   refine XS.iconst X0.here hx rfl (hb hby d12_34) ?_
   show AT p e below s₁ m 35 #[iv p0, iv p1, iv p2, iv p3, iv p4, iv p5, iv (0 : Int32)] [(.int (3 : Int32)), (.int p1)] _
   refine XS.icmpYes X0.here hx rfl (pc0 := 35) (pc' := 49) rfl (hb hby d12_35) rfl (XT.ii_lt_t ((own_up hc2 (by decide)) : p1 < (3 : Int32))) (by decide) (by decide) ?_
   refine XS.iloadN X0.here hx rfl (hb hby d12_49) rfl ?_
   refine XS.iconst X0.here hx rfl (hb hby d12_50) ?_
   show AT p e below s₁ m 51 #[iv p0, iv p1, iv p2, iv p3, iv p4, iv p5, iv (0 : Int32)] [(.int (4 : Int32)), (.int p1)] _
   refine XS.icmpYes X0.here hx rfl (pc0 := 51) (pc' := 65) rfl (hb hby d12_51) rfl (XT.ii_lt_t ((own_up hc2 (by decide)) : p1 < (4 : Int32))) (by decide) (by decide) ?_
   refine XS.iload X0.here hx rfl (hb hby d12_65) rfl ?_
   exact retOut X0 hx (t := .int) (i := .ireturn) Bd.returns rfl (Or.inl ⟨rfl, Or.inl rfl, _, rfl⟩) (hb hby d12_67) hr
  ·
   show Q12 Z p0 p1 p2 p3 p4 p5 h0 n0 _ s₁.heap _
   rw [e0]
   exact ⟨(by rw [f12, if_pos hc2]), N0, rfl⟩
 ·
  obtain ⟨_, _, ⟨T3, L3, k3, n3⟩, -, X3, ⟨Lc3, hQ3, l3, y3, z3⟩, st3⟩ := Jvm.LawKit.callS X0 hx (y := y2) hown (mvT hZ (ow hw 6 rfl)) (mvT hZ (ow hw 7 rfl)) (mvT hZ (ow hw 3 rfl)) (mvT hZ (ow hw 8 rfl)) (by decide) (backOf (W := 1) (rm2 l Z ar hw [] p2 p0 h0 n0 O0) hZ (ow hw 8 rfl) (ow hw 3 rfl) (by decide) (by decide)) (g := (mkF m 12 #[iv p0, iv p1, iv p2, iv p3, iv p4, iv p5, iv (0 : Int32)] [(.int p0), (.int p2), (.int (0 : Int32))])) rfl (by rw [hml]; rfl) (argsL := [(.int p2), (.int p0)]) (rest := [(.int (0 : Int32))]) (lenOf pd_0 rfl) rfl (by show 2 * 0 + _ ≤ _; exact Nat.le_of_eq rfl) (hb hby d12_12) (fun _ _ => ⟨rfl, e0, (by decide : 0 + 0 ≤ _), (by decide : 0 + 0 ≤ _)⟩)
  dsimp only [Pt.U, Pt.locs, Pt.cells, Pt.slots] at X3 l3 y3 z3 st3 hQ3
  subst l3 y3 z3
  obtain ⟨rfl, N3q, e3⟩ := hQ3
  have N3 := Fr.app N0 N3q
  have pre4 : ∀ tg, AT p e below T3 m 20 #[iv p0, iv p1, iv p2, iv p3, iv p4, iv p5, iv ((0 : Int32) + (f2 p2 p0))] [(.int (2 : Int32)), (.int p1)] tg → Steps p.tables e below S0 tg := fun tg kg => pre1 tg (by
   refine XS.icmpNo X0.here hx rfl (hb hby d12_5) rfl (XT.ii_lt_f hc2) ?_
   refine XS.iload X0.here hx rfl (hb hby d12_8) rfl ?_
   refine XS.iloadN X0.here hx rfl (hb hby d12_10) rfl ?_
   show AT p e below s₁ m 11 #[iv p0, iv p1, iv p2, iv p3, iv p4, iv p5, iv (0 : Int32)] [(.int p2), (.int (0 : Int32))] _
   refine XS.iloadN X0.here hx rfl (hb hby d12_11) rfl ?_
   refine st3 _ ?_
   refine XS.iadd X3.here hx rfl (hb hby d12_15) rfl ?_
   refine XS.istore X3.here hx rfl (hb hby d12_16) rfl (l' := #[iv p0, iv p1, iv p2, iv p3, iv p4, iv p5, iv ((0 : Int32) + (f2 p2 p0))]) rfl ?_
   refine XS.iloadN X3.here hx rfl (hb hby d12_18) rfl ?_
   refine XS.iconst X3.here hx rfl (hb hby d12_19) ?_
   exact kg)
  rcases Decidable.em (p1 < (2 : Int32)) with hc5 | hc5
  ·
   obtain ⟨fs, hr, hrun, hended, hW, hsame⟩ := X3.leave (v := some (.int ((0 : Int32) + (f2 p2 p0)))) (fun h => by rw [Bd.returns] at h; cases h)
   subst hS0
   refine ⟨_, _, pre4 _ ?_, hrun, hended, _, _, rfl, ?_, ⟨_, rfl⟩, hW, hsame.mono (by decide) (by decide)⟩
   ·
    refine XS.icmpYes X3.here hx rfl (pc0 := 20) (pc' := 33) rfl (hb hby d12_20) rfl (XT.ii_lt_t hc5) (by decide) (by decide) ?_
    show AT p e below T3 m 33 #[iv p0, iv p1, iv p2, iv p3, iv p4, iv p5, iv ((0 : Int32) + (f2 p2 p0))] [] _
    refine XS.iloadN X3.here hx rfl (hb hby d12_33) rfl ?_
    refine XS.iconst X3.here hx rfl (hb hby d12_34) ?_
    show AT p e below T3 m 35 #[iv p0, iv p1, iv p2, iv p3, iv p4, iv p5, iv ((0 : Int32) + (f2 p2 p0))] [(.int (3 : Int32)), (.int p1)] _
    refine XS.icmpYes X3.here hx rfl (pc0 := 35) (pc' := 49) rfl (hb hby d12_35) rfl (XT.ii_lt_t ((own_up hc5 (by decide)) : p1 < (3 : Int32))) (by decide) (by decide) ?_
    refine XS.iloadN X3.here hx rfl (hb hby d12_49) rfl ?_
    refine XS.iconst X3.here hx rfl (hb hby d12_50) ?_
    show AT p e below T3 m 51 #[iv p0, iv p1, iv p2, iv p3, iv p4, iv p5, iv ((0 : Int32) + (f2 p2 p0))] [(.int (4 : Int32)), (.int p1)] _
    refine XS.icmpYes X3.here hx rfl (pc0 := 51) (pc' := 65) rfl (hb hby d12_51) rfl (XT.ii_lt_t ((own_up hc5 (by decide)) : p1 < (4 : Int32))) (by decide) (by decide) ?_
    refine XS.iload X3.here hx rfl (hb hby d12_65) rfl ?_
    exact retOut X3 hx (t := .int) (i := .ireturn) Bd.returns rfl (Or.inl ⟨rfl, Or.inl rfl, _, rfl⟩) (hb hby d12_67) hr
   ·
    show Q12 Z p0 p1 p2 p3 p4 p5 h0 n0 _ T3.heap _
    rw [e3]
    exact ⟨(by rw [f12, if_neg hc2, if_pos hc5]), N3, rfl⟩
  ·
   obtain ⟨_, _, ⟨T6, L6, k6, n6⟩, -, X6, ⟨Lc6, hQ6, l6, y6, z6⟩, st6⟩ := Jvm.LawKit.callS X3 hx (y := y2) hown (mvT hZ (ow hw 6 rfl)) (mvT hZ (ow hw 7 rfl)) (mvT hZ (ow hw 3 rfl)) (mvT hZ (ow hw 8 rfl)) (by decide) (backOf (W := 1) (rm2 l Z ar hw [] p3 p0 h0 n0 O0) hZ (ow hw 8 rfl) (ow hw 3 rfl) (by decide) (by decide)) (g := (mkF m 27 #[iv p0, iv p1, iv p2, iv p3, iv p4, iv p5, iv ((0 : Int32) + (f2 p2 p0))] [(.int p0), (.int p3), (.int ((0 : Int32) + (f2 p2 p0)))])) rfl (by rw [hml]; rfl) (argsL := [(.int p3), (.int p0)]) (rest := [(.int ((0 : Int32) + (f2 p2 p0)))]) (lenOf pd_0 rfl) rfl (by show 2 * 0 + _ ≤ _; exact Nat.le_of_eq rfl) (hb hby d12_27) (fun _ _ => ⟨rfl, e3, (by decide : 0 + 0 ≤ _), (by decide : 0 + 0 ≤ _)⟩)
   dsimp only [Pt.U, Pt.locs, Pt.cells, Pt.slots] at X6 l6 y6 z6 st6 hQ6
   subst l6 y6 z6
   obtain ⟨rfl, N6q, e6⟩ := hQ6
   have N6 := Fr.app N3 N6q
   have pre7 : ∀ tg, AT p e below T6 m 35 #[iv p0, iv p1, iv p2, iv p3, iv p4, iv p5, iv (((0 : Int32) + (f2 p2 p0)) + (f2 p3 p0))] [(.int (3 : Int32)), (.int p1)] tg → Steps p.tables e below S0 tg := fun tg kg => pre4 tg (by
    refine XS.icmpNo X3.here hx rfl (hb hby d12_20) rfl (XT.ii_lt_f hc5) ?_
    show AT p e below T3 m 23 #[iv p0, iv p1, iv p2, iv p3, iv p4, iv p5, iv ((0 : Int32) + (f2 p2 p0))] [] _
    refine XS.iload X3.here hx rfl (hb hby d12_23) rfl ?_
    refine XS.iloadN X3.here hx rfl (hb hby d12_25) rfl ?_
    refine XS.iloadN X3.here hx rfl (hb hby d12_26) rfl ?_
    refine st6 _ ?_
    refine XS.iadd X6.here hx rfl (hb hby d12_30) rfl ?_
    refine XS.istore X6.here hx rfl (hb hby d12_31) rfl (l' := #[iv p0, iv p1, iv p2, iv p3, iv p4, iv p5, iv (((0 : Int32) + (f2 p2 p0)) + (f2 p3 p0))]) rfl ?_
    show AT p e below T6 m 33 #[iv p0, iv p1, iv p2, iv p3, iv p4, iv p5, iv (((0 : Int32) + (f2 p2 p0)) + (f2 p3 p0))] [] _
    refine XS.iloadN X6.here hx rfl (hb hby d12_33) rfl ?_
    refine XS.iconst X6.here hx rfl (hb hby d12_34) ?_
    exact kg)
   rcases Decidable.em (p1 < (3 : Int32)) with hc8 | hc8
   ·
    obtain ⟨fs, hr, hrun, hended, hW, hsame⟩ := X6.leave (v := some (.int (((0 : Int32) + (f2 p2 p0)) + (f2 p3 p0)))) (fun h => by rw [Bd.returns] at h; cases h)
    subst hS0
    refine ⟨_, _, pre7 _ ?_, hrun, hended, _, _, rfl, ?_, ⟨_, rfl⟩, hW, hsame.mono (by decide) (by decide)⟩
    ·
     refine XS.icmpYes X6.here hx rfl (pc0 := 35) (pc' := 49) rfl (hb hby d12_35) rfl (XT.ii_lt_t hc8) (by decide) (by decide) ?_
     refine XS.iloadN X6.here hx rfl (hb hby d12_49) rfl ?_
     refine XS.iconst X6.here hx rfl (hb hby d12_50) ?_
     show AT p e below T6 m 51 #[iv p0, iv p1, iv p2, iv p3, iv p4, iv p5, iv (((0 : Int32) + (f2 p2 p0)) + (f2 p3 p0))] [(.int (4 : Int32)), (.int p1)] _
     refine XS.icmpYes X6.here hx rfl (pc0 := 51) (pc' := 65) rfl (hb hby d12_51) rfl (XT.ii_lt_t ((own_up hc8 (by decide)) : p1 < (4 : Int32))) (by decide) (by decide) ?_
     refine XS.iload X6.here hx rfl (hb hby d12_65) rfl ?_
     exact retOut X6 hx (t := .int) (i := .ireturn) Bd.returns rfl (Or.inl ⟨rfl, Or.inl rfl, _, rfl⟩) (hb hby d12_67) hr
    ·
     show Q12 Z p0 p1 p2 p3 p4 p5 h0 n0 _ T6.heap _
     rw [e6]
     exact ⟨(by rw [f12, if_neg hc2, if_neg hc5, if_pos hc8]), N6, rfl⟩
   ·
    obtain ⟨_, _, ⟨T9, L9, k9, n9⟩, -, X9, ⟨Lc9, hQ9, l9, y9, z9⟩, st9⟩ := Jvm.LawKit.callS X6 hx (y := y2) hown (mvT hZ (ow hw 6 rfl)) (mvT hZ (ow hw 7 rfl)) (mvT hZ (ow hw 3 rfl)) (mvT hZ (ow hw 8 rfl)) (by decide) (backOf (W := 1) (rm2 l Z ar hw [] p4 p0 h0 n0 O0) hZ (ow hw 8 rfl) (ow hw 3 rfl) (by decide) (by decide)) (g := (mkF m 43 #[iv p0, iv p1, iv p2, iv p3, iv p4, iv p5, iv (((0 : Int32) + (f2 p2 p0)) + (f2 p3 p0))] [(.int p0), (.int p4), (.int (((0 : Int32) + (f2 p2 p0)) + (f2 p3 p0)))])) rfl (by rw [hml]; rfl) (argsL := [(.int p4), (.int p0)]) (rest := [(.int (((0 : Int32) + (f2 p2 p0)) + (f2 p3 p0)))]) (lenOf pd_0 rfl) rfl (by show 2 * 0 + _ ≤ _; exact Nat.le_of_eq rfl) (hb hby d12_43) (fun _ _ => ⟨rfl, e6, (by decide : 0 + 0 ≤ _), (by decide : 0 + 0 ≤ _)⟩)
    dsimp only [Pt.U, Pt.locs, Pt.cells, Pt.slots] at X9 l9 y9 z9 st9 hQ9
    subst l9 y9 z9
    obtain ⟨rfl, N9q, e9⟩ := hQ9
    have N9 := Fr.app N6 N9q
    have pre10 : ∀ tg, AT p e below T9 m 51 #[iv p0, iv p1, iv p2, iv p3, iv p4, iv p5, iv ((((0 : Int32) + (f2 p2 p0)) + (f2 p3 p0)) + (f2 p4 p0))] [(.int (4 : Int32)), (.int p1)] tg → Steps p.tables e below S0 tg := fun tg kg => pre7 tg (by
     refine XS.icmpNo X6.here hx rfl (hb hby d12_35) rfl (XT.ii_lt_f hc8) ?_
     refine XS.iload X6.here hx rfl (hb hby d12_38) rfl ?_
     refine XS.iload X6.here hx rfl (hb hby d12_40) rfl ?_
     refine XS.iloadN X6.here hx rfl (hb hby d12_42) rfl ?_
     refine st9 _ ?_
     show AT p e below T9 m 46 #[iv p0, iv p1, iv p2, iv p3, iv p4, iv p5, iv (((0 : Int32) + (f2 p2 p0)) + (f2 p3 p0))] [(.int (f2 p4 p0)), (.int (((0 : Int32) + (f2 p2 p0)) + (f2 p3 p0)))] _
     refine XS.iadd X9.here hx rfl (hb hby d12_46) rfl ?_
     refine XS.istore X9.here hx rfl (hb hby d12_47) rfl (l' := #[iv p0, iv p1, iv p2, iv p3, iv p4, iv p5, iv ((((0 : Int32) + (f2 p2 p0)) + (f2 p3 p0)) + (f2 p4 p0))]) rfl ?_
     refine XS.iloadN X9.here hx rfl (hb hby d12_49) rfl ?_
     refine XS.iconst X9.here hx rfl (hb hby d12_50) ?_
     exact kg)
    rcases Decidable.em (p1 < (4 : Int32)) with hc11 | hc11
    ·
     obtain ⟨fs, hr, hrun, hended, hW, hsame⟩ := X9.leave (v := some (.int ((((0 : Int32) + (f2 p2 p0)) + (f2 p3 p0)) + (f2 p4 p0)))) (fun h => by rw [Bd.returns] at h; cases h)
     subst hS0
     refine ⟨_, _, pre10 _ ?_, hrun, hended, _, _, rfl, ?_, ⟨_, rfl⟩, hW, hsame.mono (by decide) (by decide)⟩
     ·
      refine XS.icmpYes X9.here hx rfl (pc0 := 51) (pc' := 65) rfl (hb hby d12_51) rfl (XT.ii_lt_t hc11) (by decide) (by decide) ?_
      refine XS.iload X9.here hx rfl (hb hby d12_65) rfl ?_
      exact retOut X9 hx (t := .int) (i := .ireturn) Bd.returns rfl (Or.inl ⟨rfl, Or.inl rfl, _, rfl⟩) (hb hby d12_67) hr
     ·
      show Q12 Z p0 p1 p2 p3 p4 p5 h0 n0 _ T9.heap _
      rw [e9]
      exact ⟨(by rw [f12, if_neg hc2, if_neg hc5, if_neg hc8, if_pos hc11]), N9, rfl⟩
    ·
     obtain ⟨_, _, ⟨T12, L12, k12, n12⟩, -, X12, ⟨Lc12, hQ12, l12, y12, z12⟩, st12⟩ := Jvm.LawKit.callS X9 hx (y := y2) hown (mvT hZ (ow hw 6 rfl)) (mvT hZ (ow hw 7 rfl)) (mvT hZ (ow hw 3 rfl)) (mvT hZ (ow hw 8 rfl)) (by decide) (backOf (W := 1) (rm2 l Z ar hw [] p5 p0 h0 n0 O0) hZ (ow hw 8 rfl) (ow hw 3 rfl) (by decide) (by decide)) (g := (mkF m 59 #[iv p0, iv p1, iv p2, iv p3, iv p4, iv p5, iv ((((0 : Int32) + (f2 p2 p0)) + (f2 p3 p0)) + (f2 p4 p0))] [(.int p0), (.int p5), (.int ((((0 : Int32) + (f2 p2 p0)) + (f2 p3 p0)) + (f2 p4 p0)))])) rfl (by rw [hml]; rfl) (argsL := [(.int p5), (.int p0)]) (rest := [(.int ((((0 : Int32) + (f2 p2 p0)) + (f2 p3 p0)) + (f2 p4 p0)))]) (lenOf pd_0 rfl) rfl (by show 2 * 0 + _ ≤ _; exact Nat.le_of_eq rfl) (hb hby d12_59) (fun _ _ => ⟨rfl, e9, (by decide : 0 + 0 ≤ _), (by decide : 0 + 0 ≤ _)⟩)
     dsimp only [Pt.U, Pt.locs, Pt.cells, Pt.slots] at X12 l12 y12 z12 st12 hQ12
     subst l12 y12 z12
     obtain ⟨rfl, N12q, e12⟩ := hQ12
     have N12 := Fr.app N9 N12q
     obtain ⟨fs, hr, hrun, hended, hW, hsame⟩ := X12.leave (v := some (.int (((((0 : Int32) + (f2 p2 p0)) + (f2 p3 p0)) + (f2 p4 p0)) + (f2 p5 p0)))) (fun h => by rw [Bd.returns] at h; cases h)
     subst hS0
     refine ⟨_, _, pre10 _ ?_, hrun, hended, _, _, rfl, ?_, ⟨_, rfl⟩, hW, hsame.mono (by decide) (by decide)⟩
     ·
      refine XS.icmpNo X9.here hx rfl (hb hby d12_51) rfl (XT.ii_lt_f hc11) ?_
      refine XS.iload X9.here hx rfl (hb hby d12_54) rfl ?_
      refine XS.iload X9.here hx rfl (hb hby d12_56) rfl ?_
      show AT p e below T9 m 58 #[iv p0, iv p1, iv p2, iv p3, iv p4, iv p5, iv ((((0 : Int32) + (f2 p2 p0)) + (f2 p3 p0)) + (f2 p4 p0))] [(.int p5), (.int ((((0 : Int32) + (f2 p2 p0)) + (f2 p3 p0)) + (f2 p4 p0)))] _
      refine XS.iloadN X9.here hx rfl (hb hby d12_58) rfl ?_
      refine st12 _ ?_
      refine XS.iadd X12.here hx rfl (hb hby d12_62) rfl ?_
      refine XS.istore X12.here hx rfl (hb hby d12_63) rfl (l' := #[iv p0, iv p1, iv p2, iv p3, iv p4, iv p5, iv (((((0 : Int32) + (f2 p2 p0)) + (f2 p3 p0)) + (f2 p4 p0)) + (f2 p5 p0))]) rfl ?_
      refine XS.iload X12.here hx rfl (hb hby d12_65) rfl ?_
      exact retOut X12 hx (t := .int) (i := .ireturn) Bd.returns rfl (Or.inl ⟨rfl, Or.inl rfl, _, rfl⟩) (hb hby d12_67) hr
     ·
      show Q12 Z p0 p1 p2 p3 p4 p5 h0 n0 _ T12.heap _
      rw [e12]
      exact ⟨(by rw [f12, if_neg hc2, if_neg hc5, if_neg hc8, if_neg hc11]), N12, rfl⟩

theorem d10_0 : decode method_4_code 0 = .ok (.iconst 1, 1) := by decide +kernel
theorem d10_1 : decode method_4_code 1 = .ok (.istore 7, 2) := by decide +kernel
theorem d10_3 : decode method_4_code 3 = .ok (.iload_n 0, 1) := by decide +kernel
theorem d10_4 : decode method_4_code 4 = .ok (.iconst 1, 1) := by decide +kernel
theorem d10_5 : decode method_4_code 5 = .ok (.if_icmp .lt 22, 3) := by decide +kernel
theorem d10_8 : decode method_4_code 8 = .ok (.iconst 0, 1) := by decide +kernel
theorem d10_9 : decode method_4_code 9 = .ok (.iload_n 2, 1) := by decide +kernel
theorem d10_10 : decode method_4_code 10 = .ok (.iload_n 3, 1) := by decide +kernel
theorem d10_11 : decode method_4_code 11 = .ok (.iload 4, 2) := by decide +kernel
theorem d10_13 : decode method_4_code 13 = .ok (.iload 5, 2) := by decide +kernel
theorem d10_15 : decode method_4_code 15 = .ok (.iload 6, 2) := by decide +kernel
theorem d10_17 : decode method_4_code 17 = .ok (.invokestatic 13, 3) := by decide +kernel
theorem d10_20 : decode method_4_code 20 = .ok (.iload_n 1, 1) := by decide +kernel
theorem d10_21 : decode method_4_code 21 = .ok (.if_icmp .ge 6, 3) := by decide +kernel
theorem d10_24 : decode method_4_code 24 = .ok (.iconst 0, 1) := by decide +kernel
theorem d10_25 : decode method_4_code 25 = .ok (.istore 7, 2) := by decide +kernel
theorem d10_27 : decode method_4_code 27 = .ok (.iload_n 0, 1) := by decide +kernel
theorem d10_28 : decode method_4_code 28 = .ok (.iconst 2, 1) := by decide +kernel
theorem d10_29 : decode method_4_code 29 = .ok (.if_icmp .lt 22, 3) := by decide +kernel
theorem d10_32 : decode method_4_code 32 = .ok (.iconst 1, 1) := by decide +kernel
theorem d10_33 : decode method_4_code 33 = .ok (.iload_n 2, 1) := by decide +kernel
theorem d10_34 : decode method_4_code 34 = .ok (.iload_n 3, 1) := by decide +kernel
theorem d10_35 : decode method_4_code 35 = .ok (.iload 4, 2) := by decide +kernel
theorem d10_37 : decode method_4_code 37 = .ok (.iload 5, 2) := by decide +kernel
theorem d10_39 : decode method_4_code 39 = .ok (.iload 6, 2) := by decide +kernel
theorem d10_41 : decode method_4_code 41 = .ok (.invokestatic 13, 3) := by decide +kernel
theorem d10_44 : decode method_4_code 44 = .ok (.iload_n 1, 1) := by decide +kernel
theorem d10_45 : decode method_4_code 45 = .ok (.if_icmp .ge 6, 3) := by decide +kernel
theorem d10_48 : decode method_4_code 48 = .ok (.iconst 0, 1) := by decide +kernel
theorem d10_49 : decode method_4_code 49 = .ok (.istore 7, 2) := by decide +kernel
theorem d10_51 : decode method_4_code 51 = .ok (.iload_n 0, 1) := by decide +kernel
theorem d10_52 : decode method_4_code 52 = .ok (.iconst 3, 1) := by decide +kernel
theorem d10_53 : decode method_4_code 53 = .ok (.if_icmp .lt 22, 3) := by decide +kernel
theorem d10_56 : decode method_4_code 56 = .ok (.iconst 2, 1) := by decide +kernel
theorem d10_57 : decode method_4_code 57 = .ok (.iload_n 2, 1) := by decide +kernel
theorem d10_58 : decode method_4_code 58 = .ok (.iload_n 3, 1) := by decide +kernel
theorem d10_59 : decode method_4_code 59 = .ok (.iload 4, 2) := by decide +kernel
theorem d10_61 : decode method_4_code 61 = .ok (.iload 5, 2) := by decide +kernel
theorem d10_63 : decode method_4_code 63 = .ok (.iload 6, 2) := by decide +kernel
theorem d10_65 : decode method_4_code 65 = .ok (.invokestatic 13, 3) := by decide +kernel
theorem d10_68 : decode method_4_code 68 = .ok (.iload_n 1, 1) := by decide +kernel
theorem d10_69 : decode method_4_code 69 = .ok (.if_icmp .ge 6, 3) := by decide +kernel
theorem d10_72 : decode method_4_code 72 = .ok (.iconst 0, 1) := by decide +kernel
theorem d10_73 : decode method_4_code 73 = .ok (.istore 7, 2) := by decide +kernel
theorem d10_75 : decode method_4_code 75 = .ok (.iload 7, 2) := by decide +kernel
theorem d10_77 : decode method_4_code 77 = .ok (.ireturn, 1) := by decide +kernel
theorem ef_10 (m : MethodId) (p0 : Int32) (p1 : Int32) (p2 : Int32) (p3 : Int32) (p4 : Int32) (p5 : Int32) (p6 : Int32) : entryFrame m #[(.int p0), (.int p1), (.int p2), (.int p3), (.int p4), (.int p5), (.int p6)] 8 = mkF m 0 #[iv p0, iv p1, iv p2, iv p3, iv p4, iv p5, iv p6, un] [] := by first | (simp [entryFrame, mkF, argsToLocals, Value.category]; done) | rfl
def f10 (p0 : Int32) (p1 : Int32) (p2 : Int32) (p3 : Int32) (p4 : Int32) (p5 : Int32) (p6 : Int32) : Int32 := if p0 < (1 : Int32) then (1 : Int32) else (if (f12 (0 : Int32) p2 p3 p4 p5 p6) < p1 then (if p0 < (2 : Int32) then (0 : Int32) else (if (f12 (1 : Int32) p2 p3 p4 p5 p6) < p1 then (if p0 < (3 : Int32) then (0 : Int32) else (if (f12 (2 : Int32) p2 p3 p4 p5 p6) < p1 then (0 : Int32) else (0 : Int32))) else (if p0 < (3 : Int32) then (0 : Int32) else (if (f12 (2 : Int32) p2 p3 p4 p5 p6) < p1 then (0 : Int32) else (0 : Int32))))) else (if p0 < (2 : Int32) then (1 : Int32) else (if (f12 (1 : Int32) p2 p3 p4 p5 p6) < p1 then (if p0 < (3 : Int32) then (0 : Int32) else (if (f12 (2 : Int32) p2 p3 p4 p5 p6) < p1 then (0 : Int32) else (0 : Int32))) else (if p0 < (3 : Int32) then (1 : Int32) else (if (f12 (2 : Int32) p2 p3 p4 p5 p6) < p1 then (0 : Int32) else (1 : Int32))))))
def Q10 (Z : State) (p0 : Int32) (p1 : Int32) (p2 : Int32) (p3 : Int32) (p4 : Int32) (p5 : Int32) (p6 : Int32) (h0 : Heap) (n0 : Nat) (v : Option Value) (h : Heap) (L : List Loc) : Prop := v = some (.int (f10 p0 p1 p2 p3 p4 p5 p6)) ∧ Fr n0 L ∧ h = h0
set_option maxRecDepth 65536 in
set_option maxHeartbeats 40000000 in
theorem rm10 (l : Launch) (Z : State) (ar : Array Value) (hw : ∀ d ∈ tables_1, d.before ar Z = true) (ws : List Jvm.Cond) (p0 : Int32) (p1 : Int32) (p2 : Int32) (p3 : Int32) (p4 : Int32) (p5 : Int32) (p6 : Int32) (h0 : Heap) (n0 : Nat) (O0 : Old Z n0 h0) :
    MetFree l y10 (head1 (Jvm.Cond.code y10 method_4_code 8 (some .boolean) :: ws) ({ frames := 2, cells := 0, slots := 0, locals := 32 } : Room)) (fun a U => a = #[(.int p0), (.int p1), (.int p2), (.int p3), (.int p4), (.int p5), (.int p6)] ∧ Z.Warmed39 U.vm ∧ U.heap = h0) (fun _ _ _ _ _ => True) (fun _ U o U' => ∃ v L, o = .returned v ∧ Q10 Z p0 p1 p2 p3 p4 p5 p6 h0 n0 v U'.heap L ∧ FrameEnd U o U' L ({ frames := 2, cells := 0, slots := 0, locals := 32 } : Room).cells ({ frames := 2, cells := 0, slots := 0, locals := 32 } : Room).slots) := by
 refine MetFree.of_bodySF (plainFor_of_name pn_0) hisR ?_
 intro p e s m args below meth c s₁ Bd hml0 hP hK
 obtain ⟨rfl, hZ, hh⟩ := hP
 have hx := Bd.exec
 have hby := Bd.bytes
 have hml : c.maxLocals = 8 := hml0
 have hown : s.vm.findClass "com/example/filters_under_siege/filtersundersiege/CoverIsCompletePinLaw" = some m.cls := findClass_of_methodNamed Bd.named
 have hnm := (name_of_methodNamed Bd.named Bd.method).1
 have X0 : Stand p l e ({ frames := 2, cells := 0, slots := 0, locals := 32 } : Room) s m #[(.int p0), (.int p1), (.int p2), (.int p3), (.int p4), (.int p5), (.int p6)] below meth c s₁ [] 0 0 := Stand.of_body Bd
 have e0 : s₁.heap = h0 := by rw [← hh, Bd.state]; rfl
 have N0 := Fr.nil n0
 have Z0 : n0 ≤ h0.size := Nat.le_trans (Nat.le_of_eq O0.1.symm) O0.2.1
 obtain ⟨S0, hS0⟩ : ∃ z, z = s₁.setTop (entryFrame m #[(.int p0), (.int p1), (.int p2), (.int p3), (.int p4), (.int p5), (.int p6)] 8) := ⟨_, rfl⟩
 have pre0 : ∀ tg, AT p e below s₁ m 0 #[iv p0, iv p1, iv p2, iv p3, iv p4, iv p5, iv p6, un] [] tg → Steps p.tables e below S0 tg := fun tg kg => by rw [hS0]; exact castTop (ef_10 m p0 p1 p2 p3 p4 p5 p6) kg
 have pre1 : ∀ tg, AT p e below s₁ m 5 #[iv p0, iv p1, iv p2, iv p3, iv p4, iv p5, iv p6, iv (1 : Int32)] [(.int (1 : Int32)), (.int p0)] tg → Steps p.tables e below S0 tg := fun tg kg => pre0 tg (by
  refine XS.iconst X0.here hx rfl (hb hby d10_0) ?_
  refine XS.istore X0.here hx rfl (hb hby d10_1) rfl (l' := #[iv p0, iv p1, iv p2, iv p3, iv p4, iv p5, iv p6, iv (1 : Int32)]) rfl ?_
  refine XS.iloadN X0.here hx rfl (hb hby d10_3) rfl ?_
  refine XS.iconst X0.here hx rfl (hb hby d10_4) ?_
  exact kg)
 rcases Decidable.em (p0 < (1 : Int32)) with hc2 | hc2
 ·
  obtain ⟨fs, hr, hrun, hended, hW, hsame⟩ := X0.leave (v := some (.int (1 : Int32))) (fun h => by rw [Bd.returns] at h; cases h)
  subst hS0
  refine ⟨_, _, pre1 _ ?_, hrun, hended, _, _, rfl, ?_, ⟨_, rfl⟩, hW, hsame.mono (by decide) (by decide)⟩
  ·
   refine XS.icmpYes X0.here hx rfl (pc0 := 5) (pc' := 27) rfl (hb hby d10_5) rfl (XT.ii_lt_t hc2) (by decide) (by decide) ?_
   refine XS.iloadN X0.here hx rfl (hb hby d10_27) rfl ?_
   refine XS.iconst X0.here hx rfl (hb hby d10_28) ?_
   show AT p e below s₁ m 29 #[iv p0, iv p1, iv p2, iv p3, iv p4, iv p5, iv p6, iv (1 : Int32)] [(.int (2 : Int32)), (.int p0)] _
   refine XS.icmpYes X0.here hx rfl (pc0 := 29) (pc' := 51) rfl (hb hby d10_29) rfl (XT.ii_lt_t ((own_up hc2 (by decide)) : p0 < (2 : Int32))) (by decide) (by decide) ?_
   refine XS.iloadN X0.here hx rfl (hb hby d10_51) rfl ?_
   refine XS.iconst X0.here hx rfl (hb hby d10_52) ?_
   show AT p e below s₁ m 53 #[iv p0, iv p1, iv p2, iv p3, iv p4, iv p5, iv p6, iv (1 : Int32)] [(.int (3 : Int32)), (.int p0)] _
   refine XS.icmpYes X0.here hx rfl (pc0 := 53) (pc' := 75) rfl (hb hby d10_53) rfl (XT.ii_lt_t ((own_up hc2 (by decide)) : p0 < (3 : Int32))) (by decide) (by decide) ?_
   refine XS.iload X0.here hx rfl (hb hby d10_75) rfl ?_
   exact retN X0 hx (t := .boolean) Bd.returns (by simp) (hb hby d10_77) hr
  ·
   show Q10 Z p0 p1 p2 p3 p4 p5 p6 h0 n0 _ s₁.heap _
   rw [e0]
   exact ⟨(by rw [f10, if_pos hc2]), N0, rfl⟩
 ·
  obtain ⟨_, _, ⟨T3, L3, k3, n3⟩, -, X3, ⟨Lc3, hQ3, l3, y3, z3⟩, st3⟩ := Jvm.LawKit.callS X0 hx (y := y12) hown (mvT hZ (ow hw 67 rfl)) (mvT hZ (ow hw 68 rfl)) (mvT hZ (ow hw 3 rfl)) (mvT hZ (ow hw 69 rfl)) (by decide) (backOf (W := 0) (rm12 l Z ar hw [] (0 : Int32) p2 p3 p4 p5 p6 h0 n0 O0) hZ (ow hw 69 rfl) (ow hw 3 rfl) (by decide) (by decide)) (g := (mkF m 17 #[iv p0, iv p1, iv p2, iv p3, iv p4, iv p5, iv p6, iv (1 : Int32)] [(.int p6), (.int p5), (.int p4), (.int p3), (.int p2), (.int (0 : Int32))])) rfl (by rw [hml]; rfl) (argsL := [(.int (0 : Int32)), (.int p2), (.int p3), (.int p4), (.int p5), (.int p6)]) (rest := []) (lenOf pd_1 rfl) rfl (by show 2 * 0 + _ ≤ _; exact Nat.le_of_eq rfl) (hb hby d10_17) (fun _ _ => ⟨rfl, e0, (by decide : 0 + 0 ≤ _), (by decide : 0 + 0 ≤ _)⟩)
  dsimp only [Pt.U, Pt.locs, Pt.cells, Pt.slots] at X3 l3 y3 z3 st3 hQ3
  subst l3 y3 z3
  obtain ⟨rfl, N3q, e3⟩ := hQ3
  have N3 := Fr.app N0 N3q
  have pre4 : ∀ tg, AT p e below T3 m 21 #[iv p0, iv p1, iv p2, iv p3, iv p4, iv p5, iv p6, iv (1 : Int32)] [(.int p1), (.int (f12 (0 : Int32) p2 p3 p4 p5 p6))] tg → Steps p.tables e below S0 tg := fun tg kg => pre1 tg (by
   refine XS.icmpNo X0.here hx rfl (hb hby d10_5) rfl (XT.ii_lt_f hc2) ?_
   refine XS.iconst X0.here hx rfl (hb hby d10_8) ?_
   refine XS.iloadN X0.here hx rfl (hb hby d10_9) rfl ?_
   refine XS.iloadN X0.here hx rfl (hb hby d10_10) rfl ?_
   refine XS.iload X0.here hx rfl (hb hby d10_11) rfl ?_
   refine XS.iload X0.here hx rfl (hb hby d10_13) rfl ?_
   refine XS.iload X0.here hx rfl (hb hby d10_15) rfl ?_
   refine st3 _ ?_
   refine XS.iloadN X3.here hx rfl (hb hby d10_20) rfl ?_
   exact kg)
  rcases Decidable.em ((f12 (0 : Int32) p2 p3 p4 p5 p6) < p1) with hc5 | hc5
  ·
   have pre6 : ∀ tg, AT p e below T3 m 29 #[iv p0, iv p1, iv p2, iv p3, iv p4, iv p5, iv p6, iv (0 : Int32)] [(.int (2 : Int32)), (.int p0)] tg → Steps p.tables e below S0 tg := fun tg kg => pre4 tg (by
    refine XS.icmpNo X3.here hx rfl (hb hby d10_21) rfl (XT.ii_ge_f hc5) ?_
    show AT p e below T3 m 24 #[iv p0, iv p1, iv p2, iv p3, iv p4, iv p5, iv p6, iv (1 : Int32)] [] _
    refine XS.iconst X3.here hx rfl (hb hby d10_24) ?_
    refine XS.istore X3.here hx rfl (hb hby d10_25) rfl (l' := #[iv p0, iv p1, iv p2, iv p3, iv p4, iv p5, iv p6, iv (0 : Int32)]) rfl ?_
    refine XS.iloadN X3.here hx rfl (hb hby d10_27) rfl ?_
    refine XS.iconst X3.here hx rfl (hb hby d10_28) ?_
    exact kg)
   rcases Decidable.em (p0 < (2 : Int32)) with hc7 | hc7
   ·
    obtain ⟨fs, hr, hrun, hended, hW, hsame⟩ := X3.leave (v := some (.int (0 : Int32))) (fun h => by rw [Bd.returns] at h; cases h)
    subst hS0
    refine ⟨_, _, pre6 _ ?_, hrun, hended, _, _, rfl, ?_, ⟨_, rfl⟩, hW, hsame.mono (by decide) (by decide)⟩
    ·
     refine XS.icmpYes X3.here hx rfl (pc0 := 29) (pc' := 51) rfl (hb hby d10_29) rfl (XT.ii_lt_t hc7) (by decide) (by decide) ?_
     refine XS.iloadN X3.here hx rfl (hb hby d10_51) rfl ?_
     refine XS.iconst X3.here hx rfl (hb hby d10_52) ?_
     show AT p e below T3 m 53 #[iv p0, iv p1, iv p2, iv p3, iv p4, iv p5, iv p6, iv (0 : Int32)] [(.int (3 : Int32)), (.int p0)] _
     refine XS.icmpYes X3.here hx rfl (pc0 := 53) (pc' := 75) rfl (hb hby d10_53) rfl (XT.ii_lt_t ((own_up hc7 (by decide)) : p0 < (3 : Int32))) (by decide) (by decide) ?_
     refine XS.iload X3.here hx rfl (hb hby d10_75) rfl ?_
     exact retN X3 hx (t := .boolean) Bd.returns (by simp) (hb hby d10_77) hr
    ·
     show Q10 Z p0 p1 p2 p3 p4 p5 p6 h0 n0 _ T3.heap _
     rw [e3]
     exact ⟨(by rw [f10, if_neg hc2, if_pos hc5, if_pos hc7]), N3, rfl⟩
   ·
    obtain ⟨_, _, ⟨T8, L8, k8, n8⟩, -, X8, ⟨Lc8, hQ8, l8, y8, z8⟩, st8⟩ := Jvm.LawKit.callS X3 hx (y := y12) hown (mvT hZ (ow hw 67 rfl)) (mvT hZ (ow hw 68 rfl)) (mvT hZ (ow hw 3 rfl)) (mvT hZ (ow hw 69 rfl)) (by decide) (backOf (W := 0) (rm12 l Z ar hw [] (1 : Int32) p2 p3 p4 p5 p6 h0 n0 O0) hZ (ow hw 69 rfl) (ow hw 3 rfl) (by decide) (by decide)) (g := (mkF m 41 #[iv p0, iv p1, iv p2, iv p3, iv p4, iv p5, iv p6, iv (0 : Int32)] [(.int p6), (.int p5), (.int p4), (.int p3), (.int p2), (.int (1 : Int32))])) rfl (by rw [hml]; rfl) (argsL := [(.int (1 : Int32)), (.int p2), (.int p3), (.int p4), (.int p5), (.int p6)]) (rest := []) (lenOf pd_1 rfl) rfl (by show 2 * 0 + _ ≤ _; exact Nat.le_of_eq rfl) (hb hby d10_41) (fun _ _ => ⟨rfl, e3, (by decide : 0 + 0 ≤ _), (by decide : 0 + 0 ≤ _)⟩)
    dsimp only [Pt.U, Pt.locs, Pt.cells, Pt.slots] at X8 l8 y8 z8 st8 hQ8
    subst l8 y8 z8
    obtain ⟨rfl, N8q, e8⟩ := hQ8
    have N8 := Fr.app N3 N8q
    have pre9 : ∀ tg, AT p e below T8 m 45 #[iv p0, iv p1, iv p2, iv p3, iv p4, iv p5, iv p6, iv (0 : Int32)] [(.int p1), (.int (f12 (1 : Int32) p2 p3 p4 p5 p6))] tg → Steps p.tables e below S0 tg := fun tg kg => pre6 tg (by
     refine XS.icmpNo X3.here hx rfl (hb hby d10_29) rfl (XT.ii_lt_f hc7) ?_
     refine XS.iconst X3.here hx rfl (hb hby d10_32) ?_
     refine XS.iloadN X3.here hx rfl (hb hby d10_33) rfl ?_
     refine XS.iloadN X3.here hx rfl (hb hby d10_34) rfl ?_
     refine XS.iload X3.here hx rfl (hb hby d10_35) rfl ?_
     refine XS.iload X3.here hx rfl (hb hby d10_37) rfl ?_
     refine XS.iload X3.here hx rfl (hb hby d10_39) rfl ?_
     refine st8 _ ?_
     refine XS.iloadN X8.here hx rfl (hb hby d10_44) rfl ?_
     exact kg)
    rcases Decidable.em ((f12 (1 : Int32) p2 p3 p4 p5 p6) < p1) with hc10 | hc10
    ·
     have pre11 : ∀ tg, AT p e below T8 m 53 #[iv p0, iv p1, iv p2, iv p3, iv p4, iv p5, iv p6, iv (0 : Int32)] [(.int (3 : Int32)), (.int p0)] tg → Steps p.tables e below S0 tg := fun tg kg => pre9 tg (by
      refine XS.icmpNo X8.here hx rfl (hb hby d10_45) rfl (XT.ii_ge_f hc10) ?_
      show AT p e below T8 m 48 #[iv p0, iv p1, iv p2, iv p3, iv p4, iv p5, iv p6, iv (0 : Int32)] [] _
      refine XS.iconst X8.here hx rfl (hb hby d10_48) ?_
      refine XS.istore X8.here hx rfl (hb hby d10_49) rfl (l' := #[iv p0, iv p1, iv p2, iv p3, iv p4, iv p5, iv p6, iv (0 : Int32)]) rfl ?_
      refine XS.iloadN X8.here hx rfl (hb hby d10_51) rfl ?_
      refine XS.iconst X8.here hx rfl (hb hby d10_52) ?_
      exact kg)
     rcases Decidable.em (p0 < (3 : Int32)) with hc12 | hc12
     ·
      obtain ⟨fs, hr, hrun, hended, hW, hsame⟩ := X8.leave (v := some (.int (0 : Int32))) (fun h => by rw [Bd.returns] at h; cases h)
      subst hS0
      refine ⟨_, _, pre11 _ ?_, hrun, hended, _, _, rfl, ?_, ⟨_, rfl⟩, hW, hsame.mono (by decide) (by decide)⟩
      ·
       refine XS.icmpYes X8.here hx rfl (pc0 := 53) (pc' := 75) rfl (hb hby d10_53) rfl (XT.ii_lt_t hc12) (by decide) (by decide) ?_
       refine XS.iload X8.here hx rfl (hb hby d10_75) rfl ?_
       exact retN X8 hx (t := .boolean) Bd.returns (by simp) (hb hby d10_77) hr
      ·
       show Q10 Z p0 p1 p2 p3 p4 p5 p6 h0 n0 _ T8.heap _
       rw [e8]
       exact ⟨(by rw [f10, if_neg hc2, if_pos hc5, if_neg hc7, if_pos hc10, if_pos hc12]), N8, rfl⟩
     ·
      obtain ⟨_, _, ⟨T13, L13, k13, n13⟩, -, X13, ⟨Lc13, hQ13, l13, y13, z13⟩, st13⟩ := Jvm.LawKit.callS X8 hx (y := y12) hown (mvT hZ (ow hw 67 rfl)) (mvT hZ (ow hw 68 rfl)) (mvT hZ (ow hw 3 rfl)) (mvT hZ (ow hw 69 rfl)) (by decide) (backOf (W := 0) (rm12 l Z ar hw [] (2 : Int32) p2 p3 p4 p5 p6 h0 n0 O0) hZ (ow hw 69 rfl) (ow hw 3 rfl) (by decide) (by decide)) (g := (mkF m 65 #[iv p0, iv p1, iv p2, iv p3, iv p4, iv p5, iv p6, iv (0 : Int32)] [(.int p6), (.int p5), (.int p4), (.int p3), (.int p2), (.int (2 : Int32))])) rfl (by rw [hml]; rfl) (argsL := [(.int (2 : Int32)), (.int p2), (.int p3), (.int p4), (.int p5), (.int p6)]) (rest := []) (lenOf pd_1 rfl) rfl (by show 2 * 0 + _ ≤ _; exact Nat.le_of_eq rfl) (hb hby d10_65) (fun _ _ => ⟨rfl, e8, (by decide : 0 + 0 ≤ _), (by decide : 0 + 0 ≤ _)⟩)
      dsimp only [Pt.U, Pt.locs, Pt.cells, Pt.slots] at X13 l13 y13 z13 st13 hQ13
      subst l13 y13 z13
      obtain ⟨rfl, N13q, e13⟩ := hQ13
      have N13 := Fr.app N8 N13q
      have pre14 : ∀ tg, AT p e below T13 m 69 #[iv p0, iv p1, iv p2, iv p3, iv p4, iv p5, iv p6, iv (0 : Int32)] [(.int p1), (.int (f12 (2 : Int32) p2 p3 p4 p5 p6))] tg → Steps p.tables e below S0 tg := fun tg kg => pre11 tg (by
       refine XS.icmpNo X8.here hx rfl (hb hby d10_53) rfl (XT.ii_lt_f hc12) ?_
       refine XS.iconst X8.here hx rfl (hb hby d10_56) ?_
       refine XS.iloadN X8.here hx rfl (hb hby d10_57) rfl ?_
       refine XS.iloadN X8.here hx rfl (hb hby d10_58) rfl ?_
       refine XS.iload X8.here hx rfl (hb hby d10_59) rfl ?_
       refine XS.iload X8.here hx rfl (hb hby d10_61) rfl ?_
       refine XS.iload X8.here hx rfl (hb hby d10_63) rfl ?_
       refine st13 _ ?_
       refine XS.iloadN X13.here hx rfl (hb hby d10_68) rfl ?_
       exact kg)
      rcases Decidable.em ((f12 (2 : Int32) p2 p3 p4 p5 p6) < p1) with hc15 | hc15
      ·
       obtain ⟨fs, hr, hrun, hended, hW, hsame⟩ := X13.leave (v := some (.int (0 : Int32))) (fun h => by rw [Bd.returns] at h; cases h)
       subst hS0
       refine ⟨_, _, pre14 _ ?_, hrun, hended, _, _, rfl, ?_, ⟨_, rfl⟩, hW, hsame.mono (by decide) (by decide)⟩
       ·
        refine XS.icmpNo X13.here hx rfl (hb hby d10_69) rfl (XT.ii_ge_f hc15) ?_
        show AT p e below T13 m 72 #[iv p0, iv p1, iv p2, iv p3, iv p4, iv p5, iv p6, iv (0 : Int32)] [] _
        refine XS.iconst X13.here hx rfl (hb hby d10_72) ?_
        refine XS.istore X13.here hx rfl (hb hby d10_73) rfl (l' := #[iv p0, iv p1, iv p2, iv p3, iv p4, iv p5, iv p6, iv (0 : Int32)]) rfl ?_
        refine XS.iload X13.here hx rfl (hb hby d10_75) rfl ?_
        exact retN X13 hx (t := .boolean) Bd.returns (by simp) (hb hby d10_77) hr
       ·
        show Q10 Z p0 p1 p2 p3 p4 p5 p6 h0 n0 _ T13.heap _
        rw [e13]
        exact ⟨(by rw [f10, if_neg hc2, if_pos hc5, if_neg hc7, if_pos hc10, if_neg hc12, if_pos hc15]), N13, rfl⟩
      ·
       obtain ⟨fs, hr, hrun, hended, hW, hsame⟩ := X13.leave (v := some (.int (0 : Int32))) (fun h => by rw [Bd.returns] at h; cases h)
       subst hS0
       refine ⟨_, _, pre14 _ ?_, hrun, hended, _, _, rfl, ?_, ⟨_, rfl⟩, hW, hsame.mono (by decide) (by decide)⟩
       ·
        refine XS.icmpYes X13.here hx rfl (pc0 := 69) (pc' := 75) rfl (hb hby d10_69) rfl (XT.ii_ge_t hc15) (by decide) (by decide) ?_
        show AT p e below T13 m 75 #[iv p0, iv p1, iv p2, iv p3, iv p4, iv p5, iv p6, iv (0 : Int32)] [] _
        refine XS.iload X13.here hx rfl (hb hby d10_75) rfl ?_
        exact retN X13 hx (t := .boolean) Bd.returns (by simp) (hb hby d10_77) hr
       ·
        show Q10 Z p0 p1 p2 p3 p4 p5 p6 h0 n0 _ T13.heap _
        rw [e13]
        exact ⟨(by rw [f10, if_neg hc2, if_pos hc5, if_neg hc7, if_pos hc10, if_neg hc12, if_neg hc15]), N13, rfl⟩
    ·
     have pre16 : ∀ tg, AT p e below T8 m 53 #[iv p0, iv p1, iv p2, iv p3, iv p4, iv p5, iv p6, iv (0 : Int32)] [(.int (3 : Int32)), (.int p0)] tg → Steps p.tables e below S0 tg := fun tg kg => pre9 tg (by
      refine XS.icmpYes X8.here hx rfl (pc0 := 45) (pc' := 51) rfl (hb hby d10_45) rfl (XT.ii_ge_t hc10) (by decide) (by decide) ?_
      show AT p e below T8 m 51 #[iv p0, iv p1, iv p2, iv p3, iv p4, iv p5, iv p6, iv (0 : Int32)] [] _
      refine XS.iloadN X8.here hx rfl (hb hby d10_51) rfl ?_
      refine XS.iconst X8.here hx rfl (hb hby d10_52) ?_
      exact kg)
     rcases Decidable.em (p0 < (3 : Int32)) with hc17 | hc17
     ·
      obtain ⟨fs, hr, hrun, hended, hW, hsame⟩ := X8.leave (v := some (.int (0 : Int32))) (fun h => by rw [Bd.returns] at h; cases h)
      subst hS0
      refine ⟨_, _, pre16 _ ?_, hrun, hended, _, _, rfl, ?_, ⟨_, rfl⟩, hW, hsame.mono (by decide) (by decide)⟩
      ·
       refine XS.icmpYes X8.here hx rfl (pc0 := 53) (pc' := 75) rfl (hb hby d10_53) rfl (XT.ii_lt_t hc17) (by decide) (by decide) ?_
       refine XS.iload X8.here hx rfl (hb hby d10_75) rfl ?_
       exact retN X8 hx (t := .boolean) Bd.returns (by simp) (hb hby d10_77) hr
      ·
       show Q10 Z p0 p1 p2 p3 p4 p5 p6 h0 n0 _ T8.heap _
       rw [e8]
       exact ⟨(by rw [f10, if_neg hc2, if_pos hc5, if_neg hc7, if_neg hc10, if_pos hc17]), N8, rfl⟩
     ·
      obtain ⟨_, _, ⟨T18, L18, k18, n18⟩, -, X18, ⟨Lc18, hQ18, l18, y18, z18⟩, st18⟩ := Jvm.LawKit.callS X8 hx (y := y12) hown (mvT hZ (ow hw 67 rfl)) (mvT hZ (ow hw 68 rfl)) (mvT hZ (ow hw 3 rfl)) (mvT hZ (ow hw 69 rfl)) (by decide) (backOf (W := 0) (rm12 l Z ar hw [] (2 : Int32) p2 p3 p4 p5 p6 h0 n0 O0) hZ (ow hw 69 rfl) (ow hw 3 rfl) (by decide) (by decide)) (g := (mkF m 65 #[iv p0, iv p1, iv p2, iv p3, iv p4, iv p5, iv p6, iv (0 : Int32)] [(.int p6), (.int p5), (.int p4), (.int p3), (.int p2), (.int (2 : Int32))])) rfl (by rw [hml]; rfl) (argsL := [(.int (2 : Int32)), (.int p2), (.int p3), (.int p4), (.int p5), (.int p6)]) (rest := []) (lenOf pd_1 rfl) rfl (by show 2 * 0 + _ ≤ _; exact Nat.le_of_eq rfl) (hb hby d10_65) (fun _ _ => ⟨rfl, e8, (by decide : 0 + 0 ≤ _), (by decide : 0 + 0 ≤ _)⟩)
      dsimp only [Pt.U, Pt.locs, Pt.cells, Pt.slots] at X18 l18 y18 z18 st18 hQ18
      subst l18 y18 z18
      obtain ⟨rfl, N18q, e18⟩ := hQ18
      have N18 := Fr.app N8 N18q
      have pre19 : ∀ tg, AT p e below T18 m 69 #[iv p0, iv p1, iv p2, iv p3, iv p4, iv p5, iv p6, iv (0 : Int32)] [(.int p1), (.int (f12 (2 : Int32) p2 p3 p4 p5 p6))] tg → Steps p.tables e below S0 tg := fun tg kg => pre16 tg (by
       refine XS.icmpNo X8.here hx rfl (hb hby d10_53) rfl (XT.ii_lt_f hc17) ?_
       refine XS.iconst X8.here hx rfl (hb hby d10_56) ?_
       refine XS.iloadN X8.here hx rfl (hb hby d10_57) rfl ?_
       refine XS.iloadN X8.here hx rfl (hb hby d10_58) rfl ?_
       refine XS.iload X8.here hx rfl (hb hby d10_59) rfl ?_
       refine XS.iload X8.here hx rfl (hb hby d10_61) rfl ?_
       refine XS.iload X8.here hx rfl (hb hby d10_63) rfl ?_
       refine st18 _ ?_
       refine XS.iloadN X18.here hx rfl (hb hby d10_68) rfl ?_
       exact kg)
      rcases Decidable.em ((f12 (2 : Int32) p2 p3 p4 p5 p6) < p1) with hc20 | hc20
      ·
       obtain ⟨fs, hr, hrun, hended, hW, hsame⟩ := X18.leave (v := some (.int (0 : Int32))) (fun h => by rw [Bd.returns] at h; cases h)
       subst hS0
       refine ⟨_, _, pre19 _ ?_, hrun, hended, _, _, rfl, ?_, ⟨_, rfl⟩, hW, hsame.mono (by decide) (by decide)⟩
       ·
        refine XS.icmpNo X18.here hx rfl (hb hby d10_69) rfl (XT.ii_ge_f hc20) ?_
        refine XS.iconst X18.here hx rfl (hb hby d10_72) ?_
        refine XS.istore X18.here hx rfl (hb hby d10_73) rfl (l' := #[iv p0, iv p1, iv p2, iv p3, iv p4, iv p5, iv p6, iv (0 : Int32)]) rfl ?_
        show AT p e below T18 m 75 #[iv p0, iv p1, iv p2, iv p3, iv p4, iv p5, iv p6, iv (0 : Int32)] [] _
        refine XS.iload X18.here hx rfl (hb hby d10_75) rfl ?_
        exact retN X18 hx (t := .boolean) Bd.returns (by simp) (hb hby d10_77) hr
       ·
        show Q10 Z p0 p1 p2 p3 p4 p5 p6 h0 n0 _ T18.heap _
        rw [e18]
        exact ⟨(by rw [f10, if_neg hc2, if_pos hc5, if_neg hc7, if_neg hc10, if_neg hc17, if_pos hc20]), N18, rfl⟩
      ·
       obtain ⟨fs, hr, hrun, hended, hW, hsame⟩ := X18.leave (v := some (.int (0 : Int32))) (fun h => by rw [Bd.returns] at h; cases h)
       subst hS0
       refine ⟨_, _, pre19 _ ?_, hrun, hended, _, _, rfl, ?_, ⟨_, rfl⟩, hW, hsame.mono (by decide) (by decide)⟩
       ·
        refine XS.icmpYes X18.here hx rfl (pc0 := 69) (pc' := 75) rfl (hb hby d10_69) rfl (XT.ii_ge_t hc20) (by decide) (by decide) ?_
        refine XS.iload X18.here hx rfl (hb hby d10_75) rfl ?_
        exact retN X18 hx (t := .boolean) Bd.returns (by simp) (hb hby d10_77) hr
       ·
        show Q10 Z p0 p1 p2 p3 p4 p5 p6 h0 n0 _ T18.heap _
        rw [e18]
        exact ⟨(by rw [f10, if_neg hc2, if_pos hc5, if_neg hc7, if_neg hc10, if_neg hc17, if_neg hc20]), N18, rfl⟩
  ·
   have pre21 : ∀ tg, AT p e below T3 m 29 #[iv p0, iv p1, iv p2, iv p3, iv p4, iv p5, iv p6, iv (1 : Int32)] [(.int (2 : Int32)), (.int p0)] tg → Steps p.tables e below S0 tg := fun tg kg => pre4 tg (by
    refine XS.icmpYes X3.here hx rfl (pc0 := 21) (pc' := 27) rfl (hb hby d10_21) rfl (XT.ii_ge_t hc5) (by decide) (by decide) ?_
    show AT p e below T3 m 27 #[iv p0, iv p1, iv p2, iv p3, iv p4, iv p5, iv p6, iv (1 : Int32)] [] _
    refine XS.iloadN X3.here hx rfl (hb hby d10_27) rfl ?_
    refine XS.iconst X3.here hx rfl (hb hby d10_28) ?_
    exact kg)
   rcases Decidable.em (p0 < (2 : Int32)) with hc22 | hc22
   ·
    obtain ⟨fs, hr, hrun, hended, hW, hsame⟩ := X3.leave (v := some (.int (1 : Int32))) (fun h => by rw [Bd.returns] at h; cases h)
    subst hS0
    refine ⟨_, _, pre21 _ ?_, hrun, hended, _, _, rfl, ?_, ⟨_, rfl⟩, hW, hsame.mono (by decide) (by decide)⟩
    ·
     refine XS.icmpYes X3.here hx rfl (pc0 := 29) (pc' := 51) rfl (hb hby d10_29) rfl (XT.ii_lt_t hc22) (by decide) (by decide) ?_
     refine XS.iloadN X3.here hx rfl (hb hby d10_51) rfl ?_
     refine XS.iconst X3.here hx rfl (hb hby d10_52) ?_
     show AT p e below T3 m 53 #[iv p0, iv p1, iv p2, iv p3, iv p4, iv p5, iv p6, iv (1 : Int32)] [(.int (3 : Int32)), (.int p0)] _
     refine XS.icmpYes X3.here hx rfl (pc0 := 53) (pc' := 75) rfl (hb hby d10_53) rfl (XT.ii_lt_t ((own_up hc22 (by decide)) : p0 < (3 : Int32))) (by decide) (by decide) ?_
     refine XS.iload X3.here hx rfl (hb hby d10_75) rfl ?_
     exact retN X3 hx (t := .boolean) Bd.returns (by simp) (hb hby d10_77) hr
    ·
     show Q10 Z p0 p1 p2 p3 p4 p5 p6 h0 n0 _ T3.heap _
     rw [e3]
     exact ⟨(by rw [f10, if_neg hc2, if_neg hc5, if_pos hc22]), N3, rfl⟩
   ·
    obtain ⟨_, _, ⟨T23, L23, k23, n23⟩, -, X23, ⟨Lc23, hQ23, l23, y23, z23⟩, st23⟩ := Jvm.LawKit.callS X3 hx (y := y12) hown (mvT hZ (ow hw 67 rfl)) (mvT hZ (ow hw 68 rfl)) (mvT hZ (ow hw 3 rfl)) (mvT hZ (ow hw 69 rfl)) (by decide) (backOf (W := 0) (rm12 l Z ar hw [] (1 : Int32) p2 p3 p4 p5 p6 h0 n0 O0) hZ (ow hw 69 rfl) (ow hw 3 rfl) (by decide) (by decide)) (g := (mkF m 41 #[iv p0, iv p1, iv p2, iv p3, iv p4, iv p5, iv p6, iv (1 : Int32)] [(.int p6), (.int p5), (.int p4), (.int p3), (.int p2), (.int (1 : Int32))])) rfl (by rw [hml]; rfl) (argsL := [(.int (1 : Int32)), (.int p2), (.int p3), (.int p4), (.int p5), (.int p6)]) (rest := []) (lenOf pd_1 rfl) rfl (by show 2 * 0 + _ ≤ _; exact Nat.le_of_eq rfl) (hb hby d10_41) (fun _ _ => ⟨rfl, e3, (by decide : 0 + 0 ≤ _), (by decide : 0 + 0 ≤ _)⟩)
    dsimp only [Pt.U, Pt.locs, Pt.cells, Pt.slots] at X23 l23 y23 z23 st23 hQ23
    subst l23 y23 z23
    obtain ⟨rfl, N23q, e23⟩ := hQ23
    have N23 := Fr.app N3 N23q
    have pre24 : ∀ tg, AT p e below T23 m 45 #[iv p0, iv p1, iv p2, iv p3, iv p4, iv p5, iv p6, iv (1 : Int32)] [(.int p1), (.int (f12 (1 : Int32) p2 p3 p4 p5 p6))] tg → Steps p.tables e below S0 tg := fun tg kg => pre21 tg (by
     refine XS.icmpNo X3.here hx rfl (hb hby d10_29) rfl (XT.ii_lt_f hc22) ?_
     refine XS.iconst X3.here hx rfl (hb hby d10_32) ?_
     refine XS.iloadN X3.here hx rfl (hb hby d10_33) rfl ?_
     refine XS.iloadN X3.here hx rfl (hb hby d10_34) rfl ?_
     refine XS.iload X3.here hx rfl (hb hby d10_35) rfl ?_
     refine XS.iload X3.here hx rfl (hb hby d10_37) rfl ?_
     refine XS.iload X3.here hx rfl (hb hby d10_39) rfl ?_
     refine st23 _ ?_
     refine XS.iloadN X23.here hx rfl (hb hby d10_44) rfl ?_
     exact kg)
    rcases Decidable.em ((f12 (1 : Int32) p2 p3 p4 p5 p6) < p1) with hc25 | hc25
    ·
     have pre26 : ∀ tg, AT p e below T23 m 53 #[iv p0, iv p1, iv p2, iv p3, iv p4, iv p5, iv p6, iv (0 : Int32)] [(.int (3 : Int32)), (.int p0)] tg → Steps p.tables e below S0 tg := fun tg kg => pre24 tg (by
      refine XS.icmpNo X23.here hx rfl (hb hby d10_45) rfl (XT.ii_ge_f hc25) ?_
      refine XS.iconst X23.here hx rfl (hb hby d10_48) ?_
      refine XS.istore X23.here hx rfl (hb hby d10_49) rfl (l' := #[iv p0, iv p1, iv p2, iv p3, iv p4, iv p5, iv p6, iv (0 : Int32)]) rfl ?_
      show AT p e below T23 m 51 #[iv p0, iv p1, iv p2, iv p3, iv p4, iv p5, iv p6, iv (0 : Int32)] [] _
      refine XS.iloadN X23.here hx rfl (hb hby d10_51) rfl ?_
      refine XS.iconst X23.here hx rfl (hb hby d10_52) ?_
      exact kg)
     rcases Decidable.em (p0 < (3 : Int32)) with hc27 | hc27
     ·
      obtain ⟨fs, hr, hrun, hended, hW, hsame⟩ := X23.leave (v := some (.int (0 : Int32))) (fun h => by rw [Bd.returns] at h; cases h)
      subst hS0
      refine ⟨_, _, pre26 _ ?_, hrun, hended, _, _, rfl, ?_, ⟨_, rfl⟩, hW, hsame.mono (by decide) (by decide)⟩
      ·
       refine XS.icmpYes X23.here hx rfl (pc0 := 53) (pc' := 75) rfl (hb hby d10_53) rfl (XT.ii_lt_t hc27) (by decide) (by decide) ?_
       refine XS.iload X23.here hx rfl (hb hby d10_75) rfl ?_
       exact retN X23 hx (t := .boolean) Bd.returns (by simp) (hb hby d10_77) hr
      ·
       show Q10 Z p0 p1 p2 p3 p4 p5 p6 h0 n0 _ T23.heap _
       rw [e23]
       exact ⟨(by rw [f10, if_neg hc2, if_neg hc5, if_neg hc22, if_pos hc25, if_pos hc27]), N23, rfl⟩
     ·
      obtain ⟨_, _, ⟨T28, L28, k28, n28⟩, -, X28, ⟨Lc28, hQ28, l28, y28, z28⟩, st28⟩ := Jvm.LawKit.callS X23 hx (y := y12) hown (mvT hZ (ow hw 67 rfl)) (mvT hZ (ow hw 68 rfl)) (mvT hZ (ow hw 3 rfl)) (mvT hZ (ow hw 69 rfl)) (by decide) (backOf (W := 0) (rm12 l Z ar hw [] (2 : Int32) p2 p3 p4 p5 p6 h0 n0 O0) hZ (ow hw 69 rfl) (ow hw 3 rfl) (by decide) (by decide)) (g := (mkF m 65 #[iv p0, iv p1, iv p2, iv p3, iv p4, iv p5, iv p6, iv (0 : Int32)] [(.int p6), (.int p5), (.int p4), (.int p3), (.int p2), (.int (2 : Int32))])) rfl (by rw [hml]; rfl) (argsL := [(.int (2 : Int32)), (.int p2), (.int p3), (.int p4), (.int p5), (.int p6)]) (rest := []) (lenOf pd_1 rfl) rfl (by show 2 * 0 + _ ≤ _; exact Nat.le_of_eq rfl) (hb hby d10_65) (fun _ _ => ⟨rfl, e23, (by decide : 0 + 0 ≤ _), (by decide : 0 + 0 ≤ _)⟩)
      dsimp only [Pt.U, Pt.locs, Pt.cells, Pt.slots] at X28 l28 y28 z28 st28 hQ28
      subst l28 y28 z28
      obtain ⟨rfl, N28q, e28⟩ := hQ28
      have N28 := Fr.app N23 N28q
      have pre29 : ∀ tg, AT p e below T28 m 69 #[iv p0, iv p1, iv p2, iv p3, iv p4, iv p5, iv p6, iv (0 : Int32)] [(.int p1), (.int (f12 (2 : Int32) p2 p3 p4 p5 p6))] tg → Steps p.tables e below S0 tg := fun tg kg => pre26 tg (by
       refine XS.icmpNo X23.here hx rfl (hb hby d10_53) rfl (XT.ii_lt_f hc27) ?_
       refine XS.iconst X23.here hx rfl (hb hby d10_56) ?_
       refine XS.iloadN X23.here hx rfl (hb hby d10_57) rfl ?_
       refine XS.iloadN X23.here hx rfl (hb hby d10_58) rfl ?_
       refine XS.iload X23.here hx rfl (hb hby d10_59) rfl ?_
       refine XS.iload X23.here hx rfl (hb hby d10_61) rfl ?_
       refine XS.iload X23.here hx rfl (hb hby d10_63) rfl ?_
       refine st28 _ ?_
       refine XS.iloadN X28.here hx rfl (hb hby d10_68) rfl ?_
       exact kg)
      rcases Decidable.em ((f12 (2 : Int32) p2 p3 p4 p5 p6) < p1) with hc30 | hc30
      ·
       obtain ⟨fs, hr, hrun, hended, hW, hsame⟩ := X28.leave (v := some (.int (0 : Int32))) (fun h => by rw [Bd.returns] at h; cases h)
       subst hS0
       refine ⟨_, _, pre29 _ ?_, hrun, hended, _, _, rfl, ?_, ⟨_, rfl⟩, hW, hsame.mono (by decide) (by decide)⟩
       ·
        refine XS.icmpNo X28.here hx rfl (hb hby d10_69) rfl (XT.ii_ge_f hc30) ?_
        refine XS.iconst X28.here hx rfl (hb hby d10_72) ?_
        refine XS.istore X28.here hx rfl (hb hby d10_73) rfl (l' := #[iv p0, iv p1, iv p2, iv p3, iv p4, iv p5, iv p6, iv (0 : Int32)]) rfl ?_
        show AT p e below T28 m 75 #[iv p0, iv p1, iv p2, iv p3, iv p4, iv p5, iv p6, iv (0 : Int32)] [] _
        refine XS.iload X28.here hx rfl (hb hby d10_75) rfl ?_
        exact retN X28 hx (t := .boolean) Bd.returns (by simp) (hb hby d10_77) hr
       ·
        show Q10 Z p0 p1 p2 p3 p4 p5 p6 h0 n0 _ T28.heap _
        rw [e28]
        exact ⟨(by rw [f10, if_neg hc2, if_neg hc5, if_neg hc22, if_pos hc25, if_neg hc27, if_pos hc30]), N28, rfl⟩
      ·
       obtain ⟨fs, hr, hrun, hended, hW, hsame⟩ := X28.leave (v := some (.int (0 : Int32))) (fun h => by rw [Bd.returns] at h; cases h)
       subst hS0
       refine ⟨_, _, pre29 _ ?_, hrun, hended, _, _, rfl, ?_, ⟨_, rfl⟩, hW, hsame.mono (by decide) (by decide)⟩
       ·
        refine XS.icmpYes X28.here hx rfl (pc0 := 69) (pc' := 75) rfl (hb hby d10_69) rfl (XT.ii_ge_t hc30) (by decide) (by decide) ?_
        refine XS.iload X28.here hx rfl (hb hby d10_75) rfl ?_
        exact retN X28 hx (t := .boolean) Bd.returns (by simp) (hb hby d10_77) hr
       ·
        show Q10 Z p0 p1 p2 p3 p4 p5 p6 h0 n0 _ T28.heap _
        rw [e28]
        exact ⟨(by rw [f10, if_neg hc2, if_neg hc5, if_neg hc22, if_pos hc25, if_neg hc27, if_neg hc30]), N28, rfl⟩
    ·
     have pre31 : ∀ tg, AT p e below T23 m 53 #[iv p0, iv p1, iv p2, iv p3, iv p4, iv p5, iv p6, iv (1 : Int32)] [(.int (3 : Int32)), (.int p0)] tg → Steps p.tables e below S0 tg := fun tg kg => pre24 tg (by
      refine XS.icmpYes X23.here hx rfl (pc0 := 45) (pc' := 51) rfl (hb hby d10_45) rfl (XT.ii_ge_t hc25) (by decide) (by decide) ?_
      refine XS.iloadN X23.here hx rfl (hb hby d10_51) rfl ?_
      refine XS.iconst X23.here hx rfl (hb hby d10_52) ?_
      exact kg)
     rcases Decidable.em (p0 < (3 : Int32)) with hc32 | hc32
     ·
      obtain ⟨fs, hr, hrun, hended, hW, hsame⟩ := X23.leave (v := some (.int (1 : Int32))) (fun h => by rw [Bd.returns] at h; cases h)
      subst hS0
      refine ⟨_, _, pre31 _ ?_, hrun, hended, _, _, rfl, ?_, ⟨_, rfl⟩, hW, hsame.mono (by decide) (by decide)⟩
      ·
       refine XS.icmpYes X23.here hx rfl (pc0 := 53) (pc' := 75) rfl (hb hby d10_53) rfl (XT.ii_lt_t hc32) (by decide) (by decide) ?_
       show AT p e below T23 m 75 #[iv p0, iv p1, iv p2, iv p3, iv p4, iv p5, iv p6, iv (1 : Int32)] [] _
       refine XS.iload X23.here hx rfl (hb hby d10_75) rfl ?_
       exact retN X23 hx (t := .boolean) Bd.returns (by simp) (hb hby d10_77) hr
      ·
       show Q10 Z p0 p1 p2 p3 p4 p5 p6 h0 n0 _ T23.heap _
       rw [e23]
       exact ⟨(by rw [f10, if_neg hc2, if_neg hc5, if_neg hc22, if_neg hc25, if_pos hc32]), N23, rfl⟩
     ·
      obtain ⟨_, _, ⟨T33, L33, k33, n33⟩, -, X33, ⟨Lc33, hQ33, l33, y33, z33⟩, st33⟩ := Jvm.LawKit.callS X23 hx (y := y12) hown (mvT hZ (ow hw 67 rfl)) (mvT hZ (ow hw 68 rfl)) (mvT hZ (ow hw 3 rfl)) (mvT hZ (ow hw 69 rfl)) (by decide) (backOf (W := 0) (rm12 l Z ar hw [] (2 : Int32) p2 p3 p4 p5 p6 h0 n0 O0) hZ (ow hw 69 rfl) (ow hw 3 rfl) (by decide) (by decide)) (g := (mkF m 65 #[iv p0, iv p1, iv p2, iv p3, iv p4, iv p5, iv p6, iv (1 : Int32)] [(.int p6), (.int p5), (.int p4), (.int p3), (.int p2), (.int (2 : Int32))])) rfl (by rw [hml]; rfl) (argsL := [(.int (2 : Int32)), (.int p2), (.int p3), (.int p4), (.int p5), (.int p6)]) (rest := []) (lenOf pd_1 rfl) rfl (by show 2 * 0 + _ ≤ _; exact Nat.le_of_eq rfl) (hb hby d10_65) (fun _ _ => ⟨rfl, e23, (by decide : 0 + 0 ≤ _), (by decide : 0 + 0 ≤ _)⟩)
      dsimp only [Pt.U, Pt.locs, Pt.cells, Pt.slots] at X33 l33 y33 z33 st33 hQ33
      subst l33 y33 z33
      obtain ⟨rfl, N33q, e33⟩ := hQ33
      have N33 := Fr.app N23 N33q
      have pre34 : ∀ tg, AT p e below T33 m 69 #[iv p0, iv p1, iv p2, iv p3, iv p4, iv p5, iv p6, iv (1 : Int32)] [(.int p1), (.int (f12 (2 : Int32) p2 p3 p4 p5 p6))] tg → Steps p.tables e below S0 tg := fun tg kg => pre31 tg (by
       refine XS.icmpNo X23.here hx rfl (hb hby d10_53) rfl (XT.ii_lt_f hc32) ?_
       show AT p e below T23 m 56 #[iv p0, iv p1, iv p2, iv p3, iv p4, iv p5, iv p6, iv (1 : Int32)] [] _
       refine XS.iconst X23.here hx rfl (hb hby d10_56) ?_
       refine XS.iloadN X23.here hx rfl (hb hby d10_57) rfl ?_
       refine XS.iloadN X23.here hx rfl (hb hby d10_58) rfl ?_
       refine XS.iload X23.here hx rfl (hb hby d10_59) rfl ?_
       refine XS.iload X23.here hx rfl (hb hby d10_61) rfl ?_
       refine XS.iload X23.here hx rfl (hb hby d10_63) rfl ?_
       refine st33 _ ?_
       refine XS.iloadN X33.here hx rfl (hb hby d10_68) rfl ?_
       exact kg)
      rcases Decidable.em ((f12 (2 : Int32) p2 p3 p4 p5 p6) < p1) with hc35 | hc35
      ·
       obtain ⟨fs, hr, hrun, hended, hW, hsame⟩ := X33.leave (v := some (.int (0 : Int32))) (fun h => by rw [Bd.returns] at h; cases h)
       subst hS0
       refine ⟨_, _, pre34 _ ?_, hrun, hended, _, _, rfl, ?_, ⟨_, rfl⟩, hW, hsame.mono (by decide) (by decide)⟩
       ·
        refine XS.icmpNo X33.here hx rfl (hb hby d10_69) rfl (XT.ii_ge_f hc35) ?_
        refine XS.iconst X33.here hx rfl (hb hby d10_72) ?_
        refine XS.istore X33.here hx rfl (hb hby d10_73) rfl (l' := #[iv p0, iv p1, iv p2, iv p3, iv p4, iv p5, iv p6, iv (0 : Int32)]) rfl ?_
        refine XS.iload X33.here hx rfl (hb hby d10_75) rfl ?_
        exact retN X33 hx (t := .boolean) Bd.returns (by simp) (hb hby d10_77) hr
       ·
        show Q10 Z p0 p1 p2 p3 p4 p5 p6 h0 n0 _ T33.heap _
        rw [e33]
        exact ⟨(by rw [f10, if_neg hc2, if_neg hc5, if_neg hc22, if_neg hc25, if_neg hc32, if_pos hc35]), N33, rfl⟩
      ·
       obtain ⟨fs, hr, hrun, hended, hW, hsame⟩ := X33.leave (v := some (.int (1 : Int32))) (fun h => by rw [Bd.returns] at h; cases h)
       subst hS0
       refine ⟨_, _, pre34 _ ?_, hrun, hended, _, _, rfl, ?_, ⟨_, rfl⟩, hW, hsame.mono (by decide) (by decide)⟩
       ·
        refine XS.icmpYes X33.here hx rfl (pc0 := 69) (pc' := 75) rfl (hb hby d10_69) rfl (XT.ii_ge_t hc35) (by decide) (by decide) ?_
        refine XS.iload X33.here hx rfl (hb hby d10_75) rfl ?_
        exact retN X33 hx (t := .boolean) Bd.returns (by simp) (hb hby d10_77) hr
       ·
        show Q10 Z p0 p1 p2 p3 p4 p5 p6 h0 n0 _ T33.heap _
        rw [e33]
        exact ⟨(by rw [f10, if_neg hc2, if_neg hc5, if_neg hc22, if_neg hc25, if_neg hc32, if_neg hc35]), N33, rfl⟩

theorem d17_0 : decode jdk_29_method_65_code 0 = .ok (.iload_n 0, 1) := by decide +kernel
theorem d17_1 : decode jdk_29_method_65_code 1 = .ok (.iload_n 1, 1) := by decide +kernel
theorem d17_2 : decode jdk_29_method_65_code 2 = .ok (.if_icmp .lt 7, 3) := by decide +kernel
theorem d17_5 : decode jdk_29_method_65_code 5 = .ok (.iload_n 0, 1) := by decide +kernel
theorem d17_6 : decode jdk_29_method_65_code 6 = .ok (.goto 4, 3) := by decide +kernel
theorem d17_9 : decode jdk_29_method_65_code 9 = .ok (.iload_n 1, 1) := by decide +kernel
theorem d17_10 : decode jdk_29_method_65_code 10 = .ok (.ireturn, 1) := by decide +kernel
theorem ef_17 (m : MethodId) (p0 : Int32) (p1 : Int32) : entryFrame m #[(.int p0), (.int p1)] 2 = mkF m 0 #[iv p0, iv p1] [] := by first | (simp [entryFrame, mkF, argsToLocals, Value.category]; done) | rfl
def f17 (p0 : Int32) (p1 : Int32) : Int32 := if p0 < p1 then p1 else p0
def Q17 (Z : State) (p0 : Int32) (p1 : Int32) (h0 : Heap) (n0 : Nat) (v : Option Value) (h : Heap) (L : List Loc) : Prop := v = some (.int (f17 p0 p1)) ∧ Fr n0 L ∧ h = h0
set_option maxRecDepth 65536 in
set_option maxHeartbeats 40000000 in
theorem rm17 (l : Launch) (Z : State) (ar : Array Value) (hw : ∀ d ∈ tables_1, d.before ar Z = true) (ws : List Jvm.Cond) (p0 : Int32) (p1 : Int32) (h0 : Heap) (n0 : Nat) (O0 : Old Z n0 h0) :
    MetFree l y17 (head1 (Jvm.Cond.code y17 jdk_29_method_65_code 2 (some .int) :: ws) ({ frames := 0, cells := 0, slots := 0, locals := 0 } : Room)) (fun a U => a = #[(.int p0), (.int p1)] ∧ Z.Warmed39 U.vm ∧ U.heap = h0) (fun _ _ _ _ _ => True) (fun _ U o U' => ∃ v L, o = .returned v ∧ Q17 Z p0 p1 h0 n0 v U'.heap L ∧ FrameEnd U o U' L ({ frames := 0, cells := 0, slots := 0, locals := 0 } : Room).cells ({ frames := 0, cells := 0, slots := 0, locals := 0 } : Room).slots) := by
 refine MetFree.of_bodySF (Jvm.Free.JP.mathPlain rfl (by decide +kernel)) hisR ?_
 intro p e s m args below meth c s₁ Bd hml0 hP hK
 obtain ⟨rfl, hZ, hh⟩ := hP
 have hx := Bd.exec
 have hby := Bd.bytes
 have hml : c.maxLocals = 2 := hml0
 have hown : s.vm.findClass "java/lang/Math" = some m.cls := findClass_of_methodNamed Bd.named
 have hnm := (name_of_methodNamed Bd.named Bd.method).1
 have X0 : Stand p l e ({ frames := 0, cells := 0, slots := 0, locals := 0 } : Room) s m #[(.int p0), (.int p1)] below meth c s₁ [] 0 0 := Stand.of_body Bd
 have e0 : s₁.heap = h0 := by rw [← hh, Bd.state]; rfl
 have N0 := Fr.nil n0
 have Z0 : n0 ≤ h0.size := Nat.le_trans (Nat.le_of_eq O0.1.symm) O0.2.1
 obtain ⟨S0, hS0⟩ : ∃ z, z = s₁.setTop (entryFrame m #[(.int p0), (.int p1)] 2) := ⟨_, rfl⟩
 have pre0 : ∀ tg, AT p e below s₁ m 0 #[iv p0, iv p1] [] tg → Steps p.tables e below S0 tg := fun tg kg => by rw [hS0]; exact castTop (ef_17 m p0 p1) kg
 have pre1 : ∀ tg, AT p e below s₁ m 2 #[iv p0, iv p1] [(.int p1), (.int p0)] tg → Steps p.tables e below S0 tg := fun tg kg => pre0 tg (by
  refine XS.iloadN X0.here hx rfl (hb hby d17_0) rfl ?_
  refine XS.iloadN X0.here hx rfl (hb hby d17_1) rfl ?_
  exact kg)
 rcases Decidable.em (p0 < p1) with hc2 | hc2
 ·
  obtain ⟨fs, hr, hrun, hended, hW, hsame⟩ := X0.leave (v := some (.int p1)) (fun h => by rw [Bd.returns] at h; cases h)
  subst hS0
  refine ⟨_, _, pre1 _ ?_, hrun, hended, _, _, rfl, ?_, ⟨_, rfl⟩, hW, hsame.mono (by decide) (by decide)⟩
  ·
   refine XS.icmpYes X0.here hx rfl (pc0 := 2) (pc' := 9) rfl (hb hby d17_2) rfl (XT.ii_lt_t hc2) (by decide) (by decide) ?_
   refine XS.iloadN X0.here hx rfl (hb hby d17_9) rfl ?_
   exact retOut X0 hx (t := .int) (i := .ireturn) Bd.returns rfl (Or.inl ⟨rfl, Or.inl rfl, _, rfl⟩) (hb hby d17_10) hr
  ·
   show Q17 Z p0 p1 h0 n0 _ s₁.heap _
   rw [e0]
   exact ⟨(by rw [f17, if_pos hc2]), N0, rfl⟩
 ·
  obtain ⟨fs, hr, hrun, hended, hW, hsame⟩ := X0.leave (v := some (.int p0)) (fun h => by rw [Bd.returns] at h; cases h)
  subst hS0
  refine ⟨_, _, pre1 _ ?_, hrun, hended, _, _, rfl, ?_, ⟨_, rfl⟩, hW, hsame.mono (by decide) (by decide)⟩
  ·
   refine XS.icmpNo X0.here hx rfl (hb hby d17_2) rfl (XT.ii_lt_f hc2) ?_
   refine XS.iloadN X0.here hx rfl (hb hby d17_5) rfl ?_
   refine XS.goto X0.here hx rfl (pc0 := 6) (pc' := 10) rfl (hb hby d17_6) (by decide) (by decide) ?_
   exact retOut X0 hx (t := .int) (i := .ireturn) Bd.returns rfl (Or.inl ⟨rfl, Or.inl rfl, _, rfl⟩) (hb hby d17_10) hr
  ·
   show Q17 Z p0 p1 h0 n0 _ s₁.heap _
   rw [e0]
   exact ⟨(by rw [f17, if_neg hc2]), N0, rfl⟩


theorem own_bit (m r : Int32) : f2 m r = 0 ∨ f2 m r = 1 := by
  unfold f2
  generalize (m.toUInt32 >>> (r &&& 31).toUInt32).toInt32 = x
  have h1 := c_mask x (1 : Int32) 1 (by decide) (by decide)
  have h2 : 0 ≤ x.toInt % (2 ^ 1 : Nat) := Int.emod_nonneg _ (by decide)
  have h3 : x.toInt % (2 ^ 1 : Nat) < 2 := Int.emod_lt_of_pos _ (by decide)
  have l0 : ((0 : Int32)).toInt = 0 := rfl
  have l1 : ((1 : Int32)).toInt = 1 := rfl
  simp only [← Int32.toInt_inj, l0, l1]
  omega
theorem own_nb (m r : Int32) : nar .boolean (if f2 m r = (0 : Int32) then (0 : Int32) else (1 : Int32)) = f2 m r := by
  rcases own_bit m r with h | h <;> rw [h] <;> decide

theorem d1_0 : decode method_5_code 0 = .ok (.iconst 3, 1) := by decide +kernel
theorem d1_1 : decode method_5_code 1 = .ok (.newarray .boolean, 2) := by decide +kernel
theorem d1_3 : decode method_5_code 3 = .ok (.astore_n 1, 1) := by decide +kernel
theorem d1_4 : decode method_5_code 4 = .ok (.aload_n 1, 1) := by decide +kernel
theorem d1_5 : decode method_5_code 5 = .ok (.iconst 0, 1) := by decide +kernel
theorem d1_6 : decode method_5_code 6 = .ok (.iload_n 0, 1) := by decide +kernel
theorem d1_7 : decode method_5_code 7 = .ok (.iconst 0, 1) := by decide +kernel
theorem d1_8 : decode method_5_code 8 = .ok (.invokestatic 7, 3) := by decide +kernel
theorem d1_11 : decode method_5_code 11 = .ok (.ifCond .eq 7, 3) := by decide +kernel
theorem d1_14 : decode method_5_code 14 = .ok (.iconst 1, 1) := by decide +kernel
theorem d1_15 : decode method_5_code 15 = .ok (.goto 4, 3) := by decide +kernel
theorem d1_18 : decode method_5_code 18 = .ok (.iconst 0, 1) := by decide +kernel
theorem d1_19 : decode method_5_code 19 = .ok (.bastore, 1) := by decide +kernel
theorem d1_20 : decode method_5_code 20 = .ok (.aload_n 1, 1) := by decide +kernel
theorem d1_21 : decode method_5_code 21 = .ok (.iconst 1, 1) := by decide +kernel
theorem d1_22 : decode method_5_code 22 = .ok (.iload_n 0, 1) := by decide +kernel
theorem d1_23 : decode method_5_code 23 = .ok (.iconst 1, 1) := by decide +kernel
theorem d1_24 : decode method_5_code 24 = .ok (.invokestatic 7, 3) := by decide +kernel
theorem d1_27 : decode method_5_code 27 = .ok (.ifCond .eq 7, 3) := by decide +kernel
theorem d1_30 : decode method_5_code 30 = .ok (.iconst 1, 1) := by decide +kernel
theorem d1_31 : decode method_5_code 31 = .ok (.goto 4, 3) := by decide +kernel
theorem d1_34 : decode method_5_code 34 = .ok (.iconst 0, 1) := by decide +kernel
theorem d1_35 : decode method_5_code 35 = .ok (.bastore, 1) := by decide +kernel
theorem d1_36 : decode method_5_code 36 = .ok (.aload_n 1, 1) := by decide +kernel
theorem d1_37 : decode method_5_code 37 = .ok (.iconst 2, 1) := by decide +kernel
theorem d1_38 : decode method_5_code 38 = .ok (.iload_n 0, 1) := by decide +kernel
theorem d1_39 : decode method_5_code 39 = .ok (.iconst 2, 1) := by decide +kernel
theorem d1_40 : decode method_5_code 40 = .ok (.invokestatic 7, 3) := by decide +kernel
theorem d1_43 : decode method_5_code 43 = .ok (.ifCond .eq 7, 3) := by decide +kernel
theorem d1_46 : decode method_5_code 46 = .ok (.iconst 1, 1) := by decide +kernel
theorem d1_47 : decode method_5_code 47 = .ok (.goto 4, 3) := by decide +kernel
theorem d1_50 : decode method_5_code 50 = .ok (.iconst 0, 1) := by decide +kernel
theorem d1_51 : decode method_5_code 51 = .ok (.bastore, 1) := by decide +kernel
theorem d1_52 : decode method_5_code 52 = .ok (.aload_n 1, 1) := by decide +kernel
theorem d1_53 : decode method_5_code 53 = .ok (.areturn, 1) := by decide +kernel
theorem ef_1 (m : MethodId) (p0 : Int32) : entryFrame m #[(.int p0)] 2 = mkF m 0 #[iv p0, un] [] := by first | (simp [entryFrame, mkF, argsToLocals, Value.category]; done) | rfl
def Q1 (Z : State) (p0 : Int32) (h0 : Heap) (n0 : Nat) (v : Option Value) (h : Heap) (L : List Loc) : Prop := ∃ (b : Addr) (kb : ClassId), v = some (.ref b) ∧ Fr n0 L ∧ Keep h0 h [] ∧ Arv Z h b kb .boolean (3 : Int32) [(.int (f2 p0 (0 : Int32))), (.int (f2 p0 (1 : Int32))), (.int (f2 p0 (2 : Int32)))] (.int (0 : Int32)) ∧ h0.size ≤ b
set_option maxRecDepth 65536 in
set_option maxHeartbeats 40000000 in
theorem rm1 (l : Launch) (Z : State) (ar : Array Value) (hw : ∀ d ∈ tables_1, d.before ar Z = true) (ws : List Jvm.Cond) (p0 : Int32) (h0 : Heap) (n0 : Nat) (O0 : Old Z n0 h0) :
    MetFree l y1 (head1 (Jvm.Cond.code y1 method_5_code 2 (some (.array .boolean)) :: ws) ({ frames := 1, cells := 1, slots := 3, locals := 15 } : Room)) (fun a U => a = #[(.int p0)] ∧ Z.Warmed39 U.vm ∧ U.heap = h0) (fun _ _ _ _ _ => True) (fun _ U o U' => ∃ v L, o = .returned v ∧ Q1 Z p0 h0 n0 v U'.heap L ∧ FrameEnd U o U' L ({ frames := 1, cells := 1, slots := 3, locals := 15 } : Room).cells ({ frames := 1, cells := 1, slots := 3, locals := 15 } : Room).slots) := by
 refine MetFree.of_bodySF (plainFor_of_name pn_0) hisR ?_
 intro p e s m args below meth c s₁ Bd hml0 hP hK
 obtain ⟨rfl, hZ, hh⟩ := hP
 have hx := Bd.exec
 have hby := Bd.bytes
 have hml : c.maxLocals = 2 := hml0
 have hown : s.vm.findClass "com/example/filters_under_siege/filtersundersiege/CoverIsCompletePinLaw" = some m.cls := findClass_of_methodNamed Bd.named
 have hnm := (name_of_methodNamed Bd.named Bd.method).1
 have X0 : Stand p l e ({ frames := 1, cells := 1, slots := 3, locals := 15 } : Room) s m #[(.int p0)] below meth c s₁ [] 0 0 := Stand.of_body Bd
 have e0 : s₁.heap = h0 := by rw [← hh, Bd.state]; rfl
 have N0 := Fr.nil n0
 have Z0 : n0 ≤ h0.size := Nat.le_trans (Nat.le_of_eq O0.1.symm) O0.2.1
 obtain ⟨S0, hS0⟩ : ∃ z, z = s₁.setTop (entryFrame m #[(.int p0)] 2) := ⟨_, rfl⟩
 have pre0 : ∀ tg, AT p e below s₁ m 0 #[iv p0, un] [] tg → Steps p.tables e below S0 tg := fun tg kg => by rw [hS0]; exact castTop (ef_1 m p0) kg
 obtain ⟨T1, h1, k1, X1, e1, E1, A1, B1, st1⟩ := newPE X0 hx hZ (ow hw 5 rfl) e0 (g := (mkF m 1 #[iv p0, un] [(.int (3 : Int32))])) rfl (hb hby d1_1) rfl (by decide) (cap := 3) (by decide) (by decide) (by decide) (by decide) (ad := "[Z") (by decide)
 obtain ⟨b1, g1⟩ : ∃ z, z = h0.size := ⟨_, rfl⟩
 rw [← g1] at A1 B1 st1
 have gn1 : n0 ≤ b1 := Nat.le_trans (Nat.le_trans (Nat.le_of_eq O0.1.symm) O0.2.1) (Nat.le_of_eq g1.symm)
 have sz1 : h0.size ≤ b1 := Nat.le_trans (Keep.refl h0 []).1 (Nat.le_of_eq g1.symm)
 have K1 := (Keep.refl h0 []).ext E1
 have O1 := O0.ext E1
 have V1_2 : Arv Z h1 b1 k1 .boolean (3 : Int32) [(.int (0 : Int32)), (.int (0 : Int32)), (.int (0 : Int32))] (.int (0 : Int32)) := (Arv.new A1 (by decide)).pad (pad_rep [] (.int (0 : Int32)) 3)
 obtain ⟨_, _, ⟨T3, L3, k3, n3⟩, -, X3, ⟨Lc3, hQ3, l3, y3, z3⟩, st3⟩ := Jvm.LawKit.callS X1 hx (y := y2) hown (mvT hZ (ow hw 6 rfl)) (mvT hZ (ow hw 7 rfl)) (mvT hZ (ow hw 3 rfl)) (mvT hZ (ow hw 8 rfl)) (by decide) (backOf (W := 2) (rm2 l Z ar hw [] p0 (0 : Int32) h1 n0 O1) hZ (ow hw 8 rfl) (ow hw 3 rfl) (by decide) (by decide)) (g := (mkF m 8 #[iv p0, rv b1] [(.int (0 : Int32)), (.int p0), (.int (0 : Int32)), (.ref b1)])) rfl (by rw [hml]; rfl) (argsL := [(.int p0), (.int (0 : Int32))]) (rest := [(.int (0 : Int32)), (.ref b1)]) (lenOf pd_0 rfl) rfl (by show 2 * 0 + _ ≤ _; exact Nat.le_of_eq rfl) (hb hby d1_8) (fun _ _ => ⟨rfl, e1, (by decide : 1 + 0 ≤ _), (by decide : 3 + 0 ≤ _)⟩)
 dsimp only [Pt.U, Pt.locs, Pt.cells, Pt.slots] at X3 l3 y3 z3 st3 hQ3
 subst l3 y3 z3
 obtain ⟨rfl, N3q, e3⟩ := hQ3
 have N3 := Fr.app N0 N3q
 have pre4 : ∀ tg, AT p e below T3 m 11 #[iv p0, rv b1] [(.int (f2 p0 (0 : Int32))), (.int (0 : Int32)), (.ref b1)] tg → Steps p.tables e below S0 tg := fun tg kg => pre0 tg (by
  refine XS.iconst X0.here hx rfl (hb hby d1_0) ?_
  refine st1 _ ?_
  refine XS.astoreN X1.here hx rfl (hb hby d1_3) rfl rfl (l' := #[iv p0, rv b1]) rfl ?_
  refine XS.aloadN X1.here hx rfl (hb hby d1_4) rfl rfl ?_
  refine XS.iconst X1.here hx rfl (hb hby d1_5) ?_
  refine XS.iloadN X1.here hx rfl (hb hby d1_6) rfl ?_
  show AT p e below T1 m 7 #[iv p0, rv b1] [(.int p0), (.int (0 : Int32)), (.ref b1)] _
  refine XS.iconst X1.here hx rfl (hb hby d1_7) ?_
  refine st3 _ ?_
  exact kg)
 have pre5 : ∀ tg, AT p e below T3 m 19 #[iv p0, rv b1] [(.int (if (f2 p0 (0 : Int32)) = (0 : Int32) then (0 : Int32) else (1 : Int32))), (.int (0 : Int32)), (.ref b1)] tg → Steps p.tables e below S0 tg := by
  intro tg kg
  rcases Decidable.em ((f2 p0 (0 : Int32)) = (0 : Int32)) with hd | hd
  ·
   simp only [if_pos hd] at kg
   exact pre4 tg (by
    refine XS.ifYes X3.here hx rfl (pc0 := 11) (pc' := 18) rfl (hb hby d1_11) rfl (XT.i0_eq_t hd) (by decide) (by decide) ?_
    refine XS.iconst X3.here hx rfl (hb hby d1_18) ?_
    exact kg)
  ·
   simp only [if_neg hd] at kg
   exact pre4 tg (by
    refine XS.ifNo X3.here hx rfl (hb hby d1_11) rfl (XT.i0_eq_f hd) ?_
    refine XS.iconst X3.here hx rfl (hb hby d1_14) ?_
    refine XS.goto X3.here hx rfl (pc0 := 15) (pc' := 19) rfl (hb hby d1_15) (by decide) (by decide) ?_
    exact kg)
 obtain ⟨cl6, Ar6, q6, S6, M6, H6, G6⟩ := id V1_2
 have hin6 := own_in (0 : Int32) S6 ⟨by decide, by decide⟩
 obtain ⟨T6, h6, X6, e6, W6, st6⟩ := stZ X3 hx hZ e3 Ar6 (j := (0 : Int32)) hin6 (g := (mkF m 19 #[iv p0, rv b1] [(.int (if (f2 p0 (0 : Int32)) = (0 : Int32) then (0 : Int32) else (1 : Int32))), (.int (0 : Int32)), (.ref b1)])) rfl rfl (hb hby d1_19)
 have V6_7 : Arv Z h6 b1 k1 .boolean (3 : Int32) [(.int (nar .boolean (if (f2 p0 (0 : Int32)) = (0 : Int32) then (0 : Int32) else (1 : Int32)))), (.int (0 : Int32)), (.int (0 : Int32))] (.int (0 : Int32)) := Arv.set Ar6 q6 S6 M6 H6 G6 (fits_nar_bool _) W6 0 rfl (Nat.le_of_ble_eq_true rfl)
 have E6_8 := B1.wr W6
 have K6 := K1.wr W6 (Or.inr sz1)
 have O6 := O1.wr W6 gn1
 have N6 := Fr.snoc X6 N3 gn1
 obtain ⟨_, _, ⟨T9, L9, k9, n9⟩, -, X9, ⟨Lc9, hQ9, l9, y9, z9⟩, st9⟩ := Jvm.LawKit.callS X6 hx (y := y2) hown (mvT hZ (ow hw 6 rfl)) (mvT hZ (ow hw 7 rfl)) (mvT hZ (ow hw 3 rfl)) (mvT hZ (ow hw 8 rfl)) (by decide) (backOf (W := 2) (rm2 l Z ar hw [] p0 (1 : Int32) h6 n0 O6) hZ (ow hw 8 rfl) (ow hw 3 rfl) (by decide) (by decide)) (g := (mkF m 24 #[iv p0, rv b1] [(.int (1 : Int32)), (.int p0), (.int (1 : Int32)), (.ref b1)])) rfl (by rw [hml]; rfl) (argsL := [(.int p0), (.int (1 : Int32))]) (rest := [(.int (1 : Int32)), (.ref b1)]) (lenOf pd_0 rfl) rfl (by show 2 * 0 + _ ≤ _; exact Nat.le_of_eq rfl) (hb hby d1_24) (fun _ _ => ⟨rfl, e6, (by decide : 1 + 0 ≤ _), (by decide : 3 + 0 ≤ _)⟩)
 dsimp only [Pt.U, Pt.locs, Pt.cells, Pt.slots] at X9 l9 y9 z9 st9 hQ9
 subst l9 y9 z9
 obtain ⟨rfl, N9q, e9⟩ := hQ9
 have N9 := Fr.app N6 N9q
 have pre10 : ∀ tg, AT p e below T9 m 27 #[iv p0, rv b1] [(.int (f2 p0 (1 : Int32))), (.int (1 : Int32)), (.ref b1)] tg → Steps p.tables e below S0 tg := fun tg kg => pre5 tg (by
  refine st6 _ ?_
  refine XS.aloadN X6.here hx rfl (hb hby d1_20) rfl rfl ?_
  refine XS.iconst X6.here hx rfl (hb hby d1_21) ?_
  refine XS.iloadN X6.here hx rfl (hb hby d1_22) rfl ?_
  refine XS.iconst X6.here hx rfl (hb hby d1_23) ?_
  refine st9 _ ?_
  exact kg)
 have pre11 : ∀ tg, AT p e below T9 m 35 #[iv p0, rv b1] [(.int (if (f2 p0 (1 : Int32)) = (0 : Int32) then (0 : Int32) else (1 : Int32))), (.int (1 : Int32)), (.ref b1)] tg → Steps p.tables e below S0 tg := by
  intro tg kg
  rcases Decidable.em ((f2 p0 (1 : Int32)) = (0 : Int32)) with hd | hd
  ·
   simp only [if_pos hd] at kg
   exact pre10 tg (by
    refine XS.ifYes X9.here hx rfl (pc0 := 27) (pc' := 34) rfl (hb hby d1_27) rfl (XT.i0_eq_t hd) (by decide) (by decide) ?_
    show AT p e below T9 m 34 #[iv p0, rv b1] [(.int (1 : Int32)), (.ref b1)] _
    refine XS.iconst X9.here hx rfl (hb hby d1_34) ?_
    exact kg)
  ·
   simp only [if_neg hd] at kg
   exact pre10 tg (by
    refine XS.ifNo X9.here hx rfl (hb hby d1_27) rfl (XT.i0_eq_f hd) ?_
    show AT p e below T9 m 30 #[iv p0, rv b1] [(.int (1 : Int32)), (.ref b1)] _
    refine XS.iconst X9.here hx rfl (hb hby d1_30) ?_
    refine XS.goto X9.here hx rfl (pc0 := 31) (pc' := 35) rfl (hb hby d1_31) (by decide) (by decide) ?_
    exact kg)
 obtain ⟨cl12, Ar12, q12, S12, M12, H12, G12⟩ := id V6_7
 have hin12 := own_in (1 : Int32) S12 ⟨by decide, by decide⟩
 obtain ⟨T12, h12, X12, e12, W12, st12⟩ := stZ X9 hx hZ e9 Ar12 (j := (1 : Int32)) hin12 (g := (mkF m 35 #[iv p0, rv b1] [(.int (if (f2 p0 (1 : Int32)) = (0 : Int32) then (0 : Int32) else (1 : Int32))), (.int (1 : Int32)), (.ref b1)])) rfl rfl (hb hby d1_35)
 have V12_13 : Arv Z h12 b1 k1 .boolean (3 : Int32) [(.int (nar .boolean (if (f2 p0 (0 : Int32)) = (0 : Int32) then (0 : Int32) else (1 : Int32)))), (.int (nar .boolean (if (f2 p0 (1 : Int32)) = (0 : Int32) then (0 : Int32) else (1 : Int32)))), (.int (0 : Int32))] (.int (0 : Int32)) := Arv.set Ar12 q12 S12 M12 H12 G12 (fits_nar_bool _) W12 1 rfl (Nat.le_of_ble_eq_true rfl)
 have E12_14 := E6_8.wr W12
 have K12 := K6.wr W12 (Or.inr sz1)
 have O12 := O6.wr W12 gn1
 have N12 := Fr.snoc X12 N9 gn1
 obtain ⟨_, _, ⟨T15, L15, k15, n15⟩, -, X15, ⟨Lc15, hQ15, l15, y15, z15⟩, st15⟩ := Jvm.LawKit.callS X12 hx (y := y2) hown (mvT hZ (ow hw 6 rfl)) (mvT hZ (ow hw 7 rfl)) (mvT hZ (ow hw 3 rfl)) (mvT hZ (ow hw 8 rfl)) (by decide) (backOf (W := 2) (rm2 l Z ar hw [] p0 (2 : Int32) h12 n0 O12) hZ (ow hw 8 rfl) (ow hw 3 rfl) (by decide) (by decide)) (g := (mkF m 40 #[iv p0, rv b1] [(.int (2 : Int32)), (.int p0), (.int (2 : Int32)), (.ref b1)])) rfl (by rw [hml]; rfl) (argsL := [(.int p0), (.int (2 : Int32))]) (rest := [(.int (2 : Int32)), (.ref b1)]) (lenOf pd_0 rfl) rfl (by show 2 * 0 + _ ≤ _; exact Nat.le_of_eq rfl) (hb hby d1_40) (fun _ _ => ⟨rfl, e12, (by decide : 1 + 0 ≤ _), (by decide : 3 + 0 ≤ _)⟩)
 dsimp only [Pt.U, Pt.locs, Pt.cells, Pt.slots] at X15 l15 y15 z15 st15 hQ15
 subst l15 y15 z15
 obtain ⟨rfl, N15q, e15⟩ := hQ15
 have N15 := Fr.app N12 N15q
 have pre16 : ∀ tg, AT p e below T15 m 43 #[iv p0, rv b1] [(.int (f2 p0 (2 : Int32))), (.int (2 : Int32)), (.ref b1)] tg → Steps p.tables e below S0 tg := fun tg kg => pre11 tg (by
  refine st12 _ ?_
  refine XS.aloadN X12.here hx rfl (hb hby d1_36) rfl rfl ?_
  refine XS.iconst X12.here hx rfl (hb hby d1_37) ?_
  refine XS.iloadN X12.here hx rfl (hb hby d1_38) rfl ?_
  refine XS.iconst X12.here hx rfl (hb hby d1_39) ?_
  refine st15 _ ?_
  exact kg)
 have pre17 : ∀ tg, AT p e below T15 m 51 #[iv p0, rv b1] [(.int (if (f2 p0 (2 : Int32)) = (0 : Int32) then (0 : Int32) else (1 : Int32))), (.int (2 : Int32)), (.ref b1)] tg → Steps p.tables e below S0 tg := by
  intro tg kg
  rcases Decidable.em ((f2 p0 (2 : Int32)) = (0 : Int32)) with hd | hd
  ·
   simp only [if_pos hd] at kg
   exact pre16 tg (by
    refine XS.ifYes X15.here hx rfl (pc0 := 43) (pc' := 50) rfl (hb hby d1_43) rfl (XT.i0_eq_t hd) (by decide) (by decide) ?_
    show AT p e below T15 m 50 #[iv p0, rv b1] [(.int (2 : Int32)), (.ref b1)] _
    refine XS.iconst X15.here hx rfl (hb hby d1_50) ?_
    exact kg)
  ·
   simp only [if_neg hd] at kg
   exact pre16 tg (by
    refine XS.ifNo X15.here hx rfl (hb hby d1_43) rfl (XT.i0_eq_f hd) ?_
    show AT p e below T15 m 46 #[iv p0, rv b1] [(.int (2 : Int32)), (.ref b1)] _
    refine XS.iconst X15.here hx rfl (hb hby d1_46) ?_
    refine XS.goto X15.here hx rfl (pc0 := 47) (pc' := 51) rfl (hb hby d1_47) (by decide) (by decide) ?_
    exact kg)
 obtain ⟨cl18, Ar18, q18, S18, M18, H18, G18⟩ := id V12_13
 have hin18 := own_in (2 : Int32) S18 ⟨by decide, by decide⟩
 obtain ⟨T18, h18, X18, e18, W18, st18⟩ := stZ X15 hx hZ e15 Ar18 (j := (2 : Int32)) hin18 (g := (mkF m 51 #[iv p0, rv b1] [(.int (if (f2 p0 (2 : Int32)) = (0 : Int32) then (0 : Int32) else (1 : Int32))), (.int (2 : Int32)), (.ref b1)])) rfl rfl (hb hby d1_51)
 have V18_19 : Arv Z h18 b1 k1 .boolean (3 : Int32) [(.int (nar .boolean (if (f2 p0 (0 : Int32)) = (0 : Int32) then (0 : Int32) else (1 : Int32)))), (.int (nar .boolean (if (f2 p0 (1 : Int32)) = (0 : Int32) then (0 : Int32) else (1 : Int32)))), (.int (nar .boolean (if (f2 p0 (2 : Int32)) = (0 : Int32) then (0 : Int32) else (1 : Int32))))] (.int (0 : Int32)) := Arv.set Ar18 q18 S18 M18 H18 G18 (fits_nar_bool _) W18 2 rfl (Nat.le_of_ble_eq_true rfl)
 have E18_20 := E12_14.wr W18
 have K18 := K12.wr W18 (Or.inr sz1)
 have O18 := O12.wr W18 gn1
 have N18 := Fr.snoc X18 N15 gn1
 obtain ⟨fs, hr, hrun, hended, hW, hsame⟩ := X18.leave (v := some (.ref b1)) (fun h => by rw [Bd.returns] at h; cases h)
 subst hS0
 refine ⟨_, _, pre17 _ ?_, hrun, hended, _, _, rfl, ?_, ⟨_, rfl⟩, hW, hsame.mono (by decide) (by decide)⟩
 ·
  refine st18 _ ?_
  refine XS.aloadN X18.here hx rfl (hb hby d1_52) rfl rfl ?_
  exact retOut X18 hx (t := (.array .boolean)) (i := .areturn) Bd.returns rfl (Or.inr (Or.inr (Or.inr (Or.inr ⟨rfl, rfl, rfl⟩)))) (hb hby d1_53) hr
 ·
  show Q1 Z p0 h0 n0 _ T18.heap _
  rw [e18]
  exact ⟨b1, k1, rfl, N18, K18, (by have q := V18_19; simp only [own_nb] at q; exact q), sz1⟩

theorem d7_0 : decode jdk_22_method_1_code 0 = .ok (.aload_n 0, 1) := by decide +kernel
theorem d7_1 : decode jdk_22_method_1_code 1 = .ok (.invokespecial 1, 3) := by decide +kernel
theorem d7_4 : decode jdk_22_method_1_code 4 = .ok (.return_, 1) := by decide +kernel
theorem ef_7 (m : MethodId) (a0 : Addr) : entryFrame m #[(.ref a0)] 1 = mkF m 0 #[rv a0] [] := by first | (simp [entryFrame, mkF, argsToLocals, Value.category]; done) | rfl
def Q7 (Z : State) (a0 : Addr) (h0 : Heap) (n0 : Nat) (v : Option Value) (h : Heap) (L : List Loc) : Prop := v = none ∧ Fr n0 L ∧ h = h0
set_option maxRecDepth 65536 in
set_option maxHeartbeats 40000000 in
theorem rm7 (l : Launch) (Z : State) (ar : Array Value) (hw : ∀ d ∈ tables_1, d.before ar Z = true) (ws : List Jvm.Cond) (a0 : Addr) (h0 : Heap) (n0 : Nat) (O0 : Old Z n0 h0) :
    MetFree l y7 (head1 (Jvm.Cond.code y7 jdk_22_method_1_code 1 none :: ws) ({ frames := 1, cells := 0, slots := 0, locals := 12 } : Room)) (fun a U => a = #[(.ref a0)] ∧ Z.Warmed39 U.vm ∧ U.heap = h0) (fun _ _ _ _ _ => True) (fun _ U o U' => ∃ v L, o = .returned v ∧ Q7 Z a0 h0 n0 v U'.heap L ∧ FrameEnd U o U' L ({ frames := 1, cells := 0, slots := 0, locals := 12 } : Room).cells ({ frames := 1, cells := 0, slots := 0, locals := 12 } : Room).slots) := by
 refine MetFree.of_bodySF (plainFor_of_name pn_1) hisR ?_
 intro p e s m args below meth c s₁ Bd hml0 hP hK
 obtain ⟨rfl, hZ, hh⟩ := hP
 have hx := Bd.exec
 have hby := Bd.bytes
 have hml : c.maxLocals = 1 := hml0
 have hown : s.vm.findClass "java/util/AbstractCollection" = some m.cls := findClass_of_methodNamed Bd.named
 have hnm := (name_of_methodNamed Bd.named Bd.method).1
 have X0 : Stand p l e ({ frames := 1, cells := 0, slots := 0, locals := 12 } : Room) s m #[(.ref a0)] below meth c s₁ [] 0 0 := Stand.of_body Bd
 have e0 : s₁.heap = h0 := by rw [← hh, Bd.state]; rfl
 have N0 := Fr.nil n0
 have Z0 : n0 ≤ h0.size := Nat.le_trans (Nat.le_of_eq O0.1.symm) O0.2.1
 obtain ⟨S0, hS0⟩ : ∃ z, z = s₁.setTop (entryFrame m #[(.ref a0)] 1) := ⟨_, rfl⟩
 have pre0 : ∀ tg, AT p e below s₁ m 0 #[rv a0] [] tg → Steps p.tables e below S0 tg := fun tg kg => by rw [hS0]; exact castTop (ef_7 m a0) kg
 obtain ⟨T1, X1, e1, st1⟩ := initO X0 hx hZ hown (ow hw 37 rfl) (ow hw 17 rfl) (ow hw 18 rfl) e0 (g := (mkF m 1 #[rv a0] [(.ref a0)])) rfl (by rw [hml]; rfl) rfl (hb hby d7_1) (by decide) (W := 0) (by show 2 * 0 + _ ≤ _; exact Nat.le_of_eq rfl) (by decide)
 obtain ⟨fs, hr, hrun, hended, hW, hsame⟩ := X1.leave (v := none) (fun _ => rfl)
 subst hS0
 refine ⟨_, _, pre0 _ ?_, hrun, hended, _, _, rfl, ?_, ⟨_, rfl⟩, hW, hsame.mono (by decide) (by decide)⟩
 ·
  refine XS.aloadN X0.here hx rfl (hb hby d7_0) rfl rfl ?_
  refine st1 _ ?_
  exact X1.returnOut hx Bd.returns (hb hby d7_4) hr
 ·
  show Q7 Z a0 h0 n0 _ T1.heap _
  rw [e1]
  exact ⟨rfl, N0, rfl⟩

theorem d6_0 : decode jdk_39_method_1_code 0 = .ok (.aload_n 0, 1) := by decide +kernel
theorem d6_1 : decode jdk_39_method_1_code 1 = .ok (.invokespecial 1, 3) := by decide +kernel
theorem d6_4 : decode jdk_39_method_1_code 4 = .ok (.aload_n 0, 1) := by decide +kernel
theorem d6_5 : decode jdk_39_method_1_code 5 = .ok (.iconst 0, 1) := by decide +kernel
theorem d6_6 : decode jdk_39_method_1_code 6 = .ok (.putfield 7, 3) := by decide +kernel
theorem d6_9 : decode jdk_39_method_1_code 9 = .ok (.return_, 1) := by decide +kernel
theorem ef_6 (m : MethodId) (a0 : Addr) : entryFrame m #[(.ref a0)] 1 = mkF m 0 #[rv a0] [] := by first | (simp [entryFrame, mkF, argsToLocals, Value.category]; done) | rfl
def Q6 (Z : State) (a0 : Addr) (h0 : Heap) (n0 : Nat) (v : Option Value) (h : Heap) (L : List Loc) : Prop := v = none ∧ Fr n0 L ∧ Keep h0 h [a0] ∧ Exa Z h a0 "java/util/ArrayList" ∧ Fld Z h a0 "java/util/AbstractList" "modCount" "I" (.int (0 : Int32)) ∧ Fld Z h a0 "java/util/ArrayList" "size" "I" (.int (0 : Int32)) ∧ Fld Z h a0 "java/util/ArrayList" "elementData" "[Ljava/lang/Object;" .null
set_option maxRecDepth 65536 in
set_option maxHeartbeats 40000000 in
theorem rm6 (l : Launch) (Z : State) (ar : Array Value) (hw : ∀ d ∈ tables_1, d.before ar Z = true) (ws : List Jvm.Cond) (a0 : Addr) (h0 : Heap) (n0 : Nat) (O0 : Old Z n0 h0) (pf0 : Exa Z h0 a0 "java/util/ArrayList") (pf1 : Fld Z h0 a0 "java/util/AbstractList" "modCount" "I" (.int (0 : Int32))) (pf2 : Fld Z h0 a0 "java/util/ArrayList" "size" "I" (.int (0 : Int32))) (pf3 : Fld Z h0 a0 "java/util/ArrayList" "elementData" "[Ljava/lang/Object;" .null) (pf4 : n0 ≤ a0) :
    MetFree l y6 (head1 (Jvm.Cond.code y6 jdk_39_method_1_code 1 none :: ws) ({ frames := 2, cells := 0, slots := 0, locals := 24 } : Room)) (fun a U => a = #[(.ref a0)] ∧ Z.Warmed39 U.vm ∧ U.heap = h0) (fun _ _ _ _ _ => True) (fun _ U o U' => ∃ v L, o = .returned v ∧ Q6 Z a0 h0 n0 v U'.heap L ∧ FrameEnd U o U' L ({ frames := 2, cells := 0, slots := 0, locals := 24 } : Room).cells ({ frames := 2, cells := 0, slots := 0, locals := 24 } : Room).slots) := by
 refine MetFree.of_bodySF (plainFor_of_name pn_2) hisR ?_
 intro p e s m args below meth c s₁ Bd hml0 hP hK
 obtain ⟨rfl, hZ, hh⟩ := hP
 have hx := Bd.exec
 have hby := Bd.bytes
 have hml : c.maxLocals = 1 := hml0
 have hown : s.vm.findClass "java/util/AbstractList" = some m.cls := findClass_of_methodNamed Bd.named
 have hnm := (name_of_methodNamed Bd.named Bd.method).1
 have X0 : Stand p l e ({ frames := 2, cells := 0, slots := 0, locals := 24 } : Room) s m #[(.ref a0)] below meth c s₁ [] 0 0 := Stand.of_body Bd
 have e0 : s₁.heap = h0 := by rw [← hh, Bd.state]; rfl
 have N0 := Fr.nil n0
 have Z0 : n0 ≤ h0.size := Nat.le_trans (Nat.le_of_eq O0.1.symm) O0.2.1
 obtain ⟨S0, hS0⟩ : ∃ z, z = s₁.setTop (entryFrame m #[(.ref a0)] 1) := ⟨_, rfl⟩
 have pre0 : ∀ tg, AT p e below s₁ m 0 #[rv a0] [] tg → Steps p.tables e below S0 tg := fun tg kg => by rw [hS0]; exact castTop (ef_6 m a0) kg
 obtain ⟨_, _, ⟨T1, L1, k1, n1⟩, -, X1, ⟨Lc1, hQ1, l1, y1, z1⟩, st1⟩ := X0.specialBack hx (y := y7) rfl hown (mvT hZ (ow hw 31 rfl)) (mvT hZ (ow hw 32 rfl)) (mvT hZ (ow hw 36 rfl)) (by decide) (backOf (W := 0) (rm7 l Z ar hw [] a0 h0 n0 O0) hZ (ow hw 36 rfl) (ow hw 35 rfl) (by decide) (by decide)) (g := (mkF m 1 #[rv a0] [(.ref a0)])) rfl (by rw [hml]; rfl) (Steps.refl _) (a := a0) (argsL := []) (rest := []) (lenOf pd_2 rfl) rfl (by show 2 * 0 + _ ≤ _; exact Nat.le_of_eq rfl) (hb hby d6_1) (fun _ _ => ⟨rfl, e0, (by decide : 0 + 0 ≤ _), (by decide : 0 + 0 ≤ _)⟩)
 dsimp only [Pt.U, Pt.locs, Pt.cells, Pt.slots] at X1 l1 y1 z1 st1 hQ1
 subst l1 y1 z1
 obtain ⟨rfl, N1q, e1⟩ := hQ1
 have N1 := Fr.app N0 N1q
 obtain ⟨T2, h2, X2, e2, W2, st2⟩ := putF X1 hx hZ hown (host := "") (Or.inl (ow hw 38 rfl)) Via.refl e1 pf1 pf0 (Or.inl (ow hw 39 rfl)) (ow hw 20 rfl) (ty := .int) (by decide) rfl rfl (g := (mkF m 6 #[rv a0] [(.int (0 : Int32)), (.ref a0)])) rfl rfl (hb hby d6_6)
 have E2_3 := pf0.wr W2
 have F2_4 : Fld Z h2 a0 "java/util/AbstractList" "modCount" "I" (.int (0 : Int32)) := pf1.same W2
 have F2_5 := pf2.other W2 (Or.inr (slot_ne (Or.inl (ow hw 82 rfl)) (Or.inl (ow hw 39 rfl)) (by decide) (t := .int) (t' := .int) (by decide) (by decide)))
 have F2_6 := pf3.other W2 (Or.inr (slot_ne (Or.inl (ow hw 42 rfl)) (Or.inl (ow hw 39 rfl)) (by decide) (t := (.array (.object "java/lang/Object"))) (t' := .int) (by decide) (by decide)))
 have K2 := (Keep.refl h0 [a0]).wr W2 (Or.inl (List.mem_of_getElem? (i := 0) rfl))
 have O2 := O0.wr W2 pf4
 have N2 := Fr.snoc X2 N1 pf4
 obtain ⟨fs, hr, hrun, hended, hW, hsame⟩ := X2.leave (v := none) (fun _ => rfl)
 subst hS0
 refine ⟨_, _, pre0 _ ?_, hrun, hended, _, _, rfl, ?_, ⟨_, rfl⟩, hW, hsame.mono (by decide) (by decide)⟩
 ·
  refine XS.aloadN X0.here hx rfl (hb hby d6_0) rfl rfl ?_
  refine st1.trans ?_
  refine XS.aloadN X1.here hx rfl (hb hby d6_4) rfl rfl ?_
  refine XS.iconst X1.here hx rfl (hb hby d6_5) ?_
  refine st2 _ ?_
  exact X2.returnOut hx Bd.returns (hb hby d6_9) hr
 ·
  show Q6 Z a0 h0 n0 _ T2.heap _
  rw [e2]
  exact ⟨rfl, N2, K2, E2_3, F2_4, F2_5, F2_6⟩

theorem d5_0 : decode jdk_38_method_2_code 0 = .ok (.aload_n 0, 1) := by decide +kernel
theorem d5_1 : decode jdk_38_method_2_code 1 = .ok (.invokespecial 1, 3) := by decide +kernel
theorem d5_4 : decode jdk_38_method_2_code 4 = .ok (.aload_n 0, 1) := by decide +kernel
theorem d5_5 : decode jdk_38_method_2_code 5 = .ok (.getstatic 39, 3) := by decide +kernel
theorem d5_8 : decode jdk_38_method_2_code 8 = .ok (.putfield 9, 3) := by decide +kernel
theorem d5_11 : decode jdk_38_method_2_code 11 = .ok (.return_, 1) := by decide +kernel
theorem ef_5 (m : MethodId) (a0 : Addr) : entryFrame m #[(.ref a0)] 1 = mkF m 0 #[rv a0] [] := by first | (simp [entryFrame, mkF, argsToLocals, Value.category]; done) | rfl
def Q5 (Z : State) (a0 : Addr) (w_EE0 : Addr) (w_DEE1 : Addr) (k_EE0 : ClassId) (k_DEE1 : ClassId) (h0 : Heap) (n0 : Nat) (v : Option Value) (h : Heap) (L : List Loc) : Prop := v = none ∧ Fr n0 L ∧ Keep h0 h [a0] ∧ Exa Z h a0 "java/util/ArrayList" ∧ Fld Z h a0 "java/util/AbstractList" "modCount" "I" (.int (0 : Int32)) ∧ Fld Z h a0 "java/util/ArrayList" "size" "I" (.int (0 : Int32)) ∧ Fld Z h a0 "java/util/ArrayList" "elementData" "[Ljava/lang/Object;" (.ref w_DEE1)
set_option maxRecDepth 65536 in
set_option maxHeartbeats 40000000 in
theorem rm5 (l : Launch) (Z : State) (ar : Array Value) (hw : ∀ d ∈ tables_1, d.before ar Z = true) (ws : List Jvm.Cond) (a0 : Addr) (w_EE0 : Addr) (w_DEE1 : Addr) (k_EE0 : ClassId) (k_DEE1 : ClassId) (h0 : Heap) (n0 : Nat) (O0 : Old Z n0 h0) (HW : Wd Z w_EE0 w_DEE1 k_EE0 k_DEE1) (pf0 : Exa Z h0 a0 "java/util/ArrayList") (pf1 : Fld Z h0 a0 "java/util/AbstractList" "modCount" "I" (.int (0 : Int32))) (pf2 : Fld Z h0 a0 "java/util/ArrayList" "size" "I" (.int (0 : Int32))) (pf3 : Fld Z h0 a0 "java/util/ArrayList" "elementData" "[Ljava/lang/Object;" .null) (pf4 : n0 ≤ a0) :
    MetFree l y5 (head1 (Jvm.Cond.code y5 jdk_38_method_2_code 1 none :: ws) ({ frames := 3, cells := 0, slots := 0, locals := 36 } : Room)) (fun a U => a = #[(.ref a0)] ∧ Z.Warmed39 U.vm ∧ U.heap = h0) (fun _ _ _ _ _ => True) (fun _ U o U' => ∃ v L, o = .returned v ∧ Q5 Z a0 w_EE0 w_DEE1 k_EE0 k_DEE1 h0 n0 v U'.heap L ∧ FrameEnd U o U' L ({ frames := 3, cells := 0, slots := 0, locals := 36 } : Room).cells ({ frames := 3, cells := 0, slots := 0, locals := 36 } : Room).slots) := by
 refine MetFree.of_bodySF (plainFor_of_name pn_3) hisR ?_
 intro p e s m args below meth c s₁ Bd hml0 hP hK
 obtain ⟨rfl, hZ, hh⟩ := hP
 have hx := Bd.exec
 have hby := Bd.bytes
 have hml : c.maxLocals = 1 := hml0
 have hown : s.vm.findClass "java/util/ArrayList" = some m.cls := findClass_of_methodNamed Bd.named
 have hnm := (name_of_methodNamed Bd.named Bd.method).1
 have X0 : Stand p l e ({ frames := 3, cells := 0, slots := 0, locals := 36 } : Room) s m #[(.ref a0)] below meth c s₁ [] 0 0 := Stand.of_body Bd
 have e0 : s₁.heap = h0 := by rw [← hh, Bd.state]; rfl
 have N0 := Fr.nil n0
 have Z0 : n0 ≤ h0.size := Nat.le_trans (Nat.le_of_eq O0.1.symm) O0.2.1
 obtain ⟨S0, hS0⟩ : ∃ z, z = s₁.setTop (entryFrame m #[(.ref a0)] 1) := ⟨_, rfl⟩
 have pre0 : ∀ tg, AT p e below s₁ m 0 #[rv a0] [] tg → Steps p.tables e below S0 tg := fun tg kg => by rw [hS0]; exact castTop (ef_5 m a0) kg
 obtain ⟨S_EMPTY_ELEMENTDATA, E_EE0, S_DEFAULTCAPACITY_EMPTY_ELEMENTDATA, E_DEE1, V_EE0, V_DEE1⟩ := id HW
 obtain ⟨_, _, ⟨T1, L1, k1, n1⟩, -, X1, ⟨Lc1, hQ1, l1, y1, z1⟩, st1⟩ := X0.specialBack hx (y := y6) rfl hown (mvT hZ (ow hw 25 rfl)) (mvT hZ (ow hw 26 rfl)) (mvT hZ (ow hw 30 rfl)) (by decide) (backOf (W := 0) (rm6 l Z ar hw [] a0 h0 n0 O0 pf0 pf1 pf2 pf3 pf4) hZ (ow hw 30 rfl) (ow hw 29 rfl) (by decide) (by decide)) (g := (mkF m 1 #[rv a0] [(.ref a0)])) rfl (by rw [hml]; rfl) (Steps.refl _) (a := a0) (argsL := []) (rest := []) (lenOf pd_2 rfl) rfl (by show 2 * 0 + _ ≤ _; exact Nat.le_of_eq rfl) (hb hby d5_1) (fun _ _ => ⟨rfl, e0, (by decide : 0 + 0 ≤ _), (by decide : 0 + 0 ≤ _)⟩)
 dsimp only [Pt.U, Pt.locs, Pt.cells, Pt.slots] at X1 l1 y1 z1 st1 hQ1
 subst l1 y1 z1
 obtain ⟨rfl, N1q, Kq1, u1_0, u1_1, u1_2, u1_3⟩ := hQ1
 have N1 := Fr.app N0 N1q
 have E1_2 := pf0.keep Kq1
 have K1 := (Keep.refl h0 [a0]).trans Kq1 (allS (Or.inl (List.mem_of_getElem? (i := 0) rfl)) all0)
 have O1 := O0.keep Kq1 (allS pf4 all0)
 obtain ⟨T3, X3, e3, st3⟩ := getS2 X1 hx hZ hown (host := "") (Or.inl (ow hw 40 rfl)) Via.refl rfl (S_DEFAULTCAPACITY_EMPTY_ELEMENTDATA.ext O1.2) (g := (mkF m 5 #[rv a0] [(.ref a0)])) rfl (hb hby d5_5)
 obtain ⟨T4, h4, X4, e4, W4, st4⟩ := putF X3 hx hZ hown (host := "") (Or.inl (ow hw 41 rfl)) Via.refl e3 u1_3 E1_2 (Or.inl (ow hw 42 rfl)) (ow hw 20 rfl) (ty := (.array (.object "java/lang/Object"))) (by decide) rfl rfl (g := (mkF m 8 #[rv a0] [(.ref w_DEE1), (.ref a0)])) rfl rfl (hb hby d5_8)
 have E4_5 := E1_2.wr W4
 have F4_6 := u1_1.other W4 (Or.inr (slot_ne (Or.inl (ow hw 39 rfl)) (Or.inl (ow hw 42 rfl)) (by decide) (t := .int) (t' := (.array (.object "java/lang/Object"))) (by decide) (by decide)))
 have F4_7 := u1_2.other W4 (Or.inr (slot_ne (Or.inl (ow hw 82 rfl)) (Or.inl (ow hw 42 rfl)) (by decide) (t := .int) (t' := (.array (.object "java/lang/Object"))) (by decide) (by decide)))
 have F4_8 : Fld Z h4 a0 "java/util/ArrayList" "elementData" "[Ljava/lang/Object;" (.ref w_DEE1) := u1_3.same W4
 have K4 := K1.wr W4 (Or.inl (List.mem_of_getElem? (i := 0) rfl))
 have O4 := O1.wr W4 pf4
 have N4 := Fr.snoc X4 N1 pf4
 obtain ⟨fs, hr, hrun, hended, hW, hsame⟩ := X4.leave (v := none) (fun _ => rfl)
 subst hS0
 refine ⟨_, _, pre0 _ ?_, hrun, hended, _, _, rfl, ?_, ⟨_, rfl⟩, hW, hsame.mono (by decide) (by decide)⟩
 ·
  refine XS.aloadN X0.here hx rfl (hb hby d5_0) rfl rfl ?_
  refine st1.trans ?_
  refine XS.aloadN X1.here hx rfl (hb hby d5_4) rfl rfl ?_
  refine st3 _ ?_
  refine st4 _ ?_
  exact X4.returnOut hx Bd.returns (hb hby d5_11) hr
 ·
  show Q5 Z a0 w_EE0 w_DEE1 k_EE0 k_DEE1 h0 n0 _ T4.heap _
  rw [e4]
  exact ⟨rfl, N4, K4, E4_5, F4_6, F4_7, F4_8⟩

theorem d16_0 : decode jdk_38_method_6_code 0 = .ok (.aload_n 0, 1) := by decide +kernel
theorem d16_1 : decode jdk_38_method_6_code 1 = .ok (.getfield 9, 3) := by decide +kernel
theorem d16_4 : decode jdk_38_method_6_code 4 = .ok (.arraylength, 1) := by decide +kernel
theorem d16_5 : decode jdk_38_method_6_code 5 = .ok (.istore_n 2, 1) := by decide +kernel
theorem d16_6 : decode jdk_38_method_6_code 6 = .ok (.iload_n 2, 1) := by decide +kernel
theorem d16_7 : decode jdk_38_method_6_code 7 = .ok (.ifCond .gt 13, 3) := by decide +kernel
theorem d16_10 : decode jdk_38_method_6_code 10 = .ok (.aload_n 0, 1) := by decide +kernel
theorem d16_11 : decode jdk_38_method_6_code 11 = .ok (.getfield 9, 3) := by decide +kernel
theorem d16_14 : decode jdk_38_method_6_code 14 = .ok (.getstatic 39, 3) := by decide +kernel
theorem d16_17 : decode jdk_38_method_6_code 17 = .ok (.if_acmp .eq 28, 3) := by decide +kernel
theorem d16_45 : decode jdk_38_method_6_code 45 = .ok (.aload_n 0, 1) := by decide +kernel
theorem d16_46 : decode jdk_38_method_6_code 46 = .ok (.bipush 10, 2) := by decide +kernel
theorem d16_48 : decode jdk_38_method_6_code 48 = .ok (.iload_n 1, 1) := by decide +kernel
theorem d16_49 : decode jdk_38_method_6_code 49 = .ok (.invokestatic 79, 3) := by decide +kernel
theorem d16_52 : decode jdk_38_method_6_code 52 = .ok (.anewarray 7, 3) := by decide +kernel
theorem d16_55 : decode jdk_38_method_6_code 55 = .ok (.dup_x1, 1) := by decide +kernel
theorem d16_56 : decode jdk_38_method_6_code 56 = .ok (.putfield 9, 3) := by decide +kernel
theorem d16_59 : decode jdk_38_method_6_code 59 = .ok (.areturn, 1) := by decide +kernel
theorem ef_16 (m : MethodId) (a0 : Addr) : entryFrame m #[(.ref a0), (.int (1 : Int32))] 4 = mkF m 0 #[rv a0, iv (1 : Int32), un, un] [] := by first | (simp [entryFrame, mkF, argsToLocals, Value.category]; done) | rfl
def Q16 (Z : State) (a0 : Addr) (w_EE0 : Addr) (w_DEE1 : Addr) (k_EE0 : ClassId) (k_DEE1 : ClassId) (mc : Int32) (h0 : Heap) (n0 : Nat) (v : Option Value) (h : Heap) (L : List Loc) : Prop := ∃ (es : Addr) (ke : ClassId), v = some (.ref es) ∧ Fr n0 L ∧ Keep h0 h [a0] ∧ Exa Z h a0 "java/util/ArrayList" ∧ Fld Z h a0 "java/util/AbstractList" "modCount" "I" (.int mc) ∧ Fld Z h a0 "java/util/ArrayList" "size" "I" (.int (0 : Int32)) ∧ Fld Z h a0 "java/util/ArrayList" "elementData" "[Ljava/lang/Object;" (.ref es) ∧ Arv Z h es ke (.object "java/lang/Object") (10 : Int32) [.null, .null, .null, .null, .null, .null, .null, .null, .null, .null] .null ∧ Ovr Z ke "java/lang/Object" ∧ h0.size ≤ es
set_option maxRecDepth 65536 in
set_option maxHeartbeats 40000000 in
theorem rm16 (l : Launch) (Z : State) (ar : Array Value) (hw : ∀ d ∈ tables_1, d.before ar Z = true) (ws : List Jvm.Cond) (a0 : Addr) (w_EE0 : Addr) (w_DEE1 : Addr) (k_EE0 : ClassId) (k_DEE1 : ClassId) (mc : Int32) (h0 : Heap) (n0 : Nat) (O0 : Old Z n0 h0) (HW : Wd Z w_EE0 w_DEE1 k_EE0 k_DEE1) (pf0 : Exa Z h0 a0 "java/util/ArrayList") (pf1 : Fld Z h0 a0 "java/util/AbstractList" "modCount" "I" (.int mc)) (pf2 : Fld Z h0 a0 "java/util/ArrayList" "elementData" "[Ljava/lang/Object;" (.ref w_DEE1)) (pf3 : Fld Z h0 a0 "java/util/ArrayList" "size" "I" (.int (0 : Int32))) (pf4 : n0 ≤ a0) :
    MetFree l y16 (head1 (Jvm.Cond.code y16 jdk_38_method_6_code 4 (some (.array (.object "java/lang/Object"))) :: ws) ({ frames := 1, cells := 1, slots := 10, locals := 14 } : Room)) (fun a U => a = #[(.ref a0), (.int (1 : Int32))] ∧ Z.Warmed39 U.vm ∧ U.heap = h0) (fun _ _ _ _ _ => True) (fun _ U o U' => ∃ v L, o = .returned v ∧ Q16 Z a0 w_EE0 w_DEE1 k_EE0 k_DEE1 mc h0 n0 v U'.heap L ∧ FrameEnd U o U' L ({ frames := 1, cells := 1, slots := 10, locals := 14 } : Room).cells ({ frames := 1, cells := 1, slots := 10, locals := 14 } : Room).slots) := by
 refine MetFree.of_bodySF (plainFor_of_name pn_3) hisR ?_
 intro p e s m args below meth c s₁ Bd hml0 hP hK
 obtain ⟨rfl, hZ, hh⟩ := hP
 have hx := Bd.exec
 have hby := Bd.bytes
 have hml : c.maxLocals = 4 := hml0
 have hown : s.vm.findClass "java/util/ArrayList" = some m.cls := findClass_of_methodNamed Bd.named
 have hnm := (name_of_methodNamed Bd.named Bd.method).1
 have X0 : Stand p l e ({ frames := 1, cells := 1, slots := 10, locals := 14 } : Room) s m #[(.ref a0), (.int (1 : Int32))] below meth c s₁ [] 0 0 := Stand.of_body Bd
 have e0 : s₁.heap = h0 := by rw [← hh, Bd.state]; rfl
 have N0 := Fr.nil n0
 have Z0 : n0 ≤ h0.size := Nat.le_trans (Nat.le_of_eq O0.1.symm) O0.2.1
 obtain ⟨S0, hS0⟩ : ∃ z, z = s₁.setTop (entryFrame m #[(.ref a0), (.int (1 : Int32))] 4) := ⟨_, rfl⟩
 have pre0 : ∀ tg, AT p e below s₁ m 0 #[rv a0, iv (1 : Int32), un, un] [] tg → Steps p.tables e below S0 tg := fun tg kg => by rw [hS0]; exact castTop (ef_16 m a0) kg
 obtain ⟨S_EMPTY_ELEMENTDATA, E_EE0, S_DEFAULTCAPACITY_EMPTY_ELEMENTDATA, E_DEE1, V_EE0, V_DEE1⟩ := id HW
 obtain ⟨T1, X1, e1, st1⟩ := getF X0 hx hZ hown (host := "") (Or.inl (ow hw 41 rfl)) Via.refl e0 pf2 (g := (mkF m 1 #[rv a0, iv (1 : Int32), un, un] [(.ref a0)])) rfl rfl (hb hby d16_1)
 obtain ⟨cl2, Ar2, q2, S2, N2, H2, G2⟩ := id (V_DEE1.ext O0.2)
 obtain ⟨T3, X3, e3, st3⟩ := getF X1 hx hZ hown (host := "") (Or.inl (ow hw 41 rfl)) Via.refl e1 pf2 (g := (mkF m 11 #[rv a0, iv (1 : Int32), iv (0 : Int32), un] [(.ref a0)])) rfl rfl (hb hby d16_11)
 obtain ⟨T4, X4, e4, st4⟩ := getS2 X3 hx hZ hown (host := "") (Or.inl (ow hw 40 rfl)) Via.refl e3 (S_DEFAULTCAPACITY_EMPTY_ELEMENTDATA.ext O0.2) (g := (mkF m 14 #[rv a0, iv (1 : Int32), iv (0 : Int32), un] [(.ref w_DEE1)])) rfl (hb hby d16_14)
 obtain ⟨_, _, ⟨T5, L5, k5, n5⟩, -, X5, ⟨Lc5, hQ5, l5, y5, z5⟩, st5⟩ := Jvm.LawKit.callS X4 hx (y := y17) hown (mvT hZ (ow hw 98 rfl)) (mvT hZ (ow hw 99 rfl)) (mvT hZ (ow hw 100 rfl)) (mvT hZ (ow hw 101 rfl)) (by decide) (backOf (W := 1) (rm17 l Z ar hw [] (10 : Int32) (1 : Int32) h0 n0 O0) hZ (ow hw 101 rfl) (ow hw 100 rfl) (by decide) (by decide)) (g := (mkF m 49 #[rv a0, iv (1 : Int32), iv (0 : Int32), un] [(.int (1 : Int32)), (.int (10 : Int32)), (.ref a0)])) rfl (by rw [hml]; rfl) (argsL := [(.int (10 : Int32)), (.int (1 : Int32))]) (rest := [(.ref a0)]) (lenOf pd_0 rfl) rfl (by show 2 * 0 + _ ≤ _; exact Nat.le_of_eq rfl) (hb hby d16_49) (fun _ _ => ⟨rfl, e4, (by decide : 0 + 0 ≤ _), (by decide : 0 + 0 ≤ _)⟩)
 dsimp only [Pt.U, Pt.locs, Pt.cells, Pt.slots] at X5 l5 y5 z5 st5 hQ5
 subst l5 y5 z5
 obtain ⟨rfl, N5q, e5⟩ := hQ5
 have N5 := Fr.app N0 N5q
 have r5 : (f17 (10 : Int32) (1 : Int32)) = (10 : Int32) := by rw [f17, if_neg ((by decide) : ¬ ((10 : Int32) < (1 : Int32)))] <;> decide
 rw [r5] at st5
 obtain ⟨T6, h6, k6, X6, e6, E6, A6, B6, st6⟩ := newR X5 hx hZ hown (ow hw 102 rfl) (ow hw 103 rfl) e5 (g := (mkF m 52 #[rv a0, iv (1 : Int32), iv (0 : Int32), un] [(.int (10 : Int32)), (.ref a0)])) rfl (hb hby d16_52) rfl (by decide) (cap := 10) (by decide) (by decide) (by decide) (by decide)
 obtain ⟨b6, g6⟩ : ∃ z, z = h0.size := ⟨_, rfl⟩
 rw [← g6] at A6 st6
 have ne6_7 : a0 ≠ b6 := Nat.ne_of_lt (Nat.lt_of_lt_of_le (pf0).lt (Nat.le_of_eq g6.symm))
 have gn6 : n0 ≤ b6 := Nat.le_trans (Nat.le_trans (Nat.le_of_eq O0.1.symm) O0.2.1) (Nat.le_of_eq g6.symm)
 have sz6 : h0.size ≤ b6 := Nat.le_trans (Keep.refl h0 [a0]).1 (Nat.le_of_eq g6.symm)
 have E6_8 := pf0.ext E6
 have F6_9 := pf1.ext E6
 have F6_10 := pf2.ext E6
 have F6_11 := pf3.ext E6
 have K6 := (Keep.refl h0 [a0]).ext E6
 have O6 := O0.ext E6
 have V6_12 : Arv Z h6 b6 k6 (.object "java/lang/Object") (10 : Int32) [.null, .null, .null, .null, .null, .null, .null, .null, .null, .null] .null := (Arv.new A6 (by decide)).pad (pad_rep [] .null 10)
 obtain ⟨T13, h13, X13, e13, W13, st13⟩ := putF X6 hx hZ hown (host := "") (Or.inl (ow hw 41 rfl)) Via.refl e6 F6_10 E6_8 (Or.inl (ow hw 42 rfl)) (ow hw 20 rfl) (ty := (.array (.object "java/lang/Object"))) (by decide) rfl rfl (g := (mkF m 56 #[rv a0, iv (1 : Int32), iv (0 : Int32), un] [(.ref b6), (.ref a0), (.ref b6)])) rfl rfl (hb hby d16_56)
 have E13_14 := E6_8.wr W13
 have F13_15 := F6_9.other W13 (Or.inr (slot_ne (Or.inl (ow hw 39 rfl)) (Or.inl (ow hw 42 rfl)) (by decide) (t := .int) (t' := (.array (.object "java/lang/Object"))) (by decide) (by decide)))
 have F13_16 : Fld Z h13 a0 "java/util/ArrayList" "elementData" "[Ljava/lang/Object;" (.ref b6) := F6_10.same W13
 have F13_17 := F6_11.other W13 (Or.inr (slot_ne (Or.inl (ow hw 82 rfl)) (Or.inl (ow hw 42 rfl)) (by decide) (t := .int) (t' := (.array (.object "java/lang/Object"))) (by decide) (by decide)))
 have V13_18 := V6_12.other W13 (Ne.symm ne6_7)
 have K13 := K6.wr W13 (Or.inl (List.mem_of_getElem? (i := 0) rfl))
 have O13 := O6.wr W13 pf4
 have N13 := Fr.snoc X13 N5 pf4
 obtain ⟨fs, hr, hrun, hended, hW, hsame⟩ := X13.leave (v := some (.ref b6)) (fun h => by rw [Bd.returns] at h; cases h)
 subst hS0
 refine ⟨_, _, pre0 _ ?_, hrun, hended, _, _, rfl, ?_, ⟨_, rfl⟩, hW, hsame.mono (by decide) (by decide)⟩
 ·
  refine XS.aloadN X0.here hx rfl (hb hby d16_0) rfl rfl ?_
  refine st1 _ ?_
  refine X1.arraylength hx (by rw [e1]; exact Ar2.1) (State.isArrayOf_alike hZ.alike Ar2.2.1) (g := (mkF m 4 #[rv a0, iv (1 : Int32), un, un] [(.ref w_DEE1)])) rfl rfl (hb hby d16_4) _ ?_
  rw [len_of S2 N2]
  refine XS.istoreN X1.here hx rfl (hb hby d16_5) rfl (l' := #[rv a0, iv (1 : Int32), iv (0 : Int32), un]) rfl ?_
  refine XS.iloadN X1.here hx rfl (hb hby d16_6) rfl ?_
  show AT p e below T1 m 7 #[rv a0, iv (1 : Int32), iv (0 : Int32), un] [(.int (0 : Int32))] _
  refine XS.ifNo X1.here hx rfl (hb hby d16_7) rfl (XT.i0_gt_f ((by decide) : ¬ ((0 : Int32) < (0 : Int32)))) ?_
  refine XS.aloadN X1.here hx rfl (hb hby d16_10) rfl rfl ?_
  show AT p e below T1 m 11 #[rv a0, iv (1 : Int32), iv (0 : Int32), un] [(.ref a0)] _
  refine st3 _ ?_
  refine st4 _ ?_
  show AT p e below T4 m 17 #[rv a0, iv (1 : Int32), iv (0 : Int32), un] [(.ref w_DEE1), (.ref w_DEE1)] _
  refine Jvm.RoadKit.acmp (g := (mkF m 17 #[rv a0, iv (1 : Int32), iv (0 : Int32), un] [(.ref w_DEE1), (.ref w_DEE1)])) X4 hx rfl rfl rfl (pc0 := 17) (pc' := 45) (same := true) rfl (hb hby d16_17) rfl (decide_eq_true rfl) (by decide) (by decide) ?_
  refine XS.aloadN X4.here hx rfl (hb hby d16_45) rfl rfl ?_
  refine XS.bipush X4.here hx rfl (hb hby d16_46) ?_
  refine XS.iloadN X4.here hx rfl (hb hby d16_48) rfl ?_
  refine st5 _ ?_
  show AT p e below T5 m 52 #[rv a0, iv (1 : Int32), iv (0 : Int32), un] [(.int (10 : Int32)), (.ref a0)] _
  refine st6 _ ?_
  refine XS.dupX1 X6.here hx rfl (hb hby d16_55) rfl rfl rfl ?_
  refine st13 _ ?_
  exact retOut X13 hx (t := (.array (.object "java/lang/Object"))) (i := .areturn) Bd.returns rfl (Or.inr (Or.inr (Or.inr (Or.inr ⟨rfl, rfl, rfl⟩)))) (hb hby d16_59) hr
 ·
  show Q16 Z a0 w_EE0 w_DEE1 k_EE0 k_DEE1 mc h0 n0 _ T13.heap _
  rw [e13]
  exact ⟨b6, k6, rfl, N13, K13, E13_14, F13_15, F13_17, F13_16, V13_18, B6, sz6⟩

theorem d15_0 : decode jdk_38_method_7_code 0 = .ok (.aload_n 0, 1) := by decide +kernel
theorem d15_1 : decode jdk_38_method_7_code 1 = .ok (.aload_n 0, 1) := by decide +kernel
theorem d15_2 : decode jdk_38_method_7_code 2 = .ok (.getfield 48, 3) := by decide +kernel
theorem d15_5 : decode jdk_38_method_7_code 5 = .ok (.iconst 1, 1) := by decide +kernel
theorem d15_6 : decode jdk_38_method_7_code 6 = .ok (.iadd, 1) := by decide +kernel
theorem d15_7 : decode jdk_38_method_7_code 7 = .ok (.invokevirtual 69, 3) := by decide +kernel
theorem d15_10 : decode jdk_38_method_7_code 10 = .ok (.areturn, 1) := by decide +kernel
theorem ef_15 (m : MethodId) (a0 : Addr) : entryFrame m #[(.ref a0)] 1 = mkF m 0 #[rv a0] [] := by first | (simp [entryFrame, mkF, argsToLocals, Value.category]; done) | rfl
def Q15 (Z : State) (a0 : Addr) (w_EE0 : Addr) (w_DEE1 : Addr) (k_EE0 : ClassId) (k_DEE1 : ClassId) (mc : Int32) (h0 : Heap) (n0 : Nat) (v : Option Value) (h : Heap) (L : List Loc) : Prop := ∃ (es : Addr) (ke : ClassId), v = some (.ref es) ∧ Fr n0 L ∧ Keep h0 h [a0] ∧ Exa Z h a0 "java/util/ArrayList" ∧ Fld Z h a0 "java/util/AbstractList" "modCount" "I" (.int mc) ∧ Fld Z h a0 "java/util/ArrayList" "size" "I" (.int (0 : Int32)) ∧ Fld Z h a0 "java/util/ArrayList" "elementData" "[Ljava/lang/Object;" (.ref es) ∧ Arv Z h es ke (.object "java/lang/Object") (10 : Int32) [.null, .null, .null, .null, .null, .null, .null, .null, .null, .null] .null ∧ Ovr Z ke "java/lang/Object" ∧ h0.size ≤ es
set_option maxRecDepth 65536 in
set_option maxHeartbeats 40000000 in
theorem rm15 (l : Launch) (Z : State) (ar : Array Value) (hw : ∀ d ∈ tables_1, d.before ar Z = true) (ws : List Jvm.Cond) (a0 : Addr) (w_EE0 : Addr) (w_DEE1 : Addr) (k_EE0 : ClassId) (k_DEE1 : ClassId) (mc : Int32) (h0 : Heap) (n0 : Nat) (O0 : Old Z n0 h0) (HW : Wd Z w_EE0 w_DEE1 k_EE0 k_DEE1) (pf0 : Exa Z h0 a0 "java/util/ArrayList") (pf1 : Fld Z h0 a0 "java/util/AbstractList" "modCount" "I" (.int mc)) (pf2 : Fld Z h0 a0 "java/util/ArrayList" "elementData" "[Ljava/lang/Object;" (.ref w_DEE1)) (pf3 : Fld Z h0 a0 "java/util/ArrayList" "size" "I" (.int (0 : Int32))) (pf4 : n0 ≤ a0) :
    MetFree l y15 (head1 (Jvm.Cond.code y15 jdk_38_method_7_code 1 (some (.array (.object "java/lang/Object"))) :: ws) ({ frames := 2, cells := 1, slots := 10, locals := 29 } : Room)) (fun a U => a = #[(.ref a0)] ∧ Z.Warmed39 U.vm ∧ U.heap = h0) (fun _ _ _ _ _ => True) (fun _ U o U' => ∃ v L, o = .returned v ∧ Q15 Z a0 w_EE0 w_DEE1 k_EE0 k_DEE1 mc h0 n0 v U'.heap L ∧ FrameEnd U o U' L ({ frames := 2, cells := 1, slots := 10, locals := 29 } : Room).cells ({ frames := 2, cells := 1, slots := 10, locals := 29 } : Room).slots) := by
 refine MetFree.of_bodySF (plainFor_of_name pn_3) hisR ?_
 intro p e s m args below meth c s₁ Bd hml0 hP hK
 obtain ⟨rfl, hZ, hh⟩ := hP
 have hx := Bd.exec
 have hby := Bd.bytes
 have hml : c.maxLocals = 1 := hml0
 have hown : s.vm.findClass "java/util/ArrayList" = some m.cls := findClass_of_methodNamed Bd.named
 have hnm := (name_of_methodNamed Bd.named Bd.method).1
 have X0 : Stand p l e ({ frames := 2, cells := 1, slots := 10, locals := 29 } : Room) s m #[(.ref a0)] below meth c s₁ [] 0 0 := Stand.of_body Bd
 have e0 : s₁.heap = h0 := by rw [← hh, Bd.state]; rfl
 have N0 := Fr.nil n0
 have Z0 : n0 ≤ h0.size := Nat.le_trans (Nat.le_of_eq O0.1.symm) O0.2.1
 obtain ⟨S0, hS0⟩ : ∃ z, z = s₁.setTop (entryFrame m #[(.ref a0)] 1) := ⟨_, rfl⟩
 have pre0 : ∀ tg, AT p e below s₁ m 0 #[rv a0] [] tg → Steps p.tables e below S0 tg := fun tg kg => by rw [hS0]; exact castTop (ef_15 m a0) kg
 obtain ⟨S_EMPTY_ELEMENTDATA, E_EE0, S_DEFAULTCAPACITY_EMPTY_ELEMENTDATA, E_DEE1, V_EE0, V_DEE1⟩ := id HW
 obtain ⟨T1, X1, e1, st1⟩ := getF X0 hx hZ hown (host := "") (Or.inl (ow hw 81 rfl)) Via.refl e0 pf3 (g := (mkF m 2 #[rv a0] [(.ref a0), (.ref a0)])) rfl rfl (hb hby d15_2)
 obtain ⟨cq2, q2, q2'⟩ := pf0.cell
 obtain ⟨_, _, ⟨T2, L2, k2, n2⟩, -, X2, ⟨Lc2, hQ2, l2, y2, z2⟩, st2⟩ := X1.privateBack hx (y := y16) hown (mvT hZ (ow hw 93 rfl)) (mvT hZ (ow hw 94 rfl)) (mvT hZ (ow hw 96 rfl)) (Cond.privateMethod_at (mvP hZ (ow hw 95 rfl) (args := #[]))) (mvT hZ (ow hw 97 rfl)) (by decide) (backOf (W := 0) (rm16 l Z ar hw [] a0 w_EE0 w_DEE1 k_EE0 k_DEE1 mc h0 n0 O0 HW pf0 pf1 pf2 pf3 pf4) hZ (ow hw 97 rfl) (ow hw 21 rfl) (by decide) (by decide)) (g := (mkF m 7 #[rv a0] [(.int (1 : Int32)), (.ref a0)])) rfl (by rw [hml]; rfl) (Steps.refl _) (a := a0) (by rw [e1]; exact q2) q2' (argsL := [(.int (1 : Int32))]) (rest := []) (lenOf pd_3 rfl) rfl (by show 2 * 0 + _ ≤ _; exact Nat.le_of_eq rfl) (hb hby d15_7) (fun _ _ => ⟨rfl, e1, (by decide : 0 + 1 ≤ _), (by decide : 0 + 10 ≤ _)⟩)
 dsimp only [Pt.U, Pt.locs, Pt.cells, Pt.slots] at X2 l2 y2 z2 st2 hQ2
 subst l2 y2 z2
 obtain ⟨es_2, ke_2, rfl, N2q, Kq2, u2_0, u2_1, u2_2, u2_3, u2_4, u2_5, u2_6⟩ := hQ2
 have N2 := Fr.app N0 N2q
 have E2_3 := pf0.keep Kq2
 have K2 := (Keep.refl h0 [a0]).trans Kq2 (allS (Or.inl (List.mem_of_getElem? (i := 0) rfl)) all0)
 have O2 := O0.keep Kq2 (allS pf4 all0)
 have sz4 : h0.size ≤ es_2 := Nat.le_trans (Keep.refl h0 [a0]).1 u2_6
 have gn4 : n0 ≤ es_2 := Nat.le_trans (Nat.le_trans (Nat.le_of_eq O0.1.symm) O0.2.1) u2_6
 have ne5 : a0 ≠ es_2 := Nat.ne_of_lt (Nat.lt_of_lt_of_le (pf0).lt u2_6)
 obtain ⟨fs, hr, hrun, hended, hW, hsame⟩ := X2.leave (v := some (.ref es_2)) (fun h => by rw [Bd.returns] at h; cases h)
 subst hS0
 refine ⟨_, _, pre0 _ ?_, hrun, hended, _, _, rfl, ?_, ⟨_, rfl⟩, hW, hsame.mono (by decide) (by decide)⟩
 ·
  refine XS.aloadN X0.here hx rfl (hb hby d15_0) rfl rfl ?_
  refine XS.aloadN X0.here hx rfl (hb hby d15_1) rfl rfl ?_
  refine st1 _ ?_
  refine XS.iconst X1.here hx rfl (hb hby d15_5) ?_
  refine XS.iadd X1.here hx rfl (hb hby d15_6) rfl ?_
  refine st2.trans ?_
  show AT p e below T2 m 10 #[rv a0] [(.ref es_2)] _
  exact retOut X2 hx (t := (.array (.object "java/lang/Object"))) (i := .areturn) Bd.returns rfl (Or.inr (Or.inr (Or.inr (Or.inr ⟨rfl, rfl, rfl⟩)))) (hb hby d15_10) hr
 ·
  show Q15 Z a0 w_EE0 w_DEE1 k_EE0 k_DEE1 mc h0 n0 _ T2.heap _
  exact ⟨es_2, ke_2, rfl, N2, K2, E2_3, u2_1, u2_2, u2_3, u2_4, u2_5, sz4⟩

theorem d14_0 : decode jdk_38_method_24_code 0 = .ok (.iload_n 3, 1) := by decide +kernel
theorem d14_1 : decode jdk_38_method_24_code 1 = .ok (.aload_n 2, 1) := by decide +kernel
theorem d14_2 : decode jdk_38_method_24_code 2 = .ok (.arraylength, 1) := by decide +kernel
theorem d14_3 : decode jdk_38_method_24_code 3 = .ok (.if_icmp .ne 8, 3) := by decide +kernel
theorem d14_6 : decode jdk_38_method_24_code 6 = .ok (.aload_n 0, 1) := by decide +kernel
theorem d14_7 : decode jdk_38_method_24_code 7 = .ok (.invokevirtual 129, 3) := by decide +kernel
theorem d14_10 : decode jdk_38_method_24_code 10 = .ok (.astore_n 2, 1) := by decide +kernel
theorem d14_11 : decode jdk_38_method_24_code 11 = .ok (.aload_n 2, 1) := by decide +kernel
theorem d14_12 : decode jdk_38_method_24_code 12 = .ok (.iload_n 3, 1) := by decide +kernel
theorem d14_13 : decode jdk_38_method_24_code 13 = .ok (.aload_n 1, 1) := by decide +kernel
theorem d14_14 : decode jdk_38_method_24_code 14 = .ok (.aastore, 1) := by decide +kernel
theorem d14_15 : decode jdk_38_method_24_code 15 = .ok (.aload_n 0, 1) := by decide +kernel
theorem d14_16 : decode jdk_38_method_24_code 16 = .ok (.iload_n 3, 1) := by decide +kernel
theorem d14_17 : decode jdk_38_method_24_code 17 = .ok (.iconst 1, 1) := by decide +kernel
theorem d14_18 : decode jdk_38_method_24_code 18 = .ok (.iadd, 1) := by decide +kernel
theorem d14_19 : decode jdk_38_method_24_code 19 = .ok (.putfield 48, 3) := by decide +kernel
theorem d14_22 : decode jdk_38_method_24_code 22 = .ok (.return_, 1) := by decide +kernel
theorem ef_14_e (m : MethodId) (a0 : Addr) (a1 : Addr) : entryFrame m #[(.ref a0), (.ref a1), (.ref w_DEE1), (.int (0 : Int32))] 4 = mkF m 0 #[rv a0, rv a1, rv w_DEE1, iv (0 : Int32)] [] := by first | (simp [entryFrame, mkF, argsToLocals, Value.category]; done) | rfl
def Q14_e (Z : State) (a0 : Addr) (a1 : Addr) (w_EE0 : Addr) (w_DEE1 : Addr) (k_EE0 : ClassId) (k_DEE1 : ClassId) (mc : Int32) (h0 : Heap) (n0 : Nat) (v : Option Value) (h : Heap) (L : List Loc) : Prop := ∃ (es : Addr) (ke : ClassId), v = none ∧ Fr n0 L ∧ Keep h0 h [a0] ∧ Exa Z h a0 "java/util/ArrayList" ∧ Fld Z h a0 "java/util/AbstractList" "modCount" "I" (.int mc) ∧ Fld Z h a0 "java/util/ArrayList" "size" "I" (.int (1 : Int32)) ∧ Fld Z h a0 "java/util/ArrayList" "elementData" "[Ljava/lang/Object;" (.ref es) ∧ Arv Z h es ke (.object "java/lang/Object") (10 : Int32) [(.ref a1), .null, .null, .null, .null, .null, .null, .null, .null, .null] .null ∧ Ovr Z ke "java/lang/Object" ∧ h0.size ≤ es
set_option maxRecDepth 65536 in
set_option maxHeartbeats 40000000 in
theorem rm14_e (l : Launch) (Z : State) (ar : Array Value) (hw : ∀ d ∈ tables_1, d.before ar Z = true) (ws : List Jvm.Cond) (a0 : Addr) (a1 : Addr) (w_EE0 : Addr) (w_DEE1 : Addr) (k_EE0 : ClassId) (k_DEE1 : ClassId) (mc : Int32) (h0 : Heap) (n0 : Nat) (O0 : Old Z n0 h0) (HW : Wd Z w_EE0 w_DEE1 k_EE0 k_DEE1) (pf0 : Exa Z h0 a0 "java/util/ArrayList") (pf1 : Exa Z h0 a1 "[B") (pf2 : Fld Z h0 a0 "java/util/AbstractList" "modCount" "I" (.int mc)) (pf3 : Fld Z h0 a0 "java/util/ArrayList" "elementData" "[Ljava/lang/Object;" (.ref w_DEE1)) (pf4 : Fld Z h0 a0 "java/util/ArrayList" "size" "I" (.int (0 : Int32))) (pf5 : n0 ≤ a0) (pf6 : a0 ≠ a1) :
    MetFree l y14 (head1 (Jvm.Cond.code y14 jdk_38_method_24_code 4 none :: ws) ({ frames := 3, cells := 1, slots := 10, locals := 41 } : Room)) (fun a U => a = #[(.ref a0), (.ref a1), (.ref w_DEE1), (.int (0 : Int32))] ∧ Z.Warmed39 U.vm ∧ U.heap = h0) (fun _ _ _ _ _ => True) (fun _ U o U' => ∃ v L, o = .returned v ∧ Q14_e Z a0 a1 w_EE0 w_DEE1 k_EE0 k_DEE1 mc h0 n0 v U'.heap L ∧ FrameEnd U o U' L ({ frames := 3, cells := 1, slots := 10, locals := 41 } : Room).cells ({ frames := 3, cells := 1, slots := 10, locals := 41 } : Room).slots) := by
 refine MetFree.of_bodySF (plainFor_of_name pn_3) hisR ?_
 intro p e s m args below meth c s₁ Bd hml0 hP hK
 obtain ⟨rfl, hZ, hh⟩ := hP
 have hx := Bd.exec
 have hby := Bd.bytes
 have hml : c.maxLocals = 4 := hml0
 have hown : s.vm.findClass "java/util/ArrayList" = some m.cls := findClass_of_methodNamed Bd.named
 have hnm := (name_of_methodNamed Bd.named Bd.method).1
 have X0 : Stand p l e ({ frames := 3, cells := 1, slots := 10, locals := 41 } : Room) s m #[(.ref a0), (.ref a1), (.ref w_DEE1), (.int (0 : Int32))] below meth c s₁ [] 0 0 := Stand.of_body Bd
 have e0 : s₁.heap = h0 := by rw [← hh, Bd.state]; rfl
 have N0 := Fr.nil n0
 have Z0 : n0 ≤ h0.size := Nat.le_trans (Nat.le_of_eq O0.1.symm) O0.2.1
 obtain ⟨S0, hS0⟩ : ∃ z, z = s₁.setTop (entryFrame m #[(.ref a0), (.ref a1), (.ref w_DEE1), (.int (0 : Int32))] 4) := ⟨_, rfl⟩
 have pre0 : ∀ tg, AT p e below s₁ m 0 #[rv a0, rv a1, rv w_DEE1, iv (0 : Int32)] [] tg → Steps p.tables e below S0 tg := fun tg kg => by rw [hS0]; exact castTop (ef_14_e m a0 a1) kg
 obtain ⟨S_EMPTY_ELEMENTDATA, E_EE0, S_DEFAULTCAPACITY_EMPTY_ELEMENTDATA, E_DEE1, V_EE0, V_DEE1⟩ := id HW
 obtain ⟨cl1, Ar1, q1, S1, N1, H1, G1⟩ := id (V_DEE1.ext O0.2)
 obtain ⟨cq2, q2, q2'⟩ := pf0.cell
 obtain ⟨_, _, ⟨T2, L2, k2, n2⟩, -, X2, ⟨Lc2, hQ2, l2, y2, z2⟩, st2⟩ := X0.privateBack hx (y := y15) hown (mvT hZ (ow hw 88 rfl)) (mvT hZ (ow hw 89 rfl)) (mvT hZ (ow hw 91 rfl)) (Cond.privateMethod_at (mvP hZ (ow hw 90 rfl) (args := #[]))) (mvT hZ (ow hw 92 rfl)) (by decide) (backOf (W := 0) (rm15 l Z ar hw [] a0 w_EE0 w_DEE1 k_EE0 k_DEE1 mc h0 n0 O0 HW pf0 pf2 pf3 pf4 pf5) hZ (ow hw 92 rfl) (ow hw 21 rfl) (by decide) (by decide)) (g := (mkF m 7 #[rv a0, rv a1, rv w_DEE1, iv (0 : Int32)] [(.ref a0)])) rfl (by rw [hml]; rfl) (Steps.refl _) (a := a0) (by rw [e0]; exact q2) q2' (argsL := []) (rest := []) (lenOf pd_4 rfl) rfl (by show 2 * 0 + _ ≤ _; exact Nat.le_of_eq rfl) (hb hby d14_7) (fun _ _ => ⟨rfl, e0, (by decide : 0 + 1 ≤ _), (by decide : 0 + 10 ≤ _)⟩)
 dsimp only [Pt.U, Pt.locs, Pt.cells, Pt.slots] at X2 l2 y2 z2 st2 hQ2
 subst l2 y2 z2
 obtain ⟨es_2, ke_2, rfl, N2q, Kq2, u2_0, u2_1, u2_2, u2_3, u2_4, u2_5, u2_6⟩ := hQ2
 have N2 := Fr.app N0 N2q
 have E2_3 := pf0.keep Kq2
 have E2_4 := pf1.keep Kq2
 have K2 := (Keep.refl h0 [a0]).trans Kq2 (allS (Or.inl (List.mem_of_getElem? (i := 0) rfl)) all0)
 have O2 := O0.keep Kq2 (allS pf5 all0)
 have sz5 : h0.size ≤ es_2 := Nat.le_trans (Keep.refl h0 [a0]).1 u2_6
 have gn5 : n0 ≤ es_2 := Nat.le_trans (Nat.le_trans (Nat.le_of_eq O0.1.symm) O0.2.1) u2_6
 have ne6 : a0 ≠ es_2 := Nat.ne_of_lt (Nat.lt_of_lt_of_le (pf0).lt u2_6)
 have ne7 : a1 ≠ es_2 := Nat.ne_of_lt (Nat.lt_of_lt_of_le (pf1).lt u2_6)
 obtain ⟨cl8, Ar8, q8, S8, M8, H8, G8⟩ := id u2_4
 have hin8 := own_in (0 : Int32) S8 ⟨by decide, by decide⟩
 obtain ⟨T8, h8, X8, e8, W8, st8⟩ := stR X2 hx hZ rfl Ar8 (j := (0 : Int32)) hin8 rfl (Sto.ofV Ar8 q8 u2_5 (Ins.of_exa E2_4 (ow hw 104 rfl))) (g := (mkF m 14 #[rv a0, rv a1, rv es_2, iv (0 : Int32)] [(.ref a1), (.int (0 : Int32)), (.ref es_2)])) rfl rfl (hb hby d14_14)
 have V8_9 : Arv Z h8 es_2 ke_2 (.object "java/lang/Object") (10 : Int32) [(.ref a1), .null, .null, .null, .null, .null, .null, .null, .null, .null] .null := Arv.set Ar8 q8 S8 M8 H8 G8 rfl W8 0 rfl (Nat.le_of_ble_eq_true rfl)
 have E8_10 := E2_3.wr W8
 have E8_11 := E2_4.wr W8
 have F8_12 := u2_1.other W8 (Or.inl ne6)
 have F8_13 := u2_2.other W8 (Or.inl ne6)
 have F8_14 := u2_3.other W8 (Or.inl ne6)
 have K8 := K2.wr W8 (Or.inr sz5)
 have O8 := O2.wr W8 gn5
 have N8 := Fr.snoc X8 N2 gn5
 obtain ⟨T15, h15, X15, e15, W15, st15⟩ := putF X8 hx hZ hown (host := "") (Or.inl (ow hw 81 rfl)) Via.refl e8 F8_13 E8_10 (Or.inl (ow hw 82 rfl)) (ow hw 20 rfl) (ty := .int) (by decide) rfl rfl (g := (mkF m 19 #[rv a0, rv a1, rv es_2, iv (0 : Int32)] [(.int (1 : Int32)), (.ref a0)])) rfl rfl (hb hby d14_19)
 have E15_16 := E8_10.wr W15
 have E15_17 := E8_11.wr W15
 have F15_18 := F8_12.other W15 (Or.inr (slot_ne (Or.inl (ow hw 39 rfl)) (Or.inl (ow hw 82 rfl)) (by decide) (t := .int) (t' := .int) (by decide) (by decide)))
 have F15_19 : Fld Z h15 a0 "java/util/ArrayList" "size" "I" (.int (1 : Int32)) := F8_13.same W15
 have F15_20 := F8_14.other W15 (Or.inr (slot_ne (Or.inl (ow hw 42 rfl)) (Or.inl (ow hw 82 rfl)) (by decide) (t := (.array (.object "java/lang/Object"))) (t' := .int) (by decide) (by decide)))
 have V15_21 := V8_9.other W15 (Ne.symm ne6)
 have K15 := K8.wr W15 (Or.inl (List.mem_of_getElem? (i := 0) rfl))
 have O15 := O8.wr W15 pf5
 have N15 := Fr.snoc X15 N8 pf5
 obtain ⟨fs, hr, hrun, hended, hW, hsame⟩ := X15.leave (v := none) (fun _ => rfl)
 subst hS0
 refine ⟨_, _, pre0 _ ?_, hrun, hended, _, _, rfl, ?_, ⟨_, rfl⟩, hW, hsame.mono (by decide) (by decide)⟩
 ·
  refine XS.iloadN X0.here hx rfl (hb hby d14_0) rfl ?_
  refine XS.aloadN X0.here hx rfl (hb hby d14_1) rfl rfl ?_
  refine X0.arraylength hx (by rw [e0]; exact Ar1.1) (State.isArrayOf_alike hZ.alike Ar1.2.1) (g := (mkF m 2 #[rv a0, rv a1, rv w_DEE1, iv (0 : Int32)] [(.ref w_DEE1), (.int (0 : Int32))])) rfl rfl (hb hby d14_2) _ ?_
  rw [len_of S1 N1]
  show AT p e below s₁ m 3 #[rv a0, rv a1, rv w_DEE1, iv (0 : Int32)] [(.int (0 : Int32)), (.int (0 : Int32))] _
  refine XS.icmpNo X0.here hx rfl (hb hby d14_3) rfl (XT.ii_ne_f ((by decide) : (0 : Int32) = (0 : Int32))) ?_
  refine XS.aloadN X0.here hx rfl (hb hby d14_6) rfl rfl ?_
  refine st2.trans ?_
  refine XS.astoreN X2.here hx rfl (hb hby d14_10) rfl rfl (l' := #[rv a0, rv a1, rv es_2, iv (0 : Int32)]) rfl ?_
  show AT p e below T2 m 11 #[rv a0, rv a1, rv es_2, iv (0 : Int32)] [] _
  refine XS.aloadN X2.here hx rfl (hb hby d14_11) rfl rfl ?_
  refine XS.iloadN X2.here hx rfl (hb hby d14_12) rfl ?_
  refine XS.aloadN X2.here hx rfl (hb hby d14_13) rfl rfl ?_
  refine st8 _ ?_
  refine XS.aloadN X8.here hx rfl (hb hby d14_15) rfl rfl ?_
  refine XS.iloadN X8.here hx rfl (hb hby d14_16) rfl ?_
  show AT p e below T8 m 17 #[rv a0, rv a1, rv es_2, iv (0 : Int32)] [(.int (0 : Int32)), (.ref a0)] _
  refine XS.iconst X8.here hx rfl (hb hby d14_17) ?_
  refine XS.iadd X8.here hx rfl (hb hby d14_18) rfl ?_
  refine st15 _ ?_
  exact X15.returnOut hx Bd.returns (hb hby d14_22) hr
 ·
  show Q14_e Z a0 a1 w_EE0 w_DEE1 k_EE0 k_DEE1 mc h0 n0 _ T15.heap _
  rw [e15]
  exact ⟨es_2, ke_2, rfl, N15, K15, E15_16, F15_18, F15_19, F15_20, V15_21, u2_5, sz5⟩


theorem own_123 {z : Int32} (h : 1 ≤ z.toInt ∧ z.toInt ≤ 3) : z = (1 : Int32) ∨ z = (2 : Int32) ∨ z = (3 : Int32) := by
  have l1 : ((1 : Int32)).toInt = 1 := rfl
  have l2 : ((2 : Int32)).toInt = 2 := rfl
  have l3 : ((3 : Int32)).toInt = 3 := rfl
  simp only [← Int32.toInt_inj, l1, l2, l3]
  omega

theorem ef_14_g (m : MethodId) (a0 : Addr) (a1 : Addr) (es : Addr) (p3 : Int32) : entryFrame m #[(.ref a0), (.ref a1), (.ref es), (.int p3)] 4 = mkF m 0 #[rv a0, rv a1, rv es, iv p3] [] := by first | (simp [entryFrame, mkF, argsToLocals, Value.category]; done) | rfl
def Q14_g (Z : State) (a0 : Addr) (a1 : Addr) (es : Addr) (p3 : Int32) (mc : Int32) (ke : ClassId) (vs : List Value) (h0 : Heap) (n0 : Nat) (v : Option Value) (h : Heap) (L : List Loc) : Prop := ∃ (vz : List Value), v = none ∧ Fr n0 L ∧ Keep h0 h [a0, es] ∧ Exa Z h a0 "java/util/ArrayList" ∧ Fld Z h a0 "java/util/AbstractList" "modCount" "I" (.int mc) ∧ Fld Z h a0 "java/util/ArrayList" "size" "I" (.int (p3 + (1 : Int32))) ∧ Fld Z h a0 "java/util/ArrayList" "elementData" "[Ljava/lang/Object;" (.ref es) ∧ Arv Z h es ke (.object "java/lang/Object") (10 : Int32) vz .null
set_option maxRecDepth 65536 in
set_option maxHeartbeats 40000000 in
theorem rm14_g (l : Launch) (Z : State) (ar : Array Value) (hw : ∀ d ∈ tables_1, d.before ar Z = true) (ws : List Jvm.Cond) (a0 : Addr) (a1 : Addr) (es : Addr) (p3 : Int32) (mc : Int32) (ke : ClassId) (vs : List Value) (h0 : Heap) (n0 : Nat) (O0 : Old Z n0 h0) (pf0 : Exa Z h0 a0 "java/util/ArrayList") (pf1 : Exa Z h0 a1 "[B") (pf2 : Fld Z h0 a0 "java/util/AbstractList" "modCount" "I" (.int mc)) (pf3 : Fld Z h0 a0 "java/util/ArrayList" "size" "I" (.int p3)) (pf4 : n0 ≤ a0) (pf5 : n0 ≤ es) (pf6 : a0 ≠ a1) (pf7 : a0 ≠ es) (pf8 : es ≠ a1) (pf9 : Fld Z h0 a0 "java/util/ArrayList" "elementData" "[Ljava/lang/Object;" (.ref es)) (pf10 : Arv Z h0 es ke (.object "java/lang/Object") (10 : Int32) vs .null) (pf11 : Ovr Z ke "java/lang/Object") (hsz : 1 ≤ (p3).toInt ∧ (p3).toInt ≤ 3) :
    MetFree l y14 (head1 (Jvm.Cond.code y14 jdk_38_method_24_code 4 none :: ws) ({ frames := 0, cells := 0, slots := 0, locals := 0 } : Room)) (fun a U => a = #[(.ref a0), (.ref a1), (.ref es), (.int p3)] ∧ Z.Warmed39 U.vm ∧ U.heap = h0) (fun _ _ _ _ _ => True) (fun _ U o U' => ∃ v L, o = .returned v ∧ Q14_g Z a0 a1 es p3 mc ke vs h0 n0 v U'.heap L ∧ FrameEnd U o U' L ({ frames := 0, cells := 0, slots := 0, locals := 0 } : Room).cells ({ frames := 0, cells := 0, slots := 0, locals := 0 } : Room).slots) := by
 refine MetFree.of_bodySF (plainFor_of_name pn_3) hisR ?_
 intro p e s m args below meth c s₁ Bd hml0 hP hK
 obtain ⟨rfl, hZ, hh⟩ := hP
 have hx := Bd.exec
 have hby := Bd.bytes
 have hml : c.maxLocals = 4 := hml0
 have hown : s.vm.findClass "java/util/ArrayList" = some m.cls := findClass_of_methodNamed Bd.named
 have hnm := (name_of_methodNamed Bd.named Bd.method).1
 have X0 : Stand p l e ({ frames := 0, cells := 0, slots := 0, locals := 0 } : Room) s m #[(.ref a0), (.ref a1), (.ref es), (.int p3)] below meth c s₁ [] 0 0 := Stand.of_body Bd
 have e0 : s₁.heap = h0 := by rw [← hh, Bd.state]; rfl
 have N0 := Fr.nil n0
 have Z0 : n0 ≤ h0.size := Nat.le_trans (Nat.le_of_eq O0.1.symm) O0.2.1
 obtain ⟨S0, hS0⟩ : ∃ z, z = s₁.setTop (entryFrame m #[(.ref a0), (.ref a1), (.ref es), (.int p3)] 4) := ⟨_, rfl⟩
 have pre0 : ∀ tg, AT p e below s₁ m 0 #[rv a0, rv a1, rv es, iv p3] [] tg → Steps p.tables e below S0 tg := fun tg kg => by rw [hS0]; exact castTop (ef_14_g m a0 a1 es p3) kg
 obtain ⟨zz, hzz⟩ : ∃ z, z = p3 := ⟨_, rfl⟩
 have pre1 : ∀ tg, AT p e below s₁ m 0 #[rv a0, rv a1, rv es, iv zz] [] tg → Steps p.tables e below S0 tg := by rw [hzz]; exact pre0
 have hszz : zz = (1 : Int32) ∨ zz = (2 : Int32) ∨ zz = (3 : Int32) := by rw [hzz]; exact own_123 hsz
 rcases hszz with rfl | rfl | rfl
 ·
  obtain ⟨cl2, Ar2, q2, S2, N2, H2, G2⟩ := id pf10
  obtain ⟨cl3, Ar3, q3, S3, M3, H3, G3⟩ := id pf10
  obtain ⟨cl4, Ar4, q4, S4, M4, H4, G4⟩ := (pf10).pad (pad_rep vs .null 10)
  have hin4 : ¬ ((1 : Int32) < 0 ∨ cl4.slots.size ≤ ((1 : Int32)).toNatClampNeg) := inb_of S4 ⟨by decide, by decide⟩
  obtain ⟨T4, h4, X4, e4, W4, st4⟩ := stR X0 hx hZ e0 Ar4 (j := (1 : Int32)) hin4 rfl (Sto.ofV Ar4 q4 pf11 (Ins.of_exa pf1 (ow hw 104 rfl))) (g := (mkF m 14 #[rv a0, rv a1, rv es, iv (1 : Int32)] [(.ref a1), (.int (1 : Int32)), (.ref es)])) rfl rfl (hb hby d14_14)
  have V4_5 : Arv Z h4 es ke (.object "java/lang/Object") (10 : Int32) ((vs ++ List.replicate 10 Value.null).set 1 (.ref a1)) .null := Arv.set Ar4 q4 S4 M4 H4 G4 rfl W4 1 rfl (by simp <;> omega)
  have E4_6 := pf0.wr W4
  have E4_7 := pf1.wr W4
  have F4_8 := pf2.other W4 (Or.inl pf7)
  have F4_9 := pf3.other W4 (Or.inl pf7)
  have F4_10 := pf9.other W4 (Or.inl pf7)
  have K4 := (Keep.refl h0 [a0, es]).wr W4 (Or.inl (List.mem_of_getElem? (i := 1) rfl))
  have O4 := O0.wr W4 pf5
  have N4 := Fr.snoc X4 N0 pf5
  obtain ⟨T11, h11, X11, e11, W11, st11⟩ := putF X4 hx hZ hown (host := "") (Or.inl (ow hw 81 rfl)) Via.refl e4 F4_9 E4_6 (Or.inl (ow hw 82 rfl)) (ow hw 20 rfl) (ty := .int) (by decide) rfl rfl (g := (mkF m 19 #[rv a0, rv a1, rv es, iv (1 : Int32)] [(.int (2 : Int32)), (.ref a0)])) rfl rfl (hb hby d14_19)
  have E11_12 := E4_6.wr W11
  have E11_13 := E4_7.wr W11
  have F11_14 := F4_8.other W11 (Or.inr (slot_ne (Or.inl (ow hw 39 rfl)) (Or.inl (ow hw 82 rfl)) (by decide) (t := .int) (t' := .int) (by decide) (by decide)))
  have F11_15 : Fld Z h11 a0 "java/util/ArrayList" "size" "I" (.int (2 : Int32)) := F4_9.same W11
  have F11_16 := F4_10.other W11 (Or.inr (slot_ne (Or.inl (ow hw 42 rfl)) (Or.inl (ow hw 82 rfl)) (by decide) (t := (.array (.object "java/lang/Object"))) (t' := .int) (by decide) (by decide)))
  have V11_17 := V4_5.other W11 (Ne.symm pf7)
  have K11 := K4.wr W11 (Or.inl (List.mem_of_getElem? (i := 0) rfl))
  have O11 := O4.wr W11 pf4
  have N11 := Fr.snoc X11 N4 pf4
  obtain ⟨fs, hr, hrun, hended, hW, hsame⟩ := X11.leave (v := none) (fun _ => rfl)
  subst hS0
  refine ⟨_, _, pre1 _ ?_, hrun, hended, _, _, rfl, ?_, ⟨_, rfl⟩, hW, hsame.mono (by decide) (by decide)⟩
  ·
   refine XS.iloadN X0.here hx rfl (hb hby d14_0) rfl ?_
   refine XS.aloadN X0.here hx rfl (hb hby d14_1) rfl rfl ?_
   refine X0.arraylength hx (by rw [e0]; exact Ar2.1) (State.isArrayOf_alike hZ.alike Ar2.2.1) (g := (mkF m 2 #[rv a0, rv a1, rv es, iv (1 : Int32)] [(.ref es), (.int (1 : Int32))])) rfl rfl (hb hby d14_2) _ ?_
   rw [len_of S2 N2]
   show AT p e below s₁ m 3 #[rv a0, rv a1, rv es, iv (1 : Int32)] [(.int (10 : Int32)), (.int (1 : Int32))] _
   refine XS.icmpYes X0.here hx rfl (pc0 := 3) (pc' := 11) rfl (hb hby d14_3) rfl (XT.ii_ne_t ((by decide) : ¬ ((1 : Int32) = (10 : Int32)))) (by decide) (by decide) ?_
   refine XS.aloadN X0.here hx rfl (hb hby d14_11) rfl rfl ?_
   refine XS.iloadN X0.here hx rfl (hb hby d14_12) rfl ?_
   refine XS.aloadN X0.here hx rfl (hb hby d14_13) rfl rfl ?_
   show AT p e below s₁ m 14 #[rv a0, rv a1, rv es, iv (1 : Int32)] [(.ref a1), (.int (1 : Int32)), (.ref es)] _
   refine st4 _ ?_
   refine XS.aloadN X4.here hx rfl (hb hby d14_15) rfl rfl ?_
   refine XS.iloadN X4.here hx rfl (hb hby d14_16) rfl ?_
   refine XS.iconst X4.here hx rfl (hb hby d14_17) ?_
   refine XS.iadd X4.here hx rfl (hb hby d14_18) rfl ?_
   refine st11 _ ?_
   show AT p e below T11 m 22 #[rv a0, rv a1, rv es, iv (1 : Int32)] [] _
   exact X11.returnOut hx Bd.returns (hb hby d14_22) hr
  ·
   show Q14_g Z a0 a1 es p3 mc ke vs h0 n0 _ T11.heap _
   rw [e11]
   exact ⟨((vs ++ List.replicate 10 Value.null).set 1 (.ref a1)), rfl, N11, K11, E11_12, F11_14, (by rw [← hzz, show ((1 : Int32) + (1 : Int32)) = (2 : Int32) from by decide]; exact F11_15), F11_16, V11_17⟩
 ·
  obtain ⟨cl18, Ar18, q18, S18, N18, H18, G18⟩ := id pf10
  obtain ⟨cl19, Ar19, q19, S19, M19, H19, G19⟩ := id pf10
  obtain ⟨cl20, Ar20, q20, S20, M20, H20, G20⟩ := (pf10).pad (pad_rep vs .null 10)
  have hin20 : ¬ ((2 : Int32) < 0 ∨ cl20.slots.size ≤ ((2 : Int32)).toNatClampNeg) := inb_of S20 ⟨by decide, by decide⟩
  obtain ⟨T20, h20, X20, e20, W20, st20⟩ := stR X0 hx hZ e0 Ar20 (j := (2 : Int32)) hin20 rfl (Sto.ofV Ar20 q20 pf11 (Ins.of_exa pf1 (ow hw 104 rfl))) (g := (mkF m 14 #[rv a0, rv a1, rv es, iv (2 : Int32)] [(.ref a1), (.int (2 : Int32)), (.ref es)])) rfl rfl (hb hby d14_14)
  have V20_21 : Arv Z h20 es ke (.object "java/lang/Object") (10 : Int32) ((vs ++ List.replicate 10 Value.null).set 2 (.ref a1)) .null := Arv.set Ar20 q20 S20 M20 H20 G20 rfl W20 2 rfl (by simp <;> omega)
  have E20_22 := pf0.wr W20
  have E20_23 := pf1.wr W20
  have F20_24 := pf2.other W20 (Or.inl pf7)
  have F20_25 := pf3.other W20 (Or.inl pf7)
  have F20_26 := pf9.other W20 (Or.inl pf7)
  have K20 := (Keep.refl h0 [a0, es]).wr W20 (Or.inl (List.mem_of_getElem? (i := 1) rfl))
  have O20 := O0.wr W20 pf5
  have N20 := Fr.snoc X20 N0 pf5
  obtain ⟨T27, h27, X27, e27, W27, st27⟩ := putF X20 hx hZ hown (host := "") (Or.inl (ow hw 81 rfl)) Via.refl e20 F20_25 E20_22 (Or.inl (ow hw 82 rfl)) (ow hw 20 rfl) (ty := .int) (by decide) rfl rfl (g := (mkF m 19 #[rv a0, rv a1, rv es, iv (2 : Int32)] [(.int (3 : Int32)), (.ref a0)])) rfl rfl (hb hby d14_19)
  have E27_28 := E20_22.wr W27
  have E27_29 := E20_23.wr W27
  have F27_30 := F20_24.other W27 (Or.inr (slot_ne (Or.inl (ow hw 39 rfl)) (Or.inl (ow hw 82 rfl)) (by decide) (t := .int) (t' := .int) (by decide) (by decide)))
  have F27_31 : Fld Z h27 a0 "java/util/ArrayList" "size" "I" (.int (3 : Int32)) := F20_25.same W27
  have F27_32 := F20_26.other W27 (Or.inr (slot_ne (Or.inl (ow hw 42 rfl)) (Or.inl (ow hw 82 rfl)) (by decide) (t := (.array (.object "java/lang/Object"))) (t' := .int) (by decide) (by decide)))
  have V27_33 := V20_21.other W27 (Ne.symm pf7)
  have K27 := K20.wr W27 (Or.inl (List.mem_of_getElem? (i := 0) rfl))
  have O27 := O20.wr W27 pf4
  have N27 := Fr.snoc X27 N20 pf4
  obtain ⟨fs, hr, hrun, hended, hW, hsame⟩ := X27.leave (v := none) (fun _ => rfl)
  subst hS0
  refine ⟨_, _, pre1 _ ?_, hrun, hended, _, _, rfl, ?_, ⟨_, rfl⟩, hW, hsame.mono (by decide) (by decide)⟩
  ·
   refine XS.iloadN X0.here hx rfl (hb hby d14_0) rfl ?_
   refine XS.aloadN X0.here hx rfl (hb hby d14_1) rfl rfl ?_
   refine X0.arraylength hx (by rw [e0]; exact Ar18.1) (State.isArrayOf_alike hZ.alike Ar18.2.1) (g := (mkF m 2 #[rv a0, rv a1, rv es, iv (2 : Int32)] [(.ref es), (.int (2 : Int32))])) rfl rfl (hb hby d14_2) _ ?_
   rw [len_of S18 N18]
   show AT p e below s₁ m 3 #[rv a0, rv a1, rv es, iv (2 : Int32)] [(.int (10 : Int32)), (.int (2 : Int32))] _
   refine XS.icmpYes X0.here hx rfl (pc0 := 3) (pc' := 11) rfl (hb hby d14_3) rfl (XT.ii_ne_t ((by decide) : ¬ ((2 : Int32) = (10 : Int32)))) (by decide) (by decide) ?_
   refine XS.aloadN X0.here hx rfl (hb hby d14_11) rfl rfl ?_
   refine XS.iloadN X0.here hx rfl (hb hby d14_12) rfl ?_
   refine XS.aloadN X0.here hx rfl (hb hby d14_13) rfl rfl ?_
   show AT p e below s₁ m 14 #[rv a0, rv a1, rv es, iv (2 : Int32)] [(.ref a1), (.int (2 : Int32)), (.ref es)] _
   refine st20 _ ?_
   refine XS.aloadN X20.here hx rfl (hb hby d14_15) rfl rfl ?_
   refine XS.iloadN X20.here hx rfl (hb hby d14_16) rfl ?_
   refine XS.iconst X20.here hx rfl (hb hby d14_17) ?_
   refine XS.iadd X20.here hx rfl (hb hby d14_18) rfl ?_
   refine st27 _ ?_
   show AT p e below T27 m 22 #[rv a0, rv a1, rv es, iv (2 : Int32)] [] _
   exact X27.returnOut hx Bd.returns (hb hby d14_22) hr
  ·
   show Q14_g Z a0 a1 es p3 mc ke vs h0 n0 _ T27.heap _
   rw [e27]
   exact ⟨((vs ++ List.replicate 10 Value.null).set 2 (.ref a1)), rfl, N27, K27, E27_28, F27_30, (by rw [← hzz, show ((2 : Int32) + (1 : Int32)) = (3 : Int32) from by decide]; exact F27_31), F27_32, V27_33⟩
 ·
  obtain ⟨cl34, Ar34, q34, S34, N34, H34, G34⟩ := id pf10
  obtain ⟨cl35, Ar35, q35, S35, M35, H35, G35⟩ := id pf10
  obtain ⟨cl36, Ar36, q36, S36, M36, H36, G36⟩ := (pf10).pad (pad_rep vs .null 10)
  have hin36 : ¬ ((3 : Int32) < 0 ∨ cl36.slots.size ≤ ((3 : Int32)).toNatClampNeg) := inb_of S36 ⟨by decide, by decide⟩
  obtain ⟨T36, h36, X36, e36, W36, st36⟩ := stR X0 hx hZ e0 Ar36 (j := (3 : Int32)) hin36 rfl (Sto.ofV Ar36 q36 pf11 (Ins.of_exa pf1 (ow hw 104 rfl))) (g := (mkF m 14 #[rv a0, rv a1, rv es, iv (3 : Int32)] [(.ref a1), (.int (3 : Int32)), (.ref es)])) rfl rfl (hb hby d14_14)
  have V36_37 : Arv Z h36 es ke (.object "java/lang/Object") (10 : Int32) ((vs ++ List.replicate 10 Value.null).set 3 (.ref a1)) .null := Arv.set Ar36 q36 S36 M36 H36 G36 rfl W36 3 rfl (by simp <;> omega)
  have E36_38 := pf0.wr W36
  have E36_39 := pf1.wr W36
  have F36_40 := pf2.other W36 (Or.inl pf7)
  have F36_41 := pf3.other W36 (Or.inl pf7)
  have F36_42 := pf9.other W36 (Or.inl pf7)
  have K36 := (Keep.refl h0 [a0, es]).wr W36 (Or.inl (List.mem_of_getElem? (i := 1) rfl))
  have O36 := O0.wr W36 pf5
  have N36 := Fr.snoc X36 N0 pf5
  obtain ⟨T43, h43, X43, e43, W43, st43⟩ := putF X36 hx hZ hown (host := "") (Or.inl (ow hw 81 rfl)) Via.refl e36 F36_41 E36_38 (Or.inl (ow hw 82 rfl)) (ow hw 20 rfl) (ty := .int) (by decide) rfl rfl (g := (mkF m 19 #[rv a0, rv a1, rv es, iv (3 : Int32)] [(.int (4 : Int32)), (.ref a0)])) rfl rfl (hb hby d14_19)
  have E43_44 := E36_38.wr W43
  have E43_45 := E36_39.wr W43
  have F43_46 := F36_40.other W43 (Or.inr (slot_ne (Or.inl (ow hw 39 rfl)) (Or.inl (ow hw 82 rfl)) (by decide) (t := .int) (t' := .int) (by decide) (by decide)))
  have F43_47 : Fld Z h43 a0 "java/util/ArrayList" "size" "I" (.int (4 : Int32)) := F36_41.same W43
  have F43_48 := F36_42.other W43 (Or.inr (slot_ne (Or.inl (ow hw 42 rfl)) (Or.inl (ow hw 82 rfl)) (by decide) (t := (.array (.object "java/lang/Object"))) (t' := .int) (by decide) (by decide)))
  have V43_49 := V36_37.other W43 (Ne.symm pf7)
  have K43 := K36.wr W43 (Or.inl (List.mem_of_getElem? (i := 0) rfl))
  have O43 := O36.wr W43 pf4
  have N43 := Fr.snoc X43 N36 pf4
  obtain ⟨fs, hr, hrun, hended, hW, hsame⟩ := X43.leave (v := none) (fun _ => rfl)
  subst hS0
  refine ⟨_, _, pre1 _ ?_, hrun, hended, _, _, rfl, ?_, ⟨_, rfl⟩, hW, hsame.mono (by decide) (by decide)⟩
  ·
   refine XS.iloadN X0.here hx rfl (hb hby d14_0) rfl ?_
   refine XS.aloadN X0.here hx rfl (hb hby d14_1) rfl rfl ?_
   refine X0.arraylength hx (by rw [e0]; exact Ar34.1) (State.isArrayOf_alike hZ.alike Ar34.2.1) (g := (mkF m 2 #[rv a0, rv a1, rv es, iv (3 : Int32)] [(.ref es), (.int (3 : Int32))])) rfl rfl (hb hby d14_2) _ ?_
   rw [len_of S34 N34]
   show AT p e below s₁ m 3 #[rv a0, rv a1, rv es, iv (3 : Int32)] [(.int (10 : Int32)), (.int (3 : Int32))] _
   refine XS.icmpYes X0.here hx rfl (pc0 := 3) (pc' := 11) rfl (hb hby d14_3) rfl (XT.ii_ne_t ((by decide) : ¬ ((3 : Int32) = (10 : Int32)))) (by decide) (by decide) ?_
   refine XS.aloadN X0.here hx rfl (hb hby d14_11) rfl rfl ?_
   refine XS.iloadN X0.here hx rfl (hb hby d14_12) rfl ?_
   refine XS.aloadN X0.here hx rfl (hb hby d14_13) rfl rfl ?_
   show AT p e below s₁ m 14 #[rv a0, rv a1, rv es, iv (3 : Int32)] [(.ref a1), (.int (3 : Int32)), (.ref es)] _
   refine st36 _ ?_
   refine XS.aloadN X36.here hx rfl (hb hby d14_15) rfl rfl ?_
   refine XS.iloadN X36.here hx rfl (hb hby d14_16) rfl ?_
   refine XS.iconst X36.here hx rfl (hb hby d14_17) ?_
   refine XS.iadd X36.here hx rfl (hb hby d14_18) rfl ?_
   refine st43 _ ?_
   show AT p e below T43 m 22 #[rv a0, rv a1, rv es, iv (3 : Int32)] [] _
   exact X43.returnOut hx Bd.returns (hb hby d14_22) hr
  ·
   show Q14_g Z a0 a1 es p3 mc ke vs h0 n0 _ T43.heap _
   rw [e43]
   exact ⟨((vs ++ List.replicate 10 Value.null).set 3 (.ref a1)), rfl, N43, K43, E43_44, F43_46, (by rw [← hzz, show ((3 : Int32) + (1 : Int32)) = (4 : Int32) from by decide]; exact F43_47), F43_48, V43_49⟩

theorem d13_0 : decode jdk_38_method_25_code 0 = .ok (.aload_n 0, 1) := by decide +kernel
theorem d13_1 : decode jdk_38_method_25_code 1 = .ok (.dup, 1) := by decide +kernel
theorem d13_2 : decode jdk_38_method_25_code 2 = .ok (.getfield 63, 3) := by decide +kernel
theorem d13_5 : decode jdk_38_method_25_code 5 = .ok (.iconst 1, 1) := by decide +kernel
theorem d13_6 : decode jdk_38_method_25_code 6 = .ok (.iadd, 1) := by decide +kernel
theorem d13_7 : decode jdk_38_method_25_code 7 = .ok (.putfield 63, 3) := by decide +kernel
theorem d13_10 : decode jdk_38_method_25_code 10 = .ok (.aload_n 0, 1) := by decide +kernel
theorem d13_11 : decode jdk_38_method_25_code 11 = .ok (.aload_n 1, 1) := by decide +kernel
theorem d13_12 : decode jdk_38_method_25_code 12 = .ok (.aload_n 0, 1) := by decide +kernel
theorem d13_13 : decode jdk_38_method_25_code 13 = .ok (.getfield 9, 3) := by decide +kernel
theorem d13_16 : decode jdk_38_method_25_code 16 = .ok (.aload_n 0, 1) := by decide +kernel
theorem d13_17 : decode jdk_38_method_25_code 17 = .ok (.getfield 48, 3) := by decide +kernel
theorem d13_20 : decode jdk_38_method_25_code 20 = .ok (.invokevirtual 131, 3) := by decide +kernel
theorem d13_23 : decode jdk_38_method_25_code 23 = .ok (.iconst 1, 1) := by decide +kernel
theorem d13_24 : decode jdk_38_method_25_code 24 = .ok (.ireturn, 1) := by decide +kernel
theorem ef_13_e (m : MethodId) (a0 : Addr) (a1 : Addr) : entryFrame m #[(.ref a0), (.ref a1)] 2 = mkF m 0 #[rv a0, rv a1] [] := by first | (simp [entryFrame, mkF, argsToLocals, Value.category]; done) | rfl
def Q13_e (Z : State) (a0 : Addr) (a1 : Addr) (w_EE0 : Addr) (w_DEE1 : Addr) (k_EE0 : ClassId) (k_DEE1 : ClassId) (mc : Int32) (h0 : Heap) (n0 : Nat) (v : Option Value) (h : Heap) (L : List Loc) : Prop := ∃ (es : Addr) (ke : ClassId), v = some (.int (1 : Int32)) ∧ Fr n0 L ∧ Keep h0 h [a0] ∧ Exa Z h a0 "java/util/ArrayList" ∧ Fld Z h a0 "java/util/AbstractList" "modCount" "I" (.int (mc + (1 : Int32))) ∧ Fld Z h a0 "java/util/ArrayList" "size" "I" (.int (1 : Int32)) ∧ Fld Z h a0 "java/util/ArrayList" "elementData" "[Ljava/lang/Object;" (.ref es) ∧ Arv Z h es ke (.object "java/lang/Object") (10 : Int32) [(.ref a1), .null, .null, .null, .null, .null, .null, .null, .null, .null] .null ∧ Ovr Z ke "java/lang/Object" ∧ h0.size ≤ es
set_option maxRecDepth 65536 in
set_option maxHeartbeats 40000000 in
theorem rm13_e (l : Launch) (Z : State) (ar : Array Value) (hw : ∀ d ∈ tables_1, d.before ar Z = true) (ws : List Jvm.Cond) (a0 : Addr) (a1 : Addr) (w_EE0 : Addr) (w_DEE1 : Addr) (k_EE0 : ClassId) (k_DEE1 : ClassId) (mc : Int32) (h0 : Heap) (n0 : Nat) (O0 : Old Z n0 h0) (HW : Wd Z w_EE0 w_DEE1 k_EE0 k_DEE1) (pf0 : Exa Z h0 a0 "java/util/ArrayList") (pf1 : Exa Z h0 a1 "[B") (pf2 : Fld Z h0 a0 "java/util/AbstractList" "modCount" "I" (.int mc)) (pf3 : Fld Z h0 a0 "java/util/ArrayList" "elementData" "[Ljava/lang/Object;" (.ref w_DEE1)) (pf4 : Fld Z h0 a0 "java/util/ArrayList" "size" "I" (.int (0 : Int32))) (pf5 : n0 ≤ a0) (pf6 : a0 ≠ a1) :
    MetFree l y13 (head1 (Jvm.Cond.code y13 jdk_38_method_25_code 2 (some .boolean) :: ws) ({ frames := 4, cells := 1, slots := 10, locals := 56 } : Room)) (fun a U => a = #[(.ref a0), (.ref a1)] ∧ Z.Warmed39 U.vm ∧ U.heap = h0) (fun _ _ _ _ _ => True) (fun _ U o U' => ∃ v L, o = .returned v ∧ Q13_e Z a0 a1 w_EE0 w_DEE1 k_EE0 k_DEE1 mc h0 n0 v U'.heap L ∧ FrameEnd U o U' L ({ frames := 4, cells := 1, slots := 10, locals := 56 } : Room).cells ({ frames := 4, cells := 1, slots := 10, locals := 56 } : Room).slots) := by
 refine MetFree.of_bodySF (plainFor_of_name pn_3) hisR ?_
 intro p e s m args below meth c s₁ Bd hml0 hP hK
 obtain ⟨rfl, hZ, hh⟩ := hP
 have hx := Bd.exec
 have hby := Bd.bytes
 have hml : c.maxLocals = 2 := hml0
 have hown : s.vm.findClass "java/util/ArrayList" = some m.cls := findClass_of_methodNamed Bd.named
 have hnm := (name_of_methodNamed Bd.named Bd.method).1
 have X0 : Stand p l e ({ frames := 4, cells := 1, slots := 10, locals := 56 } : Room) s m #[(.ref a0), (.ref a1)] below meth c s₁ [] 0 0 := Stand.of_body Bd
 have e0 : s₁.heap = h0 := by rw [← hh, Bd.state]; rfl
 have N0 := Fr.nil n0
 have Z0 : n0 ≤ h0.size := Nat.le_trans (Nat.le_of_eq O0.1.symm) O0.2.1
 obtain ⟨S0, hS0⟩ : ∃ z, z = s₁.setTop (entryFrame m #[(.ref a0), (.ref a1)] 2) := ⟨_, rfl⟩
 have pre0 : ∀ tg, AT p e below s₁ m 0 #[rv a0, rv a1] [] tg → Steps p.tables e below S0 tg := fun tg kg => by rw [hS0]; exact castTop (ef_13_e m a0 a1) kg
 obtain ⟨S_EMPTY_ELEMENTDATA, E_EE0, S_DEFAULTCAPACITY_EMPTY_ELEMENTDATA, E_DEE1, V_EE0, V_DEE1⟩ := id HW
 obtain ⟨T1, X1, e1, st1⟩ := getF X0 hx hZ hown (host := "") (Or.inl (ow hw 79 rfl)) (Via.of (ow hw 80 rfl)) e0 pf2 (g := (mkF m 2 #[rv a0, rv a1] [(.ref a0), (.ref a0)])) rfl rfl (hb hby d13_2)
 obtain ⟨T2, h2, X2, e2, W2, st2⟩ := putF X1 hx hZ hown (host := "") (Or.inl (ow hw 79 rfl)) (Via.of (ow hw 80 rfl)) e1 pf2 pf0 (Or.inl (ow hw 39 rfl)) (ow hw 20 rfl) (ty := .int) (by decide) rfl rfl (g := (mkF m 7 #[rv a0, rv a1] [(.int (mc + (1 : Int32))), (.ref a0)])) rfl rfl (hb hby d13_7)
 have E2_3 := pf0.wr W2
 have E2_4 := pf1.wr W2
 have F2_5 : Fld Z h2 a0 "java/util/AbstractList" "modCount" "I" (.int (mc + (1 : Int32))) := pf2.same W2
 have F2_6 := pf3.other W2 (Or.inr (slot_ne (Or.inl (ow hw 42 rfl)) (Or.inl (ow hw 39 rfl)) (by decide) (t := (.array (.object "java/lang/Object"))) (t' := .int) (by decide) (by decide)))
 have F2_7 := pf4.other W2 (Or.inr (slot_ne (Or.inl (ow hw 82 rfl)) (Or.inl (ow hw 39 rfl)) (by decide) (t := .int) (t' := .int) (by decide) (by decide)))
 have K2 := (Keep.refl h0 [a0]).wr W2 (Or.inl (List.mem_of_getElem? (i := 0) rfl))
 have O2 := O0.wr W2 pf5
 have N2 := Fr.snoc X2 N0 pf5
 obtain ⟨T8, X8, e8, st8⟩ := getF X2 hx hZ hown (host := "") (Or.inl (ow hw 41 rfl)) Via.refl e2 F2_6 (g := (mkF m 13 #[rv a0, rv a1] [(.ref a0), (.ref a1), (.ref a0)])) rfl rfl (hb hby d13_13)
 obtain ⟨T9, X9, e9, st9⟩ := getF X8 hx hZ hown (host := "") (Or.inl (ow hw 81 rfl)) Via.refl e8 F2_7 (g := (mkF m 17 #[rv a0, rv a1] [(.ref a0), (.ref w_DEE1), (.ref a1), (.ref a0)])) rfl rfl (hb hby d13_17)
 obtain ⟨cq10, q10, q10'⟩ := E2_3.cell
 obtain ⟨_, _, ⟨T10, L10, k10, n10⟩, -, X10, ⟨Lc10, hQ10, l10, y10, z10⟩, st10⟩ := X9.privateBack hx (y := y14) hown (mvT hZ (ow hw 83 rfl)) (mvT hZ (ow hw 84 rfl)) (mvT hZ (ow hw 86 rfl)) (Cond.privateMethod_at (mvP hZ (ow hw 85 rfl) (args := #[]))) (mvT hZ (ow hw 87 rfl)) (by decide) (backOf (W := 0) (rm14_e l Z ar hw [] a0 a1 w_EE0 w_DEE1 k_EE0 k_DEE1 (mc + (1 : Int32)) h2 n0 O2 HW E2_3 E2_4 F2_5 F2_6 F2_7 pf5 pf6) hZ (ow hw 87 rfl) (ow hw 21 rfl) (by decide) (by decide)) (g := (mkF m 20 #[rv a0, rv a1] [(.int (0 : Int32)), (.ref w_DEE1), (.ref a1), (.ref a0)])) rfl (by rw [hml]; rfl) (Steps.refl _) (a := a0) (by rw [e9]; exact q10) q10' (argsL := [(.ref a1), (.ref w_DEE1), (.int (0 : Int32))]) (rest := []) (lenOf pd_5 rfl) rfl (by show 2 * 0 + _ ≤ _; exact Nat.le_of_eq rfl) (hb hby d13_20) (fun _ _ => ⟨rfl, e9, (by decide : 0 + 1 ≤ _), (by decide : 0 + 10 ≤ _)⟩)
 dsimp only [Pt.U, Pt.locs, Pt.cells, Pt.slots] at X10 l10 y10 z10 st10 hQ10
 subst l10 y10 z10
 obtain ⟨es_10, ke_10, rfl, N10q, Kq10, u10_0, u10_1, u10_2, u10_3, u10_4, u10_5, u10_6⟩ := hQ10
 have N10 := Fr.app N2 N10q
 have E10_11 := E2_3.keep Kq10
 have E10_12 := E2_4.keep Kq10
 have K10 := K2.trans Kq10 (allS (Or.inl (List.mem_of_getElem? (i := 0) rfl)) all0)
 have O10 := O2.keep Kq10 (allS pf5 all0)
 have sz13 : h0.size ≤ es_10 := Nat.le_trans K2.1 u10_6
 have gn13 : n0 ≤ es_10 := Nat.le_trans (Nat.le_trans (Nat.le_of_eq O2.1.symm) O2.2.1) u10_6
 have ne14 : a0 ≠ es_10 := Nat.ne_of_lt (Nat.lt_of_lt_of_le (E2_3).lt u10_6)
 have ne15 : a1 ≠ es_10 := Nat.ne_of_lt (Nat.lt_of_lt_of_le (E2_4).lt u10_6)
 obtain ⟨fs, hr, hrun, hended, hW, hsame⟩ := X10.leave (v := some (.int (1 : Int32))) (fun h => by rw [Bd.returns] at h; cases h)
 subst hS0
 refine ⟨_, _, pre0 _ ?_, hrun, hended, _, _, rfl, ?_, ⟨_, rfl⟩, hW, hsame.mono (by decide) (by decide)⟩
 ·
  refine XS.aloadN X0.here hx rfl (hb hby d13_0) rfl rfl ?_
  refine XS.dup X0.here hx rfl (hb hby d13_1) rfl rfl ?_
  refine st1 _ ?_
  refine XS.iconst X1.here hx rfl (hb hby d13_5) ?_
  refine XS.iadd X1.here hx rfl (hb hby d13_6) rfl ?_
  refine st2 _ ?_
  show AT p e below T2 m 10 #[rv a0, rv a1] [] _
  refine XS.aloadN X2.here hx rfl (hb hby d13_10) rfl rfl ?_
  refine XS.aloadN X2.here hx rfl (hb hby d13_11) rfl rfl ?_
  refine XS.aloadN X2.here hx rfl (hb hby d13_12) rfl rfl ?_
  refine st8 _ ?_
  refine XS.aloadN X8.here hx rfl (hb hby d13_16) rfl rfl ?_
  refine st9 _ ?_
  show AT p e below T9 m 20 #[rv a0, rv a1] [(.int (0 : Int32)), (.ref w_DEE1), (.ref a1), (.ref a0)] _
  refine st10.trans ?_
  refine XS.iconst X10.here hx rfl (hb hby d13_23) ?_
  exact retN X10 hx (t := .boolean) Bd.returns (by simp) (hb hby d13_24) hr
 ·
  show Q13_e Z a0 a1 w_EE0 w_DEE1 k_EE0 k_DEE1 mc h0 n0 _ T10.heap _
  exact ⟨es_10, ke_10, rfl, N10, K10, E10_11, u10_1, u10_2, u10_3, u10_4, u10_5, sz13⟩

theorem ef_13_g (m : MethodId) (a0 : Addr) (a1 : Addr) : entryFrame m #[(.ref a0), (.ref a1)] 2 = mkF m 0 #[rv a0, rv a1] [] := by first | (simp [entryFrame, mkF, argsToLocals, Value.category]; done) | rfl
def Q13_g (Z : State) (a0 : Addr) (a1 : Addr) (mc : Int32) (sz : Int32) (es : Addr) (ke : ClassId) (vs : List Value) (h0 : Heap) (n0 : Nat) (v : Option Value) (h : Heap) (L : List Loc) : Prop := ∃ (vz : List Value), v = some (.int (1 : Int32)) ∧ Fr n0 L ∧ Keep h0 h [a0, es] ∧ Exa Z h a0 "java/util/ArrayList" ∧ Fld Z h a0 "java/util/AbstractList" "modCount" "I" (.int (mc + (1 : Int32))) ∧ Fld Z h a0 "java/util/ArrayList" "size" "I" (.int (sz + (1 : Int32))) ∧ Fld Z h a0 "java/util/ArrayList" "elementData" "[Ljava/lang/Object;" (.ref es) ∧ Arv Z h es ke (.object "java/lang/Object") (10 : Int32) vz .null
set_option maxRecDepth 65536 in
set_option maxHeartbeats 40000000 in
theorem rm13_g (l : Launch) (Z : State) (ar : Array Value) (hw : ∀ d ∈ tables_1, d.before ar Z = true) (ws : List Jvm.Cond) (a0 : Addr) (a1 : Addr) (mc : Int32) (sz : Int32) (es : Addr) (ke : ClassId) (vs : List Value) (h0 : Heap) (n0 : Nat) (O0 : Old Z n0 h0) (pf0 : Exa Z h0 a0 "java/util/ArrayList") (pf1 : Exa Z h0 a1 "[B") (pf2 : Fld Z h0 a0 "java/util/AbstractList" "modCount" "I" (.int mc)) (pf3 : Fld Z h0 a0 "java/util/ArrayList" "size" "I" (.int sz)) (pf4 : n0 ≤ a0) (pf5 : n0 ≤ es) (pf6 : a0 ≠ a1) (pf7 : a0 ≠ es) (pf8 : es ≠ a1) (pf9 : Fld Z h0 a0 "java/util/ArrayList" "elementData" "[Ljava/lang/Object;" (.ref es)) (pf10 : Arv Z h0 es ke (.object "java/lang/Object") (10 : Int32) vs .null) (pf11 : Ovr Z ke "java/lang/Object") (hsz : 1 ≤ (sz).toInt ∧ (sz).toInt ≤ 3) :
    MetFree l y13 (head1 (Jvm.Cond.code y13 jdk_38_method_25_code 2 (some .boolean) :: ws) ({ frames := 1, cells := 0, slots := 0, locals := 15 } : Room)) (fun a U => a = #[(.ref a0), (.ref a1)] ∧ Z.Warmed39 U.vm ∧ U.heap = h0) (fun _ _ _ _ _ => True) (fun _ U o U' => ∃ v L, o = .returned v ∧ Q13_g Z a0 a1 mc sz es ke vs h0 n0 v U'.heap L ∧ FrameEnd U o U' L ({ frames := 1, cells := 0, slots := 0, locals := 15 } : Room).cells ({ frames := 1, cells := 0, slots := 0, locals := 15 } : Room).slots) := by
 refine MetFree.of_bodySF (plainFor_of_name pn_3) hisR ?_
 intro p e s m args below meth c s₁ Bd hml0 hP hK
 obtain ⟨rfl, hZ, hh⟩ := hP
 have hx := Bd.exec
 have hby := Bd.bytes
 have hml : c.maxLocals = 2 := hml0
 have hown : s.vm.findClass "java/util/ArrayList" = some m.cls := findClass_of_methodNamed Bd.named
 have hnm := (name_of_methodNamed Bd.named Bd.method).1
 have X0 : Stand p l e ({ frames := 1, cells := 0, slots := 0, locals := 15 } : Room) s m #[(.ref a0), (.ref a1)] below meth c s₁ [] 0 0 := Stand.of_body Bd
 have e0 : s₁.heap = h0 := by rw [← hh, Bd.state]; rfl
 have N0 := Fr.nil n0
 have Z0 : n0 ≤ h0.size := Nat.le_trans (Nat.le_of_eq O0.1.symm) O0.2.1
 obtain ⟨S0, hS0⟩ : ∃ z, z = s₁.setTop (entryFrame m #[(.ref a0), (.ref a1)] 2) := ⟨_, rfl⟩
 have pre0 : ∀ tg, AT p e below s₁ m 0 #[rv a0, rv a1] [] tg → Steps p.tables e below S0 tg := fun tg kg => by rw [hS0]; exact castTop (ef_13_g m a0 a1) kg
 obtain ⟨T1, X1, e1, st1⟩ := getF X0 hx hZ hown (host := "") (Or.inl (ow hw 79 rfl)) (Via.of (ow hw 80 rfl)) e0 pf2 (g := (mkF m 2 #[rv a0, rv a1] [(.ref a0), (.ref a0)])) rfl rfl (hb hby d13_2)
 obtain ⟨T2, h2, X2, e2, W2, st2⟩ := putF X1 hx hZ hown (host := "") (Or.inl (ow hw 79 rfl)) (Via.of (ow hw 80 rfl)) e1 pf2 pf0 (Or.inl (ow hw 39 rfl)) (ow hw 20 rfl) (ty := .int) (by decide) rfl rfl (g := (mkF m 7 #[rv a0, rv a1] [(.int (mc + (1 : Int32))), (.ref a0)])) rfl rfl (hb hby d13_7)
 have E2_3 := pf0.wr W2
 have E2_4 := pf1.wr W2
 have F2_5 : Fld Z h2 a0 "java/util/AbstractList" "modCount" "I" (.int (mc + (1 : Int32))) := pf2.same W2
 have F2_6 := pf3.other W2 (Or.inr (slot_ne (Or.inl (ow hw 82 rfl)) (Or.inl (ow hw 39 rfl)) (by decide) (t := .int) (t' := .int) (by decide) (by decide)))
 have F2_7 := pf9.other W2 (Or.inr (slot_ne (Or.inl (ow hw 42 rfl)) (Or.inl (ow hw 39 rfl)) (by decide) (t := (.array (.object "java/lang/Object"))) (t' := .int) (by decide) (by decide)))
 have V2_8 := pf10.other W2 (Ne.symm pf7)
 have K2 := (Keep.refl h0 [a0, es]).wr W2 (Or.inl (List.mem_of_getElem? (i := 0) rfl))
 have O2 := O0.wr W2 pf4
 have N2 := Fr.snoc X2 N0 pf4
 obtain ⟨T9, X9, e9, st9⟩ := getF X2 hx hZ hown (host := "") (Or.inl (ow hw 41 rfl)) Via.refl e2 F2_7 (g := (mkF m 13 #[rv a0, rv a1] [(.ref a0), (.ref a1), (.ref a0)])) rfl rfl (hb hby d13_13)
 obtain ⟨T10, X10, e10, st10⟩ := getF X9 hx hZ hown (host := "") (Or.inl (ow hw 81 rfl)) Via.refl e9 F2_6 (g := (mkF m 17 #[rv a0, rv a1] [(.ref a0), (.ref es), (.ref a1), (.ref a0)])) rfl rfl (hb hby d13_17)
 obtain ⟨cq11, q11, q11'⟩ := E2_3.cell
 obtain ⟨_, _, ⟨T11, L11, k11, n11⟩, -, X11, ⟨Lc11, hQ11, l11, y11, z11⟩, st11⟩ := X10.privateBack hx (y := y14) hown (mvT hZ (ow hw 83 rfl)) (mvT hZ (ow hw 84 rfl)) (mvT hZ (ow hw 86 rfl)) (Cond.privateMethod_at (mvP hZ (ow hw 85 rfl) (args := #[]))) (mvT hZ (ow hw 87 rfl)) (by decide) (backOf (W := 0) (rm14_g l Z ar hw [] a0 a1 es sz (mc + (1 : Int32)) ke vs h2 n0 O2 E2_3 E2_4 F2_5 F2_6 pf4 pf5 pf6 pf7 pf8 F2_7 V2_8 pf11 hsz) hZ (ow hw 87 rfl) (ow hw 21 rfl) (by decide) (by decide)) (g := (mkF m 20 #[rv a0, rv a1] [(.int sz), (.ref es), (.ref a1), (.ref a0)])) rfl (by rw [hml]; rfl) (Steps.refl _) (a := a0) (by rw [e10]; exact q11) q11' (argsL := [(.ref a1), (.ref es), (.int sz)]) (rest := []) (lenOf pd_5 rfl) rfl (by show 2 * 0 + _ ≤ _; exact Nat.le_of_eq rfl) (hb hby d13_20) (fun _ _ => ⟨rfl, e10, (by decide : 0 + 0 ≤ _), (by decide : 0 + 0 ≤ _)⟩)
 dsimp only [Pt.U, Pt.locs, Pt.cells, Pt.slots] at X11 l11 y11 z11 st11 hQ11
 subst l11 y11 z11
 obtain ⟨vz_11, rfl, N11q, Kq11, u11_0, u11_1, u11_2, u11_3, u11_4⟩ := hQ11
 have N11 := Fr.app N2 N11q
 have E11_12 := E2_3.keep Kq11
 have E11_13 := E2_4.keep Kq11
 have K11 := K2.trans Kq11 (allS (Or.inl (List.mem_of_getElem? (i := 0) rfl)) (allS (Or.inl (List.mem_of_getElem? (i := 1) rfl)) all0))
 have O11 := O2.keep Kq11 (allS pf4 (allS pf5 all0))
 obtain ⟨fs, hr, hrun, hended, hW, hsame⟩ := X11.leave (v := some (.int (1 : Int32))) (fun h => by rw [Bd.returns] at h; cases h)
 subst hS0
 refine ⟨_, _, pre0 _ ?_, hrun, hended, _, _, rfl, ?_, ⟨_, rfl⟩, hW, hsame.mono (by decide) (by decide)⟩
 ·
  refine XS.aloadN X0.here hx rfl (hb hby d13_0) rfl rfl ?_
  refine XS.dup X0.here hx rfl (hb hby d13_1) rfl rfl ?_
  refine st1 _ ?_
  refine XS.iconst X1.here hx rfl (hb hby d13_5) ?_
  refine XS.iadd X1.here hx rfl (hb hby d13_6) rfl ?_
  refine st2 _ ?_
  show AT p e below T2 m 10 #[rv a0, rv a1] [] _
  refine XS.aloadN X2.here hx rfl (hb hby d13_10) rfl rfl ?_
  refine XS.aloadN X2.here hx rfl (hb hby d13_11) rfl rfl ?_
  refine XS.aloadN X2.here hx rfl (hb hby d13_12) rfl rfl ?_
  refine st9 _ ?_
  refine XS.aloadN X9.here hx rfl (hb hby d13_16) rfl rfl ?_
  refine st10 _ ?_
  show AT p e below T10 m 20 #[rv a0, rv a1] [(.int sz), (.ref es), (.ref a1), (.ref a0)] _
  refine st11.trans ?_
  refine XS.iconst X11.here hx rfl (hb hby d13_23) ?_
  exact retN X11 hx (t := .boolean) Bd.returns (by simp) (hb hby d13_24) hr
 ·
  show Q13_g Z a0 a1 mc sz es ke vs h0 n0 _ T11.heap _
  exact ⟨vz_11, rfl, N11, K11, E11_12, u11_1, u11_2, u11_3, u11_4⟩

theorem d8_0 : decode jdk_65_method_103_code 0 = .ok (.iconst 0, 1) := by decide +kernel
theorem d8_1 : decode jdk_65_method_103_code 1 = .ok (.istore_n 2, 1) := by decide +kernel
theorem d8_2 : decode jdk_65_method_103_code 2 = .ok (.aload_n 0, 1) := by decide +kernel
theorem d8_3 : decode jdk_65_method_103_code 3 = .ok (.arraylength, 1) := by decide +kernel
theorem d8_4 : decode jdk_65_method_103_code 4 = .ok (.istore_n 3, 1) := by decide +kernel
theorem d8_5 : decode jdk_65_method_103_code 5 = .ok (.iload_n 2, 1) := by decide +kernel
theorem d8_6 : decode jdk_65_method_103_code 6 = .ok (.iload_n 3, 1) := by decide +kernel
theorem d8_7 : decode jdk_65_method_103_code 7 = .ok (.if_icmp .ge 13, 3) := by decide +kernel
theorem d8_20 : decode jdk_65_method_103_code 20 = .ok (.return_, 1) := by decide +kernel
theorem ef_8_0 (m : MethodId) (a0 : Addr) (p1 : Int32) : entryFrame m #[(.ref a0), (.int p1)] 4 = mkF m 0 #[rv a0, iv p1, un, un] [] := by first | (simp [entryFrame, mkF, argsToLocals, Value.category]; done) | rfl
def Q8_0 (Z : State) (a0 : Addr) (p1 : Int32) (kw : ClassId) (h0 : Heap) (n0 : Nat) (v : Option Value) (h : Heap) (L : List Loc) : Prop := v = none ∧ Fr n0 L ∧ Keep h0 h [a0] ∧ Arv Z h a0 kw .int (0 : Int32) [] (.int (0 : Int32))
set_option maxRecDepth 65536 in
set_option maxHeartbeats 40000000 in
theorem rm8_0 (l : Launch) (Z : State) (ar : Array Value) (hw : ∀ d ∈ tables_1, d.before ar Z = true) (ws : List Jvm.Cond) (a0 : Addr) (p1 : Int32) (kw : ClassId) (h0 : Heap) (n0 : Nat) (O0 : Old Z n0 h0) (pf0 : Arv Z h0 a0 kw .int (0 : Int32) [] (.int (0 : Int32))) (pf1 : n0 ≤ a0) :
    MetFree l y8 (head1 (Jvm.Cond.code y8 jdk_65_method_103_code 4 none :: ws) ({ frames := 0, cells := 0, slots := 0, locals := 0 } : Room)) (fun a U => a = #[(.ref a0), (.int p1)] ∧ Z.Warmed39 U.vm ∧ U.heap = h0) (fun _ _ _ _ _ => True) (fun _ U o U' => ∃ v L, o = .returned v ∧ Q8_0 Z a0 p1 kw h0 n0 v U'.heap L ∧ FrameEnd U o U' L ({ frames := 0, cells := 0, slots := 0, locals := 0 } : Room).cells ({ frames := 0, cells := 0, slots := 0, locals := 0 } : Room).slots) := by
 refine MetFree.of_bodySF (plainFor_of_name pn_4) hisR ?_
 intro p e s m args below meth c s₁ Bd hml0 hP hK
 obtain ⟨rfl, hZ, hh⟩ := hP
 have hx := Bd.exec
 have hby := Bd.bytes
 have hml : c.maxLocals = 4 := hml0
 have hown : s.vm.findClass "java/util/Arrays" = some m.cls := findClass_of_methodNamed Bd.named
 have hnm := (name_of_methodNamed Bd.named Bd.method).1
 have X0 : Stand p l e ({ frames := 0, cells := 0, slots := 0, locals := 0 } : Room) s m #[(.ref a0), (.int p1)] below meth c s₁ [] 0 0 := Stand.of_body Bd
 have e0 : s₁.heap = h0 := by rw [← hh, Bd.state]; rfl
 have N0 := Fr.nil n0
 have Z0 : n0 ≤ h0.size := Nat.le_trans (Nat.le_of_eq O0.1.symm) O0.2.1
 obtain ⟨S0, hS0⟩ : ∃ z, z = s₁.setTop (entryFrame m #[(.ref a0), (.int p1)] 4) := ⟨_, rfl⟩
 have pre0 : ∀ tg, AT p e below s₁ m 0 #[rv a0, iv p1, un, un] [] tg → Steps p.tables e below S0 tg := fun tg kg => by rw [hS0]; exact castTop (ef_8_0 m a0 p1) kg
 obtain ⟨cl1, Ar1, q1, S1, N1, H1, G1⟩ := id pf0
 obtain ⟨fs, hr, hrun, hended, hW, hsame⟩ := X0.leave (v := none) (fun _ => rfl)
 subst hS0
 refine ⟨_, _, pre0 _ ?_, hrun, hended, _, _, rfl, ?_, ⟨_, rfl⟩, hW, hsame.mono (by decide) (by decide)⟩
 ·
  refine XS.iconst X0.here hx rfl (hb hby d8_0) ?_
  refine XS.istoreN X0.here hx rfl (hb hby d8_1) rfl (l' := #[rv a0, iv p1, iv (0 : Int32), un]) rfl ?_
  refine XS.aloadN X0.here hx rfl (hb hby d8_2) rfl rfl ?_
  refine X0.arraylength hx (by rw [e0]; exact Ar1.1) (State.isArrayOf_alike hZ.alike Ar1.2.1) (g := (mkF m 3 #[rv a0, iv p1, iv (0 : Int32), un] [(.ref a0)])) rfl rfl (hb hby d8_3) _ ?_
  rw [len_of S1 N1]
  refine XS.istoreN X0.here hx rfl (hb hby d8_4) rfl (l' := #[rv a0, iv p1, iv (0 : Int32), iv (0 : Int32)]) rfl ?_
  refine XS.iloadN X0.here hx rfl (hb hby d8_5) rfl ?_
  show AT p e below s₁ m 6 #[rv a0, iv p1, iv (0 : Int32), iv (0 : Int32)] [(.int (0 : Int32))] _
  refine XS.iloadN X0.here hx rfl (hb hby d8_6) rfl ?_
  show AT p e below s₁ m 7 #[rv a0, iv p1, iv (0 : Int32), iv (0 : Int32)] [(.int (0 : Int32)), (.int (0 : Int32))] _
  refine XS.icmpYes X0.here hx rfl (pc0 := 7) (pc' := 20) rfl (hb hby d8_7) rfl (XT.ii_ge_t ((by decide) : ¬ ((0 : Int32) < (0 : Int32)))) (by decide) (by decide) ?_
  exact X0.returnOut hx Bd.returns (hb hby d8_20) hr
 ·
  show Q8_0 Z a0 p1 kw h0 n0 _ s₁.heap _
  rw [e0]
  exact ⟨rfl, N0, (Keep.refl h0 [a0]), pf0⟩

theorem d8_10 : decode jdk_65_method_103_code 10 = .ok (.aload_n 0, 1) := by decide +kernel
theorem d8_11 : decode jdk_65_method_103_code 11 = .ok (.iload_n 2, 1) := by decide +kernel
theorem d8_12 : decode jdk_65_method_103_code 12 = .ok (.iload_n 1, 1) := by decide +kernel
theorem d8_13 : decode jdk_65_method_103_code 13 = .ok (.iastore, 1) := by decide +kernel
theorem d8_14 : decode jdk_65_method_103_code 14 = .ok (.iinc 2 1, 3) := by decide +kernel
theorem d8_17 : decode jdk_65_method_103_code 17 = .ok (.goto (-12), 3) := by decide +kernel
theorem ef_8_1 (m : MethodId) (a0 : Addr) (p1 : Int32) : entryFrame m #[(.ref a0), (.int p1)] 4 = mkF m 0 #[rv a0, iv p1, un, un] [] := by first | (simp [entryFrame, mkF, argsToLocals, Value.category]; done) | rfl
def Q8_1 (Z : State) (a0 : Addr) (p1 : Int32) (kw : ClassId) (h0 : Heap) (n0 : Nat) (v : Option Value) (h : Heap) (L : List Loc) : Prop := v = none ∧ Fr n0 L ∧ Keep h0 h [a0] ∧ Arv Z h a0 kw .int (1 : Int32) [(.int p1)] (.int (0 : Int32))
set_option maxRecDepth 65536 in
set_option maxHeartbeats 40000000 in
theorem rm8_1 (l : Launch) (Z : State) (ar : Array Value) (hw : ∀ d ∈ tables_1, d.before ar Z = true) (ws : List Jvm.Cond) (a0 : Addr) (p1 : Int32) (kw : ClassId) (h0 : Heap) (n0 : Nat) (O0 : Old Z n0 h0) (pf0 : Arv Z h0 a0 kw .int (1 : Int32) [(.int (0 : Int32))] (.int (0 : Int32))) (pf1 : n0 ≤ a0) :
    MetFree l y8 (head1 (Jvm.Cond.code y8 jdk_65_method_103_code 4 none :: ws) ({ frames := 0, cells := 0, slots := 0, locals := 0 } : Room)) (fun a U => a = #[(.ref a0), (.int p1)] ∧ Z.Warmed39 U.vm ∧ U.heap = h0) (fun _ _ _ _ _ => True) (fun _ U o U' => ∃ v L, o = .returned v ∧ Q8_1 Z a0 p1 kw h0 n0 v U'.heap L ∧ FrameEnd U o U' L ({ frames := 0, cells := 0, slots := 0, locals := 0 } : Room).cells ({ frames := 0, cells := 0, slots := 0, locals := 0 } : Room).slots) := by
 refine MetFree.of_bodySF (plainFor_of_name pn_4) hisR ?_
 intro p e s m args below meth c s₁ Bd hml0 hP hK
 obtain ⟨rfl, hZ, hh⟩ := hP
 have hx := Bd.exec
 have hby := Bd.bytes
 have hml : c.maxLocals = 4 := hml0
 have hown : s.vm.findClass "java/util/Arrays" = some m.cls := findClass_of_methodNamed Bd.named
 have hnm := (name_of_methodNamed Bd.named Bd.method).1
 have X0 : Stand p l e ({ frames := 0, cells := 0, slots := 0, locals := 0 } : Room) s m #[(.ref a0), (.int p1)] below meth c s₁ [] 0 0 := Stand.of_body Bd
 have e0 : s₁.heap = h0 := by rw [← hh, Bd.state]; rfl
 have N0 := Fr.nil n0
 have Z0 : n0 ≤ h0.size := Nat.le_trans (Nat.le_of_eq O0.1.symm) O0.2.1
 obtain ⟨S0, hS0⟩ : ∃ z, z = s₁.setTop (entryFrame m #[(.ref a0), (.int p1)] 4) := ⟨_, rfl⟩
 have pre0 : ∀ tg, AT p e below s₁ m 0 #[rv a0, iv p1, un, un] [] tg → Steps p.tables e below S0 tg := fun tg kg => by rw [hS0]; exact castTop (ef_8_1 m a0 p1) kg
 obtain ⟨cl1, Ar1, q1, S1, N1, H1, G1⟩ := id pf0
 obtain ⟨cl2, Ar2, q2, S2, M2, H2, G2⟩ := id pf0
 have hin2 := own_in (0 : Int32) S2 ⟨by decide, by decide⟩
 obtain ⟨T2, h2, X2, e2, W2, st2⟩ := stI X0 hx hZ e0 Ar2 (j := (0 : Int32)) hin2 (g := (mkF m 13 #[rv a0, iv p1, iv (0 : Int32), iv (1 : Int32)] [(.int p1), (.int (0 : Int32)), (.ref a0)])) rfl rfl (hb hby d8_13)
 have V2_3 : Arv Z h2 a0 kw .int (1 : Int32) [(.int p1)] (.int (0 : Int32)) := Arv.set Ar2 q2 S2 M2 H2 G2 rfl W2 0 rfl (Nat.le_of_ble_eq_true rfl)
 have K2 := (Keep.refl h0 [a0]).wr W2 (Or.inl (List.mem_of_getElem? (i := 0) rfl))
 have O2 := O0.wr W2 pf1
 have N2 := Fr.snoc X2 N0 pf1
 obtain ⟨fs, hr, hrun, hended, hW, hsame⟩ := X2.leave (v := none) (fun _ => rfl)
 subst hS0
 refine ⟨_, _, pre0 _ ?_, hrun, hended, _, _, rfl, ?_, ⟨_, rfl⟩, hW, hsame.mono (by decide) (by decide)⟩
 ·
  refine XS.iconst X0.here hx rfl (hb hby d8_0) ?_
  refine XS.istoreN X0.here hx rfl (hb hby d8_1) rfl (l' := #[rv a0, iv p1, iv (0 : Int32), un]) rfl ?_
  refine XS.aloadN X0.here hx rfl (hb hby d8_2) rfl rfl ?_
  refine X0.arraylength hx (by rw [e0]; exact Ar1.1) (State.isArrayOf_alike hZ.alike Ar1.2.1) (g := (mkF m 3 #[rv a0, iv p1, iv (0 : Int32), un] [(.ref a0)])) rfl rfl (hb hby d8_3) _ ?_
  rw [len_of S1 N1]
  refine XS.istoreN X0.here hx rfl (hb hby d8_4) rfl (l' := #[rv a0, iv p1, iv (0 : Int32), iv (1 : Int32)]) rfl ?_
  refine XS.iloadN X0.here hx rfl (hb hby d8_5) rfl ?_
  show AT p e below s₁ m 6 #[rv a0, iv p1, iv (0 : Int32), iv (1 : Int32)] [(.int (0 : Int32))] _
  refine XS.iloadN X0.here hx rfl (hb hby d8_6) rfl ?_
  show AT p e below s₁ m 7 #[rv a0, iv p1, iv (0 : Int32), iv (1 : Int32)] [(.int (1 : Int32)), (.int (0 : Int32))] _
  refine XS.icmpNo X0.here hx rfl (hb hby d8_7) rfl (XT.ii_ge_f ((by decide) : (0 : Int32) < (1 : Int32))) ?_
  refine XS.aloadN X0.here hx rfl (hb hby d8_10) rfl rfl ?_
  refine XS.iloadN X0.here hx rfl (hb hby d8_11) rfl ?_
  refine XS.iloadN X0.here hx rfl (hb hby d8_12) rfl ?_
  refine st2 _ ?_
  refine XS.iinc X2.here hx rfl (hb hby d8_14) rfl (l' := #[rv a0, iv p1, iv (1 : Int32), iv (1 : Int32)]) rfl ?_
  show AT p e below T2 m 17 #[rv a0, iv p1, iv (1 : Int32), iv (1 : Int32)] [] _
  refine XS.goto X2.here hx rfl (pc0 := 17) (pc' := 5) rfl (hb hby d8_17) (by decide) (by decide) ?_
  refine XS.iloadN X2.here hx rfl (hb hby d8_5) rfl ?_
  refine XS.iloadN X2.here hx rfl (hb hby d8_6) rfl ?_
  show AT p e below T2 m 7 #[rv a0, iv p1, iv (1 : Int32), iv (1 : Int32)] [(.int (1 : Int32)), (.int (1 : Int32))] _
  refine XS.icmpYes X2.here hx rfl (pc0 := 7) (pc' := 20) rfl (hb hby d8_7) rfl (XT.ii_ge_t ((by decide) : ¬ ((1 : Int32) < (1 : Int32)))) (by decide) (by decide) ?_
  exact X2.returnOut hx Bd.returns (hb hby d8_20) hr
 ·
  show Q8_1 Z a0 p1 kw h0 n0 _ T2.heap _
  rw [e2]
  exact ⟨rfl, N2, K2, V2_3⟩

theorem ef_8_2 (m : MethodId) (a0 : Addr) (p1 : Int32) : entryFrame m #[(.ref a0), (.int p1)] 4 = mkF m 0 #[rv a0, iv p1, un, un] [] := by first | (simp [entryFrame, mkF, argsToLocals, Value.category]; done) | rfl
def Q8_2 (Z : State) (a0 : Addr) (p1 : Int32) (kw : ClassId) (h0 : Heap) (n0 : Nat) (v : Option Value) (h : Heap) (L : List Loc) : Prop := v = none ∧ Fr n0 L ∧ Keep h0 h [a0] ∧ Arv Z h a0 kw .int (2 : Int32) [(.int p1), (.int p1)] (.int (0 : Int32))
set_option maxRecDepth 65536 in
set_option maxHeartbeats 40000000 in
theorem rm8_2 (l : Launch) (Z : State) (ar : Array Value) (hw : ∀ d ∈ tables_1, d.before ar Z = true) (ws : List Jvm.Cond) (a0 : Addr) (p1 : Int32) (kw : ClassId) (h0 : Heap) (n0 : Nat) (O0 : Old Z n0 h0) (pf0 : Arv Z h0 a0 kw .int (2 : Int32) [(.int (0 : Int32)), (.int (0 : Int32))] (.int (0 : Int32))) (pf1 : n0 ≤ a0) :
    MetFree l y8 (head1 (Jvm.Cond.code y8 jdk_65_method_103_code 4 none :: ws) ({ frames := 0, cells := 0, slots := 0, locals := 0 } : Room)) (fun a U => a = #[(.ref a0), (.int p1)] ∧ Z.Warmed39 U.vm ∧ U.heap = h0) (fun _ _ _ _ _ => True) (fun _ U o U' => ∃ v L, o = .returned v ∧ Q8_2 Z a0 p1 kw h0 n0 v U'.heap L ∧ FrameEnd U o U' L ({ frames := 0, cells := 0, slots := 0, locals := 0 } : Room).cells ({ frames := 0, cells := 0, slots := 0, locals := 0 } : Room).slots) := by
 refine MetFree.of_bodySF (plainFor_of_name pn_4) hisR ?_
 intro p e s m args below meth c s₁ Bd hml0 hP hK
 obtain ⟨rfl, hZ, hh⟩ := hP
 have hx := Bd.exec
 have hby := Bd.bytes
 have hml : c.maxLocals = 4 := hml0
 have hown : s.vm.findClass "java/util/Arrays" = some m.cls := findClass_of_methodNamed Bd.named
 have hnm := (name_of_methodNamed Bd.named Bd.method).1
 have X0 : Stand p l e ({ frames := 0, cells := 0, slots := 0, locals := 0 } : Room) s m #[(.ref a0), (.int p1)] below meth c s₁ [] 0 0 := Stand.of_body Bd
 have e0 : s₁.heap = h0 := by rw [← hh, Bd.state]; rfl
 have N0 := Fr.nil n0
 have Z0 : n0 ≤ h0.size := Nat.le_trans (Nat.le_of_eq O0.1.symm) O0.2.1
 obtain ⟨S0, hS0⟩ : ∃ z, z = s₁.setTop (entryFrame m #[(.ref a0), (.int p1)] 4) := ⟨_, rfl⟩
 have pre0 : ∀ tg, AT p e below s₁ m 0 #[rv a0, iv p1, un, un] [] tg → Steps p.tables e below S0 tg := fun tg kg => by rw [hS0]; exact castTop (ef_8_2 m a0 p1) kg
 obtain ⟨cl1, Ar1, q1, S1, N1, H1, G1⟩ := id pf0
 obtain ⟨cl2, Ar2, q2, S2, M2, H2, G2⟩ := id pf0
 have hin2 := own_in (0 : Int32) S2 ⟨by decide, by decide⟩
 obtain ⟨T2, h2, X2, e2, W2, st2⟩ := stI X0 hx hZ e0 Ar2 (j := (0 : Int32)) hin2 (g := (mkF m 13 #[rv a0, iv p1, iv (0 : Int32), iv (2 : Int32)] [(.int p1), (.int (0 : Int32)), (.ref a0)])) rfl rfl (hb hby d8_13)
 have V2_3 : Arv Z h2 a0 kw .int (2 : Int32) [(.int p1), (.int (0 : Int32))] (.int (0 : Int32)) := Arv.set Ar2 q2 S2 M2 H2 G2 rfl W2 0 rfl (Nat.le_of_ble_eq_true rfl)
 have K2 := (Keep.refl h0 [a0]).wr W2 (Or.inl (List.mem_of_getElem? (i := 0) rfl))
 have O2 := O0.wr W2 pf1
 have N2 := Fr.snoc X2 N0 pf1
 obtain ⟨cl4, Ar4, q4, S4, M4, H4, G4⟩ := id V2_3
 have hin4 := own_in (1 : Int32) S4 ⟨by decide, by decide⟩
 obtain ⟨T4, h4, X4, e4, W4, st4⟩ := stI X2 hx hZ e2 Ar4 (j := (1 : Int32)) hin4 (g := (mkF m 13 #[rv a0, iv p1, iv (1 : Int32), iv (2 : Int32)] [(.int p1), (.int (1 : Int32)), (.ref a0)])) rfl rfl (hb hby d8_13)
 have V4_5 : Arv Z h4 a0 kw .int (2 : Int32) [(.int p1), (.int p1)] (.int (0 : Int32)) := Arv.set Ar4 q4 S4 M4 H4 G4 rfl W4 1 rfl (Nat.le_of_ble_eq_true rfl)
 have K4 := K2.wr W4 (Or.inl (List.mem_of_getElem? (i := 0) rfl))
 have O4 := O2.wr W4 pf1
 have N4 := Fr.snoc X4 N2 pf1
 obtain ⟨fs, hr, hrun, hended, hW, hsame⟩ := X4.leave (v := none) (fun _ => rfl)
 subst hS0
 refine ⟨_, _, pre0 _ ?_, hrun, hended, _, _, rfl, ?_, ⟨_, rfl⟩, hW, hsame.mono (by decide) (by decide)⟩
 ·
  refine XS.iconst X0.here hx rfl (hb hby d8_0) ?_
  refine XS.istoreN X0.here hx rfl (hb hby d8_1) rfl (l' := #[rv a0, iv p1, iv (0 : Int32), un]) rfl ?_
  refine XS.aloadN X0.here hx rfl (hb hby d8_2) rfl rfl ?_
  refine X0.arraylength hx (by rw [e0]; exact Ar1.1) (State.isArrayOf_alike hZ.alike Ar1.2.1) (g := (mkF m 3 #[rv a0, iv p1, iv (0 : Int32), un] [(.ref a0)])) rfl rfl (hb hby d8_3) _ ?_
  rw [len_of S1 N1]
  refine XS.istoreN X0.here hx rfl (hb hby d8_4) rfl (l' := #[rv a0, iv p1, iv (0 : Int32), iv (2 : Int32)]) rfl ?_
  refine XS.iloadN X0.here hx rfl (hb hby d8_5) rfl ?_
  show AT p e below s₁ m 6 #[rv a0, iv p1, iv (0 : Int32), iv (2 : Int32)] [(.int (0 : Int32))] _
  refine XS.iloadN X0.here hx rfl (hb hby d8_6) rfl ?_
  show AT p e below s₁ m 7 #[rv a0, iv p1, iv (0 : Int32), iv (2 : Int32)] [(.int (2 : Int32)), (.int (0 : Int32))] _
  refine XS.icmpNo X0.here hx rfl (hb hby d8_7) rfl (XT.ii_ge_f ((by decide) : (0 : Int32) < (2 : Int32))) ?_
  refine XS.aloadN X0.here hx rfl (hb hby d8_10) rfl rfl ?_
  refine XS.iloadN X0.here hx rfl (hb hby d8_11) rfl ?_
  refine XS.iloadN X0.here hx rfl (hb hby d8_12) rfl ?_
  refine st2 _ ?_
  refine XS.iinc X2.here hx rfl (hb hby d8_14) rfl (l' := #[rv a0, iv p1, iv (1 : Int32), iv (2 : Int32)]) rfl ?_
  show AT p e below T2 m 17 #[rv a0, iv p1, iv (1 : Int32), iv (2 : Int32)] [] _
  refine XS.goto X2.here hx rfl (pc0 := 17) (pc' := 5) rfl (hb hby d8_17) (by decide) (by decide) ?_
  refine XS.iloadN X2.here hx rfl (hb hby d8_5) rfl ?_
  refine XS.iloadN X2.here hx rfl (hb hby d8_6) rfl ?_
  show AT p e below T2 m 7 #[rv a0, iv p1, iv (1 : Int32), iv (2 : Int32)] [(.int (2 : Int32)), (.int (1 : Int32))] _
  refine XS.icmpNo X2.here hx rfl (hb hby d8_7) rfl (XT.ii_ge_f ((by decide) : (1 : Int32) < (2 : Int32))) ?_
  refine XS.aloadN X2.here hx rfl (hb hby d8_10) rfl rfl ?_
  refine XS.iloadN X2.here hx rfl (hb hby d8_11) rfl ?_
  refine XS.iloadN X2.here hx rfl (hb hby d8_12) rfl ?_
  show AT p e below T2 m 13 #[rv a0, iv p1, iv (1 : Int32), iv (2 : Int32)] [(.int p1), (.int (1 : Int32)), (.ref a0)] _
  refine st4 _ ?_
  refine XS.iinc X4.here hx rfl (hb hby d8_14) rfl (l' := #[rv a0, iv p1, iv (2 : Int32), iv (2 : Int32)]) rfl ?_
  refine XS.goto X4.here hx rfl (pc0 := 17) (pc' := 5) rfl (hb hby d8_17) (by decide) (by decide) ?_
  refine XS.iloadN X4.here hx rfl (hb hby d8_5) rfl ?_
  refine XS.iloadN X4.here hx rfl (hb hby d8_6) rfl ?_
  show AT p e below T4 m 7 #[rv a0, iv p1, iv (2 : Int32), iv (2 : Int32)] [(.int (2 : Int32)), (.int (2 : Int32))] _
  refine XS.icmpYes X4.here hx rfl (pc0 := 7) (pc' := 20) rfl (hb hby d8_7) rfl (XT.ii_ge_t ((by decide) : ¬ ((2 : Int32) < (2 : Int32)))) (by decide) (by decide) ?_
  exact X4.returnOut hx Bd.returns (hb hby d8_20) hr
 ·
  show Q8_2 Z a0 p1 kw h0 n0 _ T4.heap _
  rw [e4]
  exact ⟨rfl, N4, K4, V4_5⟩

theorem ef_8_3 (m : MethodId) (a0 : Addr) (p1 : Int32) : entryFrame m #[(.ref a0), (.int p1)] 4 = mkF m 0 #[rv a0, iv p1, un, un] [] := by first | (simp [entryFrame, mkF, argsToLocals, Value.category]; done) | rfl
def Q8_3 (Z : State) (a0 : Addr) (p1 : Int32) (kw : ClassId) (h0 : Heap) (n0 : Nat) (v : Option Value) (h : Heap) (L : List Loc) : Prop := v = none ∧ Fr n0 L ∧ Keep h0 h [a0] ∧ Arv Z h a0 kw .int (3 : Int32) [(.int p1), (.int p1), (.int p1)] (.int (0 : Int32))
set_option maxRecDepth 65536 in
set_option maxHeartbeats 40000000 in
theorem rm8_3 (l : Launch) (Z : State) (ar : Array Value) (hw : ∀ d ∈ tables_1, d.before ar Z = true) (ws : List Jvm.Cond) (a0 : Addr) (p1 : Int32) (kw : ClassId) (h0 : Heap) (n0 : Nat) (O0 : Old Z n0 h0) (pf0 : Arv Z h0 a0 kw .int (3 : Int32) [(.int (0 : Int32)), (.int (0 : Int32)), (.int (0 : Int32))] (.int (0 : Int32))) (pf1 : n0 ≤ a0) :
    MetFree l y8 (head1 (Jvm.Cond.code y8 jdk_65_method_103_code 4 none :: ws) ({ frames := 0, cells := 0, slots := 0, locals := 0 } : Room)) (fun a U => a = #[(.ref a0), (.int p1)] ∧ Z.Warmed39 U.vm ∧ U.heap = h0) (fun _ _ _ _ _ => True) (fun _ U o U' => ∃ v L, o = .returned v ∧ Q8_3 Z a0 p1 kw h0 n0 v U'.heap L ∧ FrameEnd U o U' L ({ frames := 0, cells := 0, slots := 0, locals := 0 } : Room).cells ({ frames := 0, cells := 0, slots := 0, locals := 0 } : Room).slots) := by
 refine MetFree.of_bodySF (plainFor_of_name pn_4) hisR ?_
 intro p e s m args below meth c s₁ Bd hml0 hP hK
 obtain ⟨rfl, hZ, hh⟩ := hP
 have hx := Bd.exec
 have hby := Bd.bytes
 have hml : c.maxLocals = 4 := hml0
 have hown : s.vm.findClass "java/util/Arrays" = some m.cls := findClass_of_methodNamed Bd.named
 have hnm := (name_of_methodNamed Bd.named Bd.method).1
 have X0 : Stand p l e ({ frames := 0, cells := 0, slots := 0, locals := 0 } : Room) s m #[(.ref a0), (.int p1)] below meth c s₁ [] 0 0 := Stand.of_body Bd
 have e0 : s₁.heap = h0 := by rw [← hh, Bd.state]; rfl
 have N0 := Fr.nil n0
 have Z0 : n0 ≤ h0.size := Nat.le_trans (Nat.le_of_eq O0.1.symm) O0.2.1
 obtain ⟨S0, hS0⟩ : ∃ z, z = s₁.setTop (entryFrame m #[(.ref a0), (.int p1)] 4) := ⟨_, rfl⟩
 have pre0 : ∀ tg, AT p e below s₁ m 0 #[rv a0, iv p1, un, un] [] tg → Steps p.tables e below S0 tg := fun tg kg => by rw [hS0]; exact castTop (ef_8_3 m a0 p1) kg
 obtain ⟨cl1, Ar1, q1, S1, N1, H1, G1⟩ := id pf0
 obtain ⟨cl2, Ar2, q2, S2, M2, H2, G2⟩ := id pf0
 have hin2 := own_in (0 : Int32) S2 ⟨by decide, by decide⟩
 obtain ⟨T2, h2, X2, e2, W2, st2⟩ := stI X0 hx hZ e0 Ar2 (j := (0 : Int32)) hin2 (g := (mkF m 13 #[rv a0, iv p1, iv (0 : Int32), iv (3 : Int32)] [(.int p1), (.int (0 : Int32)), (.ref a0)])) rfl rfl (hb hby d8_13)
 have V2_3 : Arv Z h2 a0 kw .int (3 : Int32) [(.int p1), (.int (0 : Int32)), (.int (0 : Int32))] (.int (0 : Int32)) := Arv.set Ar2 q2 S2 M2 H2 G2 rfl W2 0 rfl (Nat.le_of_ble_eq_true rfl)
 have K2 := (Keep.refl h0 [a0]).wr W2 (Or.inl (List.mem_of_getElem? (i := 0) rfl))
 have O2 := O0.wr W2 pf1
 have N2 := Fr.snoc X2 N0 pf1
 obtain ⟨cl4, Ar4, q4, S4, M4, H4, G4⟩ := id V2_3
 have hin4 := own_in (1 : Int32) S4 ⟨by decide, by decide⟩
 obtain ⟨T4, h4, X4, e4, W4, st4⟩ := stI X2 hx hZ e2 Ar4 (j := (1 : Int32)) hin4 (g := (mkF m 13 #[rv a0, iv p1, iv (1 : Int32), iv (3 : Int32)] [(.int p1), (.int (1 : Int32)), (.ref a0)])) rfl rfl (hb hby d8_13)
 have V4_5 : Arv Z h4 a0 kw .int (3 : Int32) [(.int p1), (.int p1), (.int (0 : Int32))] (.int (0 : Int32)) := Arv.set Ar4 q4 S4 M4 H4 G4 rfl W4 1 rfl (Nat.le_of_ble_eq_true rfl)
 have K4 := K2.wr W4 (Or.inl (List.mem_of_getElem? (i := 0) rfl))
 have O4 := O2.wr W4 pf1
 have N4 := Fr.snoc X4 N2 pf1
 obtain ⟨cl6, Ar6, q6, S6, M6, H6, G6⟩ := id V4_5
 have hin6 := own_in (2 : Int32) S6 ⟨by decide, by decide⟩
 obtain ⟨T6, h6, X6, e6, W6, st6⟩ := stI X4 hx hZ e4 Ar6 (j := (2 : Int32)) hin6 (g := (mkF m 13 #[rv a0, iv p1, iv (2 : Int32), iv (3 : Int32)] [(.int p1), (.int (2 : Int32)), (.ref a0)])) rfl rfl (hb hby d8_13)
 have V6_7 : Arv Z h6 a0 kw .int (3 : Int32) [(.int p1), (.int p1), (.int p1)] (.int (0 : Int32)) := Arv.set Ar6 q6 S6 M6 H6 G6 rfl W6 2 rfl (Nat.le_of_ble_eq_true rfl)
 have K6 := K4.wr W6 (Or.inl (List.mem_of_getElem? (i := 0) rfl))
 have O6 := O4.wr W6 pf1
 have N6 := Fr.snoc X6 N4 pf1
 obtain ⟨fs, hr, hrun, hended, hW, hsame⟩ := X6.leave (v := none) (fun _ => rfl)
 subst hS0
 refine ⟨_, _, pre0 _ ?_, hrun, hended, _, _, rfl, ?_, ⟨_, rfl⟩, hW, hsame.mono (by decide) (by decide)⟩
 ·
  refine XS.iconst X0.here hx rfl (hb hby d8_0) ?_
  refine XS.istoreN X0.here hx rfl (hb hby d8_1) rfl (l' := #[rv a0, iv p1, iv (0 : Int32), un]) rfl ?_
  refine XS.aloadN X0.here hx rfl (hb hby d8_2) rfl rfl ?_
  refine X0.arraylength hx (by rw [e0]; exact Ar1.1) (State.isArrayOf_alike hZ.alike Ar1.2.1) (g := (mkF m 3 #[rv a0, iv p1, iv (0 : Int32), un] [(.ref a0)])) rfl rfl (hb hby d8_3) _ ?_
  rw [len_of S1 N1]
  refine XS.istoreN X0.here hx rfl (hb hby d8_4) rfl (l' := #[rv a0, iv p1, iv (0 : Int32), iv (3 : Int32)]) rfl ?_
  refine XS.iloadN X0.here hx rfl (hb hby d8_5) rfl ?_
  show AT p e below s₁ m 6 #[rv a0, iv p1, iv (0 : Int32), iv (3 : Int32)] [(.int (0 : Int32))] _
  refine XS.iloadN X0.here hx rfl (hb hby d8_6) rfl ?_
  show AT p e below s₁ m 7 #[rv a0, iv p1, iv (0 : Int32), iv (3 : Int32)] [(.int (3 : Int32)), (.int (0 : Int32))] _
  refine XS.icmpNo X0.here hx rfl (hb hby d8_7) rfl (XT.ii_ge_f ((by decide) : (0 : Int32) < (3 : Int32))) ?_
  refine XS.aloadN X0.here hx rfl (hb hby d8_10) rfl rfl ?_
  refine XS.iloadN X0.here hx rfl (hb hby d8_11) rfl ?_
  refine XS.iloadN X0.here hx rfl (hb hby d8_12) rfl ?_
  refine st2 _ ?_
  refine XS.iinc X2.here hx rfl (hb hby d8_14) rfl (l' := #[rv a0, iv p1, iv (1 : Int32), iv (3 : Int32)]) rfl ?_
  show AT p e below T2 m 17 #[rv a0, iv p1, iv (1 : Int32), iv (3 : Int32)] [] _
  refine XS.goto X2.here hx rfl (pc0 := 17) (pc' := 5) rfl (hb hby d8_17) (by decide) (by decide) ?_
  refine XS.iloadN X2.here hx rfl (hb hby d8_5) rfl ?_
  refine XS.iloadN X2.here hx rfl (hb hby d8_6) rfl ?_
  show AT p e below T2 m 7 #[rv a0, iv p1, iv (1 : Int32), iv (3 : Int32)] [(.int (3 : Int32)), (.int (1 : Int32))] _
  refine XS.icmpNo X2.here hx rfl (hb hby d8_7) rfl (XT.ii_ge_f ((by decide) : (1 : Int32) < (3 : Int32))) ?_
  refine XS.aloadN X2.here hx rfl (hb hby d8_10) rfl rfl ?_
  refine XS.iloadN X2.here hx rfl (hb hby d8_11) rfl ?_
  refine XS.iloadN X2.here hx rfl (hb hby d8_12) rfl ?_
  show AT p e below T2 m 13 #[rv a0, iv p1, iv (1 : Int32), iv (3 : Int32)] [(.int p1), (.int (1 : Int32)), (.ref a0)] _
  refine st4 _ ?_
  refine XS.iinc X4.here hx rfl (hb hby d8_14) rfl (l' := #[rv a0, iv p1, iv (2 : Int32), iv (3 : Int32)]) rfl ?_
  refine XS.goto X4.here hx rfl (pc0 := 17) (pc' := 5) rfl (hb hby d8_17) (by decide) (by decide) ?_
  refine XS.iloadN X4.here hx rfl (hb hby d8_5) rfl ?_
  refine XS.iloadN X4.here hx rfl (hb hby d8_6) rfl ?_
  show AT p e below T4 m 7 #[rv a0, iv p1, iv (2 : Int32), iv (3 : Int32)] [(.int (3 : Int32)), (.int (2 : Int32))] _
  refine XS.icmpNo X4.here hx rfl (hb hby d8_7) rfl (XT.ii_ge_f ((by decide) : (2 : Int32) < (3 : Int32))) ?_
  refine XS.aloadN X4.here hx rfl (hb hby d8_10) rfl rfl ?_
  show AT p e below T4 m 11 #[rv a0, iv p1, iv (2 : Int32), iv (3 : Int32)] [(.ref a0)] _
  refine XS.iloadN X4.here hx rfl (hb hby d8_11) rfl ?_
  refine XS.iloadN X4.here hx rfl (hb hby d8_12) rfl ?_
  refine st6 _ ?_
  refine XS.iinc X6.here hx rfl (hb hby d8_14) rfl (l' := #[rv a0, iv p1, iv (3 : Int32), iv (3 : Int32)]) rfl ?_
  refine XS.goto X6.here hx rfl (pc0 := 17) (pc' := 5) rfl (hb hby d8_17) (by decide) (by decide) ?_
  refine XS.iloadN X6.here hx rfl (hb hby d8_5) rfl ?_
  show AT p e below T6 m 6 #[rv a0, iv p1, iv (3 : Int32), iv (3 : Int32)] [(.int (3 : Int32))] _
  refine XS.iloadN X6.here hx rfl (hb hby d8_6) rfl ?_
  show AT p e below T6 m 7 #[rv a0, iv p1, iv (3 : Int32), iv (3 : Int32)] [(.int (3 : Int32)), (.int (3 : Int32))] _
  refine XS.icmpYes X6.here hx rfl (pc0 := 7) (pc' := 20) rfl (hb hby d8_7) rfl (XT.ii_ge_t ((by decide) : ¬ ((3 : Int32) < (3 : Int32)))) (by decide) (by decide) ?_
  exact X6.returnOut hx Bd.returns (hb hby d8_20) hr
 ·
  show Q8_3 Z a0 p1 kw h0 n0 _ T6.heap _
  rw [e6]
  exact ⟨rfl, N6, K6, V6_7⟩

theorem d3_0 : decode prog_13_method_1_code 0 = .ok (.aload_n 0, 1) := by decide +kernel
theorem d3_1 : decode prog_13_method_1_code 1 = .ok (.invokespecial 1, 3) := by decide +kernel
theorem d3_4 : decode prog_13_method_1_code 4 = .ok (.aload_n 0, 1) := by decide +kernel
theorem d3_5 : decode prog_13_method_1_code 5 = .ok (.new 7, 3) := by decide +kernel
theorem d3_8 : decode prog_13_method_1_code 8 = .ok (.dup, 1) := by decide +kernel
theorem d3_9 : decode prog_13_method_1_code 9 = .ok (.invokespecial 9, 3) := by decide +kernel
theorem d3_12 : decode prog_13_method_1_code 12 = .ok (.putfield 10, 3) := by decide +kernel
theorem d3_15 : decode prog_13_method_1_code 15 = .ok (.aload_n 0, 1) := by decide +kernel
theorem d3_16 : decode prog_13_method_1_code 16 = .ok (.iload_n 1, 1) := by decide +kernel
theorem d3_17 : decode prog_13_method_1_code 17 = .ok (.newarray .int, 2) := by decide +kernel
theorem d3_19 : decode prog_13_method_1_code 19 = .ok (.putfield 16, 3) := by decide +kernel
theorem d3_22 : decode prog_13_method_1_code 22 = .ok (.aload_n 0, 1) := by decide +kernel
theorem d3_23 : decode prog_13_method_1_code 23 = .ok (.getfield 16, 3) := by decide +kernel
theorem d3_26 : decode prog_13_method_1_code 26 = .ok (.iload_n 2, 1) := by decide +kernel
theorem d3_27 : decode prog_13_method_1_code 27 = .ok (.invokestatic 20, 3) := by decide +kernel
theorem d3_30 : decode prog_13_method_1_code 30 = .ok (.aload_n 0, 1) := by decide +kernel
theorem d3_31 : decode prog_13_method_1_code 31 = .ok (.iload_n 1, 1) := by decide +kernel
theorem d3_32 : decode prog_13_method_1_code 32 = .ok (.putfield 26, 3) := by decide +kernel
theorem d3_35 : decode prog_13_method_1_code 35 = .ok (.return_, 1) := by decide +kernel
theorem ef_3_0 (m : MethodId) (a0 : Addr) (p2 : Int32) : entryFrame m #[(.ref a0), (.int (0 : Int32)), (.int p2)] 3 = mkF m 0 #[rv a0, iv (0 : Int32), iv p2] [] := by first | (simp [entryFrame, mkF, argsToLocals, Value.category]; done) | rfl
def Q3_0 (Z : State) (a0 : Addr) (p2 : Int32) (w_EE0 : Addr) (w_DEE1 : Addr) (k_EE0 : ClassId) (k_DEE1 : ClassId) (h0 : Heap) (n0 : Nat) (v : Option Value) (h : Heap) (L : List Loc) : Prop := ∃ (li : Addr) (wa : Addr) (kw : ClassId), v = none ∧ Fr n0 L ∧ Keep h0 h [a0] ∧ Exa Z h a0 "com/example/filters_under_siege/filtersundersiege/Cover" ∧ Fld Z h a0 "com/example/filters_under_siege/filtersundersiege/Cover" "elements" "Ljava/util/List;" (.ref li) ∧ Fld Z h a0 "com/example/filters_under_siege/filtersundersiege/Cover" "wanted" "[I" (.ref wa) ∧ Fld Z h a0 "com/example/filters_under_siege/filtersundersiege/Cover" "uncovered" "I" (.int (0 : Int32)) ∧ Arv Z h wa kw .int (0 : Int32) [] (.int (0 : Int32)) ∧ Exa Z h li "java/util/ArrayList" ∧ Fld Z h li "java/util/AbstractList" "modCount" "I" (.int (0 : Int32)) ∧ Fld Z h li "java/util/ArrayList" "size" "I" (.int (0 : Int32)) ∧ Fld Z h li "java/util/ArrayList" "elementData" "[Ljava/lang/Object;" (.ref w_DEE1) ∧ h0.size ≤ li ∧ h0.size ≤ wa ∧ a0 ≠ li ∧ a0 ≠ wa ∧ li ≠ wa
set_option maxRecDepth 65536 in
set_option maxHeartbeats 40000000 in
theorem rm3_0 (l : Launch) (Z : State) (ar : Array Value) (hw : ∀ d ∈ tables_1, d.before ar Z = true) (ws : List Jvm.Cond) (a0 : Addr) (p2 : Int32) (w_EE0 : Addr) (w_DEE1 : Addr) (k_EE0 : ClassId) (k_DEE1 : ClassId) (h0 : Heap) (n0 : Nat) (O0 : Old Z n0 h0) (HW : Wd Z w_EE0 w_DEE1 k_EE0 k_DEE1) (pf0 : Exa Z h0 a0 "com/example/filters_under_siege/filtersundersiege/Cover") (pf1 : Fld Z h0 a0 "com/example/filters_under_siege/filtersundersiege/Cover" "elements" "Ljava/util/List;" .null) (pf2 : Fld Z h0 a0 "com/example/filters_under_siege/filtersundersiege/Cover" "wanted" "[I" .null) (pf3 : Fld Z h0 a0 "com/example/filters_under_siege/filtersundersiege/Cover" "uncovered" "I" (.int (0 : Int32))) (pf4 : n0 ≤ a0) :
    MetFree l y3 (head1 (Jvm.Cond.code y3 prog_13_method_1_code 3 none :: ws) ({ frames := 4, cells := 2, slots := 3, locals := 50 } : Room)) (fun a U => a = #[(.ref a0), (.int (0 : Int32)), (.int p2)] ∧ Z.Warmed39 U.vm ∧ U.heap = h0) (fun _ _ _ _ _ => True) (fun _ U o U' => ∃ v L, o = .returned v ∧ Q3_0 Z a0 p2 w_EE0 w_DEE1 k_EE0 k_DEE1 h0 n0 v U'.heap L ∧ FrameEnd U o U' L ({ frames := 4, cells := 2, slots := 3, locals := 50 } : Room).cells ({ frames := 4, cells := 2, slots := 3, locals := 50 } : Room).slots) := by
 refine MetFree.of_bodySF (plainFor_of_name pn_5) hisR ?_
 intro p e s m args below meth c s₁ Bd hml0 hP hK
 obtain ⟨rfl, hZ, hh⟩ := hP
 have hx := Bd.exec
 have hby := Bd.bytes
 have hml : c.maxLocals = 3 := hml0
 have hown : s.vm.findClass "com/example/filters_under_siege/filtersundersiege/Cover" = some m.cls := findClass_of_methodNamed Bd.named
 have hnm := (name_of_methodNamed Bd.named Bd.method).1
 have X0 : Stand p l e ({ frames := 4, cells := 2, slots := 3, locals := 50 } : Room) s m #[(.ref a0), (.int (0 : Int32)), (.int p2)] below meth c s₁ [] 0 0 := Stand.of_body Bd
 have e0 : s₁.heap = h0 := by rw [← hh, Bd.state]; rfl
 have N0 := Fr.nil n0
 have Z0 : n0 ≤ h0.size := Nat.le_trans (Nat.le_of_eq O0.1.symm) O0.2.1
 obtain ⟨S0, hS0⟩ : ∃ z, z = s₁.setTop (entryFrame m #[(.ref a0), (.int (0 : Int32)), (.int p2)] 3) := ⟨_, rfl⟩
 have pre0 : ∀ tg, AT p e below s₁ m 0 #[rv a0, iv (0 : Int32), iv p2] [] tg → Steps p.tables e below S0 tg := fun tg kg => by rw [hS0]; exact castTop (ef_3_0 m a0 p2) kg
 obtain ⟨S_EMPTY_ELEMENTDATA, E_EE0, S_DEFAULTCAPACITY_EMPTY_ELEMENTDATA, E_DEE1, V_EE0, V_DEE1⟩ := id HW
 obtain ⟨T1, X1, e1, st1⟩ := initO X0 hx hZ hown (ow hw 16 rfl) (ow hw 17 rfl) (ow hw 18 rfl) e0 (g := (mkF m 1 #[rv a0, iv (0 : Int32), iv p2] [(.ref a0)])) rfl (by rw [hml]; rfl) rfl (hb hby d3_1) (by decide) (W := 0) (by show 2 * 0 + _ ≤ _; exact Nat.le_of_eq rfl) (by decide)
 obtain ⟨T2, h2, X2, e2, E2, A2, D2, -, st2⟩ := newO X1 hx hZ hown (ow hw 19 rfl) (ow hw 20 rfl) (ow hw 21 rfl) e1 (g := (mkF m 5 #[rv a0, iv (0 : Int32), iv p2] [(.ref a0)])) rfl (hb hby d3_5) (by decide) (by decide)
 obtain ⟨b2, g2⟩ : ∃ z, z = h0.size := ⟨_, rfl⟩
 rw [← g2] at A2 D2 st2
 have ne2_3 : a0 ≠ b2 := Nat.ne_of_lt (Nat.lt_of_lt_of_le (pf0).lt (Nat.le_of_eq g2.symm))
 have gn2 : n0 ≤ b2 := Nat.le_trans (Nat.le_trans (Nat.le_of_eq O0.1.symm) O0.2.1) (Nat.le_of_eq g2.symm)
 have sz2 : h0.size ≤ b2 := Nat.le_trans (Keep.refl h0 [a0]).1 (Nat.le_of_eq g2.symm)
 have E2_4 := pf0.ext E2
 have F2_5 := pf1.ext E2
 have F2_6 := pf2.ext E2
 have F2_7 := pf3.ext E2
 have K2 := (Keep.refl h0 [a0]).ext E2
 have O2 := O0.ext E2
 have F2_8 : Fld Z h2 b2 "java/util/AbstractList" "modCount" "I" (.int (0 : Int32)) := D2 (Or.inl (ow hw 39 rfl)) (ty := .int) (by decide)
 have F2_9 : Fld Z h2 b2 "java/util/ArrayList" "elementData" "[Ljava/lang/Object;" .null := D2 (Or.inl (ow hw 42 rfl)) (ty := (.array (.object "java/lang/Object"))) (by decide)
 have F2_10 : Fld Z h2 b2 "java/util/ArrayList" "size" "I" (.int (0 : Int32)) := D2 (Or.inl (ow hw 82 rfl)) (ty := .int) (by decide)
 obtain ⟨_, _, ⟨T11, L11, k11, n11⟩, -, X11, ⟨Lc11, hQ11, l11, y11, z11⟩, st11⟩ := X2.specialBack hx (y := y5) rfl hown (mvT hZ (ow hw 22 rfl)) (mvT hZ (ow hw 23 rfl)) (mvT hZ (ow hw 24 rfl)) (by decide) (backOf (W := 2) (rm5 l Z ar hw [] b2 w_EE0 w_DEE1 k_EE0 k_DEE1 h2 n0 O2 HW A2 F2_8 F2_10 F2_9 gn2) hZ (ow hw 24 rfl) (ow hw 21 rfl) (by decide) (by decide)) (g := (mkF m 9 #[rv a0, iv (0 : Int32), iv p2] [(.ref b2), (.ref b2), (.ref a0)])) rfl (by rw [hml]; rfl) (Steps.refl _) (a := b2) (argsL := []) (rest := [(.ref b2), (.ref a0)]) (lenOf pd_2 rfl) rfl (by show 2 * 0 + _ ≤ _; exact Nat.le_of_eq rfl) (hb hby d3_9) (fun _ _ => ⟨rfl, e2, (by decide : 1 + 0 ≤ _), (by decide : 3 + 0 ≤ _)⟩)
 dsimp only [Pt.U, Pt.locs, Pt.cells, Pt.slots] at X11 l11 y11 z11 st11 hQ11
 subst l11 y11 z11
 obtain ⟨rfl, N11q, Kq11, u11_0, u11_1, u11_2, u11_3⟩ := hQ11
 have N11 := Fr.app N0 N11q
 have E11_12 := E2_4.keep Kq11
 have F11_13 := F2_5.keep Kq11 (ninS ne2_3 nin0)
 have F11_14 := F2_6.keep Kq11 (ninS ne2_3 nin0)
 have F11_15 := F2_7.keep Kq11 (ninS ne2_3 nin0)
 have E11_16 := A2.keep Kq11
 have K11 := K2.trans Kq11 (allS (Or.inr sz2) all0)
 have O11 := O2.keep Kq11 (allS gn2 all0)
 obtain ⟨T17, h17, X17, e17, W17, st17⟩ := putF X11 hx hZ hown (host := "") (Or.inl (ow hw 43 rfl)) Via.refl rfl F11_13 E11_12 (Or.inr ⟨(ow hw 44 rfl), rfl, hnm⟩) (ow hw 11 rfl) (ty := (.object "java/util/List")) (by decide) rfl rfl (g := (mkF m 12 #[rv a0, iv (0 : Int32), iv p2] [(.ref b2), (.ref a0)])) rfl rfl (hb hby d3_12)
 have E17_18 := E11_12.wr W17
 have F17_19 : Fld Z h17 a0 "com/example/filters_under_siege/filtersundersiege/Cover" "elements" "Ljava/util/List;" (.ref b2) := F11_13.same W17
 have F17_20 := F11_14.other W17 (Or.inr (slot_ne (Or.inr (ow hw 47 rfl)) (Or.inr (ow hw 44 rfl)) (by decide) (t := (.array .int)) (t' := (.object "java/util/List")) (by decide) (by decide)))
 have F17_21 := F11_15.other W17 (Or.inr (slot_ne (Or.inl (ow hw 53 rfl)) (Or.inr (ow hw 44 rfl)) (by decide) (t := .int) (t' := (.object "java/util/List")) (by decide) (by decide)))
 have E17_22 := E11_16.wr W17
 have F17_23 := u11_1.other W17 (Or.inl (Ne.symm ne2_3))
 have F17_24 := u11_2.other W17 (Or.inl (Ne.symm ne2_3))
 have F17_25 := u11_3.other W17 (Or.inl (Ne.symm ne2_3))
 have K17 := K11.wr W17 (Or.inl (List.mem_of_getElem? (i := 0) rfl))
 have O17 := O11.wr W17 pf4
 have N17 := Fr.snoc X17 N11 pf4
 obtain ⟨T26, h26, k26, X26, e26, E26, A26, B26, st26⟩ := newPE X17 hx hZ (ow hw 45 rfl) e17 (g := (mkF m 17 #[rv a0, iv (0 : Int32), iv p2] [(.int (0 : Int32)), (.ref a0)])) rfl (hb hby d3_17) rfl (by decide) (cap := 0) (by decide) (by decide) (by decide) (by decide) (ad := "[I") (by decide)
 obtain ⟨b26, g26⟩ : ∃ z, z = h17.size := ⟨_, rfl⟩
 rw [← g26] at A26 B26 st26
 have ne26_27 : a0 ≠ b26 := Nat.ne_of_lt (Nat.lt_of_lt_of_le (E17_18).lt (Nat.le_of_eq g26.symm))
 have ne26_28 : b2 ≠ b26 := Nat.ne_of_lt (Nat.lt_of_lt_of_le (E17_22).lt (Nat.le_of_eq g26.symm))
 have gn26 : n0 ≤ b26 := Nat.le_trans (Nat.le_trans (Nat.le_of_eq O17.1.symm) O17.2.1) (Nat.le_of_eq g26.symm)
 have sz26 : h0.size ≤ b26 := Nat.le_trans K17.1 (Nat.le_of_eq g26.symm)
 have E26_29 := E17_18.ext E26
 have F26_30 := F17_19.ext E26
 have F26_31 := F17_20.ext E26
 have F26_32 := F17_21.ext E26
 have E26_33 := E17_22.ext E26
 have F26_34 := F17_23.ext E26
 have F26_35 := F17_24.ext E26
 have F26_36 := F17_25.ext E26
 have K26 := K17.ext E26
 have O26 := O17.ext E26
 have V26_37 : Arv Z h26 b26 k26 .int (0 : Int32) [] (.int (0 : Int32)) := (Arv.new A26 (by decide))
 obtain ⟨T38, h38, X38, e38, W38, st38⟩ := putF X26 hx hZ hown (host := "") (Or.inl (ow hw 46 rfl)) Via.refl e26 F26_31 E26_29 (Or.inr ⟨(ow hw 47 rfl), rfl, hnm⟩) (ow hw 11 rfl) (ty := (.array .int)) (by decide) rfl rfl (g := (mkF m 19 #[rv a0, iv (0 : Int32), iv p2] [(.ref b26), (.ref a0)])) rfl rfl (hb hby d3_19)
 have E38_39 := E26_29.wr W38
 have F38_40 := F26_30.other W38 (Or.inr (slot_ne (Or.inr (ow hw 44 rfl)) (Or.inr (ow hw 47 rfl)) (by decide) (t := (.object "java/util/List")) (t' := (.array .int)) (by decide) (by decide)))
 have F38_41 : Fld Z h38 a0 "com/example/filters_under_siege/filtersundersiege/Cover" "wanted" "[I" (.ref b26) := F26_31.same W38
 have F38_42 := F26_32.other W38 (Or.inr (slot_ne (Or.inl (ow hw 53 rfl)) (Or.inr (ow hw 47 rfl)) (by decide) (t := .int) (t' := (.array .int)) (by decide) (by decide)))
 have E38_43 := E26_33.wr W38
 have F38_44 := F26_34.other W38 (Or.inl (Ne.symm ne2_3))
 have F38_45 := F26_35.other W38 (Or.inl (Ne.symm ne2_3))
 have F38_46 := F26_36.other W38 (Or.inl (Ne.symm ne2_3))
 have V38_47 := V26_37.other W38 (Ne.symm ne26_27)
 have E38_48 := B26.wr W38
 have K38 := K26.wr W38 (Or.inl (List.mem_of_getElem? (i := 0) rfl))
 have O38 := O26.wr W38 pf4
 have N38 := Fr.snoc X38 N17 pf4
 obtain ⟨T49, X49, e49, st49⟩ := getF X38 hx hZ hown (host := "") (Or.inl (ow hw 46 rfl)) Via.refl e38 F38_41 (g := (mkF m 23 #[rv a0, iv (0 : Int32), iv p2] [(.ref a0)])) rfl rfl (hb hby d3_23)
 obtain ⟨_, _, ⟨T50, L50, k50, n50⟩, -, X50, ⟨Lc50, hQ50, l50, y50, z50⟩, st50⟩ := Jvm.LawKit.callS X49 hx (y := y8) hown (mvT hZ (ow hw 48 rfl)) (mvT hZ (ow hw 49 rfl)) (mvT hZ (ow hw 50 rfl)) (mvT hZ (ow hw 51 rfl)) (by decide) (backOf (W := 0) (rm8_0 l Z ar hw [] b26 p2 k26 h38 n0 O38 V38_47 gn26) hZ (ow hw 51 rfl) (ow hw 50 rfl) (by decide) (by decide)) (g := (mkF m 27 #[rv a0, iv (0 : Int32), iv p2] [(.int p2), (.ref b26)])) rfl (by rw [hml]; rfl) (argsL := [(.ref b26), (.int p2)]) (rest := []) (lenOf pd_6 rfl) rfl (by show 2 * 0 + _ ≤ _; exact Nat.le_of_eq rfl) (hb hby d3_27) (fun _ _ => ⟨rfl, e49, (by decide : 2 + 0 ≤ _), (by decide : 3 + 0 ≤ _)⟩)
 dsimp only [Pt.U, Pt.locs, Pt.cells, Pt.slots] at X50 l50 y50 z50 st50 hQ50
 subst l50 y50 z50
 obtain ⟨rfl, N50q, Kq50, u50_0⟩ := hQ50
 have N50 := Fr.app N38 N50q
 have E50_51 := E38_39.keep Kq50
 have F50_52 := F38_40.keep Kq50 (ninS ne26_27 nin0)
 have F50_53 := F38_41.keep Kq50 (ninS ne26_27 nin0)
 have F50_54 := F38_42.keep Kq50 (ninS ne26_27 nin0)
 have E50_55 := E38_43.keep Kq50
 have F50_56 := F38_44.keep Kq50 (ninS ne26_28 nin0)
 have F50_57 := F38_45.keep Kq50 (ninS ne26_28 nin0)
 have F50_58 := F38_46.keep Kq50 (ninS ne26_28 nin0)
 have E50_59 := E38_48.keep Kq50
 have K50 := K38.trans Kq50 (allS (Or.inr sz26) all0)
 have O50 := O38.keep Kq50 (allS gn26 all0)
 obtain ⟨T60, h60, X60, e60, W60, st60⟩ := putF X50 hx hZ hown (host := "") (Or.inl (ow hw 52 rfl)) Via.refl rfl F50_54 E50_51 (Or.inl (ow hw 53 rfl)) (ow hw 11 rfl) (ty := .int) (by decide) rfl rfl (g := (mkF m 32 #[rv a0, iv (0 : Int32), iv p2] [(.int (0 : Int32)), (.ref a0)])) rfl rfl (hb hby d3_32)
 have E60_61 := E50_51.wr W60
 have F60_62 := F50_52.other W60 (Or.inr (slot_ne (Or.inr (ow hw 44 rfl)) (Or.inl (ow hw 53 rfl)) (by decide) (t := (.object "java/util/List")) (t' := .int) (by decide) (by decide)))
 have F60_63 := F50_53.other W60 (Or.inr (slot_ne (Or.inr (ow hw 47 rfl)) (Or.inl (ow hw 53 rfl)) (by decide) (t := (.array .int)) (t' := .int) (by decide) (by decide)))
 have F60_64 : Fld Z h60 a0 "com/example/filters_under_siege/filtersundersiege/Cover" "uncovered" "I" (.int (0 : Int32)) := F50_54.same W60
 have E60_65 := E50_55.wr W60
 have F60_66 := F50_56.other W60 (Or.inl (Ne.symm ne2_3))
 have F60_67 := F50_57.other W60 (Or.inl (Ne.symm ne2_3))
 have F60_68 := F50_58.other W60 (Or.inl (Ne.symm ne2_3))
 have E60_69 := E50_59.wr W60
 have V60_70 := u50_0.other W60 (Ne.symm ne26_27)
 have K60 := K50.wr W60 (Or.inl (List.mem_of_getElem? (i := 0) rfl))
 have O60 := O50.wr W60 pf4
 have N60 := Fr.snoc X60 N50 pf4
 obtain ⟨fs, hr, hrun, hended, hW, hsame⟩ := X60.leave (v := none) (fun _ => rfl)
 subst hS0
 refine ⟨_, _, pre0 _ ?_, hrun, hended, _, _, rfl, ?_, ⟨_, rfl⟩, hW, hsame.mono (by decide) (by decide)⟩
 ·
  refine XS.aloadN X0.here hx rfl (hb hby d3_0) rfl rfl ?_
  refine st1 _ ?_
  refine XS.aloadN X1.here hx rfl (hb hby d3_4) rfl rfl ?_
  refine st2 _ ?_
  refine XS.dup X2.here hx rfl (hb hby d3_8) rfl rfl ?_
  refine st11.trans ?_
  show AT p e below T11 m 12 #[rv a0, iv (0 : Int32), iv p2] [(.ref b2), (.ref a0)] _
  refine st17 _ ?_
  refine XS.aloadN X17.here hx rfl (hb hby d3_15) rfl rfl ?_
  refine XS.iloadN X17.here hx rfl (hb hby d3_16) rfl ?_
  refine st26 _ ?_
  refine st38 _ ?_
  refine XS.aloadN X38.here hx rfl (hb hby d3_22) rfl rfl ?_
  show AT p e below T38 m 23 #[rv a0, iv (0 : Int32), iv p2] [(.ref a0)] _
  refine st49 _ ?_
  refine XS.iloadN X49.here hx rfl (hb hby d3_26) rfl ?_
  refine st50 _ ?_
  refine XS.aloadN X50.here hx rfl (hb hby d3_30) rfl rfl ?_
  refine XS.iloadN X50.here hx rfl (hb hby d3_31) rfl ?_
  refine st60 _ ?_
  show AT p e below T60 m 35 #[rv a0, iv (0 : Int32), iv p2] [] _
  exact X60.returnOut hx Bd.returns (hb hby d3_35) hr
 ·
  show Q3_0 Z a0 p2 w_EE0 w_DEE1 k_EE0 k_DEE1 h0 n0 _ T60.heap _
  rw [e60]
  exact ⟨b2, b26, k26, rfl, N60, K60, E60_61, F60_62, F60_63, F60_64, V60_70, E60_65, F60_66, F60_67, F60_68, sz2, sz26, ne2_3, ne26_27, ne26_28⟩

theorem ef_3_1 (m : MethodId) (a0 : Addr) (p2 : Int32) : entryFrame m #[(.ref a0), (.int (1 : Int32)), (.int p2)] 3 = mkF m 0 #[rv a0, iv (1 : Int32), iv p2] [] := by first | (simp [entryFrame, mkF, argsToLocals, Value.category]; done) | rfl
def Q3_1 (Z : State) (a0 : Addr) (p2 : Int32) (w_EE0 : Addr) (w_DEE1 : Addr) (k_EE0 : ClassId) (k_DEE1 : ClassId) (h0 : Heap) (n0 : Nat) (v : Option Value) (h : Heap) (L : List Loc) : Prop := ∃ (li : Addr) (wa : Addr) (kw : ClassId), v = none ∧ Fr n0 L ∧ Keep h0 h [a0] ∧ Exa Z h a0 "com/example/filters_under_siege/filtersundersiege/Cover" ∧ Fld Z h a0 "com/example/filters_under_siege/filtersundersiege/Cover" "elements" "Ljava/util/List;" (.ref li) ∧ Fld Z h a0 "com/example/filters_under_siege/filtersundersiege/Cover" "wanted" "[I" (.ref wa) ∧ Fld Z h a0 "com/example/filters_under_siege/filtersundersiege/Cover" "uncovered" "I" (.int (1 : Int32)) ∧ Arv Z h wa kw .int (1 : Int32) [(.int p2)] (.int (0 : Int32)) ∧ Exa Z h li "java/util/ArrayList" ∧ Fld Z h li "java/util/AbstractList" "modCount" "I" (.int (0 : Int32)) ∧ Fld Z h li "java/util/ArrayList" "size" "I" (.int (0 : Int32)) ∧ Fld Z h li "java/util/ArrayList" "elementData" "[Ljava/lang/Object;" (.ref w_DEE1) ∧ h0.size ≤ li ∧ h0.size ≤ wa ∧ a0 ≠ li ∧ a0 ≠ wa ∧ li ≠ wa
set_option maxRecDepth 65536 in
set_option maxHeartbeats 40000000 in
theorem rm3_1 (l : Launch) (Z : State) (ar : Array Value) (hw : ∀ d ∈ tables_1, d.before ar Z = true) (ws : List Jvm.Cond) (a0 : Addr) (p2 : Int32) (w_EE0 : Addr) (w_DEE1 : Addr) (k_EE0 : ClassId) (k_DEE1 : ClassId) (h0 : Heap) (n0 : Nat) (O0 : Old Z n0 h0) (HW : Wd Z w_EE0 w_DEE1 k_EE0 k_DEE1) (pf0 : Exa Z h0 a0 "com/example/filters_under_siege/filtersundersiege/Cover") (pf1 : Fld Z h0 a0 "com/example/filters_under_siege/filtersundersiege/Cover" "elements" "Ljava/util/List;" .null) (pf2 : Fld Z h0 a0 "com/example/filters_under_siege/filtersundersiege/Cover" "wanted" "[I" .null) (pf3 : Fld Z h0 a0 "com/example/filters_under_siege/filtersundersiege/Cover" "uncovered" "I" (.int (0 : Int32))) (pf4 : n0 ≤ a0) :
    MetFree l y3 (head1 (Jvm.Cond.code y3 prog_13_method_1_code 3 none :: ws) ({ frames := 4, cells := 2, slots := 4, locals := 50 } : Room)) (fun a U => a = #[(.ref a0), (.int (1 : Int32)), (.int p2)] ∧ Z.Warmed39 U.vm ∧ U.heap = h0) (fun _ _ _ _ _ => True) (fun _ U o U' => ∃ v L, o = .returned v ∧ Q3_1 Z a0 p2 w_EE0 w_DEE1 k_EE0 k_DEE1 h0 n0 v U'.heap L ∧ FrameEnd U o U' L ({ frames := 4, cells := 2, slots := 4, locals := 50 } : Room).cells ({ frames := 4, cells := 2, slots := 4, locals := 50 } : Room).slots) := by
 refine MetFree.of_bodySF (plainFor_of_name pn_5) hisR ?_
 intro p e s m args below meth c s₁ Bd hml0 hP hK
 obtain ⟨rfl, hZ, hh⟩ := hP
 have hx := Bd.exec
 have hby := Bd.bytes
 have hml : c.maxLocals = 3 := hml0
 have hown : s.vm.findClass "com/example/filters_under_siege/filtersundersiege/Cover" = some m.cls := findClass_of_methodNamed Bd.named
 have hnm := (name_of_methodNamed Bd.named Bd.method).1
 have X0 : Stand p l e ({ frames := 4, cells := 2, slots := 4, locals := 50 } : Room) s m #[(.ref a0), (.int (1 : Int32)), (.int p2)] below meth c s₁ [] 0 0 := Stand.of_body Bd
 have e0 : s₁.heap = h0 := by rw [← hh, Bd.state]; rfl
 have N0 := Fr.nil n0
 have Z0 : n0 ≤ h0.size := Nat.le_trans (Nat.le_of_eq O0.1.symm) O0.2.1
 obtain ⟨S0, hS0⟩ : ∃ z, z = s₁.setTop (entryFrame m #[(.ref a0), (.int (1 : Int32)), (.int p2)] 3) := ⟨_, rfl⟩
 have pre0 : ∀ tg, AT p e below s₁ m 0 #[rv a0, iv (1 : Int32), iv p2] [] tg → Steps p.tables e below S0 tg := fun tg kg => by rw [hS0]; exact castTop (ef_3_1 m a0 p2) kg
 obtain ⟨S_EMPTY_ELEMENTDATA, E_EE0, S_DEFAULTCAPACITY_EMPTY_ELEMENTDATA, E_DEE1, V_EE0, V_DEE1⟩ := id HW
 obtain ⟨T1, X1, e1, st1⟩ := initO X0 hx hZ hown (ow hw 16 rfl) (ow hw 17 rfl) (ow hw 18 rfl) e0 (g := (mkF m 1 #[rv a0, iv (1 : Int32), iv p2] [(.ref a0)])) rfl (by rw [hml]; rfl) rfl (hb hby d3_1) (by decide) (W := 0) (by show 2 * 0 + _ ≤ _; exact Nat.le_of_eq rfl) (by decide)
 obtain ⟨T2, h2, X2, e2, E2, A2, D2, -, st2⟩ := newO X1 hx hZ hown (ow hw 19 rfl) (ow hw 20 rfl) (ow hw 21 rfl) e1 (g := (mkF m 5 #[rv a0, iv (1 : Int32), iv p2] [(.ref a0)])) rfl (hb hby d3_5) (by decide) (by decide)
 obtain ⟨b2, g2⟩ : ∃ z, z = h0.size := ⟨_, rfl⟩
 rw [← g2] at A2 D2 st2
 have ne2_3 : a0 ≠ b2 := Nat.ne_of_lt (Nat.lt_of_lt_of_le (pf0).lt (Nat.le_of_eq g2.symm))
 have gn2 : n0 ≤ b2 := Nat.le_trans (Nat.le_trans (Nat.le_of_eq O0.1.symm) O0.2.1) (Nat.le_of_eq g2.symm)
 have sz2 : h0.size ≤ b2 := Nat.le_trans (Keep.refl h0 [a0]).1 (Nat.le_of_eq g2.symm)
 have E2_4 := pf0.ext E2
 have F2_5 := pf1.ext E2
 have F2_6 := pf2.ext E2
 have F2_7 := pf3.ext E2
 have K2 := (Keep.refl h0 [a0]).ext E2
 have O2 := O0.ext E2
 have F2_8 : Fld Z h2 b2 "java/util/AbstractList" "modCount" "I" (.int (0 : Int32)) := D2 (Or.inl (ow hw 39 rfl)) (ty := .int) (by decide)
 have F2_9 : Fld Z h2 b2 "java/util/ArrayList" "elementData" "[Ljava/lang/Object;" .null := D2 (Or.inl (ow hw 42 rfl)) (ty := (.array (.object "java/lang/Object"))) (by decide)
 have F2_10 : Fld Z h2 b2 "java/util/ArrayList" "size" "I" (.int (0 : Int32)) := D2 (Or.inl (ow hw 82 rfl)) (ty := .int) (by decide)
 obtain ⟨_, _, ⟨T11, L11, k11, n11⟩, -, X11, ⟨Lc11, hQ11, l11, y11, z11⟩, st11⟩ := X2.specialBack hx (y := y5) rfl hown (mvT hZ (ow hw 22 rfl)) (mvT hZ (ow hw 23 rfl)) (mvT hZ (ow hw 24 rfl)) (by decide) (backOf (W := 2) (rm5 l Z ar hw [] b2 w_EE0 w_DEE1 k_EE0 k_DEE1 h2 n0 O2 HW A2 F2_8 F2_10 F2_9 gn2) hZ (ow hw 24 rfl) (ow hw 21 rfl) (by decide) (by decide)) (g := (mkF m 9 #[rv a0, iv (1 : Int32), iv p2] [(.ref b2), (.ref b2), (.ref a0)])) rfl (by rw [hml]; rfl) (Steps.refl _) (a := b2) (argsL := []) (rest := [(.ref b2), (.ref a0)]) (lenOf pd_2 rfl) rfl (by show 2 * 0 + _ ≤ _; exact Nat.le_of_eq rfl) (hb hby d3_9) (fun _ _ => ⟨rfl, e2, (by decide : 1 + 0 ≤ _), (by decide : 3 + 0 ≤ _)⟩)
 dsimp only [Pt.U, Pt.locs, Pt.cells, Pt.slots] at X11 l11 y11 z11 st11 hQ11
 subst l11 y11 z11
 obtain ⟨rfl, N11q, Kq11, u11_0, u11_1, u11_2, u11_3⟩ := hQ11
 have N11 := Fr.app N0 N11q
 have E11_12 := E2_4.keep Kq11
 have F11_13 := F2_5.keep Kq11 (ninS ne2_3 nin0)
 have F11_14 := F2_6.keep Kq11 (ninS ne2_3 nin0)
 have F11_15 := F2_7.keep Kq11 (ninS ne2_3 nin0)
 have E11_16 := A2.keep Kq11
 have K11 := K2.trans Kq11 (allS (Or.inr sz2) all0)
 have O11 := O2.keep Kq11 (allS gn2 all0)
 obtain ⟨T17, h17, X17, e17, W17, st17⟩ := putF X11 hx hZ hown (host := "") (Or.inl (ow hw 43 rfl)) Via.refl rfl F11_13 E11_12 (Or.inr ⟨(ow hw 44 rfl), rfl, hnm⟩) (ow hw 11 rfl) (ty := (.object "java/util/List")) (by decide) rfl rfl (g := (mkF m 12 #[rv a0, iv (1 : Int32), iv p2] [(.ref b2), (.ref a0)])) rfl rfl (hb hby d3_12)
 have E17_18 := E11_12.wr W17
 have F17_19 : Fld Z h17 a0 "com/example/filters_under_siege/filtersundersiege/Cover" "elements" "Ljava/util/List;" (.ref b2) := F11_13.same W17
 have F17_20 := F11_14.other W17 (Or.inr (slot_ne (Or.inr (ow hw 47 rfl)) (Or.inr (ow hw 44 rfl)) (by decide) (t := (.array .int)) (t' := (.object "java/util/List")) (by decide) (by decide)))
 have F17_21 := F11_15.other W17 (Or.inr (slot_ne (Or.inl (ow hw 53 rfl)) (Or.inr (ow hw 44 rfl)) (by decide) (t := .int) (t' := (.object "java/util/List")) (by decide) (by decide)))
 have E17_22 := E11_16.wr W17
 have F17_23 := u11_1.other W17 (Or.inl (Ne.symm ne2_3))
 have F17_24 := u11_2.other W17 (Or.inl (Ne.symm ne2_3))
 have F17_25 := u11_3.other W17 (Or.inl (Ne.symm ne2_3))
 have K17 := K11.wr W17 (Or.inl (List.mem_of_getElem? (i := 0) rfl))
 have O17 := O11.wr W17 pf4
 have N17 := Fr.snoc X17 N11 pf4
 obtain ⟨T26, h26, k26, X26, e26, E26, A26, B26, st26⟩ := newPE X17 hx hZ (ow hw 45 rfl) e17 (g := (mkF m 17 #[rv a0, iv (1 : Int32), iv p2] [(.int (1 : Int32)), (.ref a0)])) rfl (hb hby d3_17) rfl (by decide) (cap := 1) (by decide) (by decide) (by decide) (by decide) (ad := "[I") (by decide)
 obtain ⟨b26, g26⟩ : ∃ z, z = h17.size := ⟨_, rfl⟩
 rw [← g26] at A26 B26 st26
 have ne26_27 : a0 ≠ b26 := Nat.ne_of_lt (Nat.lt_of_lt_of_le (E17_18).lt (Nat.le_of_eq g26.symm))
 have ne26_28 : b2 ≠ b26 := Nat.ne_of_lt (Nat.lt_of_lt_of_le (E17_22).lt (Nat.le_of_eq g26.symm))
 have gn26 : n0 ≤ b26 := Nat.le_trans (Nat.le_trans (Nat.le_of_eq O17.1.symm) O17.2.1) (Nat.le_of_eq g26.symm)
 have sz26 : h0.size ≤ b26 := Nat.le_trans K17.1 (Nat.le_of_eq g26.symm)
 have E26_29 := E17_18.ext E26
 have F26_30 := F17_19.ext E26
 have F26_31 := F17_20.ext E26
 have F26_32 := F17_21.ext E26
 have E26_33 := E17_22.ext E26
 have F26_34 := F17_23.ext E26
 have F26_35 := F17_24.ext E26
 have F26_36 := F17_25.ext E26
 have K26 := K17.ext E26
 have O26 := O17.ext E26
 have V26_37 : Arv Z h26 b26 k26 .int (1 : Int32) [(.int (0 : Int32))] (.int (0 : Int32)) := (Arv.new A26 (by decide)).pad (pad_rep [] (.int (0 : Int32)) 1)
 obtain ⟨T38, h38, X38, e38, W38, st38⟩ := putF X26 hx hZ hown (host := "") (Or.inl (ow hw 46 rfl)) Via.refl e26 F26_31 E26_29 (Or.inr ⟨(ow hw 47 rfl), rfl, hnm⟩) (ow hw 11 rfl) (ty := (.array .int)) (by decide) rfl rfl (g := (mkF m 19 #[rv a0, iv (1 : Int32), iv p2] [(.ref b26), (.ref a0)])) rfl rfl (hb hby d3_19)
 have E38_39 := E26_29.wr W38
 have F38_40 := F26_30.other W38 (Or.inr (slot_ne (Or.inr (ow hw 44 rfl)) (Or.inr (ow hw 47 rfl)) (by decide) (t := (.object "java/util/List")) (t' := (.array .int)) (by decide) (by decide)))
 have F38_41 : Fld Z h38 a0 "com/example/filters_under_siege/filtersundersiege/Cover" "wanted" "[I" (.ref b26) := F26_31.same W38
 have F38_42 := F26_32.other W38 (Or.inr (slot_ne (Or.inl (ow hw 53 rfl)) (Or.inr (ow hw 47 rfl)) (by decide) (t := .int) (t' := (.array .int)) (by decide) (by decide)))
 have E38_43 := E26_33.wr W38
 have F38_44 := F26_34.other W38 (Or.inl (Ne.symm ne2_3))
 have F38_45 := F26_35.other W38 (Or.inl (Ne.symm ne2_3))
 have F38_46 := F26_36.other W38 (Or.inl (Ne.symm ne2_3))
 have V38_47 := V26_37.other W38 (Ne.symm ne26_27)
 have E38_48 := B26.wr W38
 have K38 := K26.wr W38 (Or.inl (List.mem_of_getElem? (i := 0) rfl))
 have O38 := O26.wr W38 pf4
 have N38 := Fr.snoc X38 N17 pf4
 obtain ⟨T49, X49, e49, st49⟩ := getF X38 hx hZ hown (host := "") (Or.inl (ow hw 46 rfl)) Via.refl e38 F38_41 (g := (mkF m 23 #[rv a0, iv (1 : Int32), iv p2] [(.ref a0)])) rfl rfl (hb hby d3_23)
 obtain ⟨_, _, ⟨T50, L50, k50, n50⟩, -, X50, ⟨Lc50, hQ50, l50, y50, z50⟩, st50⟩ := Jvm.LawKit.callS X49 hx (y := y8) hown (mvT hZ (ow hw 48 rfl)) (mvT hZ (ow hw 49 rfl)) (mvT hZ (ow hw 50 rfl)) (mvT hZ (ow hw 51 rfl)) (by decide) (backOf (W := 0) (rm8_1 l Z ar hw [] b26 p2 k26 h38 n0 O38 V38_47 gn26) hZ (ow hw 51 rfl) (ow hw 50 rfl) (by decide) (by decide)) (g := (mkF m 27 #[rv a0, iv (1 : Int32), iv p2] [(.int p2), (.ref b26)])) rfl (by rw [hml]; rfl) (argsL := [(.ref b26), (.int p2)]) (rest := []) (lenOf pd_6 rfl) rfl (by show 2 * 0 + _ ≤ _; exact Nat.le_of_eq rfl) (hb hby d3_27) (fun _ _ => ⟨rfl, e49, (by decide : 2 + 0 ≤ _), (by decide : 4 + 0 ≤ _)⟩)
 dsimp only [Pt.U, Pt.locs, Pt.cells, Pt.slots] at X50 l50 y50 z50 st50 hQ50
 subst l50 y50 z50
 obtain ⟨rfl, N50q, Kq50, u50_0⟩ := hQ50
 have N50 := Fr.app N38 N50q
 have E50_51 := E38_39.keep Kq50
 have F50_52 := F38_40.keep Kq50 (ninS ne26_27 nin0)
 have F50_53 := F38_41.keep Kq50 (ninS ne26_27 nin0)
 have F50_54 := F38_42.keep Kq50 (ninS ne26_27 nin0)
 have E50_55 := E38_43.keep Kq50
 have F50_56 := F38_44.keep Kq50 (ninS ne26_28 nin0)
 have F50_57 := F38_45.keep Kq50 (ninS ne26_28 nin0)
 have F50_58 := F38_46.keep Kq50 (ninS ne26_28 nin0)
 have E50_59 := E38_48.keep Kq50
 have K50 := K38.trans Kq50 (allS (Or.inr sz26) all0)
 have O50 := O38.keep Kq50 (allS gn26 all0)
 obtain ⟨T60, h60, X60, e60, W60, st60⟩ := putF X50 hx hZ hown (host := "") (Or.inl (ow hw 52 rfl)) Via.refl rfl F50_54 E50_51 (Or.inl (ow hw 53 rfl)) (ow hw 11 rfl) (ty := .int) (by decide) rfl rfl (g := (mkF m 32 #[rv a0, iv (1 : Int32), iv p2] [(.int (1 : Int32)), (.ref a0)])) rfl rfl (hb hby d3_32)
 have E60_61 := E50_51.wr W60
 have F60_62 := F50_52.other W60 (Or.inr (slot_ne (Or.inr (ow hw 44 rfl)) (Or.inl (ow hw 53 rfl)) (by decide) (t := (.object "java/util/List")) (t' := .int) (by decide) (by decide)))
 have F60_63 := F50_53.other W60 (Or.inr (slot_ne (Or.inr (ow hw 47 rfl)) (Or.inl (ow hw 53 rfl)) (by decide) (t := (.array .int)) (t' := .int) (by decide) (by decide)))
 have F60_64 : Fld Z h60 a0 "com/example/filters_under_siege/filtersundersiege/Cover" "uncovered" "I" (.int (1 : Int32)) := F50_54.same W60
 have E60_65 := E50_55.wr W60
 have F60_66 := F50_56.other W60 (Or.inl (Ne.symm ne2_3))
 have F60_67 := F50_57.other W60 (Or.inl (Ne.symm ne2_3))
 have F60_68 := F50_58.other W60 (Or.inl (Ne.symm ne2_3))
 have E60_69 := E50_59.wr W60
 have V60_70 := u50_0.other W60 (Ne.symm ne26_27)
 have K60 := K50.wr W60 (Or.inl (List.mem_of_getElem? (i := 0) rfl))
 have O60 := O50.wr W60 pf4
 have N60 := Fr.snoc X60 N50 pf4
 obtain ⟨fs, hr, hrun, hended, hW, hsame⟩ := X60.leave (v := none) (fun _ => rfl)
 subst hS0
 refine ⟨_, _, pre0 _ ?_, hrun, hended, _, _, rfl, ?_, ⟨_, rfl⟩, hW, hsame.mono (by decide) (by decide)⟩
 ·
  refine XS.aloadN X0.here hx rfl (hb hby d3_0) rfl rfl ?_
  refine st1 _ ?_
  refine XS.aloadN X1.here hx rfl (hb hby d3_4) rfl rfl ?_
  refine st2 _ ?_
  refine XS.dup X2.here hx rfl (hb hby d3_8) rfl rfl ?_
  refine st11.trans ?_
  show AT p e below T11 m 12 #[rv a0, iv (1 : Int32), iv p2] [(.ref b2), (.ref a0)] _
  refine st17 _ ?_
  refine XS.aloadN X17.here hx rfl (hb hby d3_15) rfl rfl ?_
  refine XS.iloadN X17.here hx rfl (hb hby d3_16) rfl ?_
  refine st26 _ ?_
  refine st38 _ ?_
  refine XS.aloadN X38.here hx rfl (hb hby d3_22) rfl rfl ?_
  show AT p e below T38 m 23 #[rv a0, iv (1 : Int32), iv p2] [(.ref a0)] _
  refine st49 _ ?_
  refine XS.iloadN X49.here hx rfl (hb hby d3_26) rfl ?_
  refine st50 _ ?_
  refine XS.aloadN X50.here hx rfl (hb hby d3_30) rfl rfl ?_
  refine XS.iloadN X50.here hx rfl (hb hby d3_31) rfl ?_
  refine st60 _ ?_
  show AT p e below T60 m 35 #[rv a0, iv (1 : Int32), iv p2] [] _
  exact X60.returnOut hx Bd.returns (hb hby d3_35) hr
 ·
  show Q3_1 Z a0 p2 w_EE0 w_DEE1 k_EE0 k_DEE1 h0 n0 _ T60.heap _
  rw [e60]
  exact ⟨b2, b26, k26, rfl, N60, K60, E60_61, F60_62, F60_63, F60_64, V60_70, E60_65, F60_66, F60_67, F60_68, sz2, sz26, ne2_3, ne26_27, ne26_28⟩

theorem ef_3_2 (m : MethodId) (a0 : Addr) (p2 : Int32) : entryFrame m #[(.ref a0), (.int (2 : Int32)), (.int p2)] 3 = mkF m 0 #[rv a0, iv (2 : Int32), iv p2] [] := by first | (simp [entryFrame, mkF, argsToLocals, Value.category]; done) | rfl
def Q3_2 (Z : State) (a0 : Addr) (p2 : Int32) (w_EE0 : Addr) (w_DEE1 : Addr) (k_EE0 : ClassId) (k_DEE1 : ClassId) (h0 : Heap) (n0 : Nat) (v : Option Value) (h : Heap) (L : List Loc) : Prop := ∃ (li : Addr) (wa : Addr) (kw : ClassId), v = none ∧ Fr n0 L ∧ Keep h0 h [a0] ∧ Exa Z h a0 "com/example/filters_under_siege/filtersundersiege/Cover" ∧ Fld Z h a0 "com/example/filters_under_siege/filtersundersiege/Cover" "elements" "Ljava/util/List;" (.ref li) ∧ Fld Z h a0 "com/example/filters_under_siege/filtersundersiege/Cover" "wanted" "[I" (.ref wa) ∧ Fld Z h a0 "com/example/filters_under_siege/filtersundersiege/Cover" "uncovered" "I" (.int (2 : Int32)) ∧ Arv Z h wa kw .int (2 : Int32) [(.int p2), (.int p2)] (.int (0 : Int32)) ∧ Exa Z h li "java/util/ArrayList" ∧ Fld Z h li "java/util/AbstractList" "modCount" "I" (.int (0 : Int32)) ∧ Fld Z h li "java/util/ArrayList" "size" "I" (.int (0 : Int32)) ∧ Fld Z h li "java/util/ArrayList" "elementData" "[Ljava/lang/Object;" (.ref w_DEE1) ∧ h0.size ≤ li ∧ h0.size ≤ wa ∧ a0 ≠ li ∧ a0 ≠ wa ∧ li ≠ wa
set_option maxRecDepth 65536 in
set_option maxHeartbeats 40000000 in
theorem rm3_2 (l : Launch) (Z : State) (ar : Array Value) (hw : ∀ d ∈ tables_1, d.before ar Z = true) (ws : List Jvm.Cond) (a0 : Addr) (p2 : Int32) (w_EE0 : Addr) (w_DEE1 : Addr) (k_EE0 : ClassId) (k_DEE1 : ClassId) (h0 : Heap) (n0 : Nat) (O0 : Old Z n0 h0) (HW : Wd Z w_EE0 w_DEE1 k_EE0 k_DEE1) (pf0 : Exa Z h0 a0 "com/example/filters_under_siege/filtersundersiege/Cover") (pf1 : Fld Z h0 a0 "com/example/filters_under_siege/filtersundersiege/Cover" "elements" "Ljava/util/List;" .null) (pf2 : Fld Z h0 a0 "com/example/filters_under_siege/filtersundersiege/Cover" "wanted" "[I" .null) (pf3 : Fld Z h0 a0 "com/example/filters_under_siege/filtersundersiege/Cover" "uncovered" "I" (.int (0 : Int32))) (pf4 : n0 ≤ a0) :
    MetFree l y3 (head1 (Jvm.Cond.code y3 prog_13_method_1_code 3 none :: ws) ({ frames := 4, cells := 2, slots := 5, locals := 50 } : Room)) (fun a U => a = #[(.ref a0), (.int (2 : Int32)), (.int p2)] ∧ Z.Warmed39 U.vm ∧ U.heap = h0) (fun _ _ _ _ _ => True) (fun _ U o U' => ∃ v L, o = .returned v ∧ Q3_2 Z a0 p2 w_EE0 w_DEE1 k_EE0 k_DEE1 h0 n0 v U'.heap L ∧ FrameEnd U o U' L ({ frames := 4, cells := 2, slots := 5, locals := 50 } : Room).cells ({ frames := 4, cells := 2, slots := 5, locals := 50 } : Room).slots) := by
 refine MetFree.of_bodySF (plainFor_of_name pn_5) hisR ?_
 intro p e s m args below meth c s₁ Bd hml0 hP hK
 obtain ⟨rfl, hZ, hh⟩ := hP
 have hx := Bd.exec
 have hby := Bd.bytes
 have hml : c.maxLocals = 3 := hml0
 have hown : s.vm.findClass "com/example/filters_under_siege/filtersundersiege/Cover" = some m.cls := findClass_of_methodNamed Bd.named
 have hnm := (name_of_methodNamed Bd.named Bd.method).1
 have X0 : Stand p l e ({ frames := 4, cells := 2, slots := 5, locals := 50 } : Room) s m #[(.ref a0), (.int (2 : Int32)), (.int p2)] below meth c s₁ [] 0 0 := Stand.of_body Bd
 have e0 : s₁.heap = h0 := by rw [← hh, Bd.state]; rfl
 have N0 := Fr.nil n0
 have Z0 : n0 ≤ h0.size := Nat.le_trans (Nat.le_of_eq O0.1.symm) O0.2.1
 obtain ⟨S0, hS0⟩ : ∃ z, z = s₁.setTop (entryFrame m #[(.ref a0), (.int (2 : Int32)), (.int p2)] 3) := ⟨_, rfl⟩
 have pre0 : ∀ tg, AT p e below s₁ m 0 #[rv a0, iv (2 : Int32), iv p2] [] tg → Steps p.tables e below S0 tg := fun tg kg => by rw [hS0]; exact castTop (ef_3_2 m a0 p2) kg
 obtain ⟨S_EMPTY_ELEMENTDATA, E_EE0, S_DEFAULTCAPACITY_EMPTY_ELEMENTDATA, E_DEE1, V_EE0, V_DEE1⟩ := id HW
 obtain ⟨T1, X1, e1, st1⟩ := initO X0 hx hZ hown (ow hw 16 rfl) (ow hw 17 rfl) (ow hw 18 rfl) e0 (g := (mkF m 1 #[rv a0, iv (2 : Int32), iv p2] [(.ref a0)])) rfl (by rw [hml]; rfl) rfl (hb hby d3_1) (by decide) (W := 0) (by show 2 * 0 + _ ≤ _; exact Nat.le_of_eq rfl) (by decide)
 obtain ⟨T2, h2, X2, e2, E2, A2, D2, -, st2⟩ := newO X1 hx hZ hown (ow hw 19 rfl) (ow hw 20 rfl) (ow hw 21 rfl) e1 (g := (mkF m 5 #[rv a0, iv (2 : Int32), iv p2] [(.ref a0)])) rfl (hb hby d3_5) (by decide) (by decide)
 obtain ⟨b2, g2⟩ : ∃ z, z = h0.size := ⟨_, rfl⟩
 rw [← g2] at A2 D2 st2
 have ne2_3 : a0 ≠ b2 := Nat.ne_of_lt (Nat.lt_of_lt_of_le (pf0).lt (Nat.le_of_eq g2.symm))
 have gn2 : n0 ≤ b2 := Nat.le_trans (Nat.le_trans (Nat.le_of_eq O0.1.symm) O0.2.1) (Nat.le_of_eq g2.symm)
 have sz2 : h0.size ≤ b2 := Nat.le_trans (Keep.refl h0 [a0]).1 (Nat.le_of_eq g2.symm)
 have E2_4 := pf0.ext E2
 have F2_5 := pf1.ext E2
 have F2_6 := pf2.ext E2
 have F2_7 := pf3.ext E2
 have K2 := (Keep.refl h0 [a0]).ext E2
 have O2 := O0.ext E2
 have F2_8 : Fld Z h2 b2 "java/util/AbstractList" "modCount" "I" (.int (0 : Int32)) := D2 (Or.inl (ow hw 39 rfl)) (ty := .int) (by decide)
 have F2_9 : Fld Z h2 b2 "java/util/ArrayList" "elementData" "[Ljava/lang/Object;" .null := D2 (Or.inl (ow hw 42 rfl)) (ty := (.array (.object "java/lang/Object"))) (by decide)
 have F2_10 : Fld Z h2 b2 "java/util/ArrayList" "size" "I" (.int (0 : Int32)) := D2 (Or.inl (ow hw 82 rfl)) (ty := .int) (by decide)
 obtain ⟨_, _, ⟨T11, L11, k11, n11⟩, -, X11, ⟨Lc11, hQ11, l11, y11, z11⟩, st11⟩ := X2.specialBack hx (y := y5) rfl hown (mvT hZ (ow hw 22 rfl)) (mvT hZ (ow hw 23 rfl)) (mvT hZ (ow hw 24 rfl)) (by decide) (backOf (W := 2) (rm5 l Z ar hw [] b2 w_EE0 w_DEE1 k_EE0 k_DEE1 h2 n0 O2 HW A2 F2_8 F2_10 F2_9 gn2) hZ (ow hw 24 rfl) (ow hw 21 rfl) (by decide) (by decide)) (g := (mkF m 9 #[rv a0, iv (2 : Int32), iv p2] [(.ref b2), (.ref b2), (.ref a0)])) rfl (by rw [hml]; rfl) (Steps.refl _) (a := b2) (argsL := []) (rest := [(.ref b2), (.ref a0)]) (lenOf pd_2 rfl) rfl (by show 2 * 0 + _ ≤ _; exact Nat.le_of_eq rfl) (hb hby d3_9) (fun _ _ => ⟨rfl, e2, (by decide : 1 + 0 ≤ _), (by decide : 3 + 0 ≤ _)⟩)
 dsimp only [Pt.U, Pt.locs, Pt.cells, Pt.slots] at X11 l11 y11 z11 st11 hQ11
 subst l11 y11 z11
 obtain ⟨rfl, N11q, Kq11, u11_0, u11_1, u11_2, u11_3⟩ := hQ11
 have N11 := Fr.app N0 N11q
 have E11_12 := E2_4.keep Kq11
 have F11_13 := F2_5.keep Kq11 (ninS ne2_3 nin0)
 have F11_14 := F2_6.keep Kq11 (ninS ne2_3 nin0)
 have F11_15 := F2_7.keep Kq11 (ninS ne2_3 nin0)
 have E11_16 := A2.keep Kq11
 have K11 := K2.trans Kq11 (allS (Or.inr sz2) all0)
 have O11 := O2.keep Kq11 (allS gn2 all0)
 obtain ⟨T17, h17, X17, e17, W17, st17⟩ := putF X11 hx hZ hown (host := "") (Or.inl (ow hw 43 rfl)) Via.refl rfl F11_13 E11_12 (Or.inr ⟨(ow hw 44 rfl), rfl, hnm⟩) (ow hw 11 rfl) (ty := (.object "java/util/List")) (by decide) rfl rfl (g := (mkF m 12 #[rv a0, iv (2 : Int32), iv p2] [(.ref b2), (.ref a0)])) rfl rfl (hb hby d3_12)
 have E17_18 := E11_12.wr W17
 have F17_19 : Fld Z h17 a0 "com/example/filters_under_siege/filtersundersiege/Cover" "elements" "Ljava/util/List;" (.ref b2) := F11_13.same W17
 have F17_20 := F11_14.other W17 (Or.inr (slot_ne (Or.inr (ow hw 47 rfl)) (Or.inr (ow hw 44 rfl)) (by decide) (t := (.array .int)) (t' := (.object "java/util/List")) (by decide) (by decide)))
 have F17_21 := F11_15.other W17 (Or.inr (slot_ne (Or.inl (ow hw 53 rfl)) (Or.inr (ow hw 44 rfl)) (by decide) (t := .int) (t' := (.object "java/util/List")) (by decide) (by decide)))
 have E17_22 := E11_16.wr W17
 have F17_23 := u11_1.other W17 (Or.inl (Ne.symm ne2_3))
 have F17_24 := u11_2.other W17 (Or.inl (Ne.symm ne2_3))
 have F17_25 := u11_3.other W17 (Or.inl (Ne.symm ne2_3))
 have K17 := K11.wr W17 (Or.inl (List.mem_of_getElem? (i := 0) rfl))
 have O17 := O11.wr W17 pf4
 have N17 := Fr.snoc X17 N11 pf4
 obtain ⟨T26, h26, k26, X26, e26, E26, A26, B26, st26⟩ := newPE X17 hx hZ (ow hw 45 rfl) e17 (g := (mkF m 17 #[rv a0, iv (2 : Int32), iv p2] [(.int (2 : Int32)), (.ref a0)])) rfl (hb hby d3_17) rfl (by decide) (cap := 2) (by decide) (by decide) (by decide) (by decide) (ad := "[I") (by decide)
 obtain ⟨b26, g26⟩ : ∃ z, z = h17.size := ⟨_, rfl⟩
 rw [← g26] at A26 B26 st26
 have ne26_27 : a0 ≠ b26 := Nat.ne_of_lt (Nat.lt_of_lt_of_le (E17_18).lt (Nat.le_of_eq g26.symm))
 have ne26_28 : b2 ≠ b26 := Nat.ne_of_lt (Nat.lt_of_lt_of_le (E17_22).lt (Nat.le_of_eq g26.symm))
 have gn26 : n0 ≤ b26 := Nat.le_trans (Nat.le_trans (Nat.le_of_eq O17.1.symm) O17.2.1) (Nat.le_of_eq g26.symm)
 have sz26 : h0.size ≤ b26 := Nat.le_trans K17.1 (Nat.le_of_eq g26.symm)
 have E26_29 := E17_18.ext E26
 have F26_30 := F17_19.ext E26
 have F26_31 := F17_20.ext E26
 have F26_32 := F17_21.ext E26
 have E26_33 := E17_22.ext E26
 have F26_34 := F17_23.ext E26
 have F26_35 := F17_24.ext E26
 have F26_36 := F17_25.ext E26
 have K26 := K17.ext E26
 have O26 := O17.ext E26
 have V26_37 : Arv Z h26 b26 k26 .int (2 : Int32) [(.int (0 : Int32)), (.int (0 : Int32))] (.int (0 : Int32)) := (Arv.new A26 (by decide)).pad (pad_rep [] (.int (0 : Int32)) 2)
 obtain ⟨T38, h38, X38, e38, W38, st38⟩ := putF X26 hx hZ hown (host := "") (Or.inl (ow hw 46 rfl)) Via.refl e26 F26_31 E26_29 (Or.inr ⟨(ow hw 47 rfl), rfl, hnm⟩) (ow hw 11 rfl) (ty := (.array .int)) (by decide) rfl rfl (g := (mkF m 19 #[rv a0, iv (2 : Int32), iv p2] [(.ref b26), (.ref a0)])) rfl rfl (hb hby d3_19)
 have E38_39 := E26_29.wr W38
 have F38_40 := F26_30.other W38 (Or.inr (slot_ne (Or.inr (ow hw 44 rfl)) (Or.inr (ow hw 47 rfl)) (by decide) (t := (.object "java/util/List")) (t' := (.array .int)) (by decide) (by decide)))
 have F38_41 : Fld Z h38 a0 "com/example/filters_under_siege/filtersundersiege/Cover" "wanted" "[I" (.ref b26) := F26_31.same W38
 have F38_42 := F26_32.other W38 (Or.inr (slot_ne (Or.inl (ow hw 53 rfl)) (Or.inr (ow hw 47 rfl)) (by decide) (t := .int) (t' := (.array .int)) (by decide) (by decide)))
 have E38_43 := E26_33.wr W38
 have F38_44 := F26_34.other W38 (Or.inl (Ne.symm ne2_3))
 have F38_45 := F26_35.other W38 (Or.inl (Ne.symm ne2_3))
 have F38_46 := F26_36.other W38 (Or.inl (Ne.symm ne2_3))
 have V38_47 := V26_37.other W38 (Ne.symm ne26_27)
 have E38_48 := B26.wr W38
 have K38 := K26.wr W38 (Or.inl (List.mem_of_getElem? (i := 0) rfl))
 have O38 := O26.wr W38 pf4
 have N38 := Fr.snoc X38 N17 pf4
 obtain ⟨T49, X49, e49, st49⟩ := getF X38 hx hZ hown (host := "") (Or.inl (ow hw 46 rfl)) Via.refl e38 F38_41 (g := (mkF m 23 #[rv a0, iv (2 : Int32), iv p2] [(.ref a0)])) rfl rfl (hb hby d3_23)
 obtain ⟨_, _, ⟨T50, L50, k50, n50⟩, -, X50, ⟨Lc50, hQ50, l50, y50, z50⟩, st50⟩ := Jvm.LawKit.callS X49 hx (y := y8) hown (mvT hZ (ow hw 48 rfl)) (mvT hZ (ow hw 49 rfl)) (mvT hZ (ow hw 50 rfl)) (mvT hZ (ow hw 51 rfl)) (by decide) (backOf (W := 0) (rm8_2 l Z ar hw [] b26 p2 k26 h38 n0 O38 V38_47 gn26) hZ (ow hw 51 rfl) (ow hw 50 rfl) (by decide) (by decide)) (g := (mkF m 27 #[rv a0, iv (2 : Int32), iv p2] [(.int p2), (.ref b26)])) rfl (by rw [hml]; rfl) (argsL := [(.ref b26), (.int p2)]) (rest := []) (lenOf pd_6 rfl) rfl (by show 2 * 0 + _ ≤ _; exact Nat.le_of_eq rfl) (hb hby d3_27) (fun _ _ => ⟨rfl, e49, (by decide : 2 + 0 ≤ _), (by decide : 5 + 0 ≤ _)⟩)
 dsimp only [Pt.U, Pt.locs, Pt.cells, Pt.slots] at X50 l50 y50 z50 st50 hQ50
 subst l50 y50 z50
 obtain ⟨rfl, N50q, Kq50, u50_0⟩ := hQ50
 have N50 := Fr.app N38 N50q
 have E50_51 := E38_39.keep Kq50
 have F50_52 := F38_40.keep Kq50 (ninS ne26_27 nin0)
 have F50_53 := F38_41.keep Kq50 (ninS ne26_27 nin0)
 have F50_54 := F38_42.keep Kq50 (ninS ne26_27 nin0)
 have E50_55 := E38_43.keep Kq50
 have F50_56 := F38_44.keep Kq50 (ninS ne26_28 nin0)
 have F50_57 := F38_45.keep Kq50 (ninS ne26_28 nin0)
 have F50_58 := F38_46.keep Kq50 (ninS ne26_28 nin0)
 have E50_59 := E38_48.keep Kq50
 have K50 := K38.trans Kq50 (allS (Or.inr sz26) all0)
 have O50 := O38.keep Kq50 (allS gn26 all0)
 obtain ⟨T60, h60, X60, e60, W60, st60⟩ := putF X50 hx hZ hown (host := "") (Or.inl (ow hw 52 rfl)) Via.refl rfl F50_54 E50_51 (Or.inl (ow hw 53 rfl)) (ow hw 11 rfl) (ty := .int) (by decide) rfl rfl (g := (mkF m 32 #[rv a0, iv (2 : Int32), iv p2] [(.int (2 : Int32)), (.ref a0)])) rfl rfl (hb hby d3_32)
 have E60_61 := E50_51.wr W60
 have F60_62 := F50_52.other W60 (Or.inr (slot_ne (Or.inr (ow hw 44 rfl)) (Or.inl (ow hw 53 rfl)) (by decide) (t := (.object "java/util/List")) (t' := .int) (by decide) (by decide)))
 have F60_63 := F50_53.other W60 (Or.inr (slot_ne (Or.inr (ow hw 47 rfl)) (Or.inl (ow hw 53 rfl)) (by decide) (t := (.array .int)) (t' := .int) (by decide) (by decide)))
 have F60_64 : Fld Z h60 a0 "com/example/filters_under_siege/filtersundersiege/Cover" "uncovered" "I" (.int (2 : Int32)) := F50_54.same W60
 have E60_65 := E50_55.wr W60
 have F60_66 := F50_56.other W60 (Or.inl (Ne.symm ne2_3))
 have F60_67 := F50_57.other W60 (Or.inl (Ne.symm ne2_3))
 have F60_68 := F50_58.other W60 (Or.inl (Ne.symm ne2_3))
 have E60_69 := E50_59.wr W60
 have V60_70 := u50_0.other W60 (Ne.symm ne26_27)
 have K60 := K50.wr W60 (Or.inl (List.mem_of_getElem? (i := 0) rfl))
 have O60 := O50.wr W60 pf4
 have N60 := Fr.snoc X60 N50 pf4
 obtain ⟨fs, hr, hrun, hended, hW, hsame⟩ := X60.leave (v := none) (fun _ => rfl)
 subst hS0
 refine ⟨_, _, pre0 _ ?_, hrun, hended, _, _, rfl, ?_, ⟨_, rfl⟩, hW, hsame.mono (by decide) (by decide)⟩
 ·
  refine XS.aloadN X0.here hx rfl (hb hby d3_0) rfl rfl ?_
  refine st1 _ ?_
  refine XS.aloadN X1.here hx rfl (hb hby d3_4) rfl rfl ?_
  refine st2 _ ?_
  refine XS.dup X2.here hx rfl (hb hby d3_8) rfl rfl ?_
  refine st11.trans ?_
  show AT p e below T11 m 12 #[rv a0, iv (2 : Int32), iv p2] [(.ref b2), (.ref a0)] _
  refine st17 _ ?_
  refine XS.aloadN X17.here hx rfl (hb hby d3_15) rfl rfl ?_
  refine XS.iloadN X17.here hx rfl (hb hby d3_16) rfl ?_
  refine st26 _ ?_
  refine st38 _ ?_
  refine XS.aloadN X38.here hx rfl (hb hby d3_22) rfl rfl ?_
  show AT p e below T38 m 23 #[rv a0, iv (2 : Int32), iv p2] [(.ref a0)] _
  refine st49 _ ?_
  refine XS.iloadN X49.here hx rfl (hb hby d3_26) rfl ?_
  refine st50 _ ?_
  refine XS.aloadN X50.here hx rfl (hb hby d3_30) rfl rfl ?_
  refine XS.iloadN X50.here hx rfl (hb hby d3_31) rfl ?_
  refine st60 _ ?_
  show AT p e below T60 m 35 #[rv a0, iv (2 : Int32), iv p2] [] _
  exact X60.returnOut hx Bd.returns (hb hby d3_35) hr
 ·
  show Q3_2 Z a0 p2 w_EE0 w_DEE1 k_EE0 k_DEE1 h0 n0 _ T60.heap _
  rw [e60]
  exact ⟨b2, b26, k26, rfl, N60, K60, E60_61, F60_62, F60_63, F60_64, V60_70, E60_65, F60_66, F60_67, F60_68, sz2, sz26, ne2_3, ne26_27, ne26_28⟩

theorem ef_3_3 (m : MethodId) (a0 : Addr) (p2 : Int32) : entryFrame m #[(.ref a0), (.int (3 : Int32)), (.int p2)] 3 = mkF m 0 #[rv a0, iv (3 : Int32), iv p2] [] := by first | (simp [entryFrame, mkF, argsToLocals, Value.category]; done) | rfl
def Q3_3 (Z : State) (a0 : Addr) (p2 : Int32) (w_EE0 : Addr) (w_DEE1 : Addr) (k_EE0 : ClassId) (k_DEE1 : ClassId) (h0 : Heap) (n0 : Nat) (v : Option Value) (h : Heap) (L : List Loc) : Prop := ∃ (li : Addr) (wa : Addr) (kw : ClassId), v = none ∧ Fr n0 L ∧ Keep h0 h [a0] ∧ Exa Z h a0 "com/example/filters_under_siege/filtersundersiege/Cover" ∧ Fld Z h a0 "com/example/filters_under_siege/filtersundersiege/Cover" "elements" "Ljava/util/List;" (.ref li) ∧ Fld Z h a0 "com/example/filters_under_siege/filtersundersiege/Cover" "wanted" "[I" (.ref wa) ∧ Fld Z h a0 "com/example/filters_under_siege/filtersundersiege/Cover" "uncovered" "I" (.int (3 : Int32)) ∧ Arv Z h wa kw .int (3 : Int32) [(.int p2), (.int p2), (.int p2)] (.int (0 : Int32)) ∧ Exa Z h li "java/util/ArrayList" ∧ Fld Z h li "java/util/AbstractList" "modCount" "I" (.int (0 : Int32)) ∧ Fld Z h li "java/util/ArrayList" "size" "I" (.int (0 : Int32)) ∧ Fld Z h li "java/util/ArrayList" "elementData" "[Ljava/lang/Object;" (.ref w_DEE1) ∧ h0.size ≤ li ∧ h0.size ≤ wa ∧ a0 ≠ li ∧ a0 ≠ wa ∧ li ≠ wa
set_option maxRecDepth 65536 in
set_option maxHeartbeats 40000000 in
theorem rm3_3 (l : Launch) (Z : State) (ar : Array Value) (hw : ∀ d ∈ tables_1, d.before ar Z = true) (ws : List Jvm.Cond) (a0 : Addr) (p2 : Int32) (w_EE0 : Addr) (w_DEE1 : Addr) (k_EE0 : ClassId) (k_DEE1 : ClassId) (h0 : Heap) (n0 : Nat) (O0 : Old Z n0 h0) (HW : Wd Z w_EE0 w_DEE1 k_EE0 k_DEE1) (pf0 : Exa Z h0 a0 "com/example/filters_under_siege/filtersundersiege/Cover") (pf1 : Fld Z h0 a0 "com/example/filters_under_siege/filtersundersiege/Cover" "elements" "Ljava/util/List;" .null) (pf2 : Fld Z h0 a0 "com/example/filters_under_siege/filtersundersiege/Cover" "wanted" "[I" .null) (pf3 : Fld Z h0 a0 "com/example/filters_under_siege/filtersundersiege/Cover" "uncovered" "I" (.int (0 : Int32))) (pf4 : n0 ≤ a0) :
    MetFree l y3 (head1 (Jvm.Cond.code y3 prog_13_method_1_code 3 none :: ws) ({ frames := 4, cells := 2, slots := 6, locals := 50 } : Room)) (fun a U => a = #[(.ref a0), (.int (3 : Int32)), (.int p2)] ∧ Z.Warmed39 U.vm ∧ U.heap = h0) (fun _ _ _ _ _ => True) (fun _ U o U' => ∃ v L, o = .returned v ∧ Q3_3 Z a0 p2 w_EE0 w_DEE1 k_EE0 k_DEE1 h0 n0 v U'.heap L ∧ FrameEnd U o U' L ({ frames := 4, cells := 2, slots := 6, locals := 50 } : Room).cells ({ frames := 4, cells := 2, slots := 6, locals := 50 } : Room).slots) := by
 refine MetFree.of_bodySF (plainFor_of_name pn_5) hisR ?_
 intro p e s m args below meth c s₁ Bd hml0 hP hK
 obtain ⟨rfl, hZ, hh⟩ := hP
 have hx := Bd.exec
 have hby := Bd.bytes
 have hml : c.maxLocals = 3 := hml0
 have hown : s.vm.findClass "com/example/filters_under_siege/filtersundersiege/Cover" = some m.cls := findClass_of_methodNamed Bd.named
 have hnm := (name_of_methodNamed Bd.named Bd.method).1
 have X0 : Stand p l e ({ frames := 4, cells := 2, slots := 6, locals := 50 } : Room) s m #[(.ref a0), (.int (3 : Int32)), (.int p2)] below meth c s₁ [] 0 0 := Stand.of_body Bd
 have e0 : s₁.heap = h0 := by rw [← hh, Bd.state]; rfl
 have N0 := Fr.nil n0
 have Z0 : n0 ≤ h0.size := Nat.le_trans (Nat.le_of_eq O0.1.symm) O0.2.1
 obtain ⟨S0, hS0⟩ : ∃ z, z = s₁.setTop (entryFrame m #[(.ref a0), (.int (3 : Int32)), (.int p2)] 3) := ⟨_, rfl⟩
 have pre0 : ∀ tg, AT p e below s₁ m 0 #[rv a0, iv (3 : Int32), iv p2] [] tg → Steps p.tables e below S0 tg := fun tg kg => by rw [hS0]; exact castTop (ef_3_3 m a0 p2) kg
 obtain ⟨S_EMPTY_ELEMENTDATA, E_EE0, S_DEFAULTCAPACITY_EMPTY_ELEMENTDATA, E_DEE1, V_EE0, V_DEE1⟩ := id HW
 obtain ⟨T1, X1, e1, st1⟩ := initO X0 hx hZ hown (ow hw 16 rfl) (ow hw 17 rfl) (ow hw 18 rfl) e0 (g := (mkF m 1 #[rv a0, iv (3 : Int32), iv p2] [(.ref a0)])) rfl (by rw [hml]; rfl) rfl (hb hby d3_1) (by decide) (W := 0) (by show 2 * 0 + _ ≤ _; exact Nat.le_of_eq rfl) (by decide)
 obtain ⟨T2, h2, X2, e2, E2, A2, D2, -, st2⟩ := newO X1 hx hZ hown (ow hw 19 rfl) (ow hw 20 rfl) (ow hw 21 rfl) e1 (g := (mkF m 5 #[rv a0, iv (3 : Int32), iv p2] [(.ref a0)])) rfl (hb hby d3_5) (by decide) (by decide)
 obtain ⟨b2, g2⟩ : ∃ z, z = h0.size := ⟨_, rfl⟩
 rw [← g2] at A2 D2 st2
 have ne2_3 : a0 ≠ b2 := Nat.ne_of_lt (Nat.lt_of_lt_of_le (pf0).lt (Nat.le_of_eq g2.symm))
 have gn2 : n0 ≤ b2 := Nat.le_trans (Nat.le_trans (Nat.le_of_eq O0.1.symm) O0.2.1) (Nat.le_of_eq g2.symm)
 have sz2 : h0.size ≤ b2 := Nat.le_trans (Keep.refl h0 [a0]).1 (Nat.le_of_eq g2.symm)
 have E2_4 := pf0.ext E2
 have F2_5 := pf1.ext E2
 have F2_6 := pf2.ext E2
 have F2_7 := pf3.ext E2
 have K2 := (Keep.refl h0 [a0]).ext E2
 have O2 := O0.ext E2
 have F2_8 : Fld Z h2 b2 "java/util/AbstractList" "modCount" "I" (.int (0 : Int32)) := D2 (Or.inl (ow hw 39 rfl)) (ty := .int) (by decide)
 have F2_9 : Fld Z h2 b2 "java/util/ArrayList" "elementData" "[Ljava/lang/Object;" .null := D2 (Or.inl (ow hw 42 rfl)) (ty := (.array (.object "java/lang/Object"))) (by decide)
 have F2_10 : Fld Z h2 b2 "java/util/ArrayList" "size" "I" (.int (0 : Int32)) := D2 (Or.inl (ow hw 82 rfl)) (ty := .int) (by decide)
 obtain ⟨_, _, ⟨T11, L11, k11, n11⟩, -, X11, ⟨Lc11, hQ11, l11, y11, z11⟩, st11⟩ := X2.specialBack hx (y := y5) rfl hown (mvT hZ (ow hw 22 rfl)) (mvT hZ (ow hw 23 rfl)) (mvT hZ (ow hw 24 rfl)) (by decide) (backOf (W := 2) (rm5 l Z ar hw [] b2 w_EE0 w_DEE1 k_EE0 k_DEE1 h2 n0 O2 HW A2 F2_8 F2_10 F2_9 gn2) hZ (ow hw 24 rfl) (ow hw 21 rfl) (by decide) (by decide)) (g := (mkF m 9 #[rv a0, iv (3 : Int32), iv p2] [(.ref b2), (.ref b2), (.ref a0)])) rfl (by rw [hml]; rfl) (Steps.refl _) (a := b2) (argsL := []) (rest := [(.ref b2), (.ref a0)]) (lenOf pd_2 rfl) rfl (by show 2 * 0 + _ ≤ _; exact Nat.le_of_eq rfl) (hb hby d3_9) (fun _ _ => ⟨rfl, e2, (by decide : 1 + 0 ≤ _), (by decide : 3 + 0 ≤ _)⟩)
 dsimp only [Pt.U, Pt.locs, Pt.cells, Pt.slots] at X11 l11 y11 z11 st11 hQ11
 subst l11 y11 z11
 obtain ⟨rfl, N11q, Kq11, u11_0, u11_1, u11_2, u11_3⟩ := hQ11
 have N11 := Fr.app N0 N11q
 have E11_12 := E2_4.keep Kq11
 have F11_13 := F2_5.keep Kq11 (ninS ne2_3 nin0)
 have F11_14 := F2_6.keep Kq11 (ninS ne2_3 nin0)
 have F11_15 := F2_7.keep Kq11 (ninS ne2_3 nin0)
 have E11_16 := A2.keep Kq11
 have K11 := K2.trans Kq11 (allS (Or.inr sz2) all0)
 have O11 := O2.keep Kq11 (allS gn2 all0)
 obtain ⟨T17, h17, X17, e17, W17, st17⟩ := putF X11 hx hZ hown (host := "") (Or.inl (ow hw 43 rfl)) Via.refl rfl F11_13 E11_12 (Or.inr ⟨(ow hw 44 rfl), rfl, hnm⟩) (ow hw 11 rfl) (ty := (.object "java/util/List")) (by decide) rfl rfl (g := (mkF m 12 #[rv a0, iv (3 : Int32), iv p2] [(.ref b2), (.ref a0)])) rfl rfl (hb hby d3_12)
 have E17_18 := E11_12.wr W17
 have F17_19 : Fld Z h17 a0 "com/example/filters_under_siege/filtersundersiege/Cover" "elements" "Ljava/util/List;" (.ref b2) := F11_13.same W17
 have F17_20 := F11_14.other W17 (Or.inr (slot_ne (Or.inr (ow hw 47 rfl)) (Or.inr (ow hw 44 rfl)) (by decide) (t := (.array .int)) (t' := (.object "java/util/List")) (by decide) (by decide)))
 have F17_21 := F11_15.other W17 (Or.inr (slot_ne (Or.inl (ow hw 53 rfl)) (Or.inr (ow hw 44 rfl)) (by decide) (t := .int) (t' := (.object "java/util/List")) (by decide) (by decide)))
 have E17_22 := E11_16.wr W17
 have F17_23 := u11_1.other W17 (Or.inl (Ne.symm ne2_3))
 have F17_24 := u11_2.other W17 (Or.inl (Ne.symm ne2_3))
 have F17_25 := u11_3.other W17 (Or.inl (Ne.symm ne2_3))
 have K17 := K11.wr W17 (Or.inl (List.mem_of_getElem? (i := 0) rfl))
 have O17 := O11.wr W17 pf4
 have N17 := Fr.snoc X17 N11 pf4
 obtain ⟨T26, h26, k26, X26, e26, E26, A26, B26, st26⟩ := newPE X17 hx hZ (ow hw 45 rfl) e17 (g := (mkF m 17 #[rv a0, iv (3 : Int32), iv p2] [(.int (3 : Int32)), (.ref a0)])) rfl (hb hby d3_17) rfl (by decide) (cap := 3) (by decide) (by decide) (by decide) (by decide) (ad := "[I") (by decide)
 obtain ⟨b26, g26⟩ : ∃ z, z = h17.size := ⟨_, rfl⟩
 rw [← g26] at A26 B26 st26
 have ne26_27 : a0 ≠ b26 := Nat.ne_of_lt (Nat.lt_of_lt_of_le (E17_18).lt (Nat.le_of_eq g26.symm))
 have ne26_28 : b2 ≠ b26 := Nat.ne_of_lt (Nat.lt_of_lt_of_le (E17_22).lt (Nat.le_of_eq g26.symm))
 have gn26 : n0 ≤ b26 := Nat.le_trans (Nat.le_trans (Nat.le_of_eq O17.1.symm) O17.2.1) (Nat.le_of_eq g26.symm)
 have sz26 : h0.size ≤ b26 := Nat.le_trans K17.1 (Nat.le_of_eq g26.symm)
 have E26_29 := E17_18.ext E26
 have F26_30 := F17_19.ext E26
 have F26_31 := F17_20.ext E26
 have F26_32 := F17_21.ext E26
 have E26_33 := E17_22.ext E26
 have F26_34 := F17_23.ext E26
 have F26_35 := F17_24.ext E26
 have F26_36 := F17_25.ext E26
 have K26 := K17.ext E26
 have O26 := O17.ext E26
 have V26_37 : Arv Z h26 b26 k26 .int (3 : Int32) [(.int (0 : Int32)), (.int (0 : Int32)), (.int (0 : Int32))] (.int (0 : Int32)) := (Arv.new A26 (by decide)).pad (pad_rep [] (.int (0 : Int32)) 3)
 obtain ⟨T38, h38, X38, e38, W38, st38⟩ := putF X26 hx hZ hown (host := "") (Or.inl (ow hw 46 rfl)) Via.refl e26 F26_31 E26_29 (Or.inr ⟨(ow hw 47 rfl), rfl, hnm⟩) (ow hw 11 rfl) (ty := (.array .int)) (by decide) rfl rfl (g := (mkF m 19 #[rv a0, iv (3 : Int32), iv p2] [(.ref b26), (.ref a0)])) rfl rfl (hb hby d3_19)
 have E38_39 := E26_29.wr W38
 have F38_40 := F26_30.other W38 (Or.inr (slot_ne (Or.inr (ow hw 44 rfl)) (Or.inr (ow hw 47 rfl)) (by decide) (t := (.object "java/util/List")) (t' := (.array .int)) (by decide) (by decide)))
 have F38_41 : Fld Z h38 a0 "com/example/filters_under_siege/filtersundersiege/Cover" "wanted" "[I" (.ref b26) := F26_31.same W38
 have F38_42 := F26_32.other W38 (Or.inr (slot_ne (Or.inl (ow hw 53 rfl)) (Or.inr (ow hw 47 rfl)) (by decide) (t := .int) (t' := (.array .int)) (by decide) (by decide)))
 have E38_43 := E26_33.wr W38
 have F38_44 := F26_34.other W38 (Or.inl (Ne.symm ne2_3))
 have F38_45 := F26_35.other W38 (Or.inl (Ne.symm ne2_3))
 have F38_46 := F26_36.other W38 (Or.inl (Ne.symm ne2_3))
 have V38_47 := V26_37.other W38 (Ne.symm ne26_27)
 have E38_48 := B26.wr W38
 have K38 := K26.wr W38 (Or.inl (List.mem_of_getElem? (i := 0) rfl))
 have O38 := O26.wr W38 pf4
 have N38 := Fr.snoc X38 N17 pf4
 obtain ⟨T49, X49, e49, st49⟩ := getF X38 hx hZ hown (host := "") (Or.inl (ow hw 46 rfl)) Via.refl e38 F38_41 (g := (mkF m 23 #[rv a0, iv (3 : Int32), iv p2] [(.ref a0)])) rfl rfl (hb hby d3_23)
 obtain ⟨_, _, ⟨T50, L50, k50, n50⟩, -, X50, ⟨Lc50, hQ50, l50, y50, z50⟩, st50⟩ := Jvm.LawKit.callS X49 hx (y := y8) hown (mvT hZ (ow hw 48 rfl)) (mvT hZ (ow hw 49 rfl)) (mvT hZ (ow hw 50 rfl)) (mvT hZ (ow hw 51 rfl)) (by decide) (backOf (W := 0) (rm8_3 l Z ar hw [] b26 p2 k26 h38 n0 O38 V38_47 gn26) hZ (ow hw 51 rfl) (ow hw 50 rfl) (by decide) (by decide)) (g := (mkF m 27 #[rv a0, iv (3 : Int32), iv p2] [(.int p2), (.ref b26)])) rfl (by rw [hml]; rfl) (argsL := [(.ref b26), (.int p2)]) (rest := []) (lenOf pd_6 rfl) rfl (by show 2 * 0 + _ ≤ _; exact Nat.le_of_eq rfl) (hb hby d3_27) (fun _ _ => ⟨rfl, e49, (by decide : 2 + 0 ≤ _), (by decide : 6 + 0 ≤ _)⟩)
 dsimp only [Pt.U, Pt.locs, Pt.cells, Pt.slots] at X50 l50 y50 z50 st50 hQ50
 subst l50 y50 z50
 obtain ⟨rfl, N50q, Kq50, u50_0⟩ := hQ50
 have N50 := Fr.app N38 N50q
 have E50_51 := E38_39.keep Kq50
 have F50_52 := F38_40.keep Kq50 (ninS ne26_27 nin0)
 have F50_53 := F38_41.keep Kq50 (ninS ne26_27 nin0)
 have F50_54 := F38_42.keep Kq50 (ninS ne26_27 nin0)
 have E50_55 := E38_43.keep Kq50
 have F50_56 := F38_44.keep Kq50 (ninS ne26_28 nin0)
 have F50_57 := F38_45.keep Kq50 (ninS ne26_28 nin0)
 have F50_58 := F38_46.keep Kq50 (ninS ne26_28 nin0)
 have E50_59 := E38_48.keep Kq50
 have K50 := K38.trans Kq50 (allS (Or.inr sz26) all0)
 have O50 := O38.keep Kq50 (allS gn26 all0)
 obtain ⟨T60, h60, X60, e60, W60, st60⟩ := putF X50 hx hZ hown (host := "") (Or.inl (ow hw 52 rfl)) Via.refl rfl F50_54 E50_51 (Or.inl (ow hw 53 rfl)) (ow hw 11 rfl) (ty := .int) (by decide) rfl rfl (g := (mkF m 32 #[rv a0, iv (3 : Int32), iv p2] [(.int (3 : Int32)), (.ref a0)])) rfl rfl (hb hby d3_32)
 have E60_61 := E50_51.wr W60
 have F60_62 := F50_52.other W60 (Or.inr (slot_ne (Or.inr (ow hw 44 rfl)) (Or.inl (ow hw 53 rfl)) (by decide) (t := (.object "java/util/List")) (t' := .int) (by decide) (by decide)))
 have F60_63 := F50_53.other W60 (Or.inr (slot_ne (Or.inr (ow hw 47 rfl)) (Or.inl (ow hw 53 rfl)) (by decide) (t := (.array .int)) (t' := .int) (by decide) (by decide)))
 have F60_64 : Fld Z h60 a0 "com/example/filters_under_siege/filtersundersiege/Cover" "uncovered" "I" (.int (3 : Int32)) := F50_54.same W60
 have E60_65 := E50_55.wr W60
 have F60_66 := F50_56.other W60 (Or.inl (Ne.symm ne2_3))
 have F60_67 := F50_57.other W60 (Or.inl (Ne.symm ne2_3))
 have F60_68 := F50_58.other W60 (Or.inl (Ne.symm ne2_3))
 have E60_69 := E50_59.wr W60
 have V60_70 := u50_0.other W60 (Ne.symm ne26_27)
 have K60 := K50.wr W60 (Or.inl (List.mem_of_getElem? (i := 0) rfl))
 have O60 := O50.wr W60 pf4
 have N60 := Fr.snoc X60 N50 pf4
 obtain ⟨fs, hr, hrun, hended, hW, hsame⟩ := X60.leave (v := none) (fun _ => rfl)
 subst hS0
 refine ⟨_, _, pre0 _ ?_, hrun, hended, _, _, rfl, ?_, ⟨_, rfl⟩, hW, hsame.mono (by decide) (by decide)⟩
 ·
  refine XS.aloadN X0.here hx rfl (hb hby d3_0) rfl rfl ?_
  refine st1 _ ?_
  refine XS.aloadN X1.here hx rfl (hb hby d3_4) rfl rfl ?_
  refine st2 _ ?_
  refine XS.dup X2.here hx rfl (hb hby d3_8) rfl rfl ?_
  refine st11.trans ?_
  show AT p e below T11 m 12 #[rv a0, iv (3 : Int32), iv p2] [(.ref b2), (.ref a0)] _
  refine st17 _ ?_
  refine XS.aloadN X17.here hx rfl (hb hby d3_15) rfl rfl ?_
  refine XS.iloadN X17.here hx rfl (hb hby d3_16) rfl ?_
  refine st26 _ ?_
  refine st38 _ ?_
  refine XS.aloadN X38.here hx rfl (hb hby d3_22) rfl rfl ?_
  show AT p e below T38 m 23 #[rv a0, iv (3 : Int32), iv p2] [(.ref a0)] _
  refine st49 _ ?_
  refine XS.iloadN X49.here hx rfl (hb hby d3_26) rfl ?_
  refine st50 _ ?_
  refine XS.aloadN X50.here hx rfl (hb hby d3_30) rfl rfl ?_
  refine XS.iloadN X50.here hx rfl (hb hby d3_31) rfl ?_
  refine st60 _ ?_
  show AT p e below T60 m 35 #[rv a0, iv (3 : Int32), iv p2] [] _
  exact X60.returnOut hx Bd.returns (hb hby d3_35) hr
 ·
  show Q3_3 Z a0 p2 w_EE0 w_DEE1 k_EE0 k_DEE1 h0 n0 _ T60.heap _
  rw [e60]
  exact ⟨b2, b26, k26, rfl, N60, K60, E60_61, F60_62, F60_63, F60_64, V60_70, E60_65, F60_66, F60_67, F60_68, sz2, sz26, ne2_3, ne26_27, ne26_28⟩

theorem d9_0 : decode prog_13_method_4_code 0 = .ok (.aload_n 0, 1) := by decide +kernel
theorem d9_1 : decode prog_13_method_4_code 1 = .ok (.getfield 26, 3) := by decide +kernel
theorem d9_4 : decode prog_13_method_4_code 4 = .ok (.ifCond .ne 7, 3) := by decide +kernel
theorem d9_7 : decode prog_13_method_4_code 7 = .ok (.iconst 1, 1) := by decide +kernel
theorem d9_8 : decode prog_13_method_4_code 8 = .ok (.goto 4, 3) := by decide +kernel
theorem d9_11 : decode prog_13_method_4_code 11 = .ok (.iconst 0, 1) := by decide +kernel
theorem d9_12 : decode prog_13_method_4_code 12 = .ok (.ireturn, 1) := by decide +kernel
theorem ef_9 (m : MethodId) (a0 : Addr) : entryFrame m #[(.ref a0)] 1 = mkF m 0 #[rv a0] [] := by first | (simp [entryFrame, mkF, argsToLocals, Value.category]; done) | rfl
def f9 (u : Int32) : Int32 := if u = (0 : Int32) then (1 : Int32) else (0 : Int32)
def Q9 (Z : State) (a0 : Addr) (u : Int32) (h0 : Heap) (n0 : Nat) (v : Option Value) (h : Heap) (L : List Loc) : Prop := v = some (.int (f9 u)) ∧ Fr n0 L ∧ h = h0
set_option maxRecDepth 65536 in
set_option maxHeartbeats 40000000 in
theorem rm9 (l : Launch) (Z : State) (ar : Array Value) (hw : ∀ d ∈ tables_1, d.before ar Z = true) (ws : List Jvm.Cond) (a0 : Addr) (u : Int32) (h0 : Heap) (n0 : Nat) (O0 : Old Z n0 h0) (pf0 : Fld Z h0 a0 "com/example/filters_under_siege/filtersundersiege/Cover" "uncovered" "I" (.int u)) :
    MetFree l y9 (head1 (Jvm.Cond.code y9 prog_13_method_4_code 1 (some .boolean) :: ws) ({ frames := 0, cells := 0, slots := 0, locals := 0 } : Room)) (fun a U => a = #[(.ref a0)] ∧ Z.Warmed39 U.vm ∧ U.heap = h0) (fun _ _ _ _ _ => True) (fun _ U o U' => ∃ v L, o = .returned v ∧ Q9 Z a0 u h0 n0 v U'.heap L ∧ FrameEnd U o U' L ({ frames := 0, cells := 0, slots := 0, locals := 0 } : Room).cells ({ frames := 0, cells := 0, slots := 0, locals := 0 } : Room).slots) := by
 refine MetFree.of_bodySF (plainFor_of_name pn_5) hisR ?_
 intro p e s m args below meth c s₁ Bd hml0 hP hK
 obtain ⟨rfl, hZ, hh⟩ := hP
 have hx := Bd.exec
 have hby := Bd.bytes
 have hml : c.maxLocals = 1 := hml0
 have hown : s.vm.findClass "com/example/filters_under_siege/filtersundersiege/Cover" = some m.cls := findClass_of_methodNamed Bd.named
 have hnm := (name_of_methodNamed Bd.named Bd.method).1
 have X0 : Stand p l e ({ frames := 0, cells := 0, slots := 0, locals := 0 } : Room) s m #[(.ref a0)] below meth c s₁ [] 0 0 := Stand.of_body Bd
 have e0 : s₁.heap = h0 := by rw [← hh, Bd.state]; rfl
 have N0 := Fr.nil n0
 have Z0 : n0 ≤ h0.size := Nat.le_trans (Nat.le_of_eq O0.1.symm) O0.2.1
 obtain ⟨S0, hS0⟩ : ∃ z, z = s₁.setTop (entryFrame m #[(.ref a0)] 1) := ⟨_, rfl⟩
 have pre0 : ∀ tg, AT p e below s₁ m 0 #[rv a0] [] tg → Steps p.tables e below S0 tg := fun tg kg => by rw [hS0]; exact castTop (ef_9 m a0) kg
 obtain ⟨T1, X1, e1, st1⟩ := getF X0 hx hZ hown (host := "") (Or.inl (ow hw 52 rfl)) Via.refl e0 pf0 (g := (mkF m 1 #[rv a0] [(.ref a0)])) rfl rfl (hb hby d9_1)
 have pre2 : ∀ tg, AT p e below T1 m 4 #[rv a0] [(.int u)] tg → Steps p.tables e below S0 tg := fun tg kg => pre0 tg (by
  refine XS.aloadN X0.here hx rfl (hb hby d9_0) rfl rfl ?_
  refine st1 _ ?_
  exact kg)
 rcases Decidable.em (u = (0 : Int32)) with hc3 | hc3
 ·
  obtain ⟨fs, hr, hrun, hended, hW, hsame⟩ := X1.leave (v := some (.int (1 : Int32))) (fun h => by rw [Bd.returns] at h; cases h)
  subst hS0
  refine ⟨_, _, pre2 _ ?_, hrun, hended, _, _, rfl, ?_, ⟨_, rfl⟩, hW, hsame.mono (by decide) (by decide)⟩
  ·
   refine XS.ifNo X1.here hx rfl (hb hby d9_4) rfl (XT.i0_ne_f hc3) ?_
   refine XS.iconst X1.here hx rfl (hb hby d9_7) ?_
   refine XS.goto X1.here hx rfl (pc0 := 8) (pc' := 12) rfl (hb hby d9_8) (by decide) (by decide) ?_
   exact retN X1 hx (t := .boolean) Bd.returns (by simp) (hb hby d9_12) hr
  ·
   show Q9 Z a0 u h0 n0 _ T1.heap _
   rw [e1]
   exact ⟨(by rw [f9, if_pos hc3]), N0, rfl⟩
 ·
  obtain ⟨fs, hr, hrun, hended, hW, hsame⟩ := X1.leave (v := some (.int (0 : Int32))) (fun h => by rw [Bd.returns] at h; cases h)
  subst hS0
  refine ⟨_, _, pre2 _ ?_, hrun, hended, _, _, rfl, ?_, ⟨_, rfl⟩, hW, hsame.mono (by decide) (by decide)⟩
  ·
   refine XS.ifYes X1.here hx rfl (pc0 := 4) (pc' := 11) rfl (hb hby d9_4) rfl (XT.i0_ne_t hc3) (by decide) (by decide) ?_
   refine XS.iconst X1.here hx rfl (hb hby d9_11) ?_
   exact retN X1 hx (t := .boolean) Bd.returns (by simp) (hb hby d9_12) hr
  ·
   show Q9 Z a0 u h0 n0 _ T1.heap _
   rw [e1]
   exact ⟨(by rw [f9, if_neg hc3]), N0, rfl⟩


def dc (b w : Int32) : Int32 := if b = (0 : Int32) then w else if (0 : Int32) < w then (w - (1 : Int32)) else w
def uc (u b w : Int32) : Int32 := if b = (0 : Int32) then u else if (0 : Int32) < w then (if (w - (1 : Int32)) = (0 : Int32) then (u - (1 : Int32)) else u) else u
def tk (t b w : Int32) : Int32 := if b = (0 : Int32) then t else if (0 : Int32) < w then (1 : Int32) else t
theorem own_tk {t b w : Int32} (h : tk t b w = (0 : Int32)) : t = (0 : Int32) ∧ (b = (0 : Int32) ∨ ¬ (0 : Int32) < w) := by
  unfold tk at h
  rcases Decidable.em (b = (0 : Int32)) with q | q
  · rw [if_pos q] at h; exact ⟨h, Or.inl q⟩
  · rw [if_neg q] at h
    rcases Decidable.em ((0 : Int32) < w) with r | r
    · rw [if_pos r] at h; exact absurd h (by decide)
    · rw [if_neg r] at h; exact ⟨h, Or.inr r⟩
theorem own_tk1_0 {b0 w0 : Int32} (h : (tk (0 : Int32) b0 w0) = (0 : Int32)) : b0 = (0 : Int32) ∨ ¬ (0 : Int32) < w0 := (own_tk h).2
theorem own_tk2_0 {b0 w0 b1 w1 : Int32} (h : (tk (tk (0 : Int32) b0 w0) b1 w1) = (0 : Int32)) : b0 = (0 : Int32) ∨ ¬ (0 : Int32) < w0 := (own_tk (own_tk h).1).2
theorem own_tk2_1 {b0 w0 b1 w1 : Int32} (h : (tk (tk (0 : Int32) b0 w0) b1 w1) = (0 : Int32)) : b1 = (0 : Int32) ∨ ¬ (0 : Int32) < w1 := (own_tk h).2
theorem own_tk3_0 {b0 w0 b1 w1 b2 w2 : Int32} (h : (tk (tk (tk (0 : Int32) b0 w0) b1 w1) b2 w2) = (0 : Int32)) : b0 = (0 : Int32) ∨ ¬ (0 : Int32) < w0 := (own_tk (own_tk (own_tk h).1).1).2
theorem own_tk3_1 {b0 w0 b1 w1 b2 w2 : Int32} (h : (tk (tk (tk (0 : Int32) b0 w0) b1 w1) b2 w2) = (0 : Int32)) : b1 = (0 : Int32) ∨ ¬ (0 : Int32) < w1 := (own_tk (own_tk h).1).2
theorem own_tk3_2 {b0 w0 b1 w1 b2 w2 : Int32} (h : (tk (tk (tk (0 : Int32) b0 w0) b1 w1) b2 w2) = (0 : Int32)) : b2 = (0 : Int32) ∨ ¬ (0 : Int32) < w2 := (own_tk h).2
theorem own_dcz {b w : Int32} (h : b = (0 : Int32) ∨ ¬ (0 : Int32) < w) : dc b w = w := by
  unfold dc
  rcases Decidable.em (b = (0 : Int32)) with q | q
  · rw [if_pos q]
  · rw [if_neg q, if_neg (h.resolve_left q)]
theorem own_ucz {u b w : Int32} (h : b = (0 : Int32) ∨ ¬ (0 : Int32) < w) : uc u b w = u := by
  unfold uc
  rcases Decidable.em (b = (0 : Int32)) with q | q
  · rw [if_pos q]
  · rw [if_neg q, if_neg (h.resolve_left q)]


def LD (Z : State) (h : Heap) (lo : Nat) (bn : Int) (df es : Addr) (ke : ClassId) (sz : Int32) : Prop := (es = df ∧ sz = (0 : Int32)) ∨ (lo ≤ es ∧ (1 ≤ sz.toInt ∧ sz.toInt ≤ bn) ∧ Ovr Z ke "java/lang/Object" ∧ ∃ vs, Arv Z h es ke (.object "java/lang/Object") (10 : Int32) vs .null)
theorem LD.ext {Z : State} {h h' : Heap} {lo : Nat} {bn : Int} {df es : Addr} {ke : ClassId} {sz : Int32} (F : LD Z h lo bn df es ke sz) (E : Ext h h') : LD Z h' lo bn df es ke sz := by
  rcases F with q | ⟨a, b, c, vs, V⟩
  · exact Or.inl q
  · exact Or.inr ⟨a, b, c, vs, V.ext E⟩
theorem LD.other {Z : State} {h h' : Heap} {lo : Nat} {bn : Int} {df es a : Addr} {sl : Nat} {v : Value} {ke : ClassId} {sz : Int32} (F : LD Z h lo bn df es ke sz) (W : Wr h h' a sl v) (q : es ≠ a) : LD Z h' lo bn df es ke sz := by
  rcases F with q' | ⟨a, b, c, vs, V⟩
  · exact Or.inl q'
  · exact Or.inr ⟨a, b, c, vs, V.other W q⟩
theorem LD.keep {Z : State} {h h' : Heap} {lo : Nat} {bn : Int} {df es : Addr} {ws : List Addr} {ke : ClassId} {sz : Int32} (F : LD Z h lo bn df es ke sz) (K : Keep h h' ws) (q : es ∉ ws) : LD Z h' lo bn df es ke sz := by
  rcases F with q' | ⟨a, b, c, vs, V⟩
  · exact Or.inl q'
  · exact Or.inr ⟨a, b, c, vs, V.keep K q⟩
theorem LD.up {Z : State} {h : Heap} {lo : Nat} {bn : Int} {df es : Addr} {ke : ClassId} {sz : Int32} (F : LD Z h lo bn df es ke sz) : LD Z h lo (bn + 1) df es ke sz := by
  rcases F with q' | ⟨a, b, c, V⟩
  · exact Or.inl q'
  · exact Or.inr ⟨a, ⟨b.1, by omega⟩, c, V⟩
theorem own_kmono {h h' : Heap} {ws ws' : List Addr} (K : Keep h h' ws) (q : ∀ x ∈ ws, x ∈ ws') : Keep h h' ws' := ⟨K.1, fun x c r s => K.2.1 x c r fun z => s (q x z), K.2.2⟩
theorem own_nys {ys : List Addr} {es x : Addr} {lo : Nat} (h : ∀ y ∈ ys, y = es ∧ lo ≤ es) (q : x ≠ es) : x ∉ ys := fun z => q (h x z).1
theorem own_ays {ys ws : List Addr} {es : Addr} {lo : Nat} (h : ∀ y ∈ ys, y = es ∧ lo ≤ es) : ∀ y ∈ ys, y ∈ ws ∨ lo ≤ y := fun y z => Or.inr (by rw [(h y z).1]; exact (h y z).2)
theorem own_gys {ys : List Addr} {es : Addr} {lo n : Nat} (h : ∀ y ∈ ys, y = es ∧ lo ≤ es) (q : n ≤ lo) : ∀ y ∈ ys, n ≤ y := fun y z => by rw [(h y z).1]; exact Nat.le_trans q (h y z).2
theorem own_nx {e2 es x : Addr} {n : Nat} (h : e2 = es ∨ n ≤ e2) (q : x < n) (r : x ≠ es) : x ≠ e2 := by
  rcases h with rfl | h
  · exact r
  · exact Nat.ne_of_lt (Nat.lt_of_lt_of_le q h)

theorem d11_0 : decode prog_13_method_3_code 0 = .ok (.iconst 0, 1) := by decide +kernel
theorem d11_1 : decode prog_13_method_3_code 1 = .ok (.istore_n 3, 1) := by decide +kernel
theorem d11_2 : decode prog_13_method_3_code 2 = .ok (.iconst 0, 1) := by decide +kernel
theorem d11_3 : decode prog_13_method_3_code 3 = .ok (.istore 4, 2) := by decide +kernel
theorem d11_5 : decode prog_13_method_3_code 5 = .ok (.iload 4, 2) := by decide +kernel
theorem d11_7 : decode prog_13_method_3_code 7 = .ok (.aload_n 0, 1) := by decide +kernel
theorem d11_8 : decode prog_13_method_3_code 8 = .ok (.getfield 16, 3) := by decide +kernel
theorem d11_11 : decode prog_13_method_3_code 11 = .ok (.arraylength, 1) := by decide +kernel
theorem d11_12 : decode prog_13_method_3_code 12 = .ok (.if_icmp .ge 59, 3) := by decide +kernel
theorem d11_71 : decode prog_13_method_3_code 71 = .ok (.iload_n 3, 1) := by decide +kernel
theorem d11_72 : decode prog_13_method_3_code 72 = .ok (.ifCond .eq 14, 3) := by decide +kernel
theorem d11_86 : decode prog_13_method_3_code 86 = .ok (.return_, 1) := by decide +kernel
theorem ef_11_0 (m : MethodId) (a0 : Addr) (a1 : Addr) (a2 : Addr) : entryFrame m #[(.ref a0), (.ref a1), (.ref a2)] 5 = mkF m 0 #[rv a0, rv a1, rv a2, un, un] [] := by first | (simp [entryFrame, mkF, argsToLocals, Value.category]; done) | rfl
def Q11_0 (Z : State) (a0 : Addr) (a1 : Addr) (a2 : Addr) (wa : Addr) (kw : ClassId) (kz : ClassId) (b0 : Int32) (b1 : Int32) (b2 : Int32) (h0 : Heap) (n0 : Nat) (v : Option Value) (h : Heap) (L : List Loc) : Prop := v = none ∧ Fr n0 L ∧ h = h0
set_option maxRecDepth 65536 in
set_option maxHeartbeats 40000000 in
theorem rm11_0 (l : Launch) (Z : State) (ar : Array Value) (hw : ∀ d ∈ tables_1, d.before ar Z = true) (ws : List Jvm.Cond) (a0 : Addr) (a1 : Addr) (a2 : Addr) (wa : Addr) (kw : ClassId) (kz : ClassId) (b0 : Int32) (b1 : Int32) (b2 : Int32) (h0 : Heap) (n0 : Nat) (O0 : Old Z n0 h0) (pf0 : Exa Z h0 a0 "com/example/filters_under_siege/filtersundersiege/Cover") (pf1 : Fld Z h0 a0 "com/example/filters_under_siege/filtersundersiege/Cover" "wanted" "[I" (.ref wa)) (pf2 : Arv Z h0 wa kw .int (0 : Int32) [] (.int (0 : Int32))) (pf3 : Arv Z h0 a2 kz .boolean (3 : Int32) [(.int b0), (.int b1), (.int b2)] (.int (0 : Int32))) :
    MetFree l y11 (head1 (Jvm.Cond.code y11 prog_13_method_3_code 5 none :: ws) ({ frames := 0, cells := 0, slots := 0, locals := 0 } : Room)) (fun a U => a = #[(.ref a0), (.ref a1), (.ref a2)] ∧ Z.Warmed39 U.vm ∧ U.heap = h0) (fun _ _ _ _ _ => True) (fun _ U o U' => ∃ v L, o = .returned v ∧ Q11_0 Z a0 a1 a2 wa kw kz b0 b1 b2 h0 n0 v U'.heap L ∧ FrameEnd U o U' L ({ frames := 0, cells := 0, slots := 0, locals := 0 } : Room).cells ({ frames := 0, cells := 0, slots := 0, locals := 0 } : Room).slots) := by
 refine MetFree.of_bodySF (plainFor_of_name pn_5) hisR ?_
 intro p e s m args below meth c s₁ Bd hml0 hP hK
 obtain ⟨rfl, hZ, hh⟩ := hP
 have hx := Bd.exec
 have hby := Bd.bytes
 have hml : c.maxLocals = 5 := hml0
 have hown : s.vm.findClass "com/example/filters_under_siege/filtersundersiege/Cover" = some m.cls := findClass_of_methodNamed Bd.named
 have hnm := (name_of_methodNamed Bd.named Bd.method).1
 have X0 : Stand p l e ({ frames := 0, cells := 0, slots := 0, locals := 0 } : Room) s m #[(.ref a0), (.ref a1), (.ref a2)] below meth c s₁ [] 0 0 := Stand.of_body Bd
 have e0 : s₁.heap = h0 := by rw [← hh, Bd.state]; rfl
 have N0 := Fr.nil n0
 have Z0 : n0 ≤ h0.size := Nat.le_trans (Nat.le_of_eq O0.1.symm) O0.2.1
 obtain ⟨S0, hS0⟩ : ∃ z, z = s₁.setTop (entryFrame m #[(.ref a0), (.ref a1), (.ref a2)] 5) := ⟨_, rfl⟩
 have pre0 : ∀ tg, AT p e below s₁ m 0 #[rv a0, rv a1, rv a2, un, un] [] tg → Steps p.tables e below S0 tg := fun tg kg => by rw [hS0]; exact castTop (ef_11_0 m a0 a1 a2) kg
 obtain ⟨T1, X1, e1, st1⟩ := getF X0 hx hZ hown (host := "") (Or.inl (ow hw 46 rfl)) Via.refl e0 pf1 (g := (mkF m 8 #[rv a0, rv a1, rv a2, iv (0 : Int32), iv (0 : Int32)] [(.ref a0), (.int (0 : Int32))])) rfl rfl (hb hby d11_8)
 obtain ⟨cl2, Ar2, q2, S2, N2, H2, G2⟩ := id pf2
 obtain ⟨fs, hr, hrun, hended, hW, hsame⟩ := X1.leave (v := none) (fun _ => rfl)
 subst hS0
 refine ⟨_, _, pre0 _ ?_, hrun, hended, _, _, rfl, ?_, ⟨_, rfl⟩, hW, hsame.mono (by decide) (by decide)⟩
 ·
  refine XS.iconst X0.here hx rfl (hb hby d11_0) ?_
  refine XS.istoreN X0.here hx rfl (hb hby d11_1) rfl (l' := #[rv a0, rv a1, rv a2, iv (0 : Int32), un]) rfl ?_
  refine XS.iconst X0.here hx rfl (hb hby d11_2) ?_
  refine XS.istore X0.here hx rfl (hb hby d11_3) rfl (l' := #[rv a0, rv a1, rv a2, iv (0 : Int32), iv (0 : Int32)]) rfl ?_
  refine XS.iload X0.here hx rfl (hb hby d11_5) rfl ?_
  refine XS.aloadN X0.here hx rfl (hb hby d11_7) rfl rfl ?_
  show AT p e below s₁ m 8 #[rv a0, rv a1, rv a2, iv (0 : Int32), iv (0 : Int32)] [(.ref a0), (.int (0 : Int32))] _
  refine st1 _ ?_
  refine X1.arraylength hx (by rw [e1]; exact Ar2.1) (State.isArrayOf_alike hZ.alike Ar2.2.1) (g := (mkF m 11 #[rv a0, rv a1, rv a2, iv (0 : Int32), iv (0 : Int32)] [(.ref wa), (.int (0 : Int32))])) rfl rfl (hb hby d11_11) _ ?_
  rw [len_of S2 N2]
  show AT p e below T1 m 12 #[rv a0, rv a1, rv a2, iv (0 : Int32), iv (0 : Int32)] [(.int (0 : Int32)), (.int (0 : Int32))] _
  refine XS.icmpYes X1.here hx rfl (pc0 := 12) (pc' := 71) rfl (hb hby d11_12) rfl (XT.ii_ge_t ((by decide) : ¬ ((0 : Int32) < (0 : Int32)))) (by decide) (by decide) ?_
  refine XS.iloadN X1.here hx rfl (hb hby d11_71) rfl ?_
  show AT p e below T1 m 72 #[rv a0, rv a1, rv a2, iv (0 : Int32), iv (0 : Int32)] [(.int (0 : Int32))] _
  refine XS.ifYes X1.here hx rfl (pc0 := 72) (pc' := 86) rfl (hb hby d11_72) rfl (XT.i0_eq_t ((by decide) : (0 : Int32) = (0 : Int32))) (by decide) (by decide) ?_
  exact X1.returnOut hx Bd.returns (hb hby d11_86) hr
 ·
  show Q11_0 Z a0 a1 a2 wa kw kz b0 b1 b2 h0 n0 _ T1.heap _
  rw [e1]
  exact ⟨rfl, N0, rfl⟩

theorem d11_15 : decode prog_13_method_3_code 15 = .ok (.aload_n 2, 1) := by decide +kernel
theorem d11_16 : decode prog_13_method_3_code 16 = .ok (.iload 4, 2) := by decide +kernel
theorem d11_18 : decode prog_13_method_3_code 18 = .ok (.baload, 1) := by decide +kernel
theorem d11_19 : decode prog_13_method_3_code 19 = .ok (.ifCond .eq 46, 3) := by decide +kernel
theorem d11_22 : decode prog_13_method_3_code 22 = .ok (.aload_n 0, 1) := by decide +kernel
theorem d11_23 : decode prog_13_method_3_code 23 = .ok (.getfield 16, 3) := by decide +kernel
theorem d11_26 : decode prog_13_method_3_code 26 = .ok (.iload 4, 2) := by decide +kernel
theorem d11_28 : decode prog_13_method_3_code 28 = .ok (.iaload, 1) := by decide +kernel
theorem d11_29 : decode prog_13_method_3_code 29 = .ok (.ifCond .le 36, 3) := by decide +kernel
theorem d11_32 : decode prog_13_method_3_code 32 = .ok (.aload_n 0, 1) := by decide +kernel
theorem d11_33 : decode prog_13_method_3_code 33 = .ok (.getfield 16, 3) := by decide +kernel
theorem d11_36 : decode prog_13_method_3_code 36 = .ok (.iload 4, 2) := by decide +kernel
theorem d11_38 : decode prog_13_method_3_code 38 = .ok (.dup2, 1) := by decide +kernel
theorem d11_39 : decode prog_13_method_3_code 39 = .ok (.iaload, 1) := by decide +kernel
theorem d11_40 : decode prog_13_method_3_code 40 = .ok (.iconst 1, 1) := by decide +kernel
theorem d11_41 : decode prog_13_method_3_code 41 = .ok (.isub, 1) := by decide +kernel
theorem d11_42 : decode prog_13_method_3_code 42 = .ok (.iastore, 1) := by decide +kernel
theorem d11_43 : decode prog_13_method_3_code 43 = .ok (.aload_n 0, 1) := by decide +kernel
theorem d11_44 : decode prog_13_method_3_code 44 = .ok (.getfield 16, 3) := by decide +kernel
theorem d11_47 : decode prog_13_method_3_code 47 = .ok (.iload 4, 2) := by decide +kernel
theorem d11_49 : decode prog_13_method_3_code 49 = .ok (.iaload, 1) := by decide +kernel
theorem d11_50 : decode prog_13_method_3_code 50 = .ok (.ifCond .ne 13, 3) := by decide +kernel
theorem d11_53 : decode prog_13_method_3_code 53 = .ok (.aload_n 0, 1) := by decide +kernel
theorem d11_54 : decode prog_13_method_3_code 54 = .ok (.dup, 1) := by decide +kernel
theorem d11_55 : decode prog_13_method_3_code 55 = .ok (.getfield 26, 3) := by decide +kernel
theorem d11_58 : decode prog_13_method_3_code 58 = .ok (.iconst 1, 1) := by decide +kernel
theorem d11_59 : decode prog_13_method_3_code 59 = .ok (.isub, 1) := by decide +kernel
theorem d11_60 : decode prog_13_method_3_code 60 = .ok (.putfield 26, 3) := by decide +kernel
theorem d11_63 : decode prog_13_method_3_code 63 = .ok (.iconst 1, 1) := by decide +kernel
theorem d11_64 : decode prog_13_method_3_code 64 = .ok (.istore_n 3, 1) := by decide +kernel
theorem d11_65 : decode prog_13_method_3_code 65 = .ok (.iinc 4 1, 3) := by decide +kernel
theorem d11_68 : decode prog_13_method_3_code 68 = .ok (.goto (-63), 3) := by decide +kernel
theorem d11_75 : decode prog_13_method_3_code 75 = .ok (.aload_n 0, 1) := by decide +kernel
theorem d11_76 : decode prog_13_method_3_code 76 = .ok (.getfield 10, 3) := by decide +kernel
theorem d11_79 : decode prog_13_method_3_code 79 = .ok (.aload_n 1, 1) := by decide +kernel
theorem d11_80 : decode prog_13_method_3_code 80 = .ok (.invokeinterface 78 2, 5) := by decide +kernel
theorem d11_85 : decode prog_13_method_3_code 85 = .ok (.pop, 1) := by decide +kernel
theorem ef_11_1 (m : MethodId) (a0 : Addr) (a1 : Addr) (a2 : Addr) : entryFrame m #[(.ref a0), (.ref a1), (.ref a2)] 5 = mkF m 0 #[rv a0, rv a1, rv a2, un, un] [] := by first | (simp [entryFrame, mkF, argsToLocals, Value.category]; done) | rfl
def Q11_1 (Z : State) (a0 : Addr) (a1 : Addr) (a2 : Addr) (w_EE0 : Addr) (w_DEE1 : Addr) (k_EE0 : ClassId) (k_DEE1 : ClassId) (wa : Addr) (kw : ClassId) (kz : ClassId) (b0 : Int32) (b1 : Int32) (b2 : Int32) (w0 : Int32) (u : Int32) (li : Addr) (mc : Int32) (sz : Int32) (es : Addr) (ke : ClassId) (lo : Nat) (bn : Int) (h0 : Heap) (n0 : Nat) (v : Option Value) (h : Heap) (L : List Loc) : Prop := ∃ (x0 : Int32) (xu : Int32) (m2 : Int32) (s2 : Int32) (e2 : Addr) (k2 : ClassId) (ys : List Addr), v = none ∧ Fr n0 L ∧ Keep h0 h (a0 :: wa :: li :: ys) ∧ Exa Z h a0 "com/example/filters_under_siege/filtersundersiege/Cover" ∧ Fld Z h a0 "com/example/filters_under_siege/filtersundersiege/Cover" "wanted" "[I" (.ref wa) ∧ Fld Z h a0 "com/example/filters_under_siege/filtersundersiege/Cover" "elements" "Ljava/util/List;" (.ref li) ∧ Fld Z h a0 "com/example/filters_under_siege/filtersundersiege/Cover" "uncovered" "I" (.int xu) ∧ Arv Z h wa kw .int (1 : Int32) [(.int x0)] (.int (0 : Int32)) ∧ (x0 = dc b0 w0) ∧ (xu = (uc u b0 w0)) ∧ Exa Z h li "java/util/ArrayList" ∧ Fld Z h li "java/util/AbstractList" "modCount" "I" (.int m2) ∧ Fld Z h li "java/util/ArrayList" "size" "I" (.int s2) ∧ Fld Z h li "java/util/ArrayList" "elementData" "[Ljava/lang/Object;" (.ref e2) ∧ LD Z h lo (bn + 1) w_DEE1 e2 k2 s2 ∧ (∀ y ∈ ys, y = es ∧ lo ≤ es) ∧ (e2 = es ∨ h0.size ≤ e2)
set_option maxRecDepth 65536 in
set_option maxHeartbeats 40000000 in
theorem rm11_1 (l : Launch) (Z : State) (ar : Array Value) (hw : ∀ d ∈ tables_1, d.before ar Z = true) (ws : List Jvm.Cond) (a0 : Addr) (a1 : Addr) (a2 : Addr) (w_EE0 : Addr) (w_DEE1 : Addr) (k_EE0 : ClassId) (k_DEE1 : ClassId) (wa : Addr) (kw : ClassId) (kz : ClassId) (b0 : Int32) (b1 : Int32) (b2 : Int32) (w0 : Int32) (u : Int32) (li : Addr) (mc : Int32) (sz : Int32) (es : Addr) (ke : ClassId) (lo : Nat) (bn : Int) (h0 : Heap) (n0 : Nat) (O0 : Old Z n0 h0) (HW : Wd Z w_EE0 w_DEE1 k_EE0 k_DEE1) (pf0 : Exa Z h0 a0 "com/example/filters_under_siege/filtersundersiege/Cover") (pf1 : Fld Z h0 a0 "com/example/filters_under_siege/filtersundersiege/Cover" "wanted" "[I" (.ref wa)) (pf2 : Fld Z h0 a0 "com/example/filters_under_siege/filtersundersiege/Cover" "elements" "Ljava/util/List;" (.ref li)) (pf3 : Fld Z h0 a0 "com/example/filters_under_siege/filtersundersiege/Cover" "uncovered" "I" (.int u)) (pf4 : Arv Z h0 wa kw .int (1 : Int32) [(.int w0)] (.int (0 : Int32))) (pf5 : Arv Z h0 a2 kz .boolean (3 : Int32) [(.int b0), (.int b1), (.int b2)] (.int (0 : Int32))) (pf6 : n0 ≤ a0) (pf7 : n0 ≤ wa) (pf8 : a0 ≠ wa) (pf9 : a0 ≠ a2) (pf10 : wa ≠ a2) (pf11 : Exa Z h0 li "java/util/ArrayList") (pf12 : Fld Z h0 li "java/util/AbstractList" "modCount" "I" (.int mc)) (pf13 : Fld Z h0 li "java/util/ArrayList" "size" "I" (.int sz)) (pf14 : Fld Z h0 li "java/util/ArrayList" "elementData" "[Ljava/lang/Object;" (.ref es)) (pf15 : LD Z h0 lo bn w_DEE1 es ke sz) (pf16 : n0 ≤ li) (pf17 : Exa Z h0 a1 "[B") (pf18 : a0 ≠ li) (pf19 : wa ≠ li) (pf20 : a2 ≠ li) (pf21 : a0 ≠ a1) (pf22 : wa ≠ a1) (pf23 : li ≠ a1) (pf24 : a0 ≠ es) (pf25 : wa ≠ es) (pf26 : a2 ≠ es) (pf27 : li ≠ es) (pf28 : a1 ≠ es) (hlo1 : n0 ≤ lo) (hlo2 : lo ≤ h0.size) (hbn : 0 ≤ bn ∧ bn ≤ 3) :
    MetFree l y11 (head1 (Jvm.Cond.code y11 prog_13_method_3_code 5 none :: ws) ({ frames := 5, cells := 1, slots := 10, locals := 69 } : Room)) (fun a U => a = #[(.ref a0), (.ref a1), (.ref a2)] ∧ Z.Warmed39 U.vm ∧ U.heap = h0) (fun _ _ _ _ _ => True) (fun _ U o U' => ∃ v L, o = .returned v ∧ Q11_1 Z a0 a1 a2 w_EE0 w_DEE1 k_EE0 k_DEE1 wa kw kz b0 b1 b2 w0 u li mc sz es ke lo bn h0 n0 v U'.heap L ∧ FrameEnd U o U' L ({ frames := 5, cells := 1, slots := 10, locals := 69 } : Room).cells ({ frames := 5, cells := 1, slots := 10, locals := 69 } : Room).slots) := by
 refine MetFree.of_bodySF (plainFor_of_name pn_5) hisR ?_
 intro p e s m args below meth c s₁ Bd hml0 hP hK
 obtain ⟨rfl, hZ, hh⟩ := hP
 have hx := Bd.exec
 have hby := Bd.bytes
 have hml : c.maxLocals = 5 := hml0
 have hown : s.vm.findClass "com/example/filters_under_siege/filtersundersiege/Cover" = some m.cls := findClass_of_methodNamed Bd.named
 have hnm := (name_of_methodNamed Bd.named Bd.method).1
 have X0 : Stand p l e ({ frames := 5, cells := 1, slots := 10, locals := 69 } : Room) s m #[(.ref a0), (.ref a1), (.ref a2)] below meth c s₁ [] 0 0 := Stand.of_body Bd
 have e0 : s₁.heap = h0 := by rw [← hh, Bd.state]; rfl
 have N0 := Fr.nil n0
 have Z0 : n0 ≤ h0.size := Nat.le_trans (Nat.le_of_eq O0.1.symm) O0.2.1
 obtain ⟨S0, hS0⟩ : ∃ z, z = s₁.setTop (entryFrame m #[(.ref a0), (.ref a1), (.ref a2)] 5) := ⟨_, rfl⟩
 have pre0 : ∀ tg, AT p e below s₁ m 0 #[rv a0, rv a1, rv a2, un, un] [] tg → Steps p.tables e below S0 tg := fun tg kg => by rw [hS0]; exact castTop (ef_11_1 m a0 a1 a2) kg
 obtain ⟨S_EMPTY_ELEMENTDATA, E_EE0, S_DEFAULTCAPACITY_EMPTY_ELEMENTDATA, E_DEE1, V_EE0, V_DEE1⟩ := id HW
 obtain ⟨T1, X1, e1, st1⟩ := getF X0 hx hZ hown (host := "") (Or.inl (ow hw 46 rfl)) Via.refl e0 pf1 (g := (mkF m 8 #[rv a0, rv a1, rv a2, iv (0 : Int32), iv (0 : Int32)] [(.ref a0), (.int (0 : Int32))])) rfl rfl (hb hby d11_8)
 obtain ⟨cl2, Ar2, q2, S2, N2, H2, G2⟩ := id pf4
 have pre3 : ∀ tg, AT p e below T1 m 15 #[rv a0, rv a1, rv a2, iv (0 : Int32), iv (0 : Int32)] [] tg → Steps p.tables e below S0 tg := fun tg kg => pre0 tg (by
  refine XS.iconst X0.here hx rfl (hb hby d11_0) ?_
  refine XS.istoreN X0.here hx rfl (hb hby d11_1) rfl (l' := #[rv a0, rv a1, rv a2, iv (0 : Int32), un]) rfl ?_
  refine XS.iconst X0.here hx rfl (hb hby d11_2) ?_
  refine XS.istore X0.here hx rfl (hb hby d11_3) rfl (l' := #[rv a0, rv a1, rv a2, iv (0 : Int32), iv (0 : Int32)]) rfl ?_
  refine XS.iload X0.here hx rfl (hb hby d11_5) rfl ?_
  refine XS.aloadN X0.here hx rfl (hb hby d11_7) rfl rfl ?_
  refine st1 _ ?_
  refine X1.arraylength hx (by rw [e1]; exact Ar2.1) (State.isArrayOf_alike hZ.alike Ar2.2.1) (g := (mkF m 11 #[rv a0, rv a1, rv a2, iv (0 : Int32), iv (0 : Int32)] [(.ref wa), (.int (0 : Int32))])) rfl rfl (hb hby d11_11) _ ?_
  rw [len_of S2 N2]
  show AT p e below T1 m 12 #[rv a0, rv a1, rv a2, iv (0 : Int32), iv (0 : Int32)] [(.int (1 : Int32)), (.int (0 : Int32))] _
  refine XS.icmpNo X1.here hx rfl (hb hby d11_12) rfl (XT.ii_ge_f ((by decide) : (0 : Int32) < (1 : Int32))) ?_
  exact kg)
 obtain ⟨T4, h4, L4, X4, e4, N4, K4, O4, J4_0, J4_1, J4_2, J4_3, J4_4, J4_5, J4_6, J4_7, J4_8, J4_9, J4_10, J4_11, pre4⟩ : ∃ (T4 : State) (h4 : Heap) (L4 : List Loc), Stand p l e ({ frames := 5, cells := 1, slots := 10, locals := 69 } : Room) s m #[(.ref a0), (.ref a1), (.ref a2)] below meth c T4 L4 0 0 ∧ T4.heap = h4 ∧ Fr n0 L4 ∧ Keep h0 h4 [a0, wa, li] ∧ Old Z n0 h4 ∧ Exa Z h4 a0 "com/example/filters_under_siege/filtersundersiege/Cover" ∧ Fld Z h4 a0 "com/example/filters_under_siege/filtersundersiege/Cover" "wanted" "[I" (.ref wa) ∧ Fld Z h4 a0 "com/example/filters_under_siege/filtersundersiege/Cover" "elements" "Ljava/util/List;" (.ref li) ∧ Fld Z h4 a0 "com/example/filters_under_siege/filtersundersiege/Cover" "uncovered" "I" (.int (uc u b0 w0)) ∧ Arv Z h4 wa kw .int (1 : Int32) [(.int (dc b0 w0))] (.int (0 : Int32)) ∧ Arv Z h4 a2 kz .boolean (3 : Int32) [(.int b0), (.int b1), (.int b2)] (.int (0 : Int32)) ∧ Exa Z h4 li "java/util/ArrayList" ∧ Fld Z h4 li "java/util/AbstractList" "modCount" "I" (.int mc) ∧ Fld Z h4 li "java/util/ArrayList" "size" "I" (.int sz) ∧ Fld Z h4 li "java/util/ArrayList" "elementData" "[Ljava/lang/Object;" (.ref es) ∧ LD Z h4 lo bn w_DEE1 es ke sz ∧ Exa Z h4 a1 "[B" ∧ (∀ tg, AT p e below T4 m 65 #[rv a0, rv a1, rv a2, iv (tk (0 : Int32) b0 w0), iv (0 : Int32)] [] tg → Steps p.tables e below S0 tg) := by
  obtain ⟨cl5, Ar5, q5, S5, N5, H5, G5⟩ := id pf5
  have hin5 := own_in (0 : Int32) S5 ⟨by decide, by decide⟩
  have hat5 : cl5.slots[((0 : Int32)).toNatClampNeg]? = some (.int b0) := Has.at H5 hin5 rfl
  have pre6 : ∀ tg, AT p e below T1 m 19 #[rv a0, rv a1, rv a2, iv (0 : Int32), iv (0 : Int32)] [(.int b0)] tg → Steps p.tables e below S0 tg := fun tg kg => pre3 tg (by
   refine XS.aloadN X1.here hx rfl (hb hby d11_15) rfl rfl ?_
   refine XS.iload X1.here hx rfl (hb hby d11_16) rfl ?_
   refine X1.baloadBooleans hx (j := (0 : Int32)) (v := (.int b0)) (by rw [e1]; exact Ar5.1) (State.isArrayOf_alike hZ.alike Ar5.2.1) Ar5.2.2 hin5 hat5 (g := (mkF m 18 #[rv a0, rv a1, rv a2, iv (0 : Int32), iv (0 : Int32)] [(.int (0 : Int32)), (.ref a2)])) rfl rfl (hb hby d11_18) _ ?_
   exact kg)
  rcases Decidable.em (b0 = (0 : Int32)) with hc7 | hc7
  ·
   have pre8 : ∀ tg, AT p e below T1 m 65 #[rv a0, rv a1, rv a2, iv (0 : Int32), iv (0 : Int32)] [] tg → Steps p.tables e below S0 tg := fun tg kg => pre6 tg (by
    refine XS.ifYes X1.here hx rfl (pc0 := 19) (pc' := 65) rfl (hb hby d11_19) rfl (XT.i0_eq_t hc7) (by decide) (by decide) ?_
    exact kg)
   have hj9 : (uc u b0 w0) = u := by simp only [dc, uc, tk, if_pos hc7]
   have hj10 : (dc b0 w0) = w0 := by simp only [dc, uc, tk, if_pos hc7]
   have hj11 : (tk (0 : Int32) b0 w0) = (0 : Int32) := by simp only [dc, uc, tk, if_pos hc7]
   exact ⟨_, _, _, X1, e1, N0, (Keep.refl h0 [a0, wa, li]), O0, pf0, pf1, pf2, (by rw [hj9]; exact pf3), (by rw [hj10]; exact pf4), pf5, pf11, pf12, pf13, pf14, pf15, pf17, (by rw [hj11]; exact pre8)⟩
  ·
   obtain ⟨T12, X12, e12, st12⟩ := getF X1 hx hZ hown (host := "") (Or.inl (ow hw 46 rfl)) Via.refl e1 pf1 (g := (mkF m 23 #[rv a0, rv a1, rv a2, iv (0 : Int32), iv (0 : Int32)] [(.ref a0)])) rfl rfl (hb hby d11_23)
   obtain ⟨cl13, Ar13, q13, S13, N13, H13, G13⟩ := id pf4
   have hin13 := own_in (0 : Int32) S13 ⟨by decide, by decide⟩
   have hat13 : cl13.slots[((0 : Int32)).toNatClampNeg]? = some (.int w0) := Has.at H13 hin13 rfl
   have pre14 : ∀ tg, AT p e below T12 m 29 #[rv a0, rv a1, rv a2, iv (0 : Int32), iv (0 : Int32)] [(.int w0)] tg → Steps p.tables e below S0 tg := fun tg kg => pre6 tg (by
    refine XS.ifNo X1.here hx rfl (hb hby d11_19) rfl (XT.i0_eq_f hc7) ?_
    refine XS.aloadN X1.here hx rfl (hb hby d11_22) rfl rfl ?_
    refine st12 _ ?_
    refine XS.iload X12.here hx rfl (hb hby d11_26) rfl ?_
    refine X12.iaload hx (j := (0 : Int32)) (v := (.int w0)) (by rw [e12]; exact Ar13.1) (State.isArrayOf_alike hZ.alike Ar13.2.1) Ar13.2.2 hin13 hat13 (g := (mkF m 28 #[rv a0, rv a1, rv a2, iv (0 : Int32), iv (0 : Int32)] [(.int (0 : Int32)), (.ref wa)])) rfl rfl (hb hby d11_28) _ ?_
    exact kg)
   rcases Decidable.em ((0 : Int32) < w0) with hc15 | hc15
   ·
    obtain ⟨T16, X16, e16, st16⟩ := getF X12 hx hZ hown (host := "") (Or.inl (ow hw 46 rfl)) Via.refl e12 pf1 (g := (mkF m 33 #[rv a0, rv a1, rv a2, iv (0 : Int32), iv (0 : Int32)] [(.ref a0)])) rfl rfl (hb hby d11_33)
    obtain ⟨cl17, Ar17, q17, S17, N17, H17, G17⟩ := id pf4
    have hin17 := own_in (0 : Int32) S17 ⟨by decide, by decide⟩
    have hat17 : cl17.slots[((0 : Int32)).toNatClampNeg]? = some (.int w0) := Has.at H17 hin17 rfl
    obtain ⟨cl18, Ar18, q18, S18, M18, H18, G18⟩ := id pf4
    have hin18 := own_in (0 : Int32) S18 ⟨by decide, by decide⟩
    obtain ⟨T18, h18, X18, e18, W18, st18⟩ := stI X16 hx hZ e16 Ar18 (j := (0 : Int32)) hin18 (g := (mkF m 42 #[rv a0, rv a1, rv a2, iv (0 : Int32), iv (0 : Int32)] [(.int (w0 - (1 : Int32))), (.int (0 : Int32)), (.ref wa)])) rfl rfl (hb hby d11_42)
    have V18_19 : Arv Z h18 wa kw .int (1 : Int32) [(.int (w0 - (1 : Int32)))] (.int (0 : Int32)) := Arv.set Ar18 q18 S18 M18 H18 G18 rfl W18 0 rfl (Nat.le_of_ble_eq_true rfl)
    have E18_20 := pf0.wr W18
    have F18_21 := pf1.other W18 (Or.inl pf8)
    have F18_22 := pf2.other W18 (Or.inl pf8)
    have F18_23 := pf3.other W18 (Or.inl pf8)
    have V18_24 := pf5.other W18 (Ne.symm pf10)
    have E18_25 := pf11.wr W18
    have F18_26 := pf12.other W18 (Or.inl (Ne.symm pf19))
    have F18_27 := pf13.other W18 (Or.inl (Ne.symm pf19))
    have F18_28 := pf14.other W18 (Or.inl (Ne.symm pf19))
    have X18_29 := pf15.other W18 (Ne.symm pf25)
    have E18_30 := pf17.wr W18
    have K18 := (Keep.refl h0 [a0, wa, li]).wr W18 (Or.inl (List.mem_of_getElem? (i := 1) rfl))
    have O18 := O0.wr W18 pf7
    have N18 := Fr.snoc X18 N0 pf7
    obtain ⟨T31, X31, e31, st31⟩ := getF X18 hx hZ hown (host := "") (Or.inl (ow hw 46 rfl)) Via.refl e18 F18_21 (g := (mkF m 44 #[rv a0, rv a1, rv a2, iv (0 : Int32), iv (0 : Int32)] [(.ref a0)])) rfl rfl (hb hby d11_44)
    obtain ⟨cl32, Ar32, q32, S32, N32, H32, G32⟩ := id V18_19
    have hin32 := own_in (0 : Int32) S32 ⟨by decide, by decide⟩
    have hat32 : cl32.slots[((0 : Int32)).toNatClampNeg]? = some (.int (w0 - (1 : Int32))) := Has.at H32 hin32 rfl
    have pre33 : ∀ tg, AT p e below T31 m 50 #[rv a0, rv a1, rv a2, iv (0 : Int32), iv (0 : Int32)] [(.int (w0 - (1 : Int32)))] tg → Steps p.tables e below S0 tg := fun tg kg => pre14 tg (by
     refine XS.ifNo X12.here hx rfl (hb hby d11_29) rfl (XT.i0_le_f hc15) ?_
     refine XS.aloadN X12.here hx rfl (hb hby d11_32) rfl rfl ?_
     refine st16 _ ?_
     refine XS.iload X16.here hx rfl (hb hby d11_36) rfl ?_
     jvm_step X16.here [X16.here.top, hx, (hb hby d11_38), Value.category]
     refine X16.iaload hx (j := (0 : Int32)) (v := (.int w0)) (by rw [e16]; exact Ar17.1) (State.isArrayOf_alike hZ.alike Ar17.2.1) Ar17.2.2 hin17 hat17 (g := (mkF m 39 #[rv a0, rv a1, rv a2, iv (0 : Int32), iv (0 : Int32)] [(.int (0 : Int32)), (.ref wa), (.int (0 : Int32)), (.ref wa)])) rfl rfl (hb hby d11_39) _ ?_
     show AT p e below T16 m 40 #[rv a0, rv a1, rv a2, iv (0 : Int32), iv (0 : Int32)] [(.int w0), (.int (0 : Int32)), (.ref wa)] _
     refine XS.iconst X16.here hx rfl (hb hby d11_40) ?_
     refine XS.isub X16.here hx rfl (hb hby d11_41) rfl ?_
     refine st18 _ ?_
     refine XS.aloadN X18.here hx rfl (hb hby d11_43) rfl rfl ?_
     refine st31 _ ?_
     refine XS.iload X31.here hx rfl (hb hby d11_47) rfl ?_
     refine X31.iaload hx (j := (0 : Int32)) (v := (.int (w0 - (1 : Int32)))) (by rw [e31]; exact Ar32.1) (State.isArrayOf_alike hZ.alike Ar32.2.1) Ar32.2.2 hin32 hat32 (g := (mkF m 49 #[rv a0, rv a1, rv a2, iv (0 : Int32), iv (0 : Int32)] [(.int (0 : Int32)), (.ref wa)])) rfl rfl (hb hby d11_49) _ ?_
     exact kg)
    rcases Decidable.em ((w0 - (1 : Int32)) = (0 : Int32)) with hc34 | hc34
    ·
     obtain ⟨T35, X35, e35, st35⟩ := getF X31 hx hZ hown (host := "") (Or.inl (ow hw 52 rfl)) Via.refl e31 F18_23 (g := (mkF m 55 #[rv a0, rv a1, rv a2, iv (0 : Int32), iv (0 : Int32)] [(.ref a0), (.ref a0)])) rfl rfl (hb hby d11_55)
     obtain ⟨T36, h36, X36, e36, W36, st36⟩ := putF X35 hx hZ hown (host := "") (Or.inl (ow hw 52 rfl)) Via.refl e35 F18_23 E18_20 (Or.inl (ow hw 53 rfl)) (ow hw 11 rfl) (ty := .int) (by decide) rfl rfl (g := (mkF m 60 #[rv a0, rv a1, rv a2, iv (0 : Int32), iv (0 : Int32)] [(.int (u - (1 : Int32))), (.ref a0)])) rfl rfl (hb hby d11_60)
     have E36_37 := E18_20.wr W36
     have F36_38 := F18_21.other W36 (Or.inr (slot_ne (Or.inr (ow hw 47 rfl)) (Or.inl (ow hw 53 rfl)) (by decide) (t := (.array .int)) (t' := .int) (by decide) (by decide)))
     have F36_39 := F18_22.other W36 (Or.inr (slot_ne (Or.inr (ow hw 44 rfl)) (Or.inl (ow hw 53 rfl)) (by decide) (t := (.object "java/util/List")) (t' := .int) (by decide) (by decide)))
     have F36_40 : Fld Z h36 a0 "com/example/filters_under_siege/filtersundersiege/Cover" "uncovered" "I" (.int (u - (1 : Int32))) := F18_23.same W36
     have V36_41 := V18_19.other W36 (Ne.symm pf8)
     have V36_42 := V18_24.other W36 (Ne.symm pf9)
     have E36_43 := E18_25.wr W36
     have F36_44 := F18_26.other W36 (Or.inl (Ne.symm pf18))
     have F36_45 := F18_27.other W36 (Or.inl (Ne.symm pf18))
     have F36_46 := F18_28.other W36 (Or.inl (Ne.symm pf18))
     have X36_47 := X18_29.other W36 (Ne.symm pf24)
     have E36_48 := E18_30.wr W36
     have K36 := K18.wr W36 (Or.inl (List.mem_of_getElem? (i := 0) rfl))
     have O36 := O18.wr W36 pf6
     have N36 := Fr.snoc X36 N18 pf6
     have pre49 : ∀ tg, AT p e below T36 m 65 #[rv a0, rv a1, rv a2, iv (1 : Int32), iv (0 : Int32)] [] tg → Steps p.tables e below S0 tg := fun tg kg => pre33 tg (by
      refine XS.ifNo X31.here hx rfl (hb hby d11_50) rfl (XT.i0_ne_f hc34) ?_
      refine XS.aloadN X31.here hx rfl (hb hby d11_53) rfl rfl ?_
      refine XS.dup X31.here hx rfl (hb hby d11_54) rfl rfl ?_
      refine st35 _ ?_
      refine XS.iconst X35.here hx rfl (hb hby d11_58) ?_
      refine XS.isub X35.here hx rfl (hb hby d11_59) rfl ?_
      show AT p e below T35 m 60 #[rv a0, rv a1, rv a2, iv (0 : Int32), iv (0 : Int32)] [(.int (u - (1 : Int32))), (.ref a0)] _
      refine st36 _ ?_
      refine XS.iconst X36.here hx rfl (hb hby d11_63) ?_
      refine XS.istoreN X36.here hx rfl (hb hby d11_64) rfl (l' := #[rv a0, rv a1, rv a2, iv (1 : Int32), iv (0 : Int32)]) rfl ?_
      exact kg)
     have hj50 : (uc u b0 w0) = (u - (1 : Int32)) := by simp only [dc, uc, tk, if_neg hc7, if_pos hc15, if_pos hc34]
     have hj51 : (dc b0 w0) = (w0 - (1 : Int32)) := by simp only [dc, uc, tk, if_neg hc7, if_pos hc15, if_pos hc34]
     have hj52 : (tk (0 : Int32) b0 w0) = (1 : Int32) := by simp only [dc, uc, tk, if_neg hc7, if_pos hc15, if_pos hc34]
     exact ⟨_, _, _, X36, e36, N36, K36, O36, E36_37, F36_38, F36_39, (by rw [hj50]; exact F36_40), (by rw [hj51]; exact V36_41), V36_42, E36_43, F36_44, F36_45, F36_46, X36_47, E36_48, (by rw [hj52]; exact pre49)⟩
    ·
     have pre53 : ∀ tg, AT p e below T31 m 65 #[rv a0, rv a1, rv a2, iv (1 : Int32), iv (0 : Int32)] [] tg → Steps p.tables e below S0 tg := fun tg kg => pre33 tg (by
      refine XS.ifYes X31.here hx rfl (pc0 := 50) (pc' := 63) rfl (hb hby d11_50) rfl (XT.i0_ne_t hc34) (by decide) (by decide) ?_
      refine XS.iconst X31.here hx rfl (hb hby d11_63) ?_
      refine XS.istoreN X31.here hx rfl (hb hby d11_64) rfl (l' := #[rv a0, rv a1, rv a2, iv (1 : Int32), iv (0 : Int32)]) rfl ?_
      exact kg)
     have hj54 : (uc u b0 w0) = u := by simp only [dc, uc, tk, if_neg hc7, if_pos hc15, if_neg hc34]
     have hj55 : (dc b0 w0) = (w0 - (1 : Int32)) := by simp only [dc, uc, tk, if_neg hc7, if_pos hc15, if_neg hc34]
     have hj56 : (tk (0 : Int32) b0 w0) = (1 : Int32) := by simp only [dc, uc, tk, if_neg hc7, if_pos hc15, if_neg hc34]
     exact ⟨_, _, _, X31, e31, N18, K18, O18, E18_20, F18_21, F18_22, (by rw [hj54]; exact F18_23), (by rw [hj55]; exact V18_19), V18_24, E18_25, F18_26, F18_27, F18_28, X18_29, E18_30, (by rw [hj56]; exact pre53)⟩
   ·
    have pre57 : ∀ tg, AT p e below T12 m 65 #[rv a0, rv a1, rv a2, iv (0 : Int32), iv (0 : Int32)] [] tg → Steps p.tables e below S0 tg := fun tg kg => pre14 tg (by
     refine XS.ifYes X12.here hx rfl (pc0 := 29) (pc' := 65) rfl (hb hby d11_29) rfl (XT.i0_le_t hc15) (by decide) (by decide) ?_
     exact kg)
    have hj58 : (uc u b0 w0) = u := by simp only [dc, uc, tk, if_neg hc7, if_neg hc15]
    have hj59 : (dc b0 w0) = w0 := by simp only [dc, uc, tk, if_neg hc7, if_neg hc15]
    have hj60 : (tk (0 : Int32) b0 w0) = (0 : Int32) := by simp only [dc, uc, tk, if_neg hc7, if_neg hc15]
    exact ⟨_, _, _, X12, e12, N0, (Keep.refl h0 [a0, wa, li]), O0, pf0, pf1, pf2, (by rw [hj58]; exact pf3), (by rw [hj59]; exact pf4), pf5, pf11, pf12, pf13, pf14, pf15, pf17, (by rw [hj60]; exact pre57)⟩
 obtain ⟨T61, X61, e61, st61⟩ := getF X4 hx hZ hown (host := "") (Or.inl (ow hw 46 rfl)) Via.refl e4 J4_1 (g := (mkF m 8 #[rv a0, rv a1, rv a2, iv (tk (0 : Int32) b0 w0), iv (1 : Int32)] [(.ref a0), (.int (1 : Int32))])) rfl rfl (hb hby d11_8)
 obtain ⟨cl62, Ar62, q62, S62, N62, H62, G62⟩ := id J4_4
 have pre63 : ∀ tg, AT p e below T61 m 72 #[rv a0, rv a1, rv a2, iv (tk (0 : Int32) b0 w0), iv (1 : Int32)] [(.int (tk (0 : Int32) b0 w0))] tg → Steps p.tables e below S0 tg := fun tg kg => pre4 tg (by
  refine XS.iinc X4.here hx rfl (hb hby d11_65) rfl (l' := #[rv a0, rv a1, rv a2, iv (tk (0 : Int32) b0 w0), iv (1 : Int32)]) rfl ?_
  refine XS.goto X4.here hx rfl (pc0 := 68) (pc' := 5) rfl (hb hby d11_68) (by decide) (by decide) ?_
  refine XS.iload X4.here hx rfl (hb hby d11_5) rfl ?_
  refine XS.aloadN X4.here hx rfl (hb hby d11_7) rfl rfl ?_
  refine st61 _ ?_
  refine X61.arraylength hx (by rw [e61]; exact Ar62.1) (State.isArrayOf_alike hZ.alike Ar62.2.1) (g := (mkF m 11 #[rv a0, rv a1, rv a2, iv (tk (0 : Int32) b0 w0), iv (1 : Int32)] [(.ref wa), (.int (1 : Int32))])) rfl rfl (hb hby d11_11) _ ?_
  rw [len_of S62 N62]
  show AT p e below T61 m 12 #[rv a0, rv a1, rv a2, iv (tk (0 : Int32) b0 w0), iv (1 : Int32)] [(.int (1 : Int32)), (.int (1 : Int32))] _
  refine XS.icmpYes X61.here hx rfl (pc0 := 12) (pc' := 71) rfl (hb hby d11_12) rfl (XT.ii_ge_t ((by decide) : ¬ ((1 : Int32) < (1 : Int32)))) (by decide) (by decide) ?_
  refine XS.iloadN X61.here hx rfl (hb hby d11_71) rfl ?_
  exact kg)
 rcases Decidable.em ((tk (0 : Int32) b0 w0) = (0 : Int32)) with hc64 | hc64
 ·
  obtain ⟨fs, hr, hrun, hended, hW, hsame⟩ := X61.leave (v := none) (fun _ => rfl)
  subst hS0
  refine ⟨_, _, pre63 _ ?_, hrun, hended, _, _, rfl, ?_, ⟨_, rfl⟩, hW, hsame.mono (by decide) (by decide)⟩
  ·
   refine XS.ifYes X61.here hx rfl (pc0 := 72) (pc' := 86) rfl (hb hby d11_72) rfl (XT.i0_eq_t hc64) (by decide) (by decide) ?_
   exact X61.returnOut hx Bd.returns (hb hby d11_86) hr
  ·
   show Q11_1 Z a0 a1 a2 w_EE0 w_DEE1 k_EE0 k_DEE1 wa kw kz b0 b1 b2 w0 u li mc sz es ke lo bn h0 n0 _ T61.heap _
   rw [e61]
   exact ⟨(dc b0 w0), (uc u b0 w0), mc, sz, es, ke, [], rfl, N4, K4, J4_0, J4_1, J4_2, J4_3, J4_4, rfl, rfl, J4_6, J4_7, J4_8, J4_9, (J4_10).up, all0, (Or.inl rfl)⟩
 ·
  have pre65 : ∀ tg, AT p e below T61 m 75 #[rv a0, rv a1, rv a2, iv (tk (0 : Int32) b0 w0), iv (1 : Int32)] [] tg → Steps p.tables e below S0 tg := fun tg kg => pre63 tg (by
   refine XS.ifNo X61.here hx rfl (hb hby d11_72) rfl (XT.i0_eq_f hc64) ?_
   exact kg)
  rcases J4_10 with ⟨hd1, hd2⟩ | ⟨hg, hsr, hov, vs, hV⟩
  ·
   have Fd66 : Fld Z h4 li "java/util/ArrayList" "elementData" "[Ljava/lang/Object;" (.ref w_DEE1) := by have q := J4_9; rw [hd1] at q; exact q
   have Fd67 : Fld Z h4 li "java/util/ArrayList" "size" "I" (.int (0 : Int32)) := by have q := J4_8; rw [hd2] at q; exact q
   obtain ⟨T68, X68, e68, st68⟩ := getF X61 hx hZ hown (host := "") (Or.inl (ow hw 43 rfl)) Via.refl e61 J4_2 (g := (mkF m 76 #[rv a0, rv a1, rv a2, iv (tk (0 : Int32) b0 w0), iv (1 : Int32)] [(.ref a0)])) rfl rfl (hb hby d11_76)
   obtain ⟨cq69, kq69, q69a, q69b, q69c⟩ := isOf hZ e68 J4_6
   obtain ⟨_, _, ⟨T69, L69, k69, n69⟩, -, X69, ⟨Lc69, hQ69, l69, y69, z69⟩, st69⟩ := X68.interfaceBack hx (xi := (⟨"java/util/List", "add", "(Ljava/lang/Object;)Z"⟩ : MethodName)) (y := y13) hown (mvT hZ (ow hw 70 rfl)) (mvT hZ (ow hw 71 rfl)) (mvT hZ (ow hw 72 rfl)) (mvT hZ (ow hw 73 rfl)) (mvT hZ (ow hw 74 rfl)) (mvT hZ (ow hw 75 rfl)) (mvT hZ (ow hw 76 rfl)) (mvT hZ (ow hw 77 rfl)) (by decide) (backOf (W := 0) (rm13_e l Z ar hw [] li a1 w_EE0 w_DEE1 k_EE0 k_DEE1 mc h4 n0 O4 HW J4_6 J4_11 J4_7 Fd66 Fd67 pf16 pf23) hZ (ow hw 78 rfl) (ow hw 21 rfl) (by decide) (by decide)) q69a q69b q69c (g := (mkF m 80 #[rv a0, rv a1, rv a2, iv (tk (0 : Int32) b0 w0), iv (1 : Int32)] [(.ref a1), (.ref li)])) rfl (by rw [hml]; rfl) (Steps.refl _) (argsL := [(.ref a1)]) (rest := []) (lenOf pd_7 rfl) rfl (by show 2 * 0 + _ ≤ _; exact Nat.le_of_eq rfl) (hb hby d11_80) (fun _ _ => ⟨rfl, e68, (by decide : 0 + 1 ≤ _), (by decide : 0 + 10 ≤ _)⟩)
   dsimp only [Pt.U, Pt.locs, Pt.cells, Pt.slots] at X69 l69 y69 z69 st69 hQ69
   subst l69 y69 z69
   obtain ⟨es_69, ke_69, rfl, N69q, Kq69, u69_0, u69_1, u69_2, u69_3, u69_4, u69_5, u69_6⟩ := hQ69
   have N69 := Fr.app N4 N69q
   have E69_70 := J4_0.keep Kq69
   have F69_71 := J4_1.keep Kq69 (ninS pf18 nin0)
   have F69_72 := J4_2.keep Kq69 (ninS pf18 nin0)
   have F69_73 := J4_3.keep Kq69 (ninS pf18 nin0)
   have V69_74 := J4_4.keep Kq69 (ninS pf19 nin0)
   have V69_75 := J4_5.keep Kq69 (ninS pf20 nin0)
   have E69_76 := J4_6.keep Kq69
   have E69_77 := J4_11.keep Kq69
   have K69 := K4.trans Kq69 (allS (Or.inl (List.mem_of_getElem? (i := 2) rfl)) all0)
   have O69 := O4.keep Kq69 (allS pf16 all0)
   have sz78 : h0.size ≤ es_69 := Nat.le_trans K4.1 u69_6
   have gn78 : n0 ≤ es_69 := Nat.le_trans (Nat.le_trans (Nat.le_of_eq O4.1.symm) O4.2.1) u69_6
   have ne79 : a0 ≠ es_69 := Nat.ne_of_lt (Nat.lt_of_lt_of_le (J4_0).lt u69_6)
   have ne80 : wa ≠ es_69 := Nat.ne_of_lt (Nat.lt_of_lt_of_le (J4_4).lt u69_6)
   have ne81 : a2 ≠ es_69 := Nat.ne_of_lt (Nat.lt_of_lt_of_le (J4_5).lt u69_6)
   have ne82 : li ≠ es_69 := Nat.ne_of_lt (Nat.lt_of_lt_of_le (J4_6).lt u69_6)
   have ne83 : a1 ≠ es_69 := Nat.ne_of_lt (Nat.lt_of_lt_of_le (J4_11).lt u69_6)
   obtain ⟨fs, hr, hrun, hended, hW, hsame⟩ := X69.leave (v := none) (fun _ => rfl)
   subst hS0
   refine ⟨_, _, pre65 _ ?_, hrun, hended, _, _, rfl, ?_, ⟨_, rfl⟩, hW, hsame.mono (by decide) (by decide)⟩
   ·
    refine XS.aloadN X61.here hx rfl (hb hby d11_75) rfl rfl ?_
    refine st68 _ ?_
    refine XS.aloadN X68.here hx rfl (hb hby d11_79) rfl rfl ?_
    refine st69.trans ?_
    refine XS.pop X69.here hx rfl (hb hby d11_85) rfl rfl ?_
    exact X69.returnOut hx Bd.returns (hb hby d11_86) hr
   ·
    show Q11_1 Z a0 a1 a2 w_EE0 w_DEE1 k_EE0 k_DEE1 wa kw kz b0 b1 b2 w0 u li mc sz es ke lo bn h0 n0 _ T69.heap _
    exact ⟨(dc b0 w0), (uc u b0 w0), (mc + (1 : Int32)), (1 : Int32), es_69, ke_69, [], rfl, N69, K69, E69_70, F69_71, F69_72, F69_73, V69_74, rfl, rfl, E69_76, u69_1, u69_2, u69_3, (Or.inr ⟨Nat.le_trans hlo2 sz78, ⟨by decide, by have k1 : ((1 : Int32)).toInt = 1 := rfl; omega⟩, u69_5, _, u69_4⟩), all0, (Or.inr sz78)⟩
  ·
   have hsz : 1 ≤ (sz).toInt ∧ (sz).toInt ≤ 3 := ⟨hsr.1, by omega⟩
   have hge : n0 ≤ es := Nat.le_trans hlo1 hg
   have K84 : Keep h0 h4 [a0, wa, li, es] := own_kmono K4 fun x q => List.mem_append_left [es] q
   obtain ⟨T85, X85, e85, st85⟩ := getF X61 hx hZ hown (host := "") (Or.inl (ow hw 43 rfl)) Via.refl e61 J4_2 (g := (mkF m 76 #[rv a0, rv a1, rv a2, iv (tk (0 : Int32) b0 w0), iv (1 : Int32)] [(.ref a0)])) rfl rfl (hb hby d11_76)
   obtain ⟨cq86, kq86, q86a, q86b, q86c⟩ := isOf hZ e85 J4_6
   obtain ⟨_, _, ⟨T86, L86, k86, n86⟩, -, X86, ⟨Lc86, hQ86, l86, y86, z86⟩, st86⟩ := X85.interfaceBack hx (xi := (⟨"java/util/List", "add", "(Ljava/lang/Object;)Z"⟩ : MethodName)) (y := y13) hown (mvT hZ (ow hw 70 rfl)) (mvT hZ (ow hw 71 rfl)) (mvT hZ (ow hw 72 rfl)) (mvT hZ (ow hw 73 rfl)) (mvT hZ (ow hw 74 rfl)) (mvT hZ (ow hw 75 rfl)) (mvT hZ (ow hw 76 rfl)) (mvT hZ (ow hw 77 rfl)) (by decide) (backOf (W := 0) (rm13_g l Z ar hw [] li a1 mc sz es ke vs h4 n0 O4 J4_6 J4_11 J4_7 J4_8 pf16 hge pf23 pf27 (Ne.symm pf28) J4_9 hV hov hsz) hZ (ow hw 78 rfl) (ow hw 21 rfl) (by decide) (by decide)) q86a q86b q86c (g := (mkF m 80 #[rv a0, rv a1, rv a2, iv (tk (0 : Int32) b0 w0), iv (1 : Int32)] [(.ref a1), (.ref li)])) rfl (by rw [hml]; rfl) (Steps.refl _) (argsL := [(.ref a1)]) (rest := []) (lenOf pd_7 rfl) rfl (by show 2 * 0 + _ ≤ _; exact Nat.le_of_eq rfl) (hb hby d11_80) (fun _ _ => ⟨rfl, e85, (by decide : 0 + 0 ≤ _), (by decide : 0 + 0 ≤ _)⟩)
   dsimp only [Pt.U, Pt.locs, Pt.cells, Pt.slots] at X86 l86 y86 z86 st86 hQ86
   subst l86 y86 z86
   obtain ⟨vz_86, rfl, N86q, Kq86, u86_0, u86_1, u86_2, u86_3, u86_4⟩ := hQ86
   have N86 := Fr.app N4 N86q
   have E86_87 := J4_0.keep Kq86
   have F86_88 := J4_1.keep Kq86 (ninS pf18 (ninS pf24 nin0))
   have F86_89 := J4_2.keep Kq86 (ninS pf18 (ninS pf24 nin0))
   have F86_90 := J4_3.keep Kq86 (ninS pf18 (ninS pf24 nin0))
   have V86_91 := J4_4.keep Kq86 (ninS pf19 (ninS pf25 nin0))
   have V86_92 := J4_5.keep Kq86 (ninS pf20 (ninS pf26 nin0))
   have E86_93 := J4_6.keep Kq86
   have E86_94 := J4_11.keep Kq86
   have K86 := K84.trans Kq86 (allS (Or.inl (List.mem_of_getElem? (i := 2) rfl)) (allS (Or.inl (List.mem_of_getElem? (i := 3) rfl)) all0))
   have O86 := O4.keep Kq86 (allS pf16 (allS hge all0))
   obtain ⟨fs, hr, hrun, hended, hW, hsame⟩ := X86.leave (v := none) (fun _ => rfl)
   subst hS0
   refine ⟨_, _, pre65 _ ?_, hrun, hended, _, _, rfl, ?_, ⟨_, rfl⟩, hW, hsame.mono (by decide) (by decide)⟩
   ·
    refine XS.aloadN X61.here hx rfl (hb hby d11_75) rfl rfl ?_
    refine st85 _ ?_
    refine XS.aloadN X85.here hx rfl (hb hby d11_79) rfl rfl ?_
    refine st86.trans ?_
    refine XS.pop X86.here hx rfl (hb hby d11_85) rfl rfl ?_
    exact X86.returnOut hx Bd.returns (hb hby d11_86) hr
   ·
    show Q11_1 Z a0 a1 a2 w_EE0 w_DEE1 k_EE0 k_DEE1 wa kw kz b0 b1 b2 w0 u li mc sz es ke lo bn h0 n0 _ T86.heap _
    exact ⟨(dc b0 w0), (uc u b0 w0), (mc + (1 : Int32)), (sz + (1 : Int32)), es, ke, [es], rfl, N86, K86, E86_87, F86_88, F86_89, F86_90, V86_91, rfl, rfl, E86_93, u86_1, u86_2, u86_3, (Or.inr ⟨hg, (by have h1 := c_iadd sz (1 : Int32); have k1 : ((1 : Int32)).toInt = 1 := rfl; have r1 := rng32 (sz + (1 : Int32)); omega), hov, _, u86_4⟩), (allS ⟨rfl, hg⟩ all0), (Or.inl rfl)⟩

theorem ef_11_2 (m : MethodId) (a0 : Addr) (a1 : Addr) (a2 : Addr) : entryFrame m #[(.ref a0), (.ref a1), (.ref a2)] 5 = mkF m 0 #[rv a0, rv a1, rv a2, un, un] [] := by first | (simp [entryFrame, mkF, argsToLocals, Value.category]; done) | rfl
def Q11_2 (Z : State) (a0 : Addr) (a1 : Addr) (a2 : Addr) (w_EE0 : Addr) (w_DEE1 : Addr) (k_EE0 : ClassId) (k_DEE1 : ClassId) (wa : Addr) (kw : ClassId) (kz : ClassId) (b0 : Int32) (b1 : Int32) (b2 : Int32) (w0 : Int32) (w1 : Int32) (u : Int32) (li : Addr) (mc : Int32) (sz : Int32) (es : Addr) (ke : ClassId) (lo : Nat) (bn : Int) (h0 : Heap) (n0 : Nat) (v : Option Value) (h : Heap) (L : List Loc) : Prop := ∃ (x0 : Int32) (x1 : Int32) (xu : Int32) (m2 : Int32) (s2 : Int32) (e2 : Addr) (k2 : ClassId) (ys : List Addr), v = none ∧ Fr n0 L ∧ Keep h0 h (a0 :: wa :: li :: ys) ∧ Exa Z h a0 "com/example/filters_under_siege/filtersundersiege/Cover" ∧ Fld Z h a0 "com/example/filters_under_siege/filtersundersiege/Cover" "wanted" "[I" (.ref wa) ∧ Fld Z h a0 "com/example/filters_under_siege/filtersundersiege/Cover" "elements" "Ljava/util/List;" (.ref li) ∧ Fld Z h a0 "com/example/filters_under_siege/filtersundersiege/Cover" "uncovered" "I" (.int xu) ∧ Arv Z h wa kw .int (2 : Int32) [(.int x0), (.int x1)] (.int (0 : Int32)) ∧ (x0 = dc b0 w0) ∧ (x1 = dc b1 w1) ∧ (xu = (uc (uc u b0 w0) b1 w1)) ∧ Exa Z h li "java/util/ArrayList" ∧ Fld Z h li "java/util/AbstractList" "modCount" "I" (.int m2) ∧ Fld Z h li "java/util/ArrayList" "size" "I" (.int s2) ∧ Fld Z h li "java/util/ArrayList" "elementData" "[Ljava/lang/Object;" (.ref e2) ∧ LD Z h lo (bn + 1) w_DEE1 e2 k2 s2 ∧ (∀ y ∈ ys, y = es ∧ lo ≤ es) ∧ (e2 = es ∨ h0.size ≤ e2)
set_option maxRecDepth 65536 in
set_option maxHeartbeats 40000000 in
theorem rm11_2 (l : Launch) (Z : State) (ar : Array Value) (hw : ∀ d ∈ tables_1, d.before ar Z = true) (ws : List Jvm.Cond) (a0 : Addr) (a1 : Addr) (a2 : Addr) (w_EE0 : Addr) (w_DEE1 : Addr) (k_EE0 : ClassId) (k_DEE1 : ClassId) (wa : Addr) (kw : ClassId) (kz : ClassId) (b0 : Int32) (b1 : Int32) (b2 : Int32) (w0 : Int32) (w1 : Int32) (u : Int32) (li : Addr) (mc : Int32) (sz : Int32) (es : Addr) (ke : ClassId) (lo : Nat) (bn : Int) (h0 : Heap) (n0 : Nat) (O0 : Old Z n0 h0) (HW : Wd Z w_EE0 w_DEE1 k_EE0 k_DEE1) (pf0 : Exa Z h0 a0 "com/example/filters_under_siege/filtersundersiege/Cover") (pf1 : Fld Z h0 a0 "com/example/filters_under_siege/filtersundersiege/Cover" "wanted" "[I" (.ref wa)) (pf2 : Fld Z h0 a0 "com/example/filters_under_siege/filtersundersiege/Cover" "elements" "Ljava/util/List;" (.ref li)) (pf3 : Fld Z h0 a0 "com/example/filters_under_siege/filtersundersiege/Cover" "uncovered" "I" (.int u)) (pf4 : Arv Z h0 wa kw .int (2 : Int32) [(.int w0), (.int w1)] (.int (0 : Int32))) (pf5 : Arv Z h0 a2 kz .boolean (3 : Int32) [(.int b0), (.int b1), (.int b2)] (.int (0 : Int32))) (pf6 : n0 ≤ a0) (pf7 : n0 ≤ wa) (pf8 : a0 ≠ wa) (pf9 : a0 ≠ a2) (pf10 : wa ≠ a2) (pf11 : Exa Z h0 li "java/util/ArrayList") (pf12 : Fld Z h0 li "java/util/AbstractList" "modCount" "I" (.int mc)) (pf13 : Fld Z h0 li "java/util/ArrayList" "size" "I" (.int sz)) (pf14 : Fld Z h0 li "java/util/ArrayList" "elementData" "[Ljava/lang/Object;" (.ref es)) (pf15 : LD Z h0 lo bn w_DEE1 es ke sz) (pf16 : n0 ≤ li) (pf17 : Exa Z h0 a1 "[B") (pf18 : a0 ≠ li) (pf19 : wa ≠ li) (pf20 : a2 ≠ li) (pf21 : a0 ≠ a1) (pf22 : wa ≠ a1) (pf23 : li ≠ a1) (pf24 : a0 ≠ es) (pf25 : wa ≠ es) (pf26 : a2 ≠ es) (pf27 : li ≠ es) (pf28 : a1 ≠ es) (hlo1 : n0 ≤ lo) (hlo2 : lo ≤ h0.size) (hbn : 0 ≤ bn ∧ bn ≤ 3) :
    MetFree l y11 (head1 (Jvm.Cond.code y11 prog_13_method_3_code 5 none :: ws) ({ frames := 5, cells := 1, slots := 10, locals := 69 } : Room)) (fun a U => a = #[(.ref a0), (.ref a1), (.ref a2)] ∧ Z.Warmed39 U.vm ∧ U.heap = h0) (fun _ _ _ _ _ => True) (fun _ U o U' => ∃ v L, o = .returned v ∧ Q11_2 Z a0 a1 a2 w_EE0 w_DEE1 k_EE0 k_DEE1 wa kw kz b0 b1 b2 w0 w1 u li mc sz es ke lo bn h0 n0 v U'.heap L ∧ FrameEnd U o U' L ({ frames := 5, cells := 1, slots := 10, locals := 69 } : Room).cells ({ frames := 5, cells := 1, slots := 10, locals := 69 } : Room).slots) := by
 refine MetFree.of_bodySF (plainFor_of_name pn_5) hisR ?_
 intro p e s m args below meth c s₁ Bd hml0 hP hK
 obtain ⟨rfl, hZ, hh⟩ := hP
 have hx := Bd.exec
 have hby := Bd.bytes
 have hml : c.maxLocals = 5 := hml0
 have hown : s.vm.findClass "com/example/filters_under_siege/filtersundersiege/Cover" = some m.cls := findClass_of_methodNamed Bd.named
 have hnm := (name_of_methodNamed Bd.named Bd.method).1
 have X0 : Stand p l e ({ frames := 5, cells := 1, slots := 10, locals := 69 } : Room) s m #[(.ref a0), (.ref a1), (.ref a2)] below meth c s₁ [] 0 0 := Stand.of_body Bd
 have e0 : s₁.heap = h0 := by rw [← hh, Bd.state]; rfl
 have N0 := Fr.nil n0
 have Z0 : n0 ≤ h0.size := Nat.le_trans (Nat.le_of_eq O0.1.symm) O0.2.1
 obtain ⟨S0, hS0⟩ : ∃ z, z = s₁.setTop (entryFrame m #[(.ref a0), (.ref a1), (.ref a2)] 5) := ⟨_, rfl⟩
 have pre0 : ∀ tg, AT p e below s₁ m 0 #[rv a0, rv a1, rv a2, un, un] [] tg → Steps p.tables e below S0 tg := fun tg kg => by rw [hS0]; exact castTop (ef_11_2 m a0 a1 a2) kg
 obtain ⟨S_EMPTY_ELEMENTDATA, E_EE0, S_DEFAULTCAPACITY_EMPTY_ELEMENTDATA, E_DEE1, V_EE0, V_DEE1⟩ := id HW
 obtain ⟨T1, X1, e1, st1⟩ := getF X0 hx hZ hown (host := "") (Or.inl (ow hw 46 rfl)) Via.refl e0 pf1 (g := (mkF m 8 #[rv a0, rv a1, rv a2, iv (0 : Int32), iv (0 : Int32)] [(.ref a0), (.int (0 : Int32))])) rfl rfl (hb hby d11_8)
 obtain ⟨cl2, Ar2, q2, S2, N2, H2, G2⟩ := id pf4
 have pre3 : ∀ tg, AT p e below T1 m 15 #[rv a0, rv a1, rv a2, iv (0 : Int32), iv (0 : Int32)] [] tg → Steps p.tables e below S0 tg := fun tg kg => pre0 tg (by
  refine XS.iconst X0.here hx rfl (hb hby d11_0) ?_
  refine XS.istoreN X0.here hx rfl (hb hby d11_1) rfl (l' := #[rv a0, rv a1, rv a2, iv (0 : Int32), un]) rfl ?_
  refine XS.iconst X0.here hx rfl (hb hby d11_2) ?_
  refine XS.istore X0.here hx rfl (hb hby d11_3) rfl (l' := #[rv a0, rv a1, rv a2, iv (0 : Int32), iv (0 : Int32)]) rfl ?_
  refine XS.iload X0.here hx rfl (hb hby d11_5) rfl ?_
  refine XS.aloadN X0.here hx rfl (hb hby d11_7) rfl rfl ?_
  refine st1 _ ?_
  refine X1.arraylength hx (by rw [e1]; exact Ar2.1) (State.isArrayOf_alike hZ.alike Ar2.2.1) (g := (mkF m 11 #[rv a0, rv a1, rv a2, iv (0 : Int32), iv (0 : Int32)] [(.ref wa), (.int (0 : Int32))])) rfl rfl (hb hby d11_11) _ ?_
  rw [len_of S2 N2]
  show AT p e below T1 m 12 #[rv a0, rv a1, rv a2, iv (0 : Int32), iv (0 : Int32)] [(.int (2 : Int32)), (.int (0 : Int32))] _
  refine XS.icmpNo X1.here hx rfl (hb hby d11_12) rfl (XT.ii_ge_f ((by decide) : (0 : Int32) < (2 : Int32))) ?_
  exact kg)
 obtain ⟨T4, h4, L4, X4, e4, N4, K4, O4, J4_0, J4_1, J4_2, J4_3, J4_4, J4_5, J4_6, J4_7, J4_8, J4_9, J4_10, J4_11, pre4⟩ : ∃ (T4 : State) (h4 : Heap) (L4 : List Loc), Stand p l e ({ frames := 5, cells := 1, slots := 10, locals := 69 } : Room) s m #[(.ref a0), (.ref a1), (.ref a2)] below meth c T4 L4 0 0 ∧ T4.heap = h4 ∧ Fr n0 L4 ∧ Keep h0 h4 [a0, wa, li] ∧ Old Z n0 h4 ∧ Exa Z h4 a0 "com/example/filters_under_siege/filtersundersiege/Cover" ∧ Fld Z h4 a0 "com/example/filters_under_siege/filtersundersiege/Cover" "wanted" "[I" (.ref wa) ∧ Fld Z h4 a0 "com/example/filters_under_siege/filtersundersiege/Cover" "elements" "Ljava/util/List;" (.ref li) ∧ Fld Z h4 a0 "com/example/filters_under_siege/filtersundersiege/Cover" "uncovered" "I" (.int (uc u b0 w0)) ∧ Arv Z h4 wa kw .int (2 : Int32) [(.int (dc b0 w0)), (.int w1)] (.int (0 : Int32)) ∧ Arv Z h4 a2 kz .boolean (3 : Int32) [(.int b0), (.int b1), (.int b2)] (.int (0 : Int32)) ∧ Exa Z h4 li "java/util/ArrayList" ∧ Fld Z h4 li "java/util/AbstractList" "modCount" "I" (.int mc) ∧ Fld Z h4 li "java/util/ArrayList" "size" "I" (.int sz) ∧ Fld Z h4 li "java/util/ArrayList" "elementData" "[Ljava/lang/Object;" (.ref es) ∧ LD Z h4 lo bn w_DEE1 es ke sz ∧ Exa Z h4 a1 "[B" ∧ (∀ tg, AT p e below T4 m 65 #[rv a0, rv a1, rv a2, iv (tk (0 : Int32) b0 w0), iv (0 : Int32)] [] tg → Steps p.tables e below S0 tg) := by
  obtain ⟨cl5, Ar5, q5, S5, N5, H5, G5⟩ := id pf5
  have hin5 := own_in (0 : Int32) S5 ⟨by decide, by decide⟩
  have hat5 : cl5.slots[((0 : Int32)).toNatClampNeg]? = some (.int b0) := Has.at H5 hin5 rfl
  have pre6 : ∀ tg, AT p e below T1 m 19 #[rv a0, rv a1, rv a2, iv (0 : Int32), iv (0 : Int32)] [(.int b0)] tg → Steps p.tables e below S0 tg := fun tg kg => pre3 tg (by
   refine XS.aloadN X1.here hx rfl (hb hby d11_15) rfl rfl ?_
   refine XS.iload X1.here hx rfl (hb hby d11_16) rfl ?_
   refine X1.baloadBooleans hx (j := (0 : Int32)) (v := (.int b0)) (by rw [e1]; exact Ar5.1) (State.isArrayOf_alike hZ.alike Ar5.2.1) Ar5.2.2 hin5 hat5 (g := (mkF m 18 #[rv a0, rv a1, rv a2, iv (0 : Int32), iv (0 : Int32)] [(.int (0 : Int32)), (.ref a2)])) rfl rfl (hb hby d11_18) _ ?_
   exact kg)
  rcases Decidable.em (b0 = (0 : Int32)) with hc7 | hc7
  ·
   have pre8 : ∀ tg, AT p e below T1 m 65 #[rv a0, rv a1, rv a2, iv (0 : Int32), iv (0 : Int32)] [] tg → Steps p.tables e below S0 tg := fun tg kg => pre6 tg (by
    refine XS.ifYes X1.here hx rfl (pc0 := 19) (pc' := 65) rfl (hb hby d11_19) rfl (XT.i0_eq_t hc7) (by decide) (by decide) ?_
    exact kg)
   have hj9 : (uc u b0 w0) = u := by simp only [dc, uc, tk, if_pos hc7]
   have hj10 : (dc b0 w0) = w0 := by simp only [dc, uc, tk, if_pos hc7]
   have hj11 : (tk (0 : Int32) b0 w0) = (0 : Int32) := by simp only [dc, uc, tk, if_pos hc7]
   exact ⟨_, _, _, X1, e1, N0, (Keep.refl h0 [a0, wa, li]), O0, pf0, pf1, pf2, (by rw [hj9]; exact pf3), (by rw [hj10]; exact pf4), pf5, pf11, pf12, pf13, pf14, pf15, pf17, (by rw [hj11]; exact pre8)⟩
  ·
   obtain ⟨T12, X12, e12, st12⟩ := getF X1 hx hZ hown (host := "") (Or.inl (ow hw 46 rfl)) Via.refl e1 pf1 (g := (mkF m 23 #[rv a0, rv a1, rv a2, iv (0 : Int32), iv (0 : Int32)] [(.ref a0)])) rfl rfl (hb hby d11_23)
   obtain ⟨cl13, Ar13, q13, S13, N13, H13, G13⟩ := id pf4
   have hin13 := own_in (0 : Int32) S13 ⟨by decide, by decide⟩
   have hat13 : cl13.slots[((0 : Int32)).toNatClampNeg]? = some (.int w0) := Has.at H13 hin13 rfl
   have pre14 : ∀ tg, AT p e below T12 m 29 #[rv a0, rv a1, rv a2, iv (0 : Int32), iv (0 : Int32)] [(.int w0)] tg → Steps p.tables e below S0 tg := fun tg kg => pre6 tg (by
    refine XS.ifNo X1.here hx rfl (hb hby d11_19) rfl (XT.i0_eq_f hc7) ?_
    refine XS.aloadN X1.here hx rfl (hb hby d11_22) rfl rfl ?_
    refine st12 _ ?_
    refine XS.iload X12.here hx rfl (hb hby d11_26) rfl ?_
    refine X12.iaload hx (j := (0 : Int32)) (v := (.int w0)) (by rw [e12]; exact Ar13.1) (State.isArrayOf_alike hZ.alike Ar13.2.1) Ar13.2.2 hin13 hat13 (g := (mkF m 28 #[rv a0, rv a1, rv a2, iv (0 : Int32), iv (0 : Int32)] [(.int (0 : Int32)), (.ref wa)])) rfl rfl (hb hby d11_28) _ ?_
    exact kg)
   rcases Decidable.em ((0 : Int32) < w0) with hc15 | hc15
   ·
    obtain ⟨T16, X16, e16, st16⟩ := getF X12 hx hZ hown (host := "") (Or.inl (ow hw 46 rfl)) Via.refl e12 pf1 (g := (mkF m 33 #[rv a0, rv a1, rv a2, iv (0 : Int32), iv (0 : Int32)] [(.ref a0)])) rfl rfl (hb hby d11_33)
    obtain ⟨cl17, Ar17, q17, S17, N17, H17, G17⟩ := id pf4
    have hin17 := own_in (0 : Int32) S17 ⟨by decide, by decide⟩
    have hat17 : cl17.slots[((0 : Int32)).toNatClampNeg]? = some (.int w0) := Has.at H17 hin17 rfl
    obtain ⟨cl18, Ar18, q18, S18, M18, H18, G18⟩ := id pf4
    have hin18 := own_in (0 : Int32) S18 ⟨by decide, by decide⟩
    obtain ⟨T18, h18, X18, e18, W18, st18⟩ := stI X16 hx hZ e16 Ar18 (j := (0 : Int32)) hin18 (g := (mkF m 42 #[rv a0, rv a1, rv a2, iv (0 : Int32), iv (0 : Int32)] [(.int (w0 - (1 : Int32))), (.int (0 : Int32)), (.ref wa)])) rfl rfl (hb hby d11_42)
    have V18_19 : Arv Z h18 wa kw .int (2 : Int32) [(.int (w0 - (1 : Int32))), (.int w1)] (.int (0 : Int32)) := Arv.set Ar18 q18 S18 M18 H18 G18 rfl W18 0 rfl (Nat.le_of_ble_eq_true rfl)
    have E18_20 := pf0.wr W18
    have F18_21 := pf1.other W18 (Or.inl pf8)
    have F18_22 := pf2.other W18 (Or.inl pf8)
    have F18_23 := pf3.other W18 (Or.inl pf8)
    have V18_24 := pf5.other W18 (Ne.symm pf10)
    have E18_25 := pf11.wr W18
    have F18_26 := pf12.other W18 (Or.inl (Ne.symm pf19))
    have F18_27 := pf13.other W18 (Or.inl (Ne.symm pf19))
    have F18_28 := pf14.other W18 (Or.inl (Ne.symm pf19))
    have X18_29 := pf15.other W18 (Ne.symm pf25)
    have E18_30 := pf17.wr W18
    have K18 := (Keep.refl h0 [a0, wa, li]).wr W18 (Or.inl (List.mem_of_getElem? (i := 1) rfl))
    have O18 := O0.wr W18 pf7
    have N18 := Fr.snoc X18 N0 pf7
    obtain ⟨T31, X31, e31, st31⟩ := getF X18 hx hZ hown (host := "") (Or.inl (ow hw 46 rfl)) Via.refl e18 F18_21 (g := (mkF m 44 #[rv a0, rv a1, rv a2, iv (0 : Int32), iv (0 : Int32)] [(.ref a0)])) rfl rfl (hb hby d11_44)
    obtain ⟨cl32, Ar32, q32, S32, N32, H32, G32⟩ := id V18_19
    have hin32 := own_in (0 : Int32) S32 ⟨by decide, by decide⟩
    have hat32 : cl32.slots[((0 : Int32)).toNatClampNeg]? = some (.int (w0 - (1 : Int32))) := Has.at H32 hin32 rfl
    have pre33 : ∀ tg, AT p e below T31 m 50 #[rv a0, rv a1, rv a2, iv (0 : Int32), iv (0 : Int32)] [(.int (w0 - (1 : Int32)))] tg → Steps p.tables e below S0 tg := fun tg kg => pre14 tg (by
     refine XS.ifNo X12.here hx rfl (hb hby d11_29) rfl (XT.i0_le_f hc15) ?_
     refine XS.aloadN X12.here hx rfl (hb hby d11_32) rfl rfl ?_
     refine st16 _ ?_
     refine XS.iload X16.here hx rfl (hb hby d11_36) rfl ?_
     jvm_step X16.here [X16.here.top, hx, (hb hby d11_38), Value.category]
     refine X16.iaload hx (j := (0 : Int32)) (v := (.int w0)) (by rw [e16]; exact Ar17.1) (State.isArrayOf_alike hZ.alike Ar17.2.1) Ar17.2.2 hin17 hat17 (g := (mkF m 39 #[rv a0, rv a1, rv a2, iv (0 : Int32), iv (0 : Int32)] [(.int (0 : Int32)), (.ref wa), (.int (0 : Int32)), (.ref wa)])) rfl rfl (hb hby d11_39) _ ?_
     show AT p e below T16 m 40 #[rv a0, rv a1, rv a2, iv (0 : Int32), iv (0 : Int32)] [(.int w0), (.int (0 : Int32)), (.ref wa)] _
     refine XS.iconst X16.here hx rfl (hb hby d11_40) ?_
     refine XS.isub X16.here hx rfl (hb hby d11_41) rfl ?_
     refine st18 _ ?_
     refine XS.aloadN X18.here hx rfl (hb hby d11_43) rfl rfl ?_
     refine st31 _ ?_
     refine XS.iload X31.here hx rfl (hb hby d11_47) rfl ?_
     refine X31.iaload hx (j := (0 : Int32)) (v := (.int (w0 - (1 : Int32)))) (by rw [e31]; exact Ar32.1) (State.isArrayOf_alike hZ.alike Ar32.2.1) Ar32.2.2 hin32 hat32 (g := (mkF m 49 #[rv a0, rv a1, rv a2, iv (0 : Int32), iv (0 : Int32)] [(.int (0 : Int32)), (.ref wa)])) rfl rfl (hb hby d11_49) _ ?_
     exact kg)
    rcases Decidable.em ((w0 - (1 : Int32)) = (0 : Int32)) with hc34 | hc34
    ·
     obtain ⟨T35, X35, e35, st35⟩ := getF X31 hx hZ hown (host := "") (Or.inl (ow hw 52 rfl)) Via.refl e31 F18_23 (g := (mkF m 55 #[rv a0, rv a1, rv a2, iv (0 : Int32), iv (0 : Int32)] [(.ref a0), (.ref a0)])) rfl rfl (hb hby d11_55)
     obtain ⟨T36, h36, X36, e36, W36, st36⟩ := putF X35 hx hZ hown (host := "") (Or.inl (ow hw 52 rfl)) Via.refl e35 F18_23 E18_20 (Or.inl (ow hw 53 rfl)) (ow hw 11 rfl) (ty := .int) (by decide) rfl rfl (g := (mkF m 60 #[rv a0, rv a1, rv a2, iv (0 : Int32), iv (0 : Int32)] [(.int (u - (1 : Int32))), (.ref a0)])) rfl rfl (hb hby d11_60)
     have E36_37 := E18_20.wr W36
     have F36_38 := F18_21.other W36 (Or.inr (slot_ne (Or.inr (ow hw 47 rfl)) (Or.inl (ow hw 53 rfl)) (by decide) (t := (.array .int)) (t' := .int) (by decide) (by decide)))
     have F36_39 := F18_22.other W36 (Or.inr (slot_ne (Or.inr (ow hw 44 rfl)) (Or.inl (ow hw 53 rfl)) (by decide) (t := (.object "java/util/List")) (t' := .int) (by decide) (by decide)))
     have F36_40 : Fld Z h36 a0 "com/example/filters_under_siege/filtersundersiege/Cover" "uncovered" "I" (.int (u - (1 : Int32))) := F18_23.same W36
     have V36_41 := V18_19.other W36 (Ne.symm pf8)
     have V36_42 := V18_24.other W36 (Ne.symm pf9)
     have E36_43 := E18_25.wr W36
     have F36_44 := F18_26.other W36 (Or.inl (Ne.symm pf18))
     have F36_45 := F18_27.other W36 (Or.inl (Ne.symm pf18))
     have F36_46 := F18_28.other W36 (Or.inl (Ne.symm pf18))
     have X36_47 := X18_29.other W36 (Ne.symm pf24)
     have E36_48 := E18_30.wr W36
     have K36 := K18.wr W36 (Or.inl (List.mem_of_getElem? (i := 0) rfl))
     have O36 := O18.wr W36 pf6
     have N36 := Fr.snoc X36 N18 pf6
     have pre49 : ∀ tg, AT p e below T36 m 65 #[rv a0, rv a1, rv a2, iv (1 : Int32), iv (0 : Int32)] [] tg → Steps p.tables e below S0 tg := fun tg kg => pre33 tg (by
      refine XS.ifNo X31.here hx rfl (hb hby d11_50) rfl (XT.i0_ne_f hc34) ?_
      refine XS.aloadN X31.here hx rfl (hb hby d11_53) rfl rfl ?_
      refine XS.dup X31.here hx rfl (hb hby d11_54) rfl rfl ?_
      refine st35 _ ?_
      refine XS.iconst X35.here hx rfl (hb hby d11_58) ?_
      refine XS.isub X35.here hx rfl (hb hby d11_59) rfl ?_
      show AT p e below T35 m 60 #[rv a0, rv a1, rv a2, iv (0 : Int32), iv (0 : Int32)] [(.int (u - (1 : Int32))), (.ref a0)] _
      refine st36 _ ?_
      refine XS.iconst X36.here hx rfl (hb hby d11_63) ?_
      refine XS.istoreN X36.here hx rfl (hb hby d11_64) rfl (l' := #[rv a0, rv a1, rv a2, iv (1 : Int32), iv (0 : Int32)]) rfl ?_
      exact kg)
     have hj50 : (uc u b0 w0) = (u - (1 : Int32)) := by simp only [dc, uc, tk, if_neg hc7, if_pos hc15, if_pos hc34]
     have hj51 : (dc b0 w0) = (w0 - (1 : Int32)) := by simp only [dc, uc, tk, if_neg hc7, if_pos hc15, if_pos hc34]
     have hj52 : (tk (0 : Int32) b0 w0) = (1 : Int32) := by simp only [dc, uc, tk, if_neg hc7, if_pos hc15, if_pos hc34]
     exact ⟨_, _, _, X36, e36, N36, K36, O36, E36_37, F36_38, F36_39, (by rw [hj50]; exact F36_40), (by rw [hj51]; exact V36_41), V36_42, E36_43, F36_44, F36_45, F36_46, X36_47, E36_48, (by rw [hj52]; exact pre49)⟩
    ·
     have pre53 : ∀ tg, AT p e below T31 m 65 #[rv a0, rv a1, rv a2, iv (1 : Int32), iv (0 : Int32)] [] tg → Steps p.tables e below S0 tg := fun tg kg => pre33 tg (by
      refine XS.ifYes X31.here hx rfl (pc0 := 50) (pc' := 63) rfl (hb hby d11_50) rfl (XT.i0_ne_t hc34) (by decide) (by decide) ?_
      refine XS.iconst X31.here hx rfl (hb hby d11_63) ?_
      refine XS.istoreN X31.here hx rfl (hb hby d11_64) rfl (l' := #[rv a0, rv a1, rv a2, iv (1 : Int32), iv (0 : Int32)]) rfl ?_
      exact kg)
     have hj54 : (uc u b0 w0) = u := by simp only [dc, uc, tk, if_neg hc7, if_pos hc15, if_neg hc34]
     have hj55 : (dc b0 w0) = (w0 - (1 : Int32)) := by simp only [dc, uc, tk, if_neg hc7, if_pos hc15, if_neg hc34]
     have hj56 : (tk (0 : Int32) b0 w0) = (1 : Int32) := by simp only [dc, uc, tk, if_neg hc7, if_pos hc15, if_neg hc34]
     exact ⟨_, _, _, X31, e31, N18, K18, O18, E18_20, F18_21, F18_22, (by rw [hj54]; exact F18_23), (by rw [hj55]; exact V18_19), V18_24, E18_25, F18_26, F18_27, F18_28, X18_29, E18_30, (by rw [hj56]; exact pre53)⟩
   ·
    have pre57 : ∀ tg, AT p e below T12 m 65 #[rv a0, rv a1, rv a2, iv (0 : Int32), iv (0 : Int32)] [] tg → Steps p.tables e below S0 tg := fun tg kg => pre14 tg (by
     refine XS.ifYes X12.here hx rfl (pc0 := 29) (pc' := 65) rfl (hb hby d11_29) rfl (XT.i0_le_t hc15) (by decide) (by decide) ?_
     exact kg)
    have hj58 : (uc u b0 w0) = u := by simp only [dc, uc, tk, if_neg hc7, if_neg hc15]
    have hj59 : (dc b0 w0) = w0 := by simp only [dc, uc, tk, if_neg hc7, if_neg hc15]
    have hj60 : (tk (0 : Int32) b0 w0) = (0 : Int32) := by simp only [dc, uc, tk, if_neg hc7, if_neg hc15]
    exact ⟨_, _, _, X12, e12, N0, (Keep.refl h0 [a0, wa, li]), O0, pf0, pf1, pf2, (by rw [hj58]; exact pf3), (by rw [hj59]; exact pf4), pf5, pf11, pf12, pf13, pf14, pf15, pf17, (by rw [hj60]; exact pre57)⟩
 obtain ⟨T61, X61, e61, st61⟩ := getF X4 hx hZ hown (host := "") (Or.inl (ow hw 46 rfl)) Via.refl e4 J4_1 (g := (mkF m 8 #[rv a0, rv a1, rv a2, iv (tk (0 : Int32) b0 w0), iv (1 : Int32)] [(.ref a0), (.int (1 : Int32))])) rfl rfl (hb hby d11_8)
 obtain ⟨cl62, Ar62, q62, S62, N62, H62, G62⟩ := id J4_4
 have pre63 : ∀ tg, AT p e below T61 m 15 #[rv a0, rv a1, rv a2, iv (tk (0 : Int32) b0 w0), iv (1 : Int32)] [] tg → Steps p.tables e below S0 tg := fun tg kg => pre4 tg (by
  refine XS.iinc X4.here hx rfl (hb hby d11_65) rfl (l' := #[rv a0, rv a1, rv a2, iv (tk (0 : Int32) b0 w0), iv (1 : Int32)]) rfl ?_
  refine XS.goto X4.here hx rfl (pc0 := 68) (pc' := 5) rfl (hb hby d11_68) (by decide) (by decide) ?_
  refine XS.iload X4.here hx rfl (hb hby d11_5) rfl ?_
  refine XS.aloadN X4.here hx rfl (hb hby d11_7) rfl rfl ?_
  refine st61 _ ?_
  refine X61.arraylength hx (by rw [e61]; exact Ar62.1) (State.isArrayOf_alike hZ.alike Ar62.2.1) (g := (mkF m 11 #[rv a0, rv a1, rv a2, iv (tk (0 : Int32) b0 w0), iv (1 : Int32)] [(.ref wa), (.int (1 : Int32))])) rfl rfl (hb hby d11_11) _ ?_
  rw [len_of S62 N62]
  show AT p e below T61 m 12 #[rv a0, rv a1, rv a2, iv (tk (0 : Int32) b0 w0), iv (1 : Int32)] [(.int (2 : Int32)), (.int (1 : Int32))] _
  refine XS.icmpNo X61.here hx rfl (hb hby d11_12) rfl (XT.ii_ge_f ((by decide) : (1 : Int32) < (2 : Int32))) ?_
  exact kg)
 obtain ⟨T64, h64, L64, X64, e64, N64, K64, O64, J64_0, J64_1, J64_2, J64_3, J64_4, J64_5, J64_6, J64_7, J64_8, J64_9, J64_10, J64_11, pre64⟩ : ∃ (T64 : State) (h64 : Heap) (L64 : List Loc), Stand p l e ({ frames := 5, cells := 1, slots := 10, locals := 69 } : Room) s m #[(.ref a0), (.ref a1), (.ref a2)] below meth c T64 L64 0 0 ∧ T64.heap = h64 ∧ Fr n0 L64 ∧ Keep h0 h64 [a0, wa, li] ∧ Old Z n0 h64 ∧ Exa Z h64 a0 "com/example/filters_under_siege/filtersundersiege/Cover" ∧ Fld Z h64 a0 "com/example/filters_under_siege/filtersundersiege/Cover" "wanted" "[I" (.ref wa) ∧ Fld Z h64 a0 "com/example/filters_under_siege/filtersundersiege/Cover" "elements" "Ljava/util/List;" (.ref li) ∧ Fld Z h64 a0 "com/example/filters_under_siege/filtersundersiege/Cover" "uncovered" "I" (.int (uc (uc u b0 w0) b1 w1)) ∧ Arv Z h64 wa kw .int (2 : Int32) [(.int (dc b0 w0)), (.int (dc b1 w1))] (.int (0 : Int32)) ∧ Arv Z h64 a2 kz .boolean (3 : Int32) [(.int b0), (.int b1), (.int b2)] (.int (0 : Int32)) ∧ Exa Z h64 li "java/util/ArrayList" ∧ Fld Z h64 li "java/util/AbstractList" "modCount" "I" (.int mc) ∧ Fld Z h64 li "java/util/ArrayList" "size" "I" (.int sz) ∧ Fld Z h64 li "java/util/ArrayList" "elementData" "[Ljava/lang/Object;" (.ref es) ∧ LD Z h64 lo bn w_DEE1 es ke sz ∧ Exa Z h64 a1 "[B" ∧ (∀ tg, AT p e below T64 m 65 #[rv a0, rv a1, rv a2, iv (tk (tk (0 : Int32) b0 w0) b1 w1), iv (1 : Int32)] [] tg → Steps p.tables e below S0 tg) := by
  obtain ⟨cl65, Ar65, q65, S65, N65, H65, G65⟩ := id J4_5
  have hin65 := own_in (1 : Int32) S65 ⟨by decide, by decide⟩
  have hat65 : cl65.slots[((1 : Int32)).toNatClampNeg]? = some (.int b1) := Has.at H65 hin65 rfl
  have pre66 : ∀ tg, AT p e below T61 m 19 #[rv a0, rv a1, rv a2, iv (tk (0 : Int32) b0 w0), iv (1 : Int32)] [(.int b1)] tg → Steps p.tables e below S0 tg := fun tg kg => pre63 tg (by
   refine XS.aloadN X61.here hx rfl (hb hby d11_15) rfl rfl ?_
   refine XS.iload X61.here hx rfl (hb hby d11_16) rfl ?_
   refine X61.baloadBooleans hx (j := (1 : Int32)) (v := (.int b1)) (by rw [e61]; exact Ar65.1) (State.isArrayOf_alike hZ.alike Ar65.2.1) Ar65.2.2 hin65 hat65 (g := (mkF m 18 #[rv a0, rv a1, rv a2, iv (tk (0 : Int32) b0 w0), iv (1 : Int32)] [(.int (1 : Int32)), (.ref a2)])) rfl rfl (hb hby d11_18) _ ?_
   exact kg)
  rcases Decidable.em (b1 = (0 : Int32)) with hc67 | hc67
  ·
   have pre68 : ∀ tg, AT p e below T61 m 65 #[rv a0, rv a1, rv a2, iv (tk (0 : Int32) b0 w0), iv (1 : Int32)] [] tg → Steps p.tables e below S0 tg := fun tg kg => pre66 tg (by
    refine XS.ifYes X61.here hx rfl (pc0 := 19) (pc' := 65) rfl (hb hby d11_19) rfl (XT.i0_eq_t hc67) (by decide) (by decide) ?_
    exact kg)
   have hj69 : (uc (uc u b0 w0) b1 w1) = (uc u b0 w0) := by simp only [dc, uc, tk, if_pos hc67]
   have hj70 : (dc b1 w1) = w1 := by simp only [dc, uc, tk, if_pos hc67]
   have hj71 : (tk (tk (0 : Int32) b0 w0) b1 w1) = (tk (0 : Int32) b0 w0) := by simp only [dc, uc, tk, if_pos hc67]
   exact ⟨_, _, _, X61, e61, N4, K4, O4, J4_0, J4_1, J4_2, (by rw [hj69]; exact J4_3), (by rw [hj70]; exact J4_4), J4_5, J4_6, J4_7, J4_8, J4_9, J4_10, J4_11, (by rw [hj71]; exact pre68)⟩
  ·
   obtain ⟨T72, X72, e72, st72⟩ := getF X61 hx hZ hown (host := "") (Or.inl (ow hw 46 rfl)) Via.refl e61 J4_1 (g := (mkF m 23 #[rv a0, rv a1, rv a2, iv (tk (0 : Int32) b0 w0), iv (1 : Int32)] [(.ref a0)])) rfl rfl (hb hby d11_23)
   obtain ⟨cl73, Ar73, q73, S73, N73, H73, G73⟩ := id J4_4
   have hin73 := own_in (1 : Int32) S73 ⟨by decide, by decide⟩
   have hat73 : cl73.slots[((1 : Int32)).toNatClampNeg]? = some (.int w1) := Has.at H73 hin73 rfl
   have pre74 : ∀ tg, AT p e below T72 m 29 #[rv a0, rv a1, rv a2, iv (tk (0 : Int32) b0 w0), iv (1 : Int32)] [(.int w1)] tg → Steps p.tables e below S0 tg := fun tg kg => pre66 tg (by
    refine XS.ifNo X61.here hx rfl (hb hby d11_19) rfl (XT.i0_eq_f hc67) ?_
    refine XS.aloadN X61.here hx rfl (hb hby d11_22) rfl rfl ?_
    refine st72 _ ?_
    refine XS.iload X72.here hx rfl (hb hby d11_26) rfl ?_
    refine X72.iaload hx (j := (1 : Int32)) (v := (.int w1)) (by rw [e72]; exact Ar73.1) (State.isArrayOf_alike hZ.alike Ar73.2.1) Ar73.2.2 hin73 hat73 (g := (mkF m 28 #[rv a0, rv a1, rv a2, iv (tk (0 : Int32) b0 w0), iv (1 : Int32)] [(.int (1 : Int32)), (.ref wa)])) rfl rfl (hb hby d11_28) _ ?_
    exact kg)
   rcases Decidable.em ((0 : Int32) < w1) with hc75 | hc75
   ·
    obtain ⟨T76, X76, e76, st76⟩ := getF X72 hx hZ hown (host := "") (Or.inl (ow hw 46 rfl)) Via.refl e72 J4_1 (g := (mkF m 33 #[rv a0, rv a1, rv a2, iv (tk (0 : Int32) b0 w0), iv (1 : Int32)] [(.ref a0)])) rfl rfl (hb hby d11_33)
    obtain ⟨cl77, Ar77, q77, S77, N77, H77, G77⟩ := id J4_4
    have hin77 := own_in (1 : Int32) S77 ⟨by decide, by decide⟩
    have hat77 : cl77.slots[((1 : Int32)).toNatClampNeg]? = some (.int w1) := Has.at H77 hin77 rfl
    obtain ⟨cl78, Ar78, q78, S78, M78, H78, G78⟩ := id J4_4
    have hin78 := own_in (1 : Int32) S78 ⟨by decide, by decide⟩
    obtain ⟨T78, h78, X78, e78, W78, st78⟩ := stI X76 hx hZ e76 Ar78 (j := (1 : Int32)) hin78 (g := (mkF m 42 #[rv a0, rv a1, rv a2, iv (tk (0 : Int32) b0 w0), iv (1 : Int32)] [(.int (w1 - (1 : Int32))), (.int (1 : Int32)), (.ref wa)])) rfl rfl (hb hby d11_42)
    have V78_79 : Arv Z h78 wa kw .int (2 : Int32) [(.int (dc b0 w0)), (.int (w1 - (1 : Int32)))] (.int (0 : Int32)) := Arv.set Ar78 q78 S78 M78 H78 G78 rfl W78 1 rfl (Nat.le_of_ble_eq_true rfl)
    have E78_80 := J4_0.wr W78
    have F78_81 := J4_1.other W78 (Or.inl pf8)
    have F78_82 := J4_2.other W78 (Or.inl pf8)
    have F78_83 := J4_3.other W78 (Or.inl pf8)
    have V78_84 := J4_5.other W78 (Ne.symm pf10)
    have E78_85 := J4_6.wr W78
    have F78_86 := J4_7.other W78 (Or.inl (Ne.symm pf19))
    have F78_87 := J4_8.other W78 (Or.inl (Ne.symm pf19))
    have F78_88 := J4_9.other W78 (Or.inl (Ne.symm pf19))
    have X78_89 := J4_10.other W78 (Ne.symm pf25)
    have E78_90 := J4_11.wr W78
    have K78 := K4.wr W78 (Or.inl (List.mem_of_getElem? (i := 1) rfl))
    have O78 := O4.wr W78 pf7
    have N78 := Fr.snoc X78 N4 pf7
    obtain ⟨T91, X91, e91, st91⟩ := getF X78 hx hZ hown (host := "") (Or.inl (ow hw 46 rfl)) Via.refl e78 F78_81 (g := (mkF m 44 #[rv a0, rv a1, rv a2, iv (tk (0 : Int32) b0 w0), iv (1 : Int32)] [(.ref a0)])) rfl rfl (hb hby d11_44)
    obtain ⟨cl92, Ar92, q92, S92, N92, H92, G92⟩ := id V78_79
    have hin92 := own_in (1 : Int32) S92 ⟨by decide, by decide⟩
    have hat92 : cl92.slots[((1 : Int32)).toNatClampNeg]? = some (.int (w1 - (1 : Int32))) := Has.at H92 hin92 rfl
    have pre93 : ∀ tg, AT p e below T91 m 50 #[rv a0, rv a1, rv a2, iv (tk (0 : Int32) b0 w0), iv (1 : Int32)] [(.int (w1 - (1 : Int32)))] tg → Steps p.tables e below S0 tg := fun tg kg => pre74 tg (by
     refine XS.ifNo X72.here hx rfl (hb hby d11_29) rfl (XT.i0_le_f hc75) ?_
     refine XS.aloadN X72.here hx rfl (hb hby d11_32) rfl rfl ?_
     refine st76 _ ?_
     refine XS.iload X76.here hx rfl (hb hby d11_36) rfl ?_
     jvm_step X76.here [X76.here.top, hx, (hb hby d11_38), Value.category]
     refine X76.iaload hx (j := (1 : Int32)) (v := (.int w1)) (by rw [e76]; exact Ar77.1) (State.isArrayOf_alike hZ.alike Ar77.2.1) Ar77.2.2 hin77 hat77 (g := (mkF m 39 #[rv a0, rv a1, rv a2, iv (tk (0 : Int32) b0 w0), iv (1 : Int32)] [(.int (1 : Int32)), (.ref wa), (.int (1 : Int32)), (.ref wa)])) rfl rfl (hb hby d11_39) _ ?_
     show AT p e below T76 m 40 #[rv a0, rv a1, rv a2, iv (tk (0 : Int32) b0 w0), iv (1 : Int32)] [(.int w1), (.int (1 : Int32)), (.ref wa)] _
     refine XS.iconst X76.here hx rfl (hb hby d11_40) ?_
     refine XS.isub X76.here hx rfl (hb hby d11_41) rfl ?_
     refine st78 _ ?_
     refine XS.aloadN X78.here hx rfl (hb hby d11_43) rfl rfl ?_
     refine st91 _ ?_
     refine XS.iload X91.here hx rfl (hb hby d11_47) rfl ?_
     refine X91.iaload hx (j := (1 : Int32)) (v := (.int (w1 - (1 : Int32)))) (by rw [e91]; exact Ar92.1) (State.isArrayOf_alike hZ.alike Ar92.2.1) Ar92.2.2 hin92 hat92 (g := (mkF m 49 #[rv a0, rv a1, rv a2, iv (tk (0 : Int32) b0 w0), iv (1 : Int32)] [(.int (1 : Int32)), (.ref wa)])) rfl rfl (hb hby d11_49) _ ?_
     exact kg)
    rcases Decidable.em ((w1 - (1 : Int32)) = (0 : Int32)) with hc94 | hc94
    ·
     obtain ⟨T95, X95, e95, st95⟩ := getF X91 hx hZ hown (host := "") (Or.inl (ow hw 52 rfl)) Via.refl e91 F78_83 (g := (mkF m 55 #[rv a0, rv a1, rv a2, iv (tk (0 : Int32) b0 w0), iv (1 : Int32)] [(.ref a0), (.ref a0)])) rfl rfl (hb hby d11_55)
     obtain ⟨T96, h96, X96, e96, W96, st96⟩ := putF X95 hx hZ hown (host := "") (Or.inl (ow hw 52 rfl)) Via.refl e95 F78_83 E78_80 (Or.inl (ow hw 53 rfl)) (ow hw 11 rfl) (ty := .int) (by decide) rfl rfl (g := (mkF m 60 #[rv a0, rv a1, rv a2, iv (tk (0 : Int32) b0 w0), iv (1 : Int32)] [(.int ((uc u b0 w0) - (1 : Int32))), (.ref a0)])) rfl rfl (hb hby d11_60)
     have E96_97 := E78_80.wr W96
     have F96_98 := F78_81.other W96 (Or.inr (slot_ne (Or.inr (ow hw 47 rfl)) (Or.inl (ow hw 53 rfl)) (by decide) (t := (.array .int)) (t' := .int) (by decide) (by decide)))
     have F96_99 := F78_82.other W96 (Or.inr (slot_ne (Or.inr (ow hw 44 rfl)) (Or.inl (ow hw 53 rfl)) (by decide) (t := (.object "java/util/List")) (t' := .int) (by decide) (by decide)))
     have F96_100 : Fld Z h96 a0 "com/example/filters_under_siege/filtersundersiege/Cover" "uncovered" "I" (.int ((uc u b0 w0) - (1 : Int32))) := F78_83.same W96
     have V96_101 := V78_79.other W96 (Ne.symm pf8)
     have V96_102 := V78_84.other W96 (Ne.symm pf9)
     have E96_103 := E78_85.wr W96
     have F96_104 := F78_86.other W96 (Or.inl (Ne.symm pf18))
     have F96_105 := F78_87.other W96 (Or.inl (Ne.symm pf18))
     have F96_106 := F78_88.other W96 (Or.inl (Ne.symm pf18))
     have X96_107 := X78_89.other W96 (Ne.symm pf24)
     have E96_108 := E78_90.wr W96
     have K96 := K78.wr W96 (Or.inl (List.mem_of_getElem? (i := 0) rfl))
     have O96 := O78.wr W96 pf6
     have N96 := Fr.snoc X96 N78 pf6
     have pre109 : ∀ tg, AT p e below T96 m 65 #[rv a0, rv a1, rv a2, iv (1 : Int32), iv (1 : Int32)] [] tg → Steps p.tables e below S0 tg := fun tg kg => pre93 tg (by
      refine XS.ifNo X91.here hx rfl (hb hby d11_50) rfl (XT.i0_ne_f hc94) ?_
      refine XS.aloadN X91.here hx rfl (hb hby d11_53) rfl rfl ?_
      refine XS.dup X91.here hx rfl (hb hby d11_54) rfl rfl ?_
      refine st95 _ ?_
      refine XS.iconst X95.here hx rfl (hb hby d11_58) ?_
      refine XS.isub X95.here hx rfl (hb hby d11_59) rfl ?_
      show AT p e below T95 m 60 #[rv a0, rv a1, rv a2, iv (tk (0 : Int32) b0 w0), iv (1 : Int32)] [(.int ((uc u b0 w0) - (1 : Int32))), (.ref a0)] _
      refine st96 _ ?_
      refine XS.iconst X96.here hx rfl (hb hby d11_63) ?_
      refine XS.istoreN X96.here hx rfl (hb hby d11_64) rfl (l' := #[rv a0, rv a1, rv a2, iv (1 : Int32), iv (1 : Int32)]) rfl ?_
      exact kg)
     have hj110 : (uc (uc u b0 w0) b1 w1) = ((uc u b0 w0) - (1 : Int32)) := by simp only [dc, uc, tk, if_neg hc67, if_pos hc75, if_pos hc94]
     have hj111 : (dc b1 w1) = (w1 - (1 : Int32)) := by simp only [dc, uc, tk, if_neg hc67, if_pos hc75, if_pos hc94]
     have hj112 : (tk (tk (0 : Int32) b0 w0) b1 w1) = (1 : Int32) := by simp only [dc, uc, tk, if_neg hc67, if_pos hc75, if_pos hc94]
     exact ⟨_, _, _, X96, e96, N96, K96, O96, E96_97, F96_98, F96_99, (by rw [hj110]; exact F96_100), (by rw [hj111]; exact V96_101), V96_102, E96_103, F96_104, F96_105, F96_106, X96_107, E96_108, (by rw [hj112]; exact pre109)⟩
    ·
     have pre113 : ∀ tg, AT p e below T91 m 65 #[rv a0, rv a1, rv a2, iv (1 : Int32), iv (1 : Int32)] [] tg → Steps p.tables e below S0 tg := fun tg kg => pre93 tg (by
      refine XS.ifYes X91.here hx rfl (pc0 := 50) (pc' := 63) rfl (hb hby d11_50) rfl (XT.i0_ne_t hc94) (by decide) (by decide) ?_
      refine XS.iconst X91.here hx rfl (hb hby d11_63) ?_
      refine XS.istoreN X91.here hx rfl (hb hby d11_64) rfl (l' := #[rv a0, rv a1, rv a2, iv (1 : Int32), iv (1 : Int32)]) rfl ?_
      exact kg)
     have hj114 : (uc (uc u b0 w0) b1 w1) = (uc u b0 w0) := by simp only [dc, uc, tk, if_neg hc67, if_pos hc75, if_neg hc94]
     have hj115 : (dc b1 w1) = (w1 - (1 : Int32)) := by simp only [dc, uc, tk, if_neg hc67, if_pos hc75, if_neg hc94]
     have hj116 : (tk (tk (0 : Int32) b0 w0) b1 w1) = (1 : Int32) := by simp only [dc, uc, tk, if_neg hc67, if_pos hc75, if_neg hc94]
     exact ⟨_, _, _, X91, e91, N78, K78, O78, E78_80, F78_81, F78_82, (by rw [hj114]; exact F78_83), (by rw [hj115]; exact V78_79), V78_84, E78_85, F78_86, F78_87, F78_88, X78_89, E78_90, (by rw [hj116]; exact pre113)⟩
   ·
    have pre117 : ∀ tg, AT p e below T72 m 65 #[rv a0, rv a1, rv a2, iv (tk (0 : Int32) b0 w0), iv (1 : Int32)] [] tg → Steps p.tables e below S0 tg := fun tg kg => pre74 tg (by
     refine XS.ifYes X72.here hx rfl (pc0 := 29) (pc' := 65) rfl (hb hby d11_29) rfl (XT.i0_le_t hc75) (by decide) (by decide) ?_
     exact kg)
    have hj118 : (uc (uc u b0 w0) b1 w1) = (uc u b0 w0) := by simp only [dc, uc, tk, if_neg hc67, if_neg hc75]
    have hj119 : (dc b1 w1) = w1 := by simp only [dc, uc, tk, if_neg hc67, if_neg hc75]
    have hj120 : (tk (tk (0 : Int32) b0 w0) b1 w1) = (tk (0 : Int32) b0 w0) := by simp only [dc, uc, tk, if_neg hc67, if_neg hc75]
    exact ⟨_, _, _, X72, e72, N4, K4, O4, J4_0, J4_1, J4_2, (by rw [hj118]; exact J4_3), (by rw [hj119]; exact J4_4), J4_5, J4_6, J4_7, J4_8, J4_9, J4_10, J4_11, (by rw [hj120]; exact pre117)⟩
 obtain ⟨T121, X121, e121, st121⟩ := getF X64 hx hZ hown (host := "") (Or.inl (ow hw 46 rfl)) Via.refl e64 J64_1 (g := (mkF m 8 #[rv a0, rv a1, rv a2, iv (tk (tk (0 : Int32) b0 w0) b1 w1), iv (2 : Int32)] [(.ref a0), (.int (2 : Int32))])) rfl rfl (hb hby d11_8)
 obtain ⟨cl122, Ar122, q122, S122, N122, H122, G122⟩ := id J64_4
 have pre123 : ∀ tg, AT p e below T121 m 72 #[rv a0, rv a1, rv a2, iv (tk (tk (0 : Int32) b0 w0) b1 w1), iv (2 : Int32)] [(.int (tk (tk (0 : Int32) b0 w0) b1 w1))] tg → Steps p.tables e below S0 tg := fun tg kg => pre64 tg (by
  refine XS.iinc X64.here hx rfl (hb hby d11_65) rfl (l' := #[rv a0, rv a1, rv a2, iv (tk (tk (0 : Int32) b0 w0) b1 w1), iv (2 : Int32)]) rfl ?_
  refine XS.goto X64.here hx rfl (pc0 := 68) (pc' := 5) rfl (hb hby d11_68) (by decide) (by decide) ?_
  refine XS.iload X64.here hx rfl (hb hby d11_5) rfl ?_
  refine XS.aloadN X64.here hx rfl (hb hby d11_7) rfl rfl ?_
  refine st121 _ ?_
  refine X121.arraylength hx (by rw [e121]; exact Ar122.1) (State.isArrayOf_alike hZ.alike Ar122.2.1) (g := (mkF m 11 #[rv a0, rv a1, rv a2, iv (tk (tk (0 : Int32) b0 w0) b1 w1), iv (2 : Int32)] [(.ref wa), (.int (2 : Int32))])) rfl rfl (hb hby d11_11) _ ?_
  rw [len_of S122 N122]
  show AT p e below T121 m 12 #[rv a0, rv a1, rv a2, iv (tk (tk (0 : Int32) b0 w0) b1 w1), iv (2 : Int32)] [(.int (2 : Int32)), (.int (2 : Int32))] _
  refine XS.icmpYes X121.here hx rfl (pc0 := 12) (pc' := 71) rfl (hb hby d11_12) rfl (XT.ii_ge_t ((by decide) : ¬ ((2 : Int32) < (2 : Int32)))) (by decide) (by decide) ?_
  refine XS.iloadN X121.here hx rfl (hb hby d11_71) rfl ?_
  exact kg)
 rcases Decidable.em ((tk (tk (0 : Int32) b0 w0) b1 w1) = (0 : Int32)) with hc124 | hc124
 ·
  obtain ⟨fs, hr, hrun, hended, hW, hsame⟩ := X121.leave (v := none) (fun _ => rfl)
  subst hS0
  refine ⟨_, _, pre123 _ ?_, hrun, hended, _, _, rfl, ?_, ⟨_, rfl⟩, hW, hsame.mono (by decide) (by decide)⟩
  ·
   refine XS.ifYes X121.here hx rfl (pc0 := 72) (pc' := 86) rfl (hb hby d11_72) rfl (XT.i0_eq_t hc124) (by decide) (by decide) ?_
   exact X121.returnOut hx Bd.returns (hb hby d11_86) hr
  ·
   show Q11_2 Z a0 a1 a2 w_EE0 w_DEE1 k_EE0 k_DEE1 wa kw kz b0 b1 b2 w0 w1 u li mc sz es ke lo bn h0 n0 _ T121.heap _
   rw [e121]
   exact ⟨(dc b0 w0), (dc b1 w1), (uc (uc u b0 w0) b1 w1), mc, sz, es, ke, [], rfl, N64, K64, J64_0, J64_1, J64_2, J64_3, J64_4, rfl, rfl, rfl, J64_6, J64_7, J64_8, J64_9, (J64_10).up, all0, (Or.inl rfl)⟩
 ·
  have pre125 : ∀ tg, AT p e below T121 m 75 #[rv a0, rv a1, rv a2, iv (tk (tk (0 : Int32) b0 w0) b1 w1), iv (2 : Int32)] [] tg → Steps p.tables e below S0 tg := fun tg kg => pre123 tg (by
   refine XS.ifNo X121.here hx rfl (hb hby d11_72) rfl (XT.i0_eq_f hc124) ?_
   exact kg)
  rcases J64_10 with ⟨hd1, hd2⟩ | ⟨hg, hsr, hov, vs, hV⟩
  ·
   have Fd126 : Fld Z h64 li "java/util/ArrayList" "elementData" "[Ljava/lang/Object;" (.ref w_DEE1) := by have q := J64_9; rw [hd1] at q; exact q
   have Fd127 : Fld Z h64 li "java/util/ArrayList" "size" "I" (.int (0 : Int32)) := by have q := J64_8; rw [hd2] at q; exact q
   obtain ⟨T128, X128, e128, st128⟩ := getF X121 hx hZ hown (host := "") (Or.inl (ow hw 43 rfl)) Via.refl e121 J64_2 (g := (mkF m 76 #[rv a0, rv a1, rv a2, iv (tk (tk (0 : Int32) b0 w0) b1 w1), iv (2 : Int32)] [(.ref a0)])) rfl rfl (hb hby d11_76)
   obtain ⟨cq129, kq129, q129a, q129b, q129c⟩ := isOf hZ e128 J64_6
   obtain ⟨_, _, ⟨T129, L129, k129, n129⟩, -, X129, ⟨Lc129, hQ129, l129, y129, z129⟩, st129⟩ := X128.interfaceBack hx (xi := (⟨"java/util/List", "add", "(Ljava/lang/Object;)Z"⟩ : MethodName)) (y := y13) hown (mvT hZ (ow hw 70 rfl)) (mvT hZ (ow hw 71 rfl)) (mvT hZ (ow hw 72 rfl)) (mvT hZ (ow hw 73 rfl)) (mvT hZ (ow hw 74 rfl)) (mvT hZ (ow hw 75 rfl)) (mvT hZ (ow hw 76 rfl)) (mvT hZ (ow hw 77 rfl)) (by decide) (backOf (W := 0) (rm13_e l Z ar hw [] li a1 w_EE0 w_DEE1 k_EE0 k_DEE1 mc h64 n0 O64 HW J64_6 J64_11 J64_7 Fd126 Fd127 pf16 pf23) hZ (ow hw 78 rfl) (ow hw 21 rfl) (by decide) (by decide)) q129a q129b q129c (g := (mkF m 80 #[rv a0, rv a1, rv a2, iv (tk (tk (0 : Int32) b0 w0) b1 w1), iv (2 : Int32)] [(.ref a1), (.ref li)])) rfl (by rw [hml]; rfl) (Steps.refl _) (argsL := [(.ref a1)]) (rest := []) (lenOf pd_7 rfl) rfl (by show 2 * 0 + _ ≤ _; exact Nat.le_of_eq rfl) (hb hby d11_80) (fun _ _ => ⟨rfl, e128, (by decide : 0 + 1 ≤ _), (by decide : 0 + 10 ≤ _)⟩)
   dsimp only [Pt.U, Pt.locs, Pt.cells, Pt.slots] at X129 l129 y129 z129 st129 hQ129
   subst l129 y129 z129
   obtain ⟨es_129, ke_129, rfl, N129q, Kq129, u129_0, u129_1, u129_2, u129_3, u129_4, u129_5, u129_6⟩ := hQ129
   have N129 := Fr.app N64 N129q
   have E129_130 := J64_0.keep Kq129
   have F129_131 := J64_1.keep Kq129 (ninS pf18 nin0)
   have F129_132 := J64_2.keep Kq129 (ninS pf18 nin0)
   have F129_133 := J64_3.keep Kq129 (ninS pf18 nin0)
   have V129_134 := J64_4.keep Kq129 (ninS pf19 nin0)
   have V129_135 := J64_5.keep Kq129 (ninS pf20 nin0)
   have E129_136 := J64_6.keep Kq129
   have E129_137 := J64_11.keep Kq129
   have K129 := K64.trans Kq129 (allS (Or.inl (List.mem_of_getElem? (i := 2) rfl)) all0)
   have O129 := O64.keep Kq129 (allS pf16 all0)
   have sz138 : h0.size ≤ es_129 := Nat.le_trans K64.1 u129_6
   have gn138 : n0 ≤ es_129 := Nat.le_trans (Nat.le_trans (Nat.le_of_eq O64.1.symm) O64.2.1) u129_6
   have ne139 : a0 ≠ es_129 := Nat.ne_of_lt (Nat.lt_of_lt_of_le (J64_0).lt u129_6)
   have ne140 : wa ≠ es_129 := Nat.ne_of_lt (Nat.lt_of_lt_of_le (J64_4).lt u129_6)
   have ne141 : a2 ≠ es_129 := Nat.ne_of_lt (Nat.lt_of_lt_of_le (J64_5).lt u129_6)
   have ne142 : li ≠ es_129 := Nat.ne_of_lt (Nat.lt_of_lt_of_le (J64_6).lt u129_6)
   have ne143 : a1 ≠ es_129 := Nat.ne_of_lt (Nat.lt_of_lt_of_le (J64_11).lt u129_6)
   obtain ⟨fs, hr, hrun, hended, hW, hsame⟩ := X129.leave (v := none) (fun _ => rfl)
   subst hS0
   refine ⟨_, _, pre125 _ ?_, hrun, hended, _, _, rfl, ?_, ⟨_, rfl⟩, hW, hsame.mono (by decide) (by decide)⟩
   ·
    refine XS.aloadN X121.here hx rfl (hb hby d11_75) rfl rfl ?_
    refine st128 _ ?_
    refine XS.aloadN X128.here hx rfl (hb hby d11_79) rfl rfl ?_
    refine st129.trans ?_
    refine XS.pop X129.here hx rfl (hb hby d11_85) rfl rfl ?_
    exact X129.returnOut hx Bd.returns (hb hby d11_86) hr
   ·
    show Q11_2 Z a0 a1 a2 w_EE0 w_DEE1 k_EE0 k_DEE1 wa kw kz b0 b1 b2 w0 w1 u li mc sz es ke lo bn h0 n0 _ T129.heap _
    exact ⟨(dc b0 w0), (dc b1 w1), (uc (uc u b0 w0) b1 w1), (mc + (1 : Int32)), (1 : Int32), es_129, ke_129, [], rfl, N129, K129, E129_130, F129_131, F129_132, F129_133, V129_134, rfl, rfl, rfl, E129_136, u129_1, u129_2, u129_3, (Or.inr ⟨Nat.le_trans hlo2 sz138, ⟨by decide, by have k1 : ((1 : Int32)).toInt = 1 := rfl; omega⟩, u129_5, _, u129_4⟩), all0, (Or.inr sz138)⟩
  ·
   have hsz : 1 ≤ (sz).toInt ∧ (sz).toInt ≤ 3 := ⟨hsr.1, by omega⟩
   have hge : n0 ≤ es := Nat.le_trans hlo1 hg
   have K144 : Keep h0 h64 [a0, wa, li, es] := own_kmono K64 fun x q => List.mem_append_left [es] q
   obtain ⟨T145, X145, e145, st145⟩ := getF X121 hx hZ hown (host := "") (Or.inl (ow hw 43 rfl)) Via.refl e121 J64_2 (g := (mkF m 76 #[rv a0, rv a1, rv a2, iv (tk (tk (0 : Int32) b0 w0) b1 w1), iv (2 : Int32)] [(.ref a0)])) rfl rfl (hb hby d11_76)
   obtain ⟨cq146, kq146, q146a, q146b, q146c⟩ := isOf hZ e145 J64_6
   obtain ⟨_, _, ⟨T146, L146, k146, n146⟩, -, X146, ⟨Lc146, hQ146, l146, y146, z146⟩, st146⟩ := X145.interfaceBack hx (xi := (⟨"java/util/List", "add", "(Ljava/lang/Object;)Z"⟩ : MethodName)) (y := y13) hown (mvT hZ (ow hw 70 rfl)) (mvT hZ (ow hw 71 rfl)) (mvT hZ (ow hw 72 rfl)) (mvT hZ (ow hw 73 rfl)) (mvT hZ (ow hw 74 rfl)) (mvT hZ (ow hw 75 rfl)) (mvT hZ (ow hw 76 rfl)) (mvT hZ (ow hw 77 rfl)) (by decide) (backOf (W := 0) (rm13_g l Z ar hw [] li a1 mc sz es ke vs h64 n0 O64 J64_6 J64_11 J64_7 J64_8 pf16 hge pf23 pf27 (Ne.symm pf28) J64_9 hV hov hsz) hZ (ow hw 78 rfl) (ow hw 21 rfl) (by decide) (by decide)) q146a q146b q146c (g := (mkF m 80 #[rv a0, rv a1, rv a2, iv (tk (tk (0 : Int32) b0 w0) b1 w1), iv (2 : Int32)] [(.ref a1), (.ref li)])) rfl (by rw [hml]; rfl) (Steps.refl _) (argsL := [(.ref a1)]) (rest := []) (lenOf pd_7 rfl) rfl (by show 2 * 0 + _ ≤ _; exact Nat.le_of_eq rfl) (hb hby d11_80) (fun _ _ => ⟨rfl, e145, (by decide : 0 + 0 ≤ _), (by decide : 0 + 0 ≤ _)⟩)
   dsimp only [Pt.U, Pt.locs, Pt.cells, Pt.slots] at X146 l146 y146 z146 st146 hQ146
   subst l146 y146 z146
   obtain ⟨vz_146, rfl, N146q, Kq146, u146_0, u146_1, u146_2, u146_3, u146_4⟩ := hQ146
   have N146 := Fr.app N64 N146q
   have E146_147 := J64_0.keep Kq146
   have F146_148 := J64_1.keep Kq146 (ninS pf18 (ninS pf24 nin0))
   have F146_149 := J64_2.keep Kq146 (ninS pf18 (ninS pf24 nin0))
   have F146_150 := J64_3.keep Kq146 (ninS pf18 (ninS pf24 nin0))
   have V146_151 := J64_4.keep Kq146 (ninS pf19 (ninS pf25 nin0))
   have V146_152 := J64_5.keep Kq146 (ninS pf20 (ninS pf26 nin0))
   have E146_153 := J64_6.keep Kq146
   have E146_154 := J64_11.keep Kq146
   have K146 := K144.trans Kq146 (allS (Or.inl (List.mem_of_getElem? (i := 2) rfl)) (allS (Or.inl (List.mem_of_getElem? (i := 3) rfl)) all0))
   have O146 := O64.keep Kq146 (allS pf16 (allS hge all0))
   obtain ⟨fs, hr, hrun, hended, hW, hsame⟩ := X146.leave (v := none) (fun _ => rfl)
   subst hS0
   refine ⟨_, _, pre125 _ ?_, hrun, hended, _, _, rfl, ?_, ⟨_, rfl⟩, hW, hsame.mono (by decide) (by decide)⟩
   ·
    refine XS.aloadN X121.here hx rfl (hb hby d11_75) rfl rfl ?_
    refine st145 _ ?_
    refine XS.aloadN X145.here hx rfl (hb hby d11_79) rfl rfl ?_
    refine st146.trans ?_
    refine XS.pop X146.here hx rfl (hb hby d11_85) rfl rfl ?_
    exact X146.returnOut hx Bd.returns (hb hby d11_86) hr
   ·
    show Q11_2 Z a0 a1 a2 w_EE0 w_DEE1 k_EE0 k_DEE1 wa kw kz b0 b1 b2 w0 w1 u li mc sz es ke lo bn h0 n0 _ T146.heap _
    exact ⟨(dc b0 w0), (dc b1 w1), (uc (uc u b0 w0) b1 w1), (mc + (1 : Int32)), (sz + (1 : Int32)), es, ke, [es], rfl, N146, K146, E146_147, F146_148, F146_149, F146_150, V146_151, rfl, rfl, rfl, E146_153, u146_1, u146_2, u146_3, (Or.inr ⟨hg, (by have h1 := c_iadd sz (1 : Int32); have k1 : ((1 : Int32)).toInt = 1 := rfl; have r1 := rng32 (sz + (1 : Int32)); omega), hov, _, u146_4⟩), (allS ⟨rfl, hg⟩ all0), (Or.inl rfl)⟩

theorem ef_11_3 (m : MethodId) (a0 : Addr) (a1 : Addr) (a2 : Addr) : entryFrame m #[(.ref a0), (.ref a1), (.ref a2)] 5 = mkF m 0 #[rv a0, rv a1, rv a2, un, un] [] := by first | (simp [entryFrame, mkF, argsToLocals, Value.category]; done) | rfl
def Q11_3 (Z : State) (a0 : Addr) (a1 : Addr) (a2 : Addr) (w_EE0 : Addr) (w_DEE1 : Addr) (k_EE0 : ClassId) (k_DEE1 : ClassId) (wa : Addr) (kw : ClassId) (kz : ClassId) (b0 : Int32) (b1 : Int32) (b2 : Int32) (w0 : Int32) (w1 : Int32) (w2 : Int32) (u : Int32) (li : Addr) (mc : Int32) (sz : Int32) (es : Addr) (ke : ClassId) (lo : Nat) (bn : Int) (h0 : Heap) (n0 : Nat) (v : Option Value) (h : Heap) (L : List Loc) : Prop := ∃ (x0 : Int32) (x1 : Int32) (x2 : Int32) (xu : Int32) (m2 : Int32) (s2 : Int32) (e2 : Addr) (k2 : ClassId) (ys : List Addr), v = none ∧ Fr n0 L ∧ Keep h0 h (a0 :: wa :: li :: ys) ∧ Exa Z h a0 "com/example/filters_under_siege/filtersundersiege/Cover" ∧ Fld Z h a0 "com/example/filters_under_siege/filtersundersiege/Cover" "wanted" "[I" (.ref wa) ∧ Fld Z h a0 "com/example/filters_under_siege/filtersundersiege/Cover" "elements" "Ljava/util/List;" (.ref li) ∧ Fld Z h a0 "com/example/filters_under_siege/filtersundersiege/Cover" "uncovered" "I" (.int xu) ∧ Arv Z h wa kw .int (3 : Int32) [(.int x0), (.int x1), (.int x2)] (.int (0 : Int32)) ∧ (x0 = dc b0 w0) ∧ (x1 = dc b1 w1) ∧ (x2 = dc b2 w2) ∧ (xu = (uc (uc (uc u b0 w0) b1 w1) b2 w2)) ∧ Exa Z h li "java/util/ArrayList" ∧ Fld Z h li "java/util/AbstractList" "modCount" "I" (.int m2) ∧ Fld Z h li "java/util/ArrayList" "size" "I" (.int s2) ∧ Fld Z h li "java/util/ArrayList" "elementData" "[Ljava/lang/Object;" (.ref e2) ∧ LD Z h lo (bn + 1) w_DEE1 e2 k2 s2 ∧ (∀ y ∈ ys, y = es ∧ lo ≤ es) ∧ (e2 = es ∨ h0.size ≤ e2)
set_option maxRecDepth 65536 in
set_option maxHeartbeats 40000000 in
theorem rm11_3 (l : Launch) (Z : State) (ar : Array Value) (hw : ∀ d ∈ tables_1, d.before ar Z = true) (ws : List Jvm.Cond) (a0 : Addr) (a1 : Addr) (a2 : Addr) (w_EE0 : Addr) (w_DEE1 : Addr) (k_EE0 : ClassId) (k_DEE1 : ClassId) (wa : Addr) (kw : ClassId) (kz : ClassId) (b0 : Int32) (b1 : Int32) (b2 : Int32) (w0 : Int32) (w1 : Int32) (w2 : Int32) (u : Int32) (li : Addr) (mc : Int32) (sz : Int32) (es : Addr) (ke : ClassId) (lo : Nat) (bn : Int) (h0 : Heap) (n0 : Nat) (O0 : Old Z n0 h0) (HW : Wd Z w_EE0 w_DEE1 k_EE0 k_DEE1) (pf0 : Exa Z h0 a0 "com/example/filters_under_siege/filtersundersiege/Cover") (pf1 : Fld Z h0 a0 "com/example/filters_under_siege/filtersundersiege/Cover" "wanted" "[I" (.ref wa)) (pf2 : Fld Z h0 a0 "com/example/filters_under_siege/filtersundersiege/Cover" "elements" "Ljava/util/List;" (.ref li)) (pf3 : Fld Z h0 a0 "com/example/filters_under_siege/filtersundersiege/Cover" "uncovered" "I" (.int u)) (pf4 : Arv Z h0 wa kw .int (3 : Int32) [(.int w0), (.int w1), (.int w2)] (.int (0 : Int32))) (pf5 : Arv Z h0 a2 kz .boolean (3 : Int32) [(.int b0), (.int b1), (.int b2)] (.int (0 : Int32))) (pf6 : n0 ≤ a0) (pf7 : n0 ≤ wa) (pf8 : a0 ≠ wa) (pf9 : a0 ≠ a2) (pf10 : wa ≠ a2) (pf11 : Exa Z h0 li "java/util/ArrayList") (pf12 : Fld Z h0 li "java/util/AbstractList" "modCount" "I" (.int mc)) (pf13 : Fld Z h0 li "java/util/ArrayList" "size" "I" (.int sz)) (pf14 : Fld Z h0 li "java/util/ArrayList" "elementData" "[Ljava/lang/Object;" (.ref es)) (pf15 : LD Z h0 lo bn w_DEE1 es ke sz) (pf16 : n0 ≤ li) (pf17 : Exa Z h0 a1 "[B") (pf18 : a0 ≠ li) (pf19 : wa ≠ li) (pf20 : a2 ≠ li) (pf21 : a0 ≠ a1) (pf22 : wa ≠ a1) (pf23 : li ≠ a1) (pf24 : a0 ≠ es) (pf25 : wa ≠ es) (pf26 : a2 ≠ es) (pf27 : li ≠ es) (pf28 : a1 ≠ es) (hlo1 : n0 ≤ lo) (hlo2 : lo ≤ h0.size) (hbn : 0 ≤ bn ∧ bn ≤ 3) :
    MetFree l y11 (head1 (Jvm.Cond.code y11 prog_13_method_3_code 5 none :: ws) ({ frames := 5, cells := 1, slots := 10, locals := 69 } : Room)) (fun a U => a = #[(.ref a0), (.ref a1), (.ref a2)] ∧ Z.Warmed39 U.vm ∧ U.heap = h0) (fun _ _ _ _ _ => True) (fun _ U o U' => ∃ v L, o = .returned v ∧ Q11_3 Z a0 a1 a2 w_EE0 w_DEE1 k_EE0 k_DEE1 wa kw kz b0 b1 b2 w0 w1 w2 u li mc sz es ke lo bn h0 n0 v U'.heap L ∧ FrameEnd U o U' L ({ frames := 5, cells := 1, slots := 10, locals := 69 } : Room).cells ({ frames := 5, cells := 1, slots := 10, locals := 69 } : Room).slots) := by
 refine MetFree.of_bodySF (plainFor_of_name pn_5) hisR ?_
 intro p e s m args below meth c s₁ Bd hml0 hP hK
 obtain ⟨rfl, hZ, hh⟩ := hP
 have hx := Bd.exec
 have hby := Bd.bytes
 have hml : c.maxLocals = 5 := hml0
 have hown : s.vm.findClass "com/example/filters_under_siege/filtersundersiege/Cover" = some m.cls := findClass_of_methodNamed Bd.named
 have hnm := (name_of_methodNamed Bd.named Bd.method).1
 have X0 : Stand p l e ({ frames := 5, cells := 1, slots := 10, locals := 69 } : Room) s m #[(.ref a0), (.ref a1), (.ref a2)] below meth c s₁ [] 0 0 := Stand.of_body Bd
 have e0 : s₁.heap = h0 := by rw [← hh, Bd.state]; rfl
 have N0 := Fr.nil n0
 have Z0 : n0 ≤ h0.size := Nat.le_trans (Nat.le_of_eq O0.1.symm) O0.2.1
 obtain ⟨S0, hS0⟩ : ∃ z, z = s₁.setTop (entryFrame m #[(.ref a0), (.ref a1), (.ref a2)] 5) := ⟨_, rfl⟩
 have pre0 : ∀ tg, AT p e below s₁ m 0 #[rv a0, rv a1, rv a2, un, un] [] tg → Steps p.tables e below S0 tg := fun tg kg => by rw [hS0]; exact castTop (ef_11_3 m a0 a1 a2) kg
 obtain ⟨S_EMPTY_ELEMENTDATA, E_EE0, S_DEFAULTCAPACITY_EMPTY_ELEMENTDATA, E_DEE1, V_EE0, V_DEE1⟩ := id HW
 obtain ⟨T1, X1, e1, st1⟩ := getF X0 hx hZ hown (host := "") (Or.inl (ow hw 46 rfl)) Via.refl e0 pf1 (g := (mkF m 8 #[rv a0, rv a1, rv a2, iv (0 : Int32), iv (0 : Int32)] [(.ref a0), (.int (0 : Int32))])) rfl rfl (hb hby d11_8)
 obtain ⟨cl2, Ar2, q2, S2, N2, H2, G2⟩ := id pf4
 have pre3 : ∀ tg, AT p e below T1 m 15 #[rv a0, rv a1, rv a2, iv (0 : Int32), iv (0 : Int32)] [] tg → Steps p.tables e below S0 tg := fun tg kg => pre0 tg (by
  refine XS.iconst X0.here hx rfl (hb hby d11_0) ?_
  refine XS.istoreN X0.here hx rfl (hb hby d11_1) rfl (l' := #[rv a0, rv a1, rv a2, iv (0 : Int32), un]) rfl ?_
  refine XS.iconst X0.here hx rfl (hb hby d11_2) ?_
  refine XS.istore X0.here hx rfl (hb hby d11_3) rfl (l' := #[rv a0, rv a1, rv a2, iv (0 : Int32), iv (0 : Int32)]) rfl ?_
  refine XS.iload X0.here hx rfl (hb hby d11_5) rfl ?_
  refine XS.aloadN X0.here hx rfl (hb hby d11_7) rfl rfl ?_
  refine st1 _ ?_
  refine X1.arraylength hx (by rw [e1]; exact Ar2.1) (State.isArrayOf_alike hZ.alike Ar2.2.1) (g := (mkF m 11 #[rv a0, rv a1, rv a2, iv (0 : Int32), iv (0 : Int32)] [(.ref wa), (.int (0 : Int32))])) rfl rfl (hb hby d11_11) _ ?_
  rw [len_of S2 N2]
  show AT p e below T1 m 12 #[rv a0, rv a1, rv a2, iv (0 : Int32), iv (0 : Int32)] [(.int (3 : Int32)), (.int (0 : Int32))] _
  refine XS.icmpNo X1.here hx rfl (hb hby d11_12) rfl (XT.ii_ge_f ((by decide) : (0 : Int32) < (3 : Int32))) ?_
  exact kg)
 obtain ⟨T4, h4, L4, X4, e4, N4, K4, O4, J4_0, J4_1, J4_2, J4_3, J4_4, J4_5, J4_6, J4_7, J4_8, J4_9, J4_10, J4_11, pre4⟩ : ∃ (T4 : State) (h4 : Heap) (L4 : List Loc), Stand p l e ({ frames := 5, cells := 1, slots := 10, locals := 69 } : Room) s m #[(.ref a0), (.ref a1), (.ref a2)] below meth c T4 L4 0 0 ∧ T4.heap = h4 ∧ Fr n0 L4 ∧ Keep h0 h4 [a0, wa, li] ∧ Old Z n0 h4 ∧ Exa Z h4 a0 "com/example/filters_under_siege/filtersundersiege/Cover" ∧ Fld Z h4 a0 "com/example/filters_under_siege/filtersundersiege/Cover" "wanted" "[I" (.ref wa) ∧ Fld Z h4 a0 "com/example/filters_under_siege/filtersundersiege/Cover" "elements" "Ljava/util/List;" (.ref li) ∧ Fld Z h4 a0 "com/example/filters_under_siege/filtersundersiege/Cover" "uncovered" "I" (.int (uc u b0 w0)) ∧ Arv Z h4 wa kw .int (3 : Int32) [(.int (dc b0 w0)), (.int w1), (.int w2)] (.int (0 : Int32)) ∧ Arv Z h4 a2 kz .boolean (3 : Int32) [(.int b0), (.int b1), (.int b2)] (.int (0 : Int32)) ∧ Exa Z h4 li "java/util/ArrayList" ∧ Fld Z h4 li "java/util/AbstractList" "modCount" "I" (.int mc) ∧ Fld Z h4 li "java/util/ArrayList" "size" "I" (.int sz) ∧ Fld Z h4 li "java/util/ArrayList" "elementData" "[Ljava/lang/Object;" (.ref es) ∧ LD Z h4 lo bn w_DEE1 es ke sz ∧ Exa Z h4 a1 "[B" ∧ (∀ tg, AT p e below T4 m 65 #[rv a0, rv a1, rv a2, iv (tk (0 : Int32) b0 w0), iv (0 : Int32)] [] tg → Steps p.tables e below S0 tg) := by
  obtain ⟨cl5, Ar5, q5, S5, N5, H5, G5⟩ := id pf5
  have hin5 := own_in (0 : Int32) S5 ⟨by decide, by decide⟩
  have hat5 : cl5.slots[((0 : Int32)).toNatClampNeg]? = some (.int b0) := Has.at H5 hin5 rfl
  have pre6 : ∀ tg, AT p e below T1 m 19 #[rv a0, rv a1, rv a2, iv (0 : Int32), iv (0 : Int32)] [(.int b0)] tg → Steps p.tables e below S0 tg := fun tg kg => pre3 tg (by
   refine XS.aloadN X1.here hx rfl (hb hby d11_15) rfl rfl ?_
   refine XS.iload X1.here hx rfl (hb hby d11_16) rfl ?_
   refine X1.baloadBooleans hx (j := (0 : Int32)) (v := (.int b0)) (by rw [e1]; exact Ar5.1) (State.isArrayOf_alike hZ.alike Ar5.2.1) Ar5.2.2 hin5 hat5 (g := (mkF m 18 #[rv a0, rv a1, rv a2, iv (0 : Int32), iv (0 : Int32)] [(.int (0 : Int32)), (.ref a2)])) rfl rfl (hb hby d11_18) _ ?_
   exact kg)
  rcases Decidable.em (b0 = (0 : Int32)) with hc7 | hc7
  ·
   have pre8 : ∀ tg, AT p e below T1 m 65 #[rv a0, rv a1, rv a2, iv (0 : Int32), iv (0 : Int32)] [] tg → Steps p.tables e below S0 tg := fun tg kg => pre6 tg (by
    refine XS.ifYes X1.here hx rfl (pc0 := 19) (pc' := 65) rfl (hb hby d11_19) rfl (XT.i0_eq_t hc7) (by decide) (by decide) ?_
    exact kg)
   have hj9 : (uc u b0 w0) = u := by simp only [dc, uc, tk, if_pos hc7]
   have hj10 : (dc b0 w0) = w0 := by simp only [dc, uc, tk, if_pos hc7]
   have hj11 : (tk (0 : Int32) b0 w0) = (0 : Int32) := by simp only [dc, uc, tk, if_pos hc7]
   exact ⟨_, _, _, X1, e1, N0, (Keep.refl h0 [a0, wa, li]), O0, pf0, pf1, pf2, (by rw [hj9]; exact pf3), (by rw [hj10]; exact pf4), pf5, pf11, pf12, pf13, pf14, pf15, pf17, (by rw [hj11]; exact pre8)⟩
  ·
   obtain ⟨T12, X12, e12, st12⟩ := getF X1 hx hZ hown (host := "") (Or.inl (ow hw 46 rfl)) Via.refl e1 pf1 (g := (mkF m 23 #[rv a0, rv a1, rv a2, iv (0 : Int32), iv (0 : Int32)] [(.ref a0)])) rfl rfl (hb hby d11_23)
   obtain ⟨cl13, Ar13, q13, S13, N13, H13, G13⟩ := id pf4
   have hin13 := own_in (0 : Int32) S13 ⟨by decide, by decide⟩
   have hat13 : cl13.slots[((0 : Int32)).toNatClampNeg]? = some (.int w0) := Has.at H13 hin13 rfl
   have pre14 : ∀ tg, AT p e below T12 m 29 #[rv a0, rv a1, rv a2, iv (0 : Int32), iv (0 : Int32)] [(.int w0)] tg → Steps p.tables e below S0 tg := fun tg kg => pre6 tg (by
    refine XS.ifNo X1.here hx rfl (hb hby d11_19) rfl (XT.i0_eq_f hc7) ?_
    refine XS.aloadN X1.here hx rfl (hb hby d11_22) rfl rfl ?_
    refine st12 _ ?_
    refine XS.iload X12.here hx rfl (hb hby d11_26) rfl ?_
    refine X12.iaload hx (j := (0 : Int32)) (v := (.int w0)) (by rw [e12]; exact Ar13.1) (State.isArrayOf_alike hZ.alike Ar13.2.1) Ar13.2.2 hin13 hat13 (g := (mkF m 28 #[rv a0, rv a1, rv a2, iv (0 : Int32), iv (0 : Int32)] [(.int (0 : Int32)), (.ref wa)])) rfl rfl (hb hby d11_28) _ ?_
    exact kg)
   rcases Decidable.em ((0 : Int32) < w0) with hc15 | hc15
   ·
    obtain ⟨T16, X16, e16, st16⟩ := getF X12 hx hZ hown (host := "") (Or.inl (ow hw 46 rfl)) Via.refl e12 pf1 (g := (mkF m 33 #[rv a0, rv a1, rv a2, iv (0 : Int32), iv (0 : Int32)] [(.ref a0)])) rfl rfl (hb hby d11_33)
    obtain ⟨cl17, Ar17, q17, S17, N17, H17, G17⟩ := id pf4
    have hin17 := own_in (0 : Int32) S17 ⟨by decide, by decide⟩
    have hat17 : cl17.slots[((0 : Int32)).toNatClampNeg]? = some (.int w0) := Has.at H17 hin17 rfl
    obtain ⟨cl18, Ar18, q18, S18, M18, H18, G18⟩ := id pf4
    have hin18 := own_in (0 : Int32) S18 ⟨by decide, by decide⟩
    obtain ⟨T18, h18, X18, e18, W18, st18⟩ := stI X16 hx hZ e16 Ar18 (j := (0 : Int32)) hin18 (g := (mkF m 42 #[rv a0, rv a1, rv a2, iv (0 : Int32), iv (0 : Int32)] [(.int (w0 - (1 : Int32))), (.int (0 : Int32)), (.ref wa)])) rfl rfl (hb hby d11_42)
    have V18_19 : Arv Z h18 wa kw .int (3 : Int32) [(.int (w0 - (1 : Int32))), (.int w1), (.int w2)] (.int (0 : Int32)) := Arv.set Ar18 q18 S18 M18 H18 G18 rfl W18 0 rfl (Nat.le_of_ble_eq_true rfl)
    have E18_20 := pf0.wr W18
    have F18_21 := pf1.other W18 (Or.inl pf8)
    have F18_22 := pf2.other W18 (Or.inl pf8)
    have F18_23 := pf3.other W18 (Or.inl pf8)
    have V18_24 := pf5.other W18 (Ne.symm pf10)
    have E18_25 := pf11.wr W18
    have F18_26 := pf12.other W18 (Or.inl (Ne.symm pf19))
    have F18_27 := pf13.other W18 (Or.inl (Ne.symm pf19))
    have F18_28 := pf14.other W18 (Or.inl (Ne.symm pf19))
    have X18_29 := pf15.other W18 (Ne.symm pf25)
    have E18_30 := pf17.wr W18
    have K18 := (Keep.refl h0 [a0, wa, li]).wr W18 (Or.inl (List.mem_of_getElem? (i := 1) rfl))
    have O18 := O0.wr W18 pf7
    have N18 := Fr.snoc X18 N0 pf7
    obtain ⟨T31, X31, e31, st31⟩ := getF X18 hx hZ hown (host := "") (Or.inl (ow hw 46 rfl)) Via.refl e18 F18_21 (g := (mkF m 44 #[rv a0, rv a1, rv a2, iv (0 : Int32), iv (0 : Int32)] [(.ref a0)])) rfl rfl (hb hby d11_44)
    obtain ⟨cl32, Ar32, q32, S32, N32, H32, G32⟩ := id V18_19
    have hin32 := own_in (0 : Int32) S32 ⟨by decide, by decide⟩
    have hat32 : cl32.slots[((0 : Int32)).toNatClampNeg]? = some (.int (w0 - (1 : Int32))) := Has.at H32 hin32 rfl
    have pre33 : ∀ tg, AT p e below T31 m 50 #[rv a0, rv a1, rv a2, iv (0 : Int32), iv (0 : Int32)] [(.int (w0 - (1 : Int32)))] tg → Steps p.tables e below S0 tg := fun tg kg => pre14 tg (by
     refine XS.ifNo X12.here hx rfl (hb hby d11_29) rfl (XT.i0_le_f hc15) ?_
     refine XS.aloadN X12.here hx rfl (hb hby d11_32) rfl rfl ?_
     refine st16 _ ?_
     refine XS.iload X16.here hx rfl (hb hby d11_36) rfl ?_
     jvm_step X16.here [X16.here.top, hx, (hb hby d11_38), Value.category]
     refine X16.iaload hx (j := (0 : Int32)) (v := (.int w0)) (by rw [e16]; exact Ar17.1) (State.isArrayOf_alike hZ.alike Ar17.2.1) Ar17.2.2 hin17 hat17 (g := (mkF m 39 #[rv a0, rv a1, rv a2, iv (0 : Int32), iv (0 : Int32)] [(.int (0 : Int32)), (.ref wa), (.int (0 : Int32)), (.ref wa)])) rfl rfl (hb hby d11_39) _ ?_
     show AT p e below T16 m 40 #[rv a0, rv a1, rv a2, iv (0 : Int32), iv (0 : Int32)] [(.int w0), (.int (0 : Int32)), (.ref wa)] _
     refine XS.iconst X16.here hx rfl (hb hby d11_40) ?_
     refine XS.isub X16.here hx rfl (hb hby d11_41) rfl ?_
     refine st18 _ ?_
     refine XS.aloadN X18.here hx rfl (hb hby d11_43) rfl rfl ?_
     refine st31 _ ?_
     refine XS.iload X31.here hx rfl (hb hby d11_47) rfl ?_
     refine X31.iaload hx (j := (0 : Int32)) (v := (.int (w0 - (1 : Int32)))) (by rw [e31]; exact Ar32.1) (State.isArrayOf_alike hZ.alike Ar32.2.1) Ar32.2.2 hin32 hat32 (g := (mkF m 49 #[rv a0, rv a1, rv a2, iv (0 : Int32), iv (0 : Int32)] [(.int (0 : Int32)), (.ref wa)])) rfl rfl (hb hby d11_49) _ ?_
     exact kg)
    rcases Decidable.em ((w0 - (1 : Int32)) = (0 : Int32)) with hc34 | hc34
    ·
     obtain ⟨T35, X35, e35, st35⟩ := getF X31 hx hZ hown (host := "") (Or.inl (ow hw 52 rfl)) Via.refl e31 F18_23 (g := (mkF m 55 #[rv a0, rv a1, rv a2, iv (0 : Int32), iv (0 : Int32)] [(.ref a0), (.ref a0)])) rfl rfl (hb hby d11_55)
     obtain ⟨T36, h36, X36, e36, W36, st36⟩ := putF X35 hx hZ hown (host := "") (Or.inl (ow hw 52 rfl)) Via.refl e35 F18_23 E18_20 (Or.inl (ow hw 53 rfl)) (ow hw 11 rfl) (ty := .int) (by decide) rfl rfl (g := (mkF m 60 #[rv a0, rv a1, rv a2, iv (0 : Int32), iv (0 : Int32)] [(.int (u - (1 : Int32))), (.ref a0)])) rfl rfl (hb hby d11_60)
     have E36_37 := E18_20.wr W36
     have F36_38 := F18_21.other W36 (Or.inr (slot_ne (Or.inr (ow hw 47 rfl)) (Or.inl (ow hw 53 rfl)) (by decide) (t := (.array .int)) (t' := .int) (by decide) (by decide)))
     have F36_39 := F18_22.other W36 (Or.inr (slot_ne (Or.inr (ow hw 44 rfl)) (Or.inl (ow hw 53 rfl)) (by decide) (t := (.object "java/util/List")) (t' := .int) (by decide) (by decide)))
     have F36_40 : Fld Z h36 a0 "com/example/filters_under_siege/filtersundersiege/Cover" "uncovered" "I" (.int (u - (1 : Int32))) := F18_23.same W36
     have V36_41 := V18_19.other W36 (Ne.symm pf8)
     have V36_42 := V18_24.other W36 (Ne.symm pf9)
     have E36_43 := E18_25.wr W36
     have F36_44 := F18_26.other W36 (Or.inl (Ne.symm pf18))
     have F36_45 := F18_27.other W36 (Or.inl (Ne.symm pf18))
     have F36_46 := F18_28.other W36 (Or.inl (Ne.symm pf18))
     have X36_47 := X18_29.other W36 (Ne.symm pf24)
     have E36_48 := E18_30.wr W36
     have K36 := K18.wr W36 (Or.inl (List.mem_of_getElem? (i := 0) rfl))
     have O36 := O18.wr W36 pf6
     have N36 := Fr.snoc X36 N18 pf6
     have pre49 : ∀ tg, AT p e below T36 m 65 #[rv a0, rv a1, rv a2, iv (1 : Int32), iv (0 : Int32)] [] tg → Steps p.tables e below S0 tg := fun tg kg => pre33 tg (by
      refine XS.ifNo X31.here hx rfl (hb hby d11_50) rfl (XT.i0_ne_f hc34) ?_
      refine XS.aloadN X31.here hx rfl (hb hby d11_53) rfl rfl ?_
      refine XS.dup X31.here hx rfl (hb hby d11_54) rfl rfl ?_
      refine st35 _ ?_
      refine XS.iconst X35.here hx rfl (hb hby d11_58) ?_
      refine XS.isub X35.here hx rfl (hb hby d11_59) rfl ?_
      show AT p e below T35 m 60 #[rv a0, rv a1, rv a2, iv (0 : Int32), iv (0 : Int32)] [(.int (u - (1 : Int32))), (.ref a0)] _
      refine st36 _ ?_
      refine XS.iconst X36.here hx rfl (hb hby d11_63) ?_
      refine XS.istoreN X36.here hx rfl (hb hby d11_64) rfl (l' := #[rv a0, rv a1, rv a2, iv (1 : Int32), iv (0 : Int32)]) rfl ?_
      exact kg)
     have hj50 : (uc u b0 w0) = (u - (1 : Int32)) := by simp only [dc, uc, tk, if_neg hc7, if_pos hc15, if_pos hc34]
     have hj51 : (dc b0 w0) = (w0 - (1 : Int32)) := by simp only [dc, uc, tk, if_neg hc7, if_pos hc15, if_pos hc34]
     have hj52 : (tk (0 : Int32) b0 w0) = (1 : Int32) := by simp only [dc, uc, tk, if_neg hc7, if_pos hc15, if_pos hc34]
     exact ⟨_, _, _, X36, e36, N36, K36, O36, E36_37, F36_38, F36_39, (by rw [hj50]; exact F36_40), (by rw [hj51]; exact V36_41), V36_42, E36_43, F36_44, F36_45, F36_46, X36_47, E36_48, (by rw [hj52]; exact pre49)⟩
    ·
     have pre53 : ∀ tg, AT p e below T31 m 65 #[rv a0, rv a1, rv a2, iv (1 : Int32), iv (0 : Int32)] [] tg → Steps p.tables e below S0 tg := fun tg kg => pre33 tg (by
      refine XS.ifYes X31.here hx rfl (pc0 := 50) (pc' := 63) rfl (hb hby d11_50) rfl (XT.i0_ne_t hc34) (by decide) (by decide) ?_
      refine XS.iconst X31.here hx rfl (hb hby d11_63) ?_
      refine XS.istoreN X31.here hx rfl (hb hby d11_64) rfl (l' := #[rv a0, rv a1, rv a2, iv (1 : Int32), iv (0 : Int32)]) rfl ?_
      exact kg)
     have hj54 : (uc u b0 w0) = u := by simp only [dc, uc, tk, if_neg hc7, if_pos hc15, if_neg hc34]
     have hj55 : (dc b0 w0) = (w0 - (1 : Int32)) := by simp only [dc, uc, tk, if_neg hc7, if_pos hc15, if_neg hc34]
     have hj56 : (tk (0 : Int32) b0 w0) = (1 : Int32) := by simp only [dc, uc, tk, if_neg hc7, if_pos hc15, if_neg hc34]
     exact ⟨_, _, _, X31, e31, N18, K18, O18, E18_20, F18_21, F18_22, (by rw [hj54]; exact F18_23), (by rw [hj55]; exact V18_19), V18_24, E18_25, F18_26, F18_27, F18_28, X18_29, E18_30, (by rw [hj56]; exact pre53)⟩
   ·
    have pre57 : ∀ tg, AT p e below T12 m 65 #[rv a0, rv a1, rv a2, iv (0 : Int32), iv (0 : Int32)] [] tg → Steps p.tables e below S0 tg := fun tg kg => pre14 tg (by
     refine XS.ifYes X12.here hx rfl (pc0 := 29) (pc' := 65) rfl (hb hby d11_29) rfl (XT.i0_le_t hc15) (by decide) (by decide) ?_
     exact kg)
    have hj58 : (uc u b0 w0) = u := by simp only [dc, uc, tk, if_neg hc7, if_neg hc15]
    have hj59 : (dc b0 w0) = w0 := by simp only [dc, uc, tk, if_neg hc7, if_neg hc15]
    have hj60 : (tk (0 : Int32) b0 w0) = (0 : Int32) := by simp only [dc, uc, tk, if_neg hc7, if_neg hc15]
    exact ⟨_, _, _, X12, e12, N0, (Keep.refl h0 [a0, wa, li]), O0, pf0, pf1, pf2, (by rw [hj58]; exact pf3), (by rw [hj59]; exact pf4), pf5, pf11, pf12, pf13, pf14, pf15, pf17, (by rw [hj60]; exact pre57)⟩
 obtain ⟨T61, X61, e61, st61⟩ := getF X4 hx hZ hown (host := "") (Or.inl (ow hw 46 rfl)) Via.refl e4 J4_1 (g := (mkF m 8 #[rv a0, rv a1, rv a2, iv (tk (0 : Int32) b0 w0), iv (1 : Int32)] [(.ref a0), (.int (1 : Int32))])) rfl rfl (hb hby d11_8)
 obtain ⟨cl62, Ar62, q62, S62, N62, H62, G62⟩ := id J4_4
 have pre63 : ∀ tg, AT p e below T61 m 15 #[rv a0, rv a1, rv a2, iv (tk (0 : Int32) b0 w0), iv (1 : Int32)] [] tg → Steps p.tables e below S0 tg := fun tg kg => pre4 tg (by
  refine XS.iinc X4.here hx rfl (hb hby d11_65) rfl (l' := #[rv a0, rv a1, rv a2, iv (tk (0 : Int32) b0 w0), iv (1 : Int32)]) rfl ?_
  refine XS.goto X4.here hx rfl (pc0 := 68) (pc' := 5) rfl (hb hby d11_68) (by decide) (by decide) ?_
  refine XS.iload X4.here hx rfl (hb hby d11_5) rfl ?_
  refine XS.aloadN X4.here hx rfl (hb hby d11_7) rfl rfl ?_
  refine st61 _ ?_
  refine X61.arraylength hx (by rw [e61]; exact Ar62.1) (State.isArrayOf_alike hZ.alike Ar62.2.1) (g := (mkF m 11 #[rv a0, rv a1, rv a2, iv (tk (0 : Int32) b0 w0), iv (1 : Int32)] [(.ref wa), (.int (1 : Int32))])) rfl rfl (hb hby d11_11) _ ?_
  rw [len_of S62 N62]
  show AT p e below T61 m 12 #[rv a0, rv a1, rv a2, iv (tk (0 : Int32) b0 w0), iv (1 : Int32)] [(.int (3 : Int32)), (.int (1 : Int32))] _
  refine XS.icmpNo X61.here hx rfl (hb hby d11_12) rfl (XT.ii_ge_f ((by decide) : (1 : Int32) < (3 : Int32))) ?_
  exact kg)
 obtain ⟨T64, h64, L64, X64, e64, N64, K64, O64, J64_0, J64_1, J64_2, J64_3, J64_4, J64_5, J64_6, J64_7, J64_8, J64_9, J64_10, J64_11, pre64⟩ : ∃ (T64 : State) (h64 : Heap) (L64 : List Loc), Stand p l e ({ frames := 5, cells := 1, slots := 10, locals := 69 } : Room) s m #[(.ref a0), (.ref a1), (.ref a2)] below meth c T64 L64 0 0 ∧ T64.heap = h64 ∧ Fr n0 L64 ∧ Keep h0 h64 [a0, wa, li] ∧ Old Z n0 h64 ∧ Exa Z h64 a0 "com/example/filters_under_siege/filtersundersiege/Cover" ∧ Fld Z h64 a0 "com/example/filters_under_siege/filtersundersiege/Cover" "wanted" "[I" (.ref wa) ∧ Fld Z h64 a0 "com/example/filters_under_siege/filtersundersiege/Cover" "elements" "Ljava/util/List;" (.ref li) ∧ Fld Z h64 a0 "com/example/filters_under_siege/filtersundersiege/Cover" "uncovered" "I" (.int (uc (uc u b0 w0) b1 w1)) ∧ Arv Z h64 wa kw .int (3 : Int32) [(.int (dc b0 w0)), (.int (dc b1 w1)), (.int w2)] (.int (0 : Int32)) ∧ Arv Z h64 a2 kz .boolean (3 : Int32) [(.int b0), (.int b1), (.int b2)] (.int (0 : Int32)) ∧ Exa Z h64 li "java/util/ArrayList" ∧ Fld Z h64 li "java/util/AbstractList" "modCount" "I" (.int mc) ∧ Fld Z h64 li "java/util/ArrayList" "size" "I" (.int sz) ∧ Fld Z h64 li "java/util/ArrayList" "elementData" "[Ljava/lang/Object;" (.ref es) ∧ LD Z h64 lo bn w_DEE1 es ke sz ∧ Exa Z h64 a1 "[B" ∧ (∀ tg, AT p e below T64 m 65 #[rv a0, rv a1, rv a2, iv (tk (tk (0 : Int32) b0 w0) b1 w1), iv (1 : Int32)] [] tg → Steps p.tables e below S0 tg) := by
  obtain ⟨cl65, Ar65, q65, S65, N65, H65, G65⟩ := id J4_5
  have hin65 := own_in (1 : Int32) S65 ⟨by decide, by decide⟩
  have hat65 : cl65.slots[((1 : Int32)).toNatClampNeg]? = some (.int b1) := Has.at H65 hin65 rfl
  have pre66 : ∀ tg, AT p e below T61 m 19 #[rv a0, rv a1, rv a2, iv (tk (0 : Int32) b0 w0), iv (1 : Int32)] [(.int b1)] tg → Steps p.tables e below S0 tg := fun tg kg => pre63 tg (by
   refine XS.aloadN X61.here hx rfl (hb hby d11_15) rfl rfl ?_
   refine XS.iload X61.here hx rfl (hb hby d11_16) rfl ?_
   refine X61.baloadBooleans hx (j := (1 : Int32)) (v := (.int b1)) (by rw [e61]; exact Ar65.1) (State.isArrayOf_alike hZ.alike Ar65.2.1) Ar65.2.2 hin65 hat65 (g := (mkF m 18 #[rv a0, rv a1, rv a2, iv (tk (0 : Int32) b0 w0), iv (1 : Int32)] [(.int (1 : Int32)), (.ref a2)])) rfl rfl (hb hby d11_18) _ ?_
   exact kg)
  rcases Decidable.em (b1 = (0 : Int32)) with hc67 | hc67
  ·
   have pre68 : ∀ tg, AT p e below T61 m 65 #[rv a0, rv a1, rv a2, iv (tk (0 : Int32) b0 w0), iv (1 : Int32)] [] tg → Steps p.tables e below S0 tg := fun tg kg => pre66 tg (by
    refine XS.ifYes X61.here hx rfl (pc0 := 19) (pc' := 65) rfl (hb hby d11_19) rfl (XT.i0_eq_t hc67) (by decide) (by decide) ?_
    exact kg)
   have hj69 : (uc (uc u b0 w0) b1 w1) = (uc u b0 w0) := by simp only [dc, uc, tk, if_pos hc67]
   have hj70 : (dc b1 w1) = w1 := by simp only [dc, uc, tk, if_pos hc67]
   have hj71 : (tk (tk (0 : Int32) b0 w0) b1 w1) = (tk (0 : Int32) b0 w0) := by simp only [dc, uc, tk, if_pos hc67]
   exact ⟨_, _, _, X61, e61, N4, K4, O4, J4_0, J4_1, J4_2, (by rw [hj69]; exact J4_3), (by rw [hj70]; exact J4_4), J4_5, J4_6, J4_7, J4_8, J4_9, J4_10, J4_11, (by rw [hj71]; exact pre68)⟩
  ·
   obtain ⟨T72, X72, e72, st72⟩ := getF X61 hx hZ hown (host := "") (Or.inl (ow hw 46 rfl)) Via.refl e61 J4_1 (g := (mkF m 23 #[rv a0, rv a1, rv a2, iv (tk (0 : Int32) b0 w0), iv (1 : Int32)] [(.ref a0)])) rfl rfl (hb hby d11_23)
   obtain ⟨cl73, Ar73, q73, S73, N73, H73, G73⟩ := id J4_4
   have hin73 := own_in (1 : Int32) S73 ⟨by decide, by decide⟩
   have hat73 : cl73.slots[((1 : Int32)).toNatClampNeg]? = some (.int w1) := Has.at H73 hin73 rfl
   have pre74 : ∀ tg, AT p e below T72 m 29 #[rv a0, rv a1, rv a2, iv (tk (0 : Int32) b0 w0), iv (1 : Int32)] [(.int w1)] tg → Steps p.tables e below S0 tg := fun tg kg => pre66 tg (by
    refine XS.ifNo X61.here hx rfl (hb hby d11_19) rfl (XT.i0_eq_f hc67) ?_
    refine XS.aloadN X61.here hx rfl (hb hby d11_22) rfl rfl ?_
    refine st72 _ ?_
    refine XS.iload X72.here hx rfl (hb hby d11_26) rfl ?_
    refine X72.iaload hx (j := (1 : Int32)) (v := (.int w1)) (by rw [e72]; exact Ar73.1) (State.isArrayOf_alike hZ.alike Ar73.2.1) Ar73.2.2 hin73 hat73 (g := (mkF m 28 #[rv a0, rv a1, rv a2, iv (tk (0 : Int32) b0 w0), iv (1 : Int32)] [(.int (1 : Int32)), (.ref wa)])) rfl rfl (hb hby d11_28) _ ?_
    exact kg)
   rcases Decidable.em ((0 : Int32) < w1) with hc75 | hc75
   ·
    obtain ⟨T76, X76, e76, st76⟩ := getF X72 hx hZ hown (host := "") (Or.inl (ow hw 46 rfl)) Via.refl e72 J4_1 (g := (mkF m 33 #[rv a0, rv a1, rv a2, iv (tk (0 : Int32) b0 w0), iv (1 : Int32)] [(.ref a0)])) rfl rfl (hb hby d11_33)
    obtain ⟨cl77, Ar77, q77, S77, N77, H77, G77⟩ := id J4_4
    have hin77 := own_in (1 : Int32) S77 ⟨by decide, by decide⟩
    have hat77 : cl77.slots[((1 : Int32)).toNatClampNeg]? = some (.int w1) := Has.at H77 hin77 rfl
    obtain ⟨cl78, Ar78, q78, S78, M78, H78, G78⟩ := id J4_4
    have hin78 := own_in (1 : Int32) S78 ⟨by decide, by decide⟩
    obtain ⟨T78, h78, X78, e78, W78, st78⟩ := stI X76 hx hZ e76 Ar78 (j := (1 : Int32)) hin78 (g := (mkF m 42 #[rv a0, rv a1, rv a2, iv (tk (0 : Int32) b0 w0), iv (1 : Int32)] [(.int (w1 - (1 : Int32))), (.int (1 : Int32)), (.ref wa)])) rfl rfl (hb hby d11_42)
    have V78_79 : Arv Z h78 wa kw .int (3 : Int32) [(.int (dc b0 w0)), (.int (w1 - (1 : Int32))), (.int w2)] (.int (0 : Int32)) := Arv.set Ar78 q78 S78 M78 H78 G78 rfl W78 1 rfl (Nat.le_of_ble_eq_true rfl)
    have E78_80 := J4_0.wr W78
    have F78_81 := J4_1.other W78 (Or.inl pf8)
    have F78_82 := J4_2.other W78 (Or.inl pf8)
    have F78_83 := J4_3.other W78 (Or.inl pf8)
    have V78_84 := J4_5.other W78 (Ne.symm pf10)
    have E78_85 := J4_6.wr W78
    have F78_86 := J4_7.other W78 (Or.inl (Ne.symm pf19))
    have F78_87 := J4_8.other W78 (Or.inl (Ne.symm pf19))
    have F78_88 := J4_9.other W78 (Or.inl (Ne.symm pf19))
    have X78_89 := J4_10.other W78 (Ne.symm pf25)
    have E78_90 := J4_11.wr W78
    have K78 := K4.wr W78 (Or.inl (List.mem_of_getElem? (i := 1) rfl))
    have O78 := O4.wr W78 pf7
    have N78 := Fr.snoc X78 N4 pf7
    obtain ⟨T91, X91, e91, st91⟩ := getF X78 hx hZ hown (host := "") (Or.inl (ow hw 46 rfl)) Via.refl e78 F78_81 (g := (mkF m 44 #[rv a0, rv a1, rv a2, iv (tk (0 : Int32) b0 w0), iv (1 : Int32)] [(.ref a0)])) rfl rfl (hb hby d11_44)
    obtain ⟨cl92, Ar92, q92, S92, N92, H92, G92⟩ := id V78_79
    have hin92 := own_in (1 : Int32) S92 ⟨by decide, by decide⟩
    have hat92 : cl92.slots[((1 : Int32)).toNatClampNeg]? = some (.int (w1 - (1 : Int32))) := Has.at H92 hin92 rfl
    have pre93 : ∀ tg, AT p e below T91 m 50 #[rv a0, rv a1, rv a2, iv (tk (0 : Int32) b0 w0), iv (1 : Int32)] [(.int (w1 - (1 : Int32)))] tg → Steps p.tables e below S0 tg := fun tg kg => pre74 tg (by
     refine XS.ifNo X72.here hx rfl (hb hby d11_29) rfl (XT.i0_le_f hc75) ?_
     refine XS.aloadN X72.here hx rfl (hb hby d11_32) rfl rfl ?_
     refine st76 _ ?_
     refine XS.iload X76.here hx rfl (hb hby d11_36) rfl ?_
     jvm_step X76.here [X76.here.top, hx, (hb hby d11_38), Value.category]
     refine X76.iaload hx (j := (1 : Int32)) (v := (.int w1)) (by rw [e76]; exact Ar77.1) (State.isArrayOf_alike hZ.alike Ar77.2.1) Ar77.2.2 hin77 hat77 (g := (mkF m 39 #[rv a0, rv a1, rv a2, iv (tk (0 : Int32) b0 w0), iv (1 : Int32)] [(.int (1 : Int32)), (.ref wa), (.int (1 : Int32)), (.ref wa)])) rfl rfl (hb hby d11_39) _ ?_
     show AT p e below T76 m 40 #[rv a0, rv a1, rv a2, iv (tk (0 : Int32) b0 w0), iv (1 : Int32)] [(.int w1), (.int (1 : Int32)), (.ref wa)] _
     refine XS.iconst X76.here hx rfl (hb hby d11_40) ?_
     refine XS.isub X76.here hx rfl (hb hby d11_41) rfl ?_
     refine st78 _ ?_
     refine XS.aloadN X78.here hx rfl (hb hby d11_43) rfl rfl ?_
     refine st91 _ ?_
     refine XS.iload X91.here hx rfl (hb hby d11_47) rfl ?_
     refine X91.iaload hx (j := (1 : Int32)) (v := (.int (w1 - (1 : Int32)))) (by rw [e91]; exact Ar92.1) (State.isArrayOf_alike hZ.alike Ar92.2.1) Ar92.2.2 hin92 hat92 (g := (mkF m 49 #[rv a0, rv a1, rv a2, iv (tk (0 : Int32) b0 w0), iv (1 : Int32)] [(.int (1 : Int32)), (.ref wa)])) rfl rfl (hb hby d11_49) _ ?_
     exact kg)
    rcases Decidable.em ((w1 - (1 : Int32)) = (0 : Int32)) with hc94 | hc94
    ·
     obtain ⟨T95, X95, e95, st95⟩ := getF X91 hx hZ hown (host := "") (Or.inl (ow hw 52 rfl)) Via.refl e91 F78_83 (g := (mkF m 55 #[rv a0, rv a1, rv a2, iv (tk (0 : Int32) b0 w0), iv (1 : Int32)] [(.ref a0), (.ref a0)])) rfl rfl (hb hby d11_55)
     obtain ⟨T96, h96, X96, e96, W96, st96⟩ := putF X95 hx hZ hown (host := "") (Or.inl (ow hw 52 rfl)) Via.refl e95 F78_83 E78_80 (Or.inl (ow hw 53 rfl)) (ow hw 11 rfl) (ty := .int) (by decide) rfl rfl (g := (mkF m 60 #[rv a0, rv a1, rv a2, iv (tk (0 : Int32) b0 w0), iv (1 : Int32)] [(.int ((uc u b0 w0) - (1 : Int32))), (.ref a0)])) rfl rfl (hb hby d11_60)
     have E96_97 := E78_80.wr W96
     have F96_98 := F78_81.other W96 (Or.inr (slot_ne (Or.inr (ow hw 47 rfl)) (Or.inl (ow hw 53 rfl)) (by decide) (t := (.array .int)) (t' := .int) (by decide) (by decide)))
     have F96_99 := F78_82.other W96 (Or.inr (slot_ne (Or.inr (ow hw 44 rfl)) (Or.inl (ow hw 53 rfl)) (by decide) (t := (.object "java/util/List")) (t' := .int) (by decide) (by decide)))
     have F96_100 : Fld Z h96 a0 "com/example/filters_under_siege/filtersundersiege/Cover" "uncovered" "I" (.int ((uc u b0 w0) - (1 : Int32))) := F78_83.same W96
     have V96_101 := V78_79.other W96 (Ne.symm pf8)
     have V96_102 := V78_84.other W96 (Ne.symm pf9)
     have E96_103 := E78_85.wr W96
     have F96_104 := F78_86.other W96 (Or.inl (Ne.symm pf18))
     have F96_105 := F78_87.other W96 (Or.inl (Ne.symm pf18))
     have F96_106 := F78_88.other W96 (Or.inl (Ne.symm pf18))
     have X96_107 := X78_89.other W96 (Ne.symm pf24)
     have E96_108 := E78_90.wr W96
     have K96 := K78.wr W96 (Or.inl (List.mem_of_getElem? (i := 0) rfl))
     have O96 := O78.wr W96 pf6
     have N96 := Fr.snoc X96 N78 pf6
     have pre109 : ∀ tg, AT p e below T96 m 65 #[rv a0, rv a1, rv a2, iv (1 : Int32), iv (1 : Int32)] [] tg → Steps p.tables e below S0 tg := fun tg kg => pre93 tg (by
      refine XS.ifNo X91.here hx rfl (hb hby d11_50) rfl (XT.i0_ne_f hc94) ?_
      refine XS.aloadN X91.here hx rfl (hb hby d11_53) rfl rfl ?_
      refine XS.dup X91.here hx rfl (hb hby d11_54) rfl rfl ?_
      refine st95 _ ?_
      refine XS.iconst X95.here hx rfl (hb hby d11_58) ?_
      refine XS.isub X95.here hx rfl (hb hby d11_59) rfl ?_
      show AT p e below T95 m 60 #[rv a0, rv a1, rv a2, iv (tk (0 : Int32) b0 w0), iv (1 : Int32)] [(.int ((uc u b0 w0) - (1 : Int32))), (.ref a0)] _
      refine st96 _ ?_
      refine XS.iconst X96.here hx rfl (hb hby d11_63) ?_
      refine XS.istoreN X96.here hx rfl (hb hby d11_64) rfl (l' := #[rv a0, rv a1, rv a2, iv (1 : Int32), iv (1 : Int32)]) rfl ?_
      exact kg)
     have hj110 : (uc (uc u b0 w0) b1 w1) = ((uc u b0 w0) - (1 : Int32)) := by simp only [dc, uc, tk, if_neg hc67, if_pos hc75, if_pos hc94]
     have hj111 : (dc b1 w1) = (w1 - (1 : Int32)) := by simp only [dc, uc, tk, if_neg hc67, if_pos hc75, if_pos hc94]
     have hj112 : (tk (tk (0 : Int32) b0 w0) b1 w1) = (1 : Int32) := by simp only [dc, uc, tk, if_neg hc67, if_pos hc75, if_pos hc94]
     exact ⟨_, _, _, X96, e96, N96, K96, O96, E96_97, F96_98, F96_99, (by rw [hj110]; exact F96_100), (by rw [hj111]; exact V96_101), V96_102, E96_103, F96_104, F96_105, F96_106, X96_107, E96_108, (by rw [hj112]; exact pre109)⟩
    ·
     have pre113 : ∀ tg, AT p e below T91 m 65 #[rv a0, rv a1, rv a2, iv (1 : Int32), iv (1 : Int32)] [] tg → Steps p.tables e below S0 tg := fun tg kg => pre93 tg (by
      refine XS.ifYes X91.here hx rfl (pc0 := 50) (pc' := 63) rfl (hb hby d11_50) rfl (XT.i0_ne_t hc94) (by decide) (by decide) ?_
      refine XS.iconst X91.here hx rfl (hb hby d11_63) ?_
      refine XS.istoreN X91.here hx rfl (hb hby d11_64) rfl (l' := #[rv a0, rv a1, rv a2, iv (1 : Int32), iv (1 : Int32)]) rfl ?_
      exact kg)
     have hj114 : (uc (uc u b0 w0) b1 w1) = (uc u b0 w0) := by simp only [dc, uc, tk, if_neg hc67, if_pos hc75, if_neg hc94]
     have hj115 : (dc b1 w1) = (w1 - (1 : Int32)) := by simp only [dc, uc, tk, if_neg hc67, if_pos hc75, if_neg hc94]
     have hj116 : (tk (tk (0 : Int32) b0 w0) b1 w1) = (1 : Int32) := by simp only [dc, uc, tk, if_neg hc67, if_pos hc75, if_neg hc94]
     exact ⟨_, _, _, X91, e91, N78, K78, O78, E78_80, F78_81, F78_82, (by rw [hj114]; exact F78_83), (by rw [hj115]; exact V78_79), V78_84, E78_85, F78_86, F78_87, F78_88, X78_89, E78_90, (by rw [hj116]; exact pre113)⟩
   ·
    have pre117 : ∀ tg, AT p e below T72 m 65 #[rv a0, rv a1, rv a2, iv (tk (0 : Int32) b0 w0), iv (1 : Int32)] [] tg → Steps p.tables e below S0 tg := fun tg kg => pre74 tg (by
     refine XS.ifYes X72.here hx rfl (pc0 := 29) (pc' := 65) rfl (hb hby d11_29) rfl (XT.i0_le_t hc75) (by decide) (by decide) ?_
     exact kg)
    have hj118 : (uc (uc u b0 w0) b1 w1) = (uc u b0 w0) := by simp only [dc, uc, tk, if_neg hc67, if_neg hc75]
    have hj119 : (dc b1 w1) = w1 := by simp only [dc, uc, tk, if_neg hc67, if_neg hc75]
    have hj120 : (tk (tk (0 : Int32) b0 w0) b1 w1) = (tk (0 : Int32) b0 w0) := by simp only [dc, uc, tk, if_neg hc67, if_neg hc75]
    exact ⟨_, _, _, X72, e72, N4, K4, O4, J4_0, J4_1, J4_2, (by rw [hj118]; exact J4_3), (by rw [hj119]; exact J4_4), J4_5, J4_6, J4_7, J4_8, J4_9, J4_10, J4_11, (by rw [hj120]; exact pre117)⟩
 obtain ⟨T121, X121, e121, st121⟩ := getF X64 hx hZ hown (host := "") (Or.inl (ow hw 46 rfl)) Via.refl e64 J64_1 (g := (mkF m 8 #[rv a0, rv a1, rv a2, iv (tk (tk (0 : Int32) b0 w0) b1 w1), iv (2 : Int32)] [(.ref a0), (.int (2 : Int32))])) rfl rfl (hb hby d11_8)
 obtain ⟨cl122, Ar122, q122, S122, N122, H122, G122⟩ := id J64_4
 have pre123 : ∀ tg, AT p e below T121 m 15 #[rv a0, rv a1, rv a2, iv (tk (tk (0 : Int32) b0 w0) b1 w1), iv (2 : Int32)] [] tg → Steps p.tables e below S0 tg := fun tg kg => pre64 tg (by
  refine XS.iinc X64.here hx rfl (hb hby d11_65) rfl (l' := #[rv a0, rv a1, rv a2, iv (tk (tk (0 : Int32) b0 w0) b1 w1), iv (2 : Int32)]) rfl ?_
  refine XS.goto X64.here hx rfl (pc0 := 68) (pc' := 5) rfl (hb hby d11_68) (by decide) (by decide) ?_
  refine XS.iload X64.here hx rfl (hb hby d11_5) rfl ?_
  refine XS.aloadN X64.here hx rfl (hb hby d11_7) rfl rfl ?_
  refine st121 _ ?_
  refine X121.arraylength hx (by rw [e121]; exact Ar122.1) (State.isArrayOf_alike hZ.alike Ar122.2.1) (g := (mkF m 11 #[rv a0, rv a1, rv a2, iv (tk (tk (0 : Int32) b0 w0) b1 w1), iv (2 : Int32)] [(.ref wa), (.int (2 : Int32))])) rfl rfl (hb hby d11_11) _ ?_
  rw [len_of S122 N122]
  show AT p e below T121 m 12 #[rv a0, rv a1, rv a2, iv (tk (tk (0 : Int32) b0 w0) b1 w1), iv (2 : Int32)] [(.int (3 : Int32)), (.int (2 : Int32))] _
  refine XS.icmpNo X121.here hx rfl (hb hby d11_12) rfl (XT.ii_ge_f ((by decide) : (2 : Int32) < (3 : Int32))) ?_
  exact kg)
 obtain ⟨T124, h124, L124, X124, e124, N124, K124, O124, J124_0, J124_1, J124_2, J124_3, J124_4, J124_5, J124_6, J124_7, J124_8, J124_9, J124_10, J124_11, pre124⟩ : ∃ (T124 : State) (h124 : Heap) (L124 : List Loc), Stand p l e ({ frames := 5, cells := 1, slots := 10, locals := 69 } : Room) s m #[(.ref a0), (.ref a1), (.ref a2)] below meth c T124 L124 0 0 ∧ T124.heap = h124 ∧ Fr n0 L124 ∧ Keep h0 h124 [a0, wa, li] ∧ Old Z n0 h124 ∧ Exa Z h124 a0 "com/example/filters_under_siege/filtersundersiege/Cover" ∧ Fld Z h124 a0 "com/example/filters_under_siege/filtersundersiege/Cover" "wanted" "[I" (.ref wa) ∧ Fld Z h124 a0 "com/example/filters_under_siege/filtersundersiege/Cover" "elements" "Ljava/util/List;" (.ref li) ∧ Fld Z h124 a0 "com/example/filters_under_siege/filtersundersiege/Cover" "uncovered" "I" (.int (uc (uc (uc u b0 w0) b1 w1) b2 w2)) ∧ Arv Z h124 wa kw .int (3 : Int32) [(.int (dc b0 w0)), (.int (dc b1 w1)), (.int (dc b2 w2))] (.int (0 : Int32)) ∧ Arv Z h124 a2 kz .boolean (3 : Int32) [(.int b0), (.int b1), (.int b2)] (.int (0 : Int32)) ∧ Exa Z h124 li "java/util/ArrayList" ∧ Fld Z h124 li "java/util/AbstractList" "modCount" "I" (.int mc) ∧ Fld Z h124 li "java/util/ArrayList" "size" "I" (.int sz) ∧ Fld Z h124 li "java/util/ArrayList" "elementData" "[Ljava/lang/Object;" (.ref es) ∧ LD Z h124 lo bn w_DEE1 es ke sz ∧ Exa Z h124 a1 "[B" ∧ (∀ tg, AT p e below T124 m 65 #[rv a0, rv a1, rv a2, iv (tk (tk (tk (0 : Int32) b0 w0) b1 w1) b2 w2), iv (2 : Int32)] [] tg → Steps p.tables e below S0 tg) := by
  obtain ⟨cl125, Ar125, q125, S125, N125, H125, G125⟩ := id J64_5
  have hin125 := own_in (2 : Int32) S125 ⟨by decide, by decide⟩
  have hat125 : cl125.slots[((2 : Int32)).toNatClampNeg]? = some (.int b2) := Has.at H125 hin125 rfl
  have pre126 : ∀ tg, AT p e below T121 m 19 #[rv a0, rv a1, rv a2, iv (tk (tk (0 : Int32) b0 w0) b1 w1), iv (2 : Int32)] [(.int b2)] tg → Steps p.tables e below S0 tg := fun tg kg => pre123 tg (by
   refine XS.aloadN X121.here hx rfl (hb hby d11_15) rfl rfl ?_
   refine XS.iload X121.here hx rfl (hb hby d11_16) rfl ?_
   refine X121.baloadBooleans hx (j := (2 : Int32)) (v := (.int b2)) (by rw [e121]; exact Ar125.1) (State.isArrayOf_alike hZ.alike Ar125.2.1) Ar125.2.2 hin125 hat125 (g := (mkF m 18 #[rv a0, rv a1, rv a2, iv (tk (tk (0 : Int32) b0 w0) b1 w1), iv (2 : Int32)] [(.int (2 : Int32)), (.ref a2)])) rfl rfl (hb hby d11_18) _ ?_
   exact kg)
  rcases Decidable.em (b2 = (0 : Int32)) with hc127 | hc127
  ·
   have pre128 : ∀ tg, AT p e below T121 m 65 #[rv a0, rv a1, rv a2, iv (tk (tk (0 : Int32) b0 w0) b1 w1), iv (2 : Int32)] [] tg → Steps p.tables e below S0 tg := fun tg kg => pre126 tg (by
    refine XS.ifYes X121.here hx rfl (pc0 := 19) (pc' := 65) rfl (hb hby d11_19) rfl (XT.i0_eq_t hc127) (by decide) (by decide) ?_
    exact kg)
   have hj129 : (uc (uc (uc u b0 w0) b1 w1) b2 w2) = (uc (uc u b0 w0) b1 w1) := by simp only [dc, uc, tk, if_pos hc127]
   have hj130 : (dc b2 w2) = w2 := by simp only [dc, uc, tk, if_pos hc127]
   have hj131 : (tk (tk (tk (0 : Int32) b0 w0) b1 w1) b2 w2) = (tk (tk (0 : Int32) b0 w0) b1 w1) := by simp only [dc, uc, tk, if_pos hc127]
   exact ⟨_, _, _, X121, e121, N64, K64, O64, J64_0, J64_1, J64_2, (by rw [hj129]; exact J64_3), (by rw [hj130]; exact J64_4), J64_5, J64_6, J64_7, J64_8, J64_9, J64_10, J64_11, (by rw [hj131]; exact pre128)⟩
  ·
   obtain ⟨T132, X132, e132, st132⟩ := getF X121 hx hZ hown (host := "") (Or.inl (ow hw 46 rfl)) Via.refl e121 J64_1 (g := (mkF m 23 #[rv a0, rv a1, rv a2, iv (tk (tk (0 : Int32) b0 w0) b1 w1), iv (2 : Int32)] [(.ref a0)])) rfl rfl (hb hby d11_23)
   obtain ⟨cl133, Ar133, q133, S133, N133, H133, G133⟩ := id J64_4
   have hin133 := own_in (2 : Int32) S133 ⟨by decide, by decide⟩
   have hat133 : cl133.slots[((2 : Int32)).toNatClampNeg]? = some (.int w2) := Has.at H133 hin133 rfl
   have pre134 : ∀ tg, AT p e below T132 m 29 #[rv a0, rv a1, rv a2, iv (tk (tk (0 : Int32) b0 w0) b1 w1), iv (2 : Int32)] [(.int w2)] tg → Steps p.tables e below S0 tg := fun tg kg => pre126 tg (by
    refine XS.ifNo X121.here hx rfl (hb hby d11_19) rfl (XT.i0_eq_f hc127) ?_
    refine XS.aloadN X121.here hx rfl (hb hby d11_22) rfl rfl ?_
    refine st132 _ ?_
    refine XS.iload X132.here hx rfl (hb hby d11_26) rfl ?_
    refine X132.iaload hx (j := (2 : Int32)) (v := (.int w2)) (by rw [e132]; exact Ar133.1) (State.isArrayOf_alike hZ.alike Ar133.2.1) Ar133.2.2 hin133 hat133 (g := (mkF m 28 #[rv a0, rv a1, rv a2, iv (tk (tk (0 : Int32) b0 w0) b1 w1), iv (2 : Int32)] [(.int (2 : Int32)), (.ref wa)])) rfl rfl (hb hby d11_28) _ ?_
    exact kg)
   rcases Decidable.em ((0 : Int32) < w2) with hc135 | hc135
   ·
    obtain ⟨T136, X136, e136, st136⟩ := getF X132 hx hZ hown (host := "") (Or.inl (ow hw 46 rfl)) Via.refl e132 J64_1 (g := (mkF m 33 #[rv a0, rv a1, rv a2, iv (tk (tk (0 : Int32) b0 w0) b1 w1), iv (2 : Int32)] [(.ref a0)])) rfl rfl (hb hby d11_33)
    obtain ⟨cl137, Ar137, q137, S137, N137, H137, G137⟩ := id J64_4
    have hin137 := own_in (2 : Int32) S137 ⟨by decide, by decide⟩
    have hat137 : cl137.slots[((2 : Int32)).toNatClampNeg]? = some (.int w2) := Has.at H137 hin137 rfl
    obtain ⟨cl138, Ar138, q138, S138, M138, H138, G138⟩ := id J64_4
    have hin138 := own_in (2 : Int32) S138 ⟨by decide, by decide⟩
    obtain ⟨T138, h138, X138, e138, W138, st138⟩ := stI X136 hx hZ e136 Ar138 (j := (2 : Int32)) hin138 (g := (mkF m 42 #[rv a0, rv a1, rv a2, iv (tk (tk (0 : Int32) b0 w0) b1 w1), iv (2 : Int32)] [(.int (w2 - (1 : Int32))), (.int (2 : Int32)), (.ref wa)])) rfl rfl (hb hby d11_42)
    have V138_139 : Arv Z h138 wa kw .int (3 : Int32) [(.int (dc b0 w0)), (.int (dc b1 w1)), (.int (w2 - (1 : Int32)))] (.int (0 : Int32)) := Arv.set Ar138 q138 S138 M138 H138 G138 rfl W138 2 rfl (Nat.le_of_ble_eq_true rfl)
    have E138_140 := J64_0.wr W138
    have F138_141 := J64_1.other W138 (Or.inl pf8)
    have F138_142 := J64_2.other W138 (Or.inl pf8)
    have F138_143 := J64_3.other W138 (Or.inl pf8)
    have V138_144 := J64_5.other W138 (Ne.symm pf10)
    have E138_145 := J64_6.wr W138
    have F138_146 := J64_7.other W138 (Or.inl (Ne.symm pf19))
    have F138_147 := J64_8.other W138 (Or.inl (Ne.symm pf19))
    have F138_148 := J64_9.other W138 (Or.inl (Ne.symm pf19))
    have X138_149 := J64_10.other W138 (Ne.symm pf25)
    have E138_150 := J64_11.wr W138
    have K138 := K64.wr W138 (Or.inl (List.mem_of_getElem? (i := 1) rfl))
    have O138 := O64.wr W138 pf7
    have N138 := Fr.snoc X138 N64 pf7
    obtain ⟨T151, X151, e151, st151⟩ := getF X138 hx hZ hown (host := "") (Or.inl (ow hw 46 rfl)) Via.refl e138 F138_141 (g := (mkF m 44 #[rv a0, rv a1, rv a2, iv (tk (tk (0 : Int32) b0 w0) b1 w1), iv (2 : Int32)] [(.ref a0)])) rfl rfl (hb hby d11_44)
    obtain ⟨cl152, Ar152, q152, S152, N152, H152, G152⟩ := id V138_139
    have hin152 := own_in (2 : Int32) S152 ⟨by decide, by decide⟩
    have hat152 : cl152.slots[((2 : Int32)).toNatClampNeg]? = some (.int (w2 - (1 : Int32))) := Has.at H152 hin152 rfl
    have pre153 : ∀ tg, AT p e below T151 m 50 #[rv a0, rv a1, rv a2, iv (tk (tk (0 : Int32) b0 w0) b1 w1), iv (2 : Int32)] [(.int (w2 - (1 : Int32)))] tg → Steps p.tables e below S0 tg := fun tg kg => pre134 tg (by
     refine XS.ifNo X132.here hx rfl (hb hby d11_29) rfl (XT.i0_le_f hc135) ?_
     refine XS.aloadN X132.here hx rfl (hb hby d11_32) rfl rfl ?_
     refine st136 _ ?_
     refine XS.iload X136.here hx rfl (hb hby d11_36) rfl ?_
     jvm_step X136.here [X136.here.top, hx, (hb hby d11_38), Value.category]
     refine X136.iaload hx (j := (2 : Int32)) (v := (.int w2)) (by rw [e136]; exact Ar137.1) (State.isArrayOf_alike hZ.alike Ar137.2.1) Ar137.2.2 hin137 hat137 (g := (mkF m 39 #[rv a0, rv a1, rv a2, iv (tk (tk (0 : Int32) b0 w0) b1 w1), iv (2 : Int32)] [(.int (2 : Int32)), (.ref wa), (.int (2 : Int32)), (.ref wa)])) rfl rfl (hb hby d11_39) _ ?_
     show AT p e below T136 m 40 #[rv a0, rv a1, rv a2, iv (tk (tk (0 : Int32) b0 w0) b1 w1), iv (2 : Int32)] [(.int w2), (.int (2 : Int32)), (.ref wa)] _
     refine XS.iconst X136.here hx rfl (hb hby d11_40) ?_
     refine XS.isub X136.here hx rfl (hb hby d11_41) rfl ?_
     refine st138 _ ?_
     refine XS.aloadN X138.here hx rfl (hb hby d11_43) rfl rfl ?_
     refine st151 _ ?_
     refine XS.iload X151.here hx rfl (hb hby d11_47) rfl ?_
     refine X151.iaload hx (j := (2 : Int32)) (v := (.int (w2 - (1 : Int32)))) (by rw [e151]; exact Ar152.1) (State.isArrayOf_alike hZ.alike Ar152.2.1) Ar152.2.2 hin152 hat152 (g := (mkF m 49 #[rv a0, rv a1, rv a2, iv (tk (tk (0 : Int32) b0 w0) b1 w1), iv (2 : Int32)] [(.int (2 : Int32)), (.ref wa)])) rfl rfl (hb hby d11_49) _ ?_
     exact kg)
    rcases Decidable.em ((w2 - (1 : Int32)) = (0 : Int32)) with hc154 | hc154
    ·
     obtain ⟨T155, X155, e155, st155⟩ := getF X151 hx hZ hown (host := "") (Or.inl (ow hw 52 rfl)) Via.refl e151 F138_143 (g := (mkF m 55 #[rv a0, rv a1, rv a2, iv (tk (tk (0 : Int32) b0 w0) b1 w1), iv (2 : Int32)] [(.ref a0), (.ref a0)])) rfl rfl (hb hby d11_55)
     obtain ⟨T156, h156, X156, e156, W156, st156⟩ := putF X155 hx hZ hown (host := "") (Or.inl (ow hw 52 rfl)) Via.refl e155 F138_143 E138_140 (Or.inl (ow hw 53 rfl)) (ow hw 11 rfl) (ty := .int) (by decide) rfl rfl (g := (mkF m 60 #[rv a0, rv a1, rv a2, iv (tk (tk (0 : Int32) b0 w0) b1 w1), iv (2 : Int32)] [(.int ((uc (uc u b0 w0) b1 w1) - (1 : Int32))), (.ref a0)])) rfl rfl (hb hby d11_60)
     have E156_157 := E138_140.wr W156
     have F156_158 := F138_141.other W156 (Or.inr (slot_ne (Or.inr (ow hw 47 rfl)) (Or.inl (ow hw 53 rfl)) (by decide) (t := (.array .int)) (t' := .int) (by decide) (by decide)))
     have F156_159 := F138_142.other W156 (Or.inr (slot_ne (Or.inr (ow hw 44 rfl)) (Or.inl (ow hw 53 rfl)) (by decide) (t := (.object "java/util/List")) (t' := .int) (by decide) (by decide)))
     have F156_160 : Fld Z h156 a0 "com/example/filters_under_siege/filtersundersiege/Cover" "uncovered" "I" (.int ((uc (uc u b0 w0) b1 w1) - (1 : Int32))) := F138_143.same W156
     have V156_161 := V138_139.other W156 (Ne.symm pf8)
     have V156_162 := V138_144.other W156 (Ne.symm pf9)
     have E156_163 := E138_145.wr W156
     have F156_164 := F138_146.other W156 (Or.inl (Ne.symm pf18))
     have F156_165 := F138_147.other W156 (Or.inl (Ne.symm pf18))
     have F156_166 := F138_148.other W156 (Or.inl (Ne.symm pf18))
     have X156_167 := X138_149.other W156 (Ne.symm pf24)
     have E156_168 := E138_150.wr W156
     have K156 := K138.wr W156 (Or.inl (List.mem_of_getElem? (i := 0) rfl))
     have O156 := O138.wr W156 pf6
     have N156 := Fr.snoc X156 N138 pf6
     have pre169 : ∀ tg, AT p e below T156 m 65 #[rv a0, rv a1, rv a2, iv (1 : Int32), iv (2 : Int32)] [] tg → Steps p.tables e below S0 tg := fun tg kg => pre153 tg (by
      refine XS.ifNo X151.here hx rfl (hb hby d11_50) rfl (XT.i0_ne_f hc154) ?_
      refine XS.aloadN X151.here hx rfl (hb hby d11_53) rfl rfl ?_
      refine XS.dup X151.here hx rfl (hb hby d11_54) rfl rfl ?_
      refine st155 _ ?_
      refine XS.iconst X155.here hx rfl (hb hby d11_58) ?_
      refine XS.isub X155.here hx rfl (hb hby d11_59) rfl ?_
      show AT p e below T155 m 60 #[rv a0, rv a1, rv a2, iv (tk (tk (0 : Int32) b0 w0) b1 w1), iv (2 : Int32)] [(.int ((uc (uc u b0 w0) b1 w1) - (1 : Int32))), (.ref a0)] _
      refine st156 _ ?_
      refine XS.iconst X156.here hx rfl (hb hby d11_63) ?_
      refine XS.istoreN X156.here hx rfl (hb hby d11_64) rfl (l' := #[rv a0, rv a1, rv a2, iv (1 : Int32), iv (2 : Int32)]) rfl ?_
      exact kg)
     have hj170 : (uc (uc (uc u b0 w0) b1 w1) b2 w2) = ((uc (uc u b0 w0) b1 w1) - (1 : Int32)) := by simp only [dc, uc, tk, if_neg hc127, if_pos hc135, if_pos hc154]
     have hj171 : (dc b2 w2) = (w2 - (1 : Int32)) := by simp only [dc, uc, tk, if_neg hc127, if_pos hc135, if_pos hc154]
     have hj172 : (tk (tk (tk (0 : Int32) b0 w0) b1 w1) b2 w2) = (1 : Int32) := by simp only [dc, uc, tk, if_neg hc127, if_pos hc135, if_pos hc154]
     exact ⟨_, _, _, X156, e156, N156, K156, O156, E156_157, F156_158, F156_159, (by rw [hj170]; exact F156_160), (by rw [hj171]; exact V156_161), V156_162, E156_163, F156_164, F156_165, F156_166, X156_167, E156_168, (by rw [hj172]; exact pre169)⟩
    ·
     have pre173 : ∀ tg, AT p e below T151 m 65 #[rv a0, rv a1, rv a2, iv (1 : Int32), iv (2 : Int32)] [] tg → Steps p.tables e below S0 tg := fun tg kg => pre153 tg (by
      refine XS.ifYes X151.here hx rfl (pc0 := 50) (pc' := 63) rfl (hb hby d11_50) rfl (XT.i0_ne_t hc154) (by decide) (by decide) ?_
      refine XS.iconst X151.here hx rfl (hb hby d11_63) ?_
      refine XS.istoreN X151.here hx rfl (hb hby d11_64) rfl (l' := #[rv a0, rv a1, rv a2, iv (1 : Int32), iv (2 : Int32)]) rfl ?_
      exact kg)
     have hj174 : (uc (uc (uc u b0 w0) b1 w1) b2 w2) = (uc (uc u b0 w0) b1 w1) := by simp only [dc, uc, tk, if_neg hc127, if_pos hc135, if_neg hc154]
     have hj175 : (dc b2 w2) = (w2 - (1 : Int32)) := by simp only [dc, uc, tk, if_neg hc127, if_pos hc135, if_neg hc154]
     have hj176 : (tk (tk (tk (0 : Int32) b0 w0) b1 w1) b2 w2) = (1 : Int32) := by simp only [dc, uc, tk, if_neg hc127, if_pos hc135, if_neg hc154]
     exact ⟨_, _, _, X151, e151, N138, K138, O138, E138_140, F138_141, F138_142, (by rw [hj174]; exact F138_143), (by rw [hj175]; exact V138_139), V138_144, E138_145, F138_146, F138_147, F138_148, X138_149, E138_150, (by rw [hj176]; exact pre173)⟩
   ·
    have pre177 : ∀ tg, AT p e below T132 m 65 #[rv a0, rv a1, rv a2, iv (tk (tk (0 : Int32) b0 w0) b1 w1), iv (2 : Int32)] [] tg → Steps p.tables e below S0 tg := fun tg kg => pre134 tg (by
     refine XS.ifYes X132.here hx rfl (pc0 := 29) (pc' := 65) rfl (hb hby d11_29) rfl (XT.i0_le_t hc135) (by decide) (by decide) ?_
     exact kg)
    have hj178 : (uc (uc (uc u b0 w0) b1 w1) b2 w2) = (uc (uc u b0 w0) b1 w1) := by simp only [dc, uc, tk, if_neg hc127, if_neg hc135]
    have hj179 : (dc b2 w2) = w2 := by simp only [dc, uc, tk, if_neg hc127, if_neg hc135]
    have hj180 : (tk (tk (tk (0 : Int32) b0 w0) b1 w1) b2 w2) = (tk (tk (0 : Int32) b0 w0) b1 w1) := by simp only [dc, uc, tk, if_neg hc127, if_neg hc135]
    exact ⟨_, _, _, X132, e132, N64, K64, O64, J64_0, J64_1, J64_2, (by rw [hj178]; exact J64_3), (by rw [hj179]; exact J64_4), J64_5, J64_6, J64_7, J64_8, J64_9, J64_10, J64_11, (by rw [hj180]; exact pre177)⟩
 obtain ⟨T181, X181, e181, st181⟩ := getF X124 hx hZ hown (host := "") (Or.inl (ow hw 46 rfl)) Via.refl e124 J124_1 (g := (mkF m 8 #[rv a0, rv a1, rv a2, iv (tk (tk (tk (0 : Int32) b0 w0) b1 w1) b2 w2), iv (3 : Int32)] [(.ref a0), (.int (3 : Int32))])) rfl rfl (hb hby d11_8)
 obtain ⟨cl182, Ar182, q182, S182, N182, H182, G182⟩ := id J124_4
 have pre183 : ∀ tg, AT p e below T181 m 72 #[rv a0, rv a1, rv a2, iv (tk (tk (tk (0 : Int32) b0 w0) b1 w1) b2 w2), iv (3 : Int32)] [(.int (tk (tk (tk (0 : Int32) b0 w0) b1 w1) b2 w2))] tg → Steps p.tables e below S0 tg := fun tg kg => pre124 tg (by
  refine XS.iinc X124.here hx rfl (hb hby d11_65) rfl (l' := #[rv a0, rv a1, rv a2, iv (tk (tk (tk (0 : Int32) b0 w0) b1 w1) b2 w2), iv (3 : Int32)]) rfl ?_
  refine XS.goto X124.here hx rfl (pc0 := 68) (pc' := 5) rfl (hb hby d11_68) (by decide) (by decide) ?_
  refine XS.iload X124.here hx rfl (hb hby d11_5) rfl ?_
  refine XS.aloadN X124.here hx rfl (hb hby d11_7) rfl rfl ?_
  refine st181 _ ?_
  refine X181.arraylength hx (by rw [e181]; exact Ar182.1) (State.isArrayOf_alike hZ.alike Ar182.2.1) (g := (mkF m 11 #[rv a0, rv a1, rv a2, iv (tk (tk (tk (0 : Int32) b0 w0) b1 w1) b2 w2), iv (3 : Int32)] [(.ref wa), (.int (3 : Int32))])) rfl rfl (hb hby d11_11) _ ?_
  rw [len_of S182 N182]
  show AT p e below T181 m 12 #[rv a0, rv a1, rv a2, iv (tk (tk (tk (0 : Int32) b0 w0) b1 w1) b2 w2), iv (3 : Int32)] [(.int (3 : Int32)), (.int (3 : Int32))] _
  refine XS.icmpYes X181.here hx rfl (pc0 := 12) (pc' := 71) rfl (hb hby d11_12) rfl (XT.ii_ge_t ((by decide) : ¬ ((3 : Int32) < (3 : Int32)))) (by decide) (by decide) ?_
  refine XS.iloadN X181.here hx rfl (hb hby d11_71) rfl ?_
  exact kg)
 rcases Decidable.em ((tk (tk (tk (0 : Int32) b0 w0) b1 w1) b2 w2) = (0 : Int32)) with hc184 | hc184
 ·
  obtain ⟨fs, hr, hrun, hended, hW, hsame⟩ := X181.leave (v := none) (fun _ => rfl)
  subst hS0
  refine ⟨_, _, pre183 _ ?_, hrun, hended, _, _, rfl, ?_, ⟨_, rfl⟩, hW, hsame.mono (by decide) (by decide)⟩
  ·
   refine XS.ifYes X181.here hx rfl (pc0 := 72) (pc' := 86) rfl (hb hby d11_72) rfl (XT.i0_eq_t hc184) (by decide) (by decide) ?_
   exact X181.returnOut hx Bd.returns (hb hby d11_86) hr
  ·
   show Q11_3 Z a0 a1 a2 w_EE0 w_DEE1 k_EE0 k_DEE1 wa kw kz b0 b1 b2 w0 w1 w2 u li mc sz es ke lo bn h0 n0 _ T181.heap _
   rw [e181]
   exact ⟨(dc b0 w0), (dc b1 w1), (dc b2 w2), (uc (uc (uc u b0 w0) b1 w1) b2 w2), mc, sz, es, ke, [], rfl, N124, K124, J124_0, J124_1, J124_2, J124_3, J124_4, rfl, rfl, rfl, rfl, J124_6, J124_7, J124_8, J124_9, (J124_10).up, all0, (Or.inl rfl)⟩
 ·
  have pre185 : ∀ tg, AT p e below T181 m 75 #[rv a0, rv a1, rv a2, iv (tk (tk (tk (0 : Int32) b0 w0) b1 w1) b2 w2), iv (3 : Int32)] [] tg → Steps p.tables e below S0 tg := fun tg kg => pre183 tg (by
   refine XS.ifNo X181.here hx rfl (hb hby d11_72) rfl (XT.i0_eq_f hc184) ?_
   exact kg)
  rcases J124_10 with ⟨hd1, hd2⟩ | ⟨hg, hsr, hov, vs, hV⟩
  ·
   have Fd186 : Fld Z h124 li "java/util/ArrayList" "elementData" "[Ljava/lang/Object;" (.ref w_DEE1) := by have q := J124_9; rw [hd1] at q; exact q
   have Fd187 : Fld Z h124 li "java/util/ArrayList" "size" "I" (.int (0 : Int32)) := by have q := J124_8; rw [hd2] at q; exact q
   obtain ⟨T188, X188, e188, st188⟩ := getF X181 hx hZ hown (host := "") (Or.inl (ow hw 43 rfl)) Via.refl e181 J124_2 (g := (mkF m 76 #[rv a0, rv a1, rv a2, iv (tk (tk (tk (0 : Int32) b0 w0) b1 w1) b2 w2), iv (3 : Int32)] [(.ref a0)])) rfl rfl (hb hby d11_76)
   obtain ⟨cq189, kq189, q189a, q189b, q189c⟩ := isOf hZ e188 J124_6
   obtain ⟨_, _, ⟨T189, L189, k189, n189⟩, -, X189, ⟨Lc189, hQ189, l189, y189, z189⟩, st189⟩ := X188.interfaceBack hx (xi := (⟨"java/util/List", "add", "(Ljava/lang/Object;)Z"⟩ : MethodName)) (y := y13) hown (mvT hZ (ow hw 70 rfl)) (mvT hZ (ow hw 71 rfl)) (mvT hZ (ow hw 72 rfl)) (mvT hZ (ow hw 73 rfl)) (mvT hZ (ow hw 74 rfl)) (mvT hZ (ow hw 75 rfl)) (mvT hZ (ow hw 76 rfl)) (mvT hZ (ow hw 77 rfl)) (by decide) (backOf (W := 0) (rm13_e l Z ar hw [] li a1 w_EE0 w_DEE1 k_EE0 k_DEE1 mc h124 n0 O124 HW J124_6 J124_11 J124_7 Fd186 Fd187 pf16 pf23) hZ (ow hw 78 rfl) (ow hw 21 rfl) (by decide) (by decide)) q189a q189b q189c (g := (mkF m 80 #[rv a0, rv a1, rv a2, iv (tk (tk (tk (0 : Int32) b0 w0) b1 w1) b2 w2), iv (3 : Int32)] [(.ref a1), (.ref li)])) rfl (by rw [hml]; rfl) (Steps.refl _) (argsL := [(.ref a1)]) (rest := []) (lenOf pd_7 rfl) rfl (by show 2 * 0 + _ ≤ _; exact Nat.le_of_eq rfl) (hb hby d11_80) (fun _ _ => ⟨rfl, e188, (by decide : 0 + 1 ≤ _), (by decide : 0 + 10 ≤ _)⟩)
   dsimp only [Pt.U, Pt.locs, Pt.cells, Pt.slots] at X189 l189 y189 z189 st189 hQ189
   subst l189 y189 z189
   obtain ⟨es_189, ke_189, rfl, N189q, Kq189, u189_0, u189_1, u189_2, u189_3, u189_4, u189_5, u189_6⟩ := hQ189
   have N189 := Fr.app N124 N189q
   have E189_190 := J124_0.keep Kq189
   have F189_191 := J124_1.keep Kq189 (ninS pf18 nin0)
   have F189_192 := J124_2.keep Kq189 (ninS pf18 nin0)
   have F189_193 := J124_3.keep Kq189 (ninS pf18 nin0)
   have V189_194 := J124_4.keep Kq189 (ninS pf19 nin0)
   have V189_195 := J124_5.keep Kq189 (ninS pf20 nin0)
   have E189_196 := J124_6.keep Kq189
   have E189_197 := J124_11.keep Kq189
   have K189 := K124.trans Kq189 (allS (Or.inl (List.mem_of_getElem? (i := 2) rfl)) all0)
   have O189 := O124.keep Kq189 (allS pf16 all0)
   have sz198 : h0.size ≤ es_189 := Nat.le_trans K124.1 u189_6
   have gn198 : n0 ≤ es_189 := Nat.le_trans (Nat.le_trans (Nat.le_of_eq O124.1.symm) O124.2.1) u189_6
   have ne199 : a0 ≠ es_189 := Nat.ne_of_lt (Nat.lt_of_lt_of_le (J124_0).lt u189_6)
   have ne200 : wa ≠ es_189 := Nat.ne_of_lt (Nat.lt_of_lt_of_le (J124_4).lt u189_6)
   have ne201 : a2 ≠ es_189 := Nat.ne_of_lt (Nat.lt_of_lt_of_le (J124_5).lt u189_6)
   have ne202 : li ≠ es_189 := Nat.ne_of_lt (Nat.lt_of_lt_of_le (J124_6).lt u189_6)
   have ne203 : a1 ≠ es_189 := Nat.ne_of_lt (Nat.lt_of_lt_of_le (J124_11).lt u189_6)
   obtain ⟨fs, hr, hrun, hended, hW, hsame⟩ := X189.leave (v := none) (fun _ => rfl)
   subst hS0
   refine ⟨_, _, pre185 _ ?_, hrun, hended, _, _, rfl, ?_, ⟨_, rfl⟩, hW, hsame.mono (by decide) (by decide)⟩
   ·
    refine XS.aloadN X181.here hx rfl (hb hby d11_75) rfl rfl ?_
    refine st188 _ ?_
    refine XS.aloadN X188.here hx rfl (hb hby d11_79) rfl rfl ?_
    refine st189.trans ?_
    refine XS.pop X189.here hx rfl (hb hby d11_85) rfl rfl ?_
    exact X189.returnOut hx Bd.returns (hb hby d11_86) hr
   ·
    show Q11_3 Z a0 a1 a2 w_EE0 w_DEE1 k_EE0 k_DEE1 wa kw kz b0 b1 b2 w0 w1 w2 u li mc sz es ke lo bn h0 n0 _ T189.heap _
    exact ⟨(dc b0 w0), (dc b1 w1), (dc b2 w2), (uc (uc (uc u b0 w0) b1 w1) b2 w2), (mc + (1 : Int32)), (1 : Int32), es_189, ke_189, [], rfl, N189, K189, E189_190, F189_191, F189_192, F189_193, V189_194, rfl, rfl, rfl, rfl, E189_196, u189_1, u189_2, u189_3, (Or.inr ⟨Nat.le_trans hlo2 sz198, ⟨by decide, by have k1 : ((1 : Int32)).toInt = 1 := rfl; omega⟩, u189_5, _, u189_4⟩), all0, (Or.inr sz198)⟩
  ·
   have hsz : 1 ≤ (sz).toInt ∧ (sz).toInt ≤ 3 := ⟨hsr.1, by omega⟩
   have hge : n0 ≤ es := Nat.le_trans hlo1 hg
   have K204 : Keep h0 h124 [a0, wa, li, es] := own_kmono K124 fun x q => List.mem_append_left [es] q
   obtain ⟨T205, X205, e205, st205⟩ := getF X181 hx hZ hown (host := "") (Or.inl (ow hw 43 rfl)) Via.refl e181 J124_2 (g := (mkF m 76 #[rv a0, rv a1, rv a2, iv (tk (tk (tk (0 : Int32) b0 w0) b1 w1) b2 w2), iv (3 : Int32)] [(.ref a0)])) rfl rfl (hb hby d11_76)
   obtain ⟨cq206, kq206, q206a, q206b, q206c⟩ := isOf hZ e205 J124_6
   obtain ⟨_, _, ⟨T206, L206, k206, n206⟩, -, X206, ⟨Lc206, hQ206, l206, y206, z206⟩, st206⟩ := X205.interfaceBack hx (xi := (⟨"java/util/List", "add", "(Ljava/lang/Object;)Z"⟩ : MethodName)) (y := y13) hown (mvT hZ (ow hw 70 rfl)) (mvT hZ (ow hw 71 rfl)) (mvT hZ (ow hw 72 rfl)) (mvT hZ (ow hw 73 rfl)) (mvT hZ (ow hw 74 rfl)) (mvT hZ (ow hw 75 rfl)) (mvT hZ (ow hw 76 rfl)) (mvT hZ (ow hw 77 rfl)) (by decide) (backOf (W := 0) (rm13_g l Z ar hw [] li a1 mc sz es ke vs h124 n0 O124 J124_6 J124_11 J124_7 J124_8 pf16 hge pf23 pf27 (Ne.symm pf28) J124_9 hV hov hsz) hZ (ow hw 78 rfl) (ow hw 21 rfl) (by decide) (by decide)) q206a q206b q206c (g := (mkF m 80 #[rv a0, rv a1, rv a2, iv (tk (tk (tk (0 : Int32) b0 w0) b1 w1) b2 w2), iv (3 : Int32)] [(.ref a1), (.ref li)])) rfl (by rw [hml]; rfl) (Steps.refl _) (argsL := [(.ref a1)]) (rest := []) (lenOf pd_7 rfl) rfl (by show 2 * 0 + _ ≤ _; exact Nat.le_of_eq rfl) (hb hby d11_80) (fun _ _ => ⟨rfl, e205, (by decide : 0 + 0 ≤ _), (by decide : 0 + 0 ≤ _)⟩)
   dsimp only [Pt.U, Pt.locs, Pt.cells, Pt.slots] at X206 l206 y206 z206 st206 hQ206
   subst l206 y206 z206
   obtain ⟨vz_206, rfl, N206q, Kq206, u206_0, u206_1, u206_2, u206_3, u206_4⟩ := hQ206
   have N206 := Fr.app N124 N206q
   have E206_207 := J124_0.keep Kq206
   have F206_208 := J124_1.keep Kq206 (ninS pf18 (ninS pf24 nin0))
   have F206_209 := J124_2.keep Kq206 (ninS pf18 (ninS pf24 nin0))
   have F206_210 := J124_3.keep Kq206 (ninS pf18 (ninS pf24 nin0))
   have V206_211 := J124_4.keep Kq206 (ninS pf19 (ninS pf25 nin0))
   have V206_212 := J124_5.keep Kq206 (ninS pf20 (ninS pf26 nin0))
   have E206_213 := J124_6.keep Kq206
   have E206_214 := J124_11.keep Kq206
   have K206 := K204.trans Kq206 (allS (Or.inl (List.mem_of_getElem? (i := 2) rfl)) (allS (Or.inl (List.mem_of_getElem? (i := 3) rfl)) all0))
   have O206 := O124.keep Kq206 (allS pf16 (allS hge all0))
   obtain ⟨fs, hr, hrun, hended, hW, hsame⟩ := X206.leave (v := none) (fun _ => rfl)
   subst hS0
   refine ⟨_, _, pre185 _ ?_, hrun, hended, _, _, rfl, ?_, ⟨_, rfl⟩, hW, hsame.mono (by decide) (by decide)⟩
   ·
    refine XS.aloadN X181.here hx rfl (hb hby d11_75) rfl rfl ?_
    refine st205 _ ?_
    refine XS.aloadN X205.here hx rfl (hb hby d11_79) rfl rfl ?_
    refine st206.trans ?_
    refine XS.pop X206.here hx rfl (hb hby d11_85) rfl rfl ?_
    exact X206.returnOut hx Bd.returns (hb hby d11_86) hr
   ·
    show Q11_3 Z a0 a1 a2 w_EE0 w_DEE1 k_EE0 k_DEE1 wa kw kz b0 b1 b2 w0 w1 w2 u li mc sz es ke lo bn h0 n0 _ T206.heap _
    exact ⟨(dc b0 w0), (dc b1 w1), (dc b2 w2), (uc (uc (uc u b0 w0) b1 w1) b2 w2), (mc + (1 : Int32)), (sz + (1 : Int32)), es, ke, [es], rfl, N206, K206, E206_207, F206_208, F206_209, F206_210, V206_211, rfl, rfl, rfl, rfl, E206_213, u206_1, u206_2, u206_3, (Or.inr ⟨hg, (by have h1 := c_iadd sz (1 : Int32); have k1 : ((1 : Int32)).toInt = 1 := rfl; have r1 := rng32 (sz + (1 : Int32)); omega), hov, _, u206_4⟩), (allS ⟨rfl, hg⟩ all0), (Or.inl rfl)⟩


theorem own_and3 (x : Int32) : (x &&& (3 : Int32)) = (0 : Int32) ∨ (x &&& (3 : Int32)) = (1 : Int32) ∨ (x &&& (3 : Int32)) = (2 : Int32) ∨ (x &&& (3 : Int32)) = (3 : Int32) := by
  have h1 := c_mask x (3 : Int32) 2 (by decide) (by decide)
  have h2 : 0 ≤ x.toInt % (2 ^ 2 : Nat) := Int.emod_nonneg _ (by decide)
  have h3 : x.toInt % (2 ^ 2 : Nat) < 4 := Int.emod_lt_of_pos _ (by decide)
  have l0 : ((0 : Int32)).toInt = 0 := rfl
  have l1 : ((1 : Int32)).toInt = 1 := rfl
  have l2 : ((2 : Int32)).toInt = 2 := rfl
  have l3 : ((3 : Int32)).toInt = 3 := rfl
  simp only [← Int32.toInt_inj, l0, l1, l2, l3]
  omega
theorem own_s (x : Int32) : 1 ≤ ((1 : Int32) + (((x.toUInt32 >>> ((2 : Int32) &&& 31).toUInt32).toInt32) % (3 : Int32))).toInt ∧ ((1 : Int32) + (((x.toUInt32 >>> ((2 : Int32) &&& 31).toUInt32).toInt32) % (3 : Int32))).toInt ≤ 3 := by
  have h1 := c_iushr x (2 : Int32) 2 (by decide) (by decide)
  generalize hy : (x.toUInt32 >>> ((2 : Int32) &&& 31).toUInt32).toInt32 = y at *
  have h2 : 0 ≤ x.toInt % 4294967296 := Int.emod_nonneg _ (by decide)
  have h3 : 0 ≤ y.toInt := by rw [h1]; exact Int.ediv_nonneg h2 (by decide)
  have h4 := (c_irem y (3 : Int32) 3 rfl).1 h3
  have h5 := c_iadd (1 : Int32) (y % (3 : Int32))
  have l1 : ((1 : Int32)).toInt = 1 := rfl
  have h6 := rng32 ((1 : Int32) + (y % (3 : Int32)))
  omega
def ps (w : Int32) : Int := if w = (0 : Int32) then 0 else 1
theorem own_ps (w : Int32) : (ps w = 0 ∧ w.toInt = 0) ∨ (ps w = 1 ∧ ¬ w.toInt = 0) := by
  have l0 : ((0 : Int32)).toInt = 0 := rfl
  unfold ps
  split
  · rename_i h; exact Or.inl ⟨rfl, by rw [h]; rfl⟩
  · rename_i h; exact Or.inr ⟨rfl, fun q => h (by rw [← Int32.toInt_inj, l0]; exact q)⟩
def Sat (S a : Int) (w : Int32) : Prop := (a < S ∧ w.toInt = S - a) ∨ (S ≤ a ∧ w.toInt = 0)
theorem own_dc {b w : Int32} {S a : Int} (hS : 1 ≤ S ∧ S ≤ 3) (hb : b = 0 ∨ b = 1) (ha : 0 ≤ a) (e : Sat S a w) : Sat S (a + b.toInt) (dc b w) := by
  have l0 : ((0 : Int32)).toInt = 0 := rfl
  have l1 : ((1 : Int32)).toInt = 1 := rfl
  unfold Sat at *
  unfold dc
  rcases hb with rfl | rfl
  · rw [if_pos rfl, l0]; omega
  · rw [if_neg (by decide : ¬ (1 : Int32) = (0 : Int32)), l1]
    have h1 := c_isub w (1 : Int32)
    have h2 := rng32 (w - (1 : Int32))
    split
    · rename_i q; rw [Int32.lt_iff_toInt_lt, l0] at q; omega
    · rename_i q; rw [Int32.lt_iff_toInt_lt, l0] at q; omega
theorem own_uc {u b w : Int32} (hb : b = 0 ∨ b = 1) (hw : 0 ≤ w.toInt ∧ w.toInt ≤ 3) (hu : 0 ≤ u.toInt ∧ u.toInt ≤ 3) : (uc u b w).toInt = u.toInt - ps w + ps (dc b w) := by
  have l0 : ((0 : Int32)).toInt = 0 := rfl
  have l1 : ((1 : Int32)).toInt = 1 := rfl
  unfold uc dc
  rcases hb with rfl | rfl
  · rw [if_pos rfl, if_pos rfl]; omega
  · rw [if_neg (by decide : ¬ (1 : Int32) = (0 : Int32)), if_neg (by decide : ¬ (1 : Int32) = (0 : Int32))]
    have h1 := c_isub w (1 : Int32)
    have h2 := rng32 (w - (1 : Int32))
    have h3 := c_isub u (1 : Int32)
    have h4 := rng32 (u - (1 : Int32))
    have p1 := own_ps w
    have p2 := own_ps (w - (1 : Int32))
    rcases Decidable.em ((0 : Int32) < w) with q | q
    · rw [if_pos q, if_pos q]
      rw [Int32.lt_iff_toInt_lt, l0] at q
      rcases Decidable.em ((w - (1 : Int32)) = (0 : Int32)) with r | r
      · rw [if_pos r]
        have r' : (w - (1 : Int32)).toInt = 0 := by rw [r]; rfl
        omega
      · rw [if_neg r]
        have r' : ¬ (w - (1 : Int32)).toInt = 0 := fun z => r (by rw [← Int32.toInt_inj, l0]; exact z)
        omega
    · rw [if_neg q, if_neg q]; omega
theorem own_h0 (r a b c d : Int32) : f12 r (0 : Int32) a b c d = (0 : Int32) := by
  rw [f12, if_pos (by decide : (0 : Int32) < (1 : Int32))]
theorem own_h1 (r a b c d : Int32) : f12 r (1 : Int32) a b c d = (0 : Int32) + f2 a r := by
  rw [f12, if_neg (by decide : ¬ (1 : Int32) < (1 : Int32)), if_pos (by decide : (1 : Int32) < (2 : Int32))]
theorem own_h2 (r a b c d : Int32) : f12 r (2 : Int32) a b c d = ((0 : Int32) + f2 a r) + f2 b r := by
  rw [f12, if_neg (by decide : ¬ (2 : Int32) < (1 : Int32)), if_neg (by decide : ¬ (2 : Int32) < (2 : Int32)), if_pos (by decide : (2 : Int32) < (3 : Int32))]
theorem own_h3 (r a b c d : Int32) : f12 r (3 : Int32) a b c d = (((0 : Int32) + f2 a r) + f2 b r) + f2 c r := by
  rw [f12, if_neg (by decide : ¬ (3 : Int32) < (1 : Int32)), if_neg (by decide : ¬ (3 : Int32) < (2 : Int32)), if_neg (by decide : ¬ (3 : Int32) < (3 : Int32)), if_pos (by decide : (3 : Int32) < (4 : Int32))]
theorem own_h4 (r a b c d : Int32) : f12 r (4 : Int32) a b c d = ((((0 : Int32) + f2 a r) + f2 b r) + f2 c r) + f2 d r := by
  rw [f12, if_neg (by decide : ¬ (4 : Int32) < (1 : Int32)), if_neg (by decide : ¬ (4 : Int32) < (2 : Int32)), if_neg (by decide : ¬ (4 : Int32) < (3 : Int32)), if_neg (by decide : ¬ (4 : Int32) < (4 : Int32))]
theorem own_b01 (m r : Int32) : 0 ≤ (f2 m r).toInt ∧ (f2 m r).toInt ≤ 1 := by
  rcases own_bit m r with h | h <;> rw [h] <;> decide
theorem own_hv (r a b c d : Int32) : (f12 r (0 : Int32) a b c d).toInt = 0 ∧ (f12 r (1 : Int32) a b c d).toInt = (f2 a r).toInt ∧ (f12 r (2 : Int32) a b c d).toInt = (f2 a r).toInt + (f2 b r).toInt ∧ (f12 r (3 : Int32) a b c d).toInt = (f2 a r).toInt + (f2 b r).toInt + (f2 c r).toInt ∧ (f12 r (4 : Int32) a b c d).toInt = (f2 a r).toInt + (f2 b r).toInt + (f2 c r).toInt + (f2 d r).toInt := by
  have l0 : ((0 : Int32)).toInt = 0 := rfl
  rw [own_h0, own_h1, own_h2, own_h3, own_h4]
  have a1 := own_b01 a r; have a2 := own_b01 b r; have a3 := own_b01 c r; have a4 := own_b01 d r
  generalize f2 a r = x1 at *
  generalize f2 b r = x2 at *
  generalize f2 c r = x3 at *
  generalize f2 d r = x4 at *
  have e1 := c_iadd (0 : Int32) x1; have r1 := rng32 ((0 : Int32) + x1)
  have e2 := c_iadd ((0 : Int32) + x1) x2; have r2 := rng32 (((0 : Int32) + x1) + x2)
  have e3 := c_iadd (((0 : Int32) + x1) + x2) x3; have r3 := rng32 ((((0 : Int32) + x1) + x2) + x3)
  have e4 := c_iadd ((((0 : Int32) + x1) + x2) + x3) x4; have r4 := rng32 (((((0 : Int32) + x1) + x2) + x3) + x4)
  have f1 : ((0 : Int32) + x1).toInt = x1.toInt := by omega
  have f2' : (((0 : Int32) + x1) + x2).toInt = x1.toInt + x2.toInt := by omega
  have f3 : ((((0 : Int32) + x1) + x2) + x3).toInt = x1.toInt + x2.toInt + x3.toInt := by omega
  exact ⟨rfl, f1, f2', f3, by omega⟩
theorem own_i (u : Int32) (p : Prop) [Decidable p] (h : u.toInt = 0 ↔ p) : f9 u = if p then (1 : Int32) else (0 : Int32) := by
  have l0 : ((0 : Int32)).toInt = 0 := rfl
  unfold f9
  rcases Decidable.em p with q | q
  · rw [if_pos q, if_pos (by rw [← Int32.toInt_inj, l0]; exact h.mpr q)]
  · rw [if_neg q, if_neg (fun z => q (h.mp (by rw [z]; rfl)))]
theorem own_lti (a b : Int32) : a < b ↔ a.toInt < b.toInt := Int32.lt_iff_toInt_lt
theorem own_fin1 {u w0 s k a b c d : Int32} (hs : 1 ≤ s.toInt ∧ s.toInt ≤ 3) (hu : u.toInt = ps w0) (e0 : Sat s.toInt (f12 (0 : Int32) k a b c d).toInt w0) : f9 u = f10 (1 : Int32) s k a b c d := by
  have p0 := own_ps w0
  unfold Sat at *
  rw [own_i u (¬ f12 (0 : Int32) k a b c d < s) (by rw [own_lti]; omega)]
  unfold f10
  simp only [if_neg (by decide : ¬ (1 : Int32) < (1 : Int32)), if_pos (by decide : (1 : Int32) < (2 : Int32)), if_pos (by decide : (1 : Int32) < (3 : Int32))]
  by_cases q0 : f12 (0 : Int32) k a b c d < s <;> simp [q0]
theorem own_fin2 {u w0 w1 s k a b c d : Int32} (hs : 1 ≤ s.toInt ∧ s.toInt ≤ 3) (hu : u.toInt = ps w0 + ps w1) (e0 : Sat s.toInt (f12 (0 : Int32) k a b c d).toInt w0) (e1 : Sat s.toInt (f12 (1 : Int32) k a b c d).toInt w1) : f9 u = f10 (2 : Int32) s k a b c d := by
  have p0 := own_ps w0
  have p1 := own_ps w1
  unfold Sat at *
  rw [own_i u (¬ f12 (0 : Int32) k a b c d < s ∧ ¬ f12 (1 : Int32) k a b c d < s) (by rw [own_lti, own_lti]; omega)]
  unfold f10
  simp only [if_neg (by decide : ¬ (2 : Int32) < (1 : Int32)), if_neg (by decide : ¬ (2 : Int32) < (2 : Int32)), if_pos (by decide : (2 : Int32) < (3 : Int32))]
  by_cases q0 : f12 (0 : Int32) k a b c d < s <;> by_cases q1 : f12 (1 : Int32) k a b c d < s <;> simp [q0, q1]
theorem own_fin3 {u w0 w1 w2 s k a b c d : Int32} (hs : 1 ≤ s.toInt ∧ s.toInt ≤ 3) (hu : u.toInt = ps w0 + ps w1 + ps w2) (e0 : Sat s.toInt (f12 (0 : Int32) k a b c d).toInt w0) (e1 : Sat s.toInt (f12 (1 : Int32) k a b c d).toInt w1) (e2 : Sat s.toInt (f12 (2 : Int32) k a b c d).toInt w2) : f9 u = f10 (3 : Int32) s k a b c d := by
  have p0 := own_ps w0
  have p1 := own_ps w1
  have p2 := own_ps w2
  unfold Sat at *
  rw [own_i u (¬ f12 (0 : Int32) k a b c d < s ∧ ¬ f12 (1 : Int32) k a b c d < s ∧ ¬ f12 (2 : Int32) k a b c d < s) (by rw [own_lti, own_lti, own_lti]; omega)]
  unfold f10
  simp only [if_neg (by decide : ¬ (3 : Int32) < (1 : Int32)), if_neg (by decide : ¬ (3 : Int32) < (2 : Int32)), if_neg (by decide : ¬ (3 : Int32) < (3 : Int32))]
  by_cases q0 : f12 (0 : Int32) k a b c d < s <;> by_cases q1 : f12 (1 : Int32) k a b c d < s <;> by_cases q2 : f12 (2 : Int32) k a b c d < s <;> simp [q0, q1, q2]
theorem own_rw {S a : Int} {w : Int32} (hS : 1 ≤ S ∧ S ≤ 3) (ha : 0 ≤ a) (e : Sat S a w) : 0 ≤ w.toInt ∧ w.toInt ≤ 3 := by unfold Sat at e; omega
theorem own_us1 {u b0 w0 : Int32} (h0 : b0 = 0 ∨ b0 = 1) (r0 : 0 ≤ w0.toInt ∧ w0.toInt ≤ 3) (hu : u.toInt = ps w0) : (uc u b0 w0).toInt = ps (dc b0 w0) := by
  have p0 := own_ps w0
  have := own_uc (u := u) h0 r0 (by omega)
  omega
theorem own_us2 {u b0 b1 w0 w1 : Int32} (h0 : b0 = 0 ∨ b0 = 1) (h1 : b1 = 0 ∨ b1 = 1) (r0 : 0 ≤ w0.toInt ∧ w0.toInt ≤ 3) (r1 : 0 ≤ w1.toInt ∧ w1.toInt ≤ 3) (hu : u.toInt = ps w0 + ps w1) : (uc (uc u b0 w0) b1 w1).toInt = ps (dc b0 w0) + ps (dc b1 w1) := by
  have p0 := own_ps w0; have p1 := own_ps w1; have q0 := own_ps (dc b0 w0)
  have a := own_uc (u := u) h0 r0 (by omega)
  have b := own_uc (u := uc u b0 w0) h1 r1 (by omega)
  omega
theorem own_us3 {u b0 b1 b2 w0 w1 w2 : Int32} (h0 : b0 = 0 ∨ b0 = 1) (h1 : b1 = 0 ∨ b1 = 1) (h2 : b2 = 0 ∨ b2 = 1) (r0 : 0 ≤ w0.toInt ∧ w0.toInt ≤ 3) (r1 : 0 ≤ w1.toInt ∧ w1.toInt ≤ 3) (r2 : 0 ≤ w2.toInt ∧ w2.toInt ≤ 3) (hu : u.toInt = ps w0 + ps w1 + ps w2) : (uc (uc (uc u b0 w0) b1 w1) b2 w2).toInt = ps (dc b0 w0) + ps (dc b1 w1) + ps (dc b2 w2) := by
  have p0 := own_ps w0; have p1 := own_ps w1; have p2 := own_ps w2; have q0 := own_ps (dc b0 w0); have q1 := own_ps (dc b1 w1)
  have a := own_uc (u := u) h0 r0 (by omega)
  have b := own_uc (u := uc u b0 w0) h1 r1 (by omega)
  have c := own_uc (u := uc (uc u b0 w0) b1 w1) h2 r2 (by omega)
  omega
theorem own_st {s w : Int32} {a : Int} (hs : 1 ≤ s.toInt ∧ s.toInt ≤ 3) (ha : a = 0) : Sat s.toInt a s := by unfold Sat; omega
theorem own_p1 {s : Int32} (hs : 1 ≤ s.toInt ∧ s.toInt ≤ 3) : ps s = 1 := by have := own_ps s; omega

theorem ef_0 (m : MethodId) (p0 : Int32) (p1 : Int32) (p2 : Int32) (p3 : Int32) (p4 : Int32) (p5 : Int32) : entryFrame m #[(.int p0), (.int p1), (.int p2), (.int p3), (.int p4), (.int p5)] maxLocals = mkF m 0 #[iv p0, iv p1, iv p2, iv p3, iv p4, iv p5, un, un, un, un, un, un, un, un, un, un] [] := by first | (simp [entryFrame, mkF, argsToLocals, Value.category, maxLocals]; done) | rfl
def Q0 (Z : State) (p0 : Int32) (p1 : Int32) (p2 : Int32) (p3 : Int32) (p4 : Int32) (p5 : Int32) (w_EE0 : Addr) (w_DEE1 : Addr) (k_EE0 : ClassId) (k_DEE1 : ClassId) (h0 : Heap) (n0 : Nat) (v : Option Value) (h : Heap) (L : List Loc) : Prop := v = some (.int 1) ∧ Fr n0 L
set_option maxRecDepth 65536 in
set_option maxHeartbeats 40000000 in
theorem rm0 (l : Launch) (Z : State) (ar : Array Value) (hw : ∀ d ∈ tables_1, d.before ar Z = true) (ws : List Jvm.Cond) (p0 : Int32) (p1 : Int32) (p2 : Int32) (p3 : Int32) (p4 : Int32) (p5 : Int32) (w_EE0 : Addr) (w_DEE1 : Addr) (k_EE0 : ClassId) (k_DEE1 : ClassId) (h0 : Heap) (n0 : Nat) (O0 : Old Z n0 h0) (HW : Wd Z w_EE0 w_DEE1 k_EE0 k_DEE1) :
    MetFree l x (head1 (Jvm.Cond.code x code maxLocals ret :: ws) room_1) (fun a U => a = #[(.int p0), (.int p1), (.int p2), (.int p3), (.int p4), (.int p5)] ∧ Z.Warmed39 U.vm ∧ U.heap = h0) (fun _ _ _ _ _ => True) (fun _ U o U' => ∃ v L, o = .returned v ∧ Q0 Z p0 p1 p2 p3 p4 p5 w_EE0 w_DEE1 k_EE0 k_DEE1 h0 n0 v U'.heap L ∧ FrameEnd U o U' L 32 128) := by
 refine MetFree.of_bodySF (plainFor_of_name pn_0) hisR ?_
 intro p e s m args below meth c s₁ Bd hml0 hP hK
 obtain ⟨rfl, hZ, hh⟩ := hP
 have hx := Bd.exec
 have hby := Bd.bytes
 have hml : c.maxLocals = 16 := hml0
 have hown : s.vm.findClass "com/example/filters_under_siege/filtersundersiege/CoverIsCompletePinLaw" = some m.cls := findClass_of_methodNamed Bd.named
 have hnm := (name_of_methodNamed Bd.named Bd.method).1
 have X0 : Stand p l e room_1 s m #[(.int p0), (.int p1), (.int p2), (.int p3), (.int p4), (.int p5)] below meth c s₁ [] 0 0 := Stand.of_body Bd
 have e0 : s₁.heap = h0 := by rw [← hh, Bd.state]; rfl
 have N0 := Fr.nil n0
 have Z0 : n0 ≤ h0.size := Nat.le_trans (Nat.le_of_eq O0.1.symm) O0.2.1
 obtain ⟨S0, hS0⟩ : ∃ z, z = s₁.setTop (entryFrame m #[(.int p0), (.int p1), (.int p2), (.int p3), (.int p4), (.int p5)] maxLocals) := ⟨_, rfl⟩
 have pre0 : ∀ tg, AT p e below s₁ m 0 #[iv p0, iv p1, iv p2, iv p3, iv p4, iv p5, un, un, un, un, un, un, un, un, un, un] [] tg → Steps p.tables e below S0 tg := fun tg kg => by rw [hS0]; exact castTop (ef_0 m p0 p1 p2 p3 p4 p5) kg
 obtain ⟨S_EMPTY_ELEMENTDATA, E_EE0, S_DEFAULTCAPACITY_EMPTY_ELEMENTDATA, E_DEE1, V_EE0, V_DEE1⟩ := id HW
 have pre1 : ∀ tg, AT p e below s₁ m 5 #[iv p0, iv p1, iv p2, iv p3, iv p4, iv p5, iv (p0 &&& (3 : Int32)), un, un, un, un, un, un, un, un, un] [] tg → Steps p.tables e below S0 tg := fun tg kg => pre0 tg (by
  refine XS.iloadN X0.here hx rfl (hb hby at_0) rfl ?_
  refine XS.iconst X0.here hx rfl (hb hby at_1) ?_
  refine XS.iand X0.here hx rfl (hb hby at_2) rfl ?_
  refine XS.istore X0.here hx rfl (hb hby at_3) rfl (l' := #[iv p0, iv p1, iv p2, iv p3, iv p4, iv p5, iv (p0 &&& (3 : Int32)), un, un, un, un, un, un, un, un, un]) rfl ?_
  exact kg)
 obtain ⟨rw_, hrw_⟩ : ∃ z, z = (p0 &&& (3 : Int32)) := ⟨_, rfl⟩
 have pre2 : ∀ tg, AT p e below s₁ m 5 #[iv p0, iv p1, iv p2, iv p3, iv p4, iv p5, iv rw_, un, un, un, un, un, un, un, un, un] [] tg → Steps p.tables e below S0 tg := by rw [hrw_]; exact pre1
 have hsrw_ : rw_ = (0 : Int32) ∨ rw_ = (1 : Int32) ∨ rw_ = (2 : Int32) ∨ rw_ = (3 : Int32) := by rw [hrw_]; exact own_and3 p0
 rcases hsrw_ with rfl | rfl | rfl | rfl
 ·
  have pre3 : ∀ tg, AT p e below s₁ m 22 #[iv p0, iv p1, iv p2, iv p3, iv p4, iv p5, iv (0 : Int32), iv ((1 : Int32) + (((p0.toUInt32 >>> ((2 : Int32) &&& 31).toUInt32).toInt32) % (3 : Int32))), un, un, un, un, un, un, un, un] [] tg → Steps p.tables e below S0 tg := fun tg kg => pre2 tg (by
   refine XS.iload X0.here hx rfl (hb hby at_5) rfl ?_
   refine XS.iconst X0.here hx rfl (hb hby at_7) ?_
   show AT p e below s₁ m 8 #[iv p0, iv p1, iv p2, iv p3, iv p4, iv p5, iv (0 : Int32), un, un, un, un, un, un, un, un, un] [(.int (3 : Int32)), (.int (0 : Int32))] _
   refine XS.icmpYes X0.here hx rfl (pc0 := 8) (pc' := 13) rfl (hb hby at_8) rfl (XT.ii_le_t ((by decide) : ¬ ((3 : Int32) < (0 : Int32)))) (by decide) (by decide) ?_
   refine XS.iconst X0.here hx rfl (hb hby at_13) ?_
   refine XS.iloadN X0.here hx rfl (hb hby at_14) rfl ?_
   refine XS.iconst X0.here hx rfl (hb hby at_15) ?_
   refine XS.iushr X0.here hx rfl (hb hby at_16) rfl ?_
   refine XS.iconst X0.here hx rfl (hb hby at_17) ?_
   refine iremM X0 hx rfl (hb hby at_18) rfl (by decide) ?_
   refine XS.iadd X0.here hx rfl (hb hby at_19) rfl ?_
   refine XS.istore X0.here hx rfl (hb hby at_20) rfl (l' := #[iv p0, iv p1, iv p2, iv p3, iv p4, iv p5, iv (0 : Int32), iv ((1 : Int32) + (((p0.toUInt32 >>> ((2 : Int32) &&& 31).toUInt32).toInt32) % (3 : Int32))), un, un, un, un, un, un, un, un]) rfl ?_
   exact kg)
  obtain ⟨sv, hsv⟩ : ∃ z, z = ((1 : Int32) + (((p0.toUInt32 >>> ((2 : Int32) &&& 31).toUInt32).toInt32) % (3 : Int32))) := ⟨_, rfl⟩
  have pre4 : ∀ tg, AT p e below s₁ m 22 #[iv p0, iv p1, iv p2, iv p3, iv p4, iv p5, iv (0 : Int32), iv sv, un, un, un, un, un, un, un, un] [] tg → Steps p.tables e below S0 tg := by rw [hsv]; exact pre3
  have hsv : 1 ≤ sv.toInt ∧ sv.toInt ≤ 3 := by rw [hsv]; exact own_s p0
  have pre5 : ∀ tg, AT p e below s₁ m 30 #[iv p0, iv p1, iv p2, iv p3, iv p4, iv p5, iv (0 : Int32), iv sv, iv ((p1 &&& (2147483647 : Int32)) % (5 : Int32)), un, un, un, un, un, un, un] [] tg → Steps p.tables e below S0 tg := fun tg kg => pre4 tg (by
   refine XS.iloadN X0.here hx rfl (hb hby at_22) rfl ?_
   refine X0.ldcInt hx hown (mvT hZ (ow hw 0 rfl)) (g := (mkF m 23 #[iv p0, iv p1, iv p2, iv p3, iv p4, iv p5, iv (0 : Int32), iv sv, un, un, un, un, un, un, un, un] [(.int p1)])) rfl (hb hby at_23) _ ?_
   refine XS.iand X0.here hx rfl (hb hby at_25) rfl ?_
   refine XS.iconst X0.here hx rfl (hb hby at_26) ?_
   refine iremM X0 hx rfl (hb hby at_27) rfl (by decide) ?_
   refine XS.istore X0.here hx rfl (hb hby at_28) rfl (l' := #[iv p0, iv p1, iv p2, iv p3, iv p4, iv p5, iv (0 : Int32), iv sv, iv ((p1 &&& (2147483647 : Int32)) % (5 : Int32)), un, un, un, un, un, un, un]) rfl ?_
   exact kg)
  obtain ⟨kv, hkv⟩ : ∃ z, z = ((p1 &&& (2147483647 : Int32)) % (5 : Int32)) := ⟨_, rfl⟩
  have pre6 : ∀ tg, AT p e below s₁ m 30 #[iv p0, iv p1, iv p2, iv p3, iv p4, iv p5, iv (0 : Int32), iv sv, iv kv, un, un, un, un, un, un, un] [] tg → Steps p.tables e below S0 tg := by rw [hkv]; exact pre5
  obtain ⟨_, _, ⟨T7, L7, k7, n7⟩, -, X7, ⟨Lc7, hQ7, l7, y7, z7⟩, st7⟩ := Jvm.LawKit.callS X0 hx (y := y1) hown (mvT hZ (ow hw 1 rfl)) (mvT hZ (ow hw 2 rfl)) (mvT hZ (ow hw 3 rfl)) (mvT hZ (ow hw 4 rfl)) (by decide) (backOf (W := 0) (rm1 l Z ar hw [] p2 h0 n0 O0) hZ (ow hw 4 rfl) (ow hw 3 rfl) (by decide) (by decide)) (g := (mkF m 31 #[iv p0, iv p1, iv p2, iv p3, iv p4, iv p5, iv (0 : Int32), iv sv, iv kv, un, un, un, un, un, un, un] [(.int p2)])) rfl (by rw [hml]; rfl) (argsL := [(.int p2)]) (rest := []) (lenOf pd_8 rfl) rfl (by show 2 * 0 + _ ≤ _; exact Nat.le_of_eq rfl) (hb hby at_31) (fun _ _ => ⟨rfl, e0, (by decide : 0 + 1 ≤ _), (by decide : 0 + 3 ≤ _)⟩)
  dsimp only [Pt.U, Pt.locs, Pt.cells, Pt.slots] at X7 l7 y7 z7 st7 hQ7
  subst l7 y7 z7
  obtain ⟨b_7, kb_7, rfl, N7q, Kq7, u7_0, u7_1⟩ := hQ7
  have N7 := Fr.app N0 N7q
  have K7 := (Keep.refl h0 []).trans Kq7 all0
  have O7 := O0.keep Kq7 all0
  have sz8 : h0.size ≤ b_7 := Nat.le_trans (Keep.refl h0 []).1 u7_1
  have gn8 : n0 ≤ b_7 := Nat.le_trans (Nat.le_trans (Nat.le_of_eq O0.1.symm) O0.2.1) u7_1
  obtain ⟨_, _, ⟨T9, L9, k9, n9⟩, -, X9, ⟨Lc9, hQ9, l9, y9, z9⟩, st9⟩ := Jvm.LawKit.callS X7 hx (y := y1) hown (mvT hZ (ow hw 1 rfl)) (mvT hZ (ow hw 2 rfl)) (mvT hZ (ow hw 3 rfl)) (mvT hZ (ow hw 4 rfl)) (by decide) (backOf (W := 0) (rm1 l Z ar hw [] p3 T7.heap n0 O7) hZ (ow hw 4 rfl) (ow hw 3 rfl) (by decide) (by decide)) (g := (mkF m 37 #[iv p0, iv p1, iv p2, iv p3, iv p4, iv p5, iv (0 : Int32), iv sv, iv kv, rv b_7, un, un, un, un, un, un] [(.int p3)])) rfl (by rw [hml]; rfl) (argsL := [(.int p3)]) (rest := []) (lenOf pd_8 rfl) rfl (by show 2 * 0 + _ ≤ _; exact Nat.le_of_eq rfl) (hb hby at_37) (fun _ _ => ⟨rfl, rfl, (by decide : 1 + 1 ≤ _), (by decide : 3 + 3 ≤ _)⟩)
  dsimp only [Pt.U, Pt.locs, Pt.cells, Pt.slots] at X9 l9 y9 z9 st9 hQ9
  subst l9 y9 z9
  obtain ⟨b_9, kb_9, rfl, N9q, Kq9, u9_0, u9_1⟩ := hQ9
  have N9 := Fr.app N7 N9q
  have V9_10 := u7_0.keep Kq9 nin0
  have K9 := K7.trans Kq9 all0
  have O9 := O7.keep Kq9 all0
  have sz11 : h0.size ≤ b_9 := Nat.le_trans K7.1 u9_1
  have gn11 : n0 ≤ b_9 := Nat.le_trans (Nat.le_trans (Nat.le_of_eq O7.1.symm) O7.2.1) u9_1
  have ne12 : b_7 ≠ b_9 := Nat.ne_of_lt (Nat.lt_of_lt_of_le (u7_0).lt u9_1)
  obtain ⟨_, _, ⟨T13, L13, k13, n13⟩, -, X13, ⟨Lc13, hQ13, l13, y13, z13⟩, st13⟩ := Jvm.LawKit.callS X9 hx (y := y1) hown (mvT hZ (ow hw 1 rfl)) (mvT hZ (ow hw 2 rfl)) (mvT hZ (ow hw 3 rfl)) (mvT hZ (ow hw 4 rfl)) (by decide) (backOf (W := 0) (rm1 l Z ar hw [] p4 T9.heap n0 O9) hZ (ow hw 4 rfl) (ow hw 3 rfl) (by decide) (by decide)) (g := (mkF m 44 #[iv p0, iv p1, iv p2, iv p3, iv p4, iv p5, iv (0 : Int32), iv sv, iv kv, rv b_7, rv b_9, un, un, un, un, un] [(.int p4)])) rfl (by rw [hml]; rfl) (argsL := [(.int p4)]) (rest := []) (lenOf pd_8 rfl) rfl (by show 2 * 0 + _ ≤ _; exact Nat.le_of_eq rfl) (hb hby at_44) (fun _ _ => ⟨rfl, rfl, (by decide : 2 + 1 ≤ _), (by decide : 6 + 3 ≤ _)⟩)
  dsimp only [Pt.U, Pt.locs, Pt.cells, Pt.slots] at X13 l13 y13 z13 st13 hQ13
  subst l13 y13 z13
  obtain ⟨b_13, kb_13, rfl, N13q, Kq13, u13_0, u13_1⟩ := hQ13
  have N13 := Fr.app N9 N13q
  have V13_14 := V9_10.keep Kq13 nin0
  have V13_15 := u9_0.keep Kq13 nin0
  have K13 := K9.trans Kq13 all0
  have O13 := O9.keep Kq13 all0
  have sz16 : h0.size ≤ b_13 := Nat.le_trans K9.1 u13_1
  have gn16 : n0 ≤ b_13 := Nat.le_trans (Nat.le_trans (Nat.le_of_eq O9.1.symm) O9.2.1) u13_1
  have ne17 : b_7 ≠ b_13 := Nat.ne_of_lt (Nat.lt_of_lt_of_le (V9_10).lt u13_1)
  have ne18 : b_9 ≠ b_13 := Nat.ne_of_lt (Nat.lt_of_lt_of_le (u9_0).lt u13_1)
  obtain ⟨_, _, ⟨T19, L19, k19, n19⟩, -, X19, ⟨Lc19, hQ19, l19, y19, z19⟩, st19⟩ := Jvm.LawKit.callS X13 hx (y := y1) hown (mvT hZ (ow hw 1 rfl)) (mvT hZ (ow hw 2 rfl)) (mvT hZ (ow hw 3 rfl)) (mvT hZ (ow hw 4 rfl)) (by decide) (backOf (W := 0) (rm1 l Z ar hw [] p5 T13.heap n0 O13) hZ (ow hw 4 rfl) (ow hw 3 rfl) (by decide) (by decide)) (g := (mkF m 51 #[iv p0, iv p1, iv p2, iv p3, iv p4, iv p5, iv (0 : Int32), iv sv, iv kv, rv b_7, rv b_9, rv b_13, un, un, un, un] [(.int p5)])) rfl (by rw [hml]; rfl) (argsL := [(.int p5)]) (rest := []) (lenOf pd_8 rfl) rfl (by show 2 * 0 + _ ≤ _; exact Nat.le_of_eq rfl) (hb hby at_51) (fun _ _ => ⟨rfl, rfl, (by decide : 3 + 1 ≤ _), (by decide : 9 + 3 ≤ _)⟩)
  dsimp only [Pt.U, Pt.locs, Pt.cells, Pt.slots] at X19 l19 y19 z19 st19 hQ19
  subst l19 y19 z19
  obtain ⟨b_19, kb_19, rfl, N19q, Kq19, u19_0, u19_1⟩ := hQ19
  have N19 := Fr.app N13 N19q
  have V19_20 := V13_14.keep Kq19 nin0
  have V19_21 := V13_15.keep Kq19 nin0
  have V19_22 := u13_0.keep Kq19 nin0
  have K19 := K13.trans Kq19 all0
  have O19 := O13.keep Kq19 all0
  have sz23 : h0.size ≤ b_19 := Nat.le_trans K13.1 u19_1
  have gn23 : n0 ≤ b_19 := Nat.le_trans (Nat.le_trans (Nat.le_of_eq O13.1.symm) O13.2.1) u19_1
  have ne24 : b_7 ≠ b_19 := Nat.ne_of_lt (Nat.lt_of_lt_of_le (V13_14).lt u19_1)
  have ne25 : b_9 ≠ b_19 := Nat.ne_of_lt (Nat.lt_of_lt_of_le (V13_15).lt u19_1)
  have ne26 : b_13 ≠ b_19 := Nat.ne_of_lt (Nat.lt_of_lt_of_le (u13_0).lt u19_1)
  obtain ⟨T27, h27, k27, X27, e27, E27, A27, B27, st27⟩ := newPE X19 hx hZ (ow hw 9 rfl) rfl (g := (mkF m 57 #[iv p0, iv p1, iv p2, iv p3, iv p4, iv p5, iv (0 : Int32), iv sv, iv kv, rv b_7, rv b_9, rv b_13, rv b_19, un, un, un] [(.int (1 : Int32))])) rfl (hb hby at_57) rfl (by decide) (cap := 1) (by decide) (by decide) (by decide) (by decide) (ad := "[B") (by decide)
  obtain ⟨b27, g27⟩ : ∃ z, z = T19.heap.size := ⟨_, rfl⟩
  rw [← g27] at A27 B27 st27
  have ne27_28 : b_7 ≠ b27 := Nat.ne_of_lt (Nat.lt_of_lt_of_le (V19_20).lt (Nat.le_of_eq g27.symm))
  have ne27_29 : b_9 ≠ b27 := Nat.ne_of_lt (Nat.lt_of_lt_of_le (V19_21).lt (Nat.le_of_eq g27.symm))
  have ne27_30 : b_13 ≠ b27 := Nat.ne_of_lt (Nat.lt_of_lt_of_le (V19_22).lt (Nat.le_of_eq g27.symm))
  have ne27_31 : b_19 ≠ b27 := Nat.ne_of_lt (Nat.lt_of_lt_of_le (u19_0).lt (Nat.le_of_eq g27.symm))
  have gn27 : n0 ≤ b27 := Nat.le_trans (Nat.le_trans (Nat.le_of_eq O19.1.symm) O19.2.1) (Nat.le_of_eq g27.symm)
  have sz27 : h0.size ≤ b27 := Nat.le_trans K19.1 (Nat.le_of_eq g27.symm)
  have V27_32 := V19_20.ext E27
  have V27_33 := V19_21.ext E27
  have V27_34 := V19_22.ext E27
  have V27_35 := u19_0.ext E27
  have K27 := K19.ext E27
  have O27 := O19.ext E27
  have V27_36 : Arv Z h27 b27 k27 .byte (1 : Int32) [(.int (0 : Int32))] (.int (0 : Int32)) := (Arv.new A27 (by decide)).pad (pad_rep [] (.int (0 : Int32)) 1)
  obtain ⟨T37, h37, X37, e37, E37, A37, D37, -, st37⟩ := newO X27 hx hZ hown (ow hw 10 rfl) (ow hw 11 rfl) (ow hw 12 rfl) e27 (g := (mkF m 61 #[iv p0, iv p1, iv p2, iv p3, iv p4, iv p5, iv (0 : Int32), iv sv, iv kv, rv b_7, rv b_9, rv b_13, rv b_19, rv b27, un, un] [])) rfl (hb hby at_61) (by decide) (by decide)
  obtain ⟨b37, g37⟩ : ∃ z, z = h27.size := ⟨_, rfl⟩
  rw [← g37] at A37 D37 st37
  have ne37_38 : b_7 ≠ b37 := Nat.ne_of_lt (Nat.lt_of_lt_of_le (V27_32).lt (Nat.le_of_eq g37.symm))
  have ne37_39 : b_9 ≠ b37 := Nat.ne_of_lt (Nat.lt_of_lt_of_le (V27_33).lt (Nat.le_of_eq g37.symm))
  have ne37_40 : b_13 ≠ b37 := Nat.ne_of_lt (Nat.lt_of_lt_of_le (V27_34).lt (Nat.le_of_eq g37.symm))
  have ne37_41 : b_19 ≠ b37 := Nat.ne_of_lt (Nat.lt_of_lt_of_le (V27_35).lt (Nat.le_of_eq g37.symm))
  have ne37_42 : b27 ≠ b37 := Nat.ne_of_lt (Nat.lt_of_lt_of_le (V27_36).lt (Nat.le_of_eq g37.symm))
  have gn37 : n0 ≤ b37 := Nat.le_trans (Nat.le_trans (Nat.le_of_eq O27.1.symm) O27.2.1) (Nat.le_of_eq g37.symm)
  have sz37 : h0.size ≤ b37 := Nat.le_trans K27.1 (Nat.le_of_eq g37.symm)
  have V37_43 := V27_32.ext E37
  have V37_44 := V27_33.ext E37
  have V37_45 := V27_34.ext E37
  have V37_46 := V27_35.ext E37
  have V37_47 := V27_36.ext E37
  have E37_48 := B27.ext E37
  have K37 := K27.ext E37
  have O37 := O27.ext E37
  have F37_49 : Fld Z h37 b37 "com/example/filters_under_siege/filtersundersiege/Cover" "elements" "Ljava/util/List;" .null := D37 (Or.inr (ow hw 44 rfl)) (ty := (.object "java/util/List")) (by decide)
  have F37_50 : Fld Z h37 b37 "com/example/filters_under_siege/filtersundersiege/Cover" "wanted" "[I" .null := D37 (Or.inr (ow hw 47 rfl)) (ty := (.array .int)) (by decide)
  have F37_51 : Fld Z h37 b37 "com/example/filters_under_siege/filtersundersiege/Cover" "uncovered" "I" (.int (0 : Int32)) := D37 (Or.inl (ow hw 53 rfl)) (ty := .int) (by decide)
  obtain ⟨_, _, ⟨T52, L52, k52, n52⟩, -, X52, ⟨Lc52, hQ52, l52, y52, z52⟩, st52⟩ := X37.specialBack hx (y := y3) rfl hown (mvT hZ (ow hw 13 rfl)) (mvT hZ (ow hw 14 rfl)) (mvT hZ (ow hw 15 rfl)) (by decide) (backOf (W := 1) (rm3_0 l Z ar hw [] b37 sv w_EE0 w_DEE1 k_EE0 k_DEE1 h37 n0 O37 HW A37 F37_49 F37_50 F37_51 gn37) hZ (ow hw 15 rfl) (ow hw 12 rfl) (by decide) (by decide)) (g := (mkF m 69 #[iv p0, iv p1, iv p2, iv p3, iv p4, iv p5, iv (0 : Int32), iv sv, iv kv, rv b_7, rv b_9, rv b_13, rv b_19, rv b27, un, un] [(.int sv), (.int (0 : Int32)), (.ref b37), (.ref b37)])) rfl (by rw [hml]; rfl) (Steps.refl _) (a := b37) (argsL := [(.int (0 : Int32)), (.int sv)]) (rest := [(.ref b37)]) (lenOf pd_9 rfl) rfl (by show 2 * 0 + _ ≤ _; exact Nat.le_of_eq rfl) (hb hby at_69) (fun _ _ => ⟨rfl, e37, (by decide : 6 + 2 ≤ _), (by decide : 16 + 3 ≤ _)⟩)
  dsimp only [Pt.U, Pt.locs, Pt.cells, Pt.slots] at X52 l52 y52 z52 st52 hQ52
  subst l52 y52 z52
  obtain ⟨li_52, wa_52, kw_52, rfl, N52q, Kq52, u52_0, u52_1, u52_2, u52_3, u52_4, u52_5, u52_6, u52_7, u52_8, u52_9, u52_10, u52_11, u52_12, u52_13⟩ := hQ52
  have N52 := Fr.app N19 N52q
  have V52_53 := V37_43.keep Kq52 (ninS ne37_38 nin0)
  have V52_54 := V37_44.keep Kq52 (ninS ne37_39 nin0)
  have V52_55 := V37_45.keep Kq52 (ninS ne37_40 nin0)
  have V52_56 := V37_46.keep Kq52 (ninS ne37_41 nin0)
  have V52_57 := V37_47.keep Kq52 (ninS ne37_42 nin0)
  have E52_58 := E37_48.keep Kq52
  have E52_59 := A37.keep Kq52
  have K52 := K37.trans Kq52 (allS (Or.inr sz37) all0)
  have O52 := O37.keep Kq52 (allS gn37 all0)
  have sz60 : h0.size ≤ li_52 := Nat.le_trans K37.1 u52_9
  have gn60 : n0 ≤ li_52 := Nat.le_trans (Nat.le_trans (Nat.le_of_eq O37.1.symm) O37.2.1) u52_9
  have ne61 : b_7 ≠ li_52 := Nat.ne_of_lt (Nat.lt_of_lt_of_le (V37_43).lt u52_9)
  have ne62 : b_9 ≠ li_52 := Nat.ne_of_lt (Nat.lt_of_lt_of_le (V37_44).lt u52_9)
  have ne63 : b_13 ≠ li_52 := Nat.ne_of_lt (Nat.lt_of_lt_of_le (V37_45).lt u52_9)
  have ne64 : b_19 ≠ li_52 := Nat.ne_of_lt (Nat.lt_of_lt_of_le (V37_46).lt u52_9)
  have ne65 : b27 ≠ li_52 := Nat.ne_of_lt (Nat.lt_of_lt_of_le (V37_47).lt u52_9)
  have ne66 : b37 ≠ li_52 := Nat.ne_of_lt (Nat.lt_of_lt_of_le (A37).lt u52_9)
  have sz67 : h0.size ≤ wa_52 := Nat.le_trans K37.1 u52_10
  have gn67 : n0 ≤ wa_52 := Nat.le_trans (Nat.le_trans (Nat.le_of_eq O37.1.symm) O37.2.1) u52_10
  have ne68 : b_7 ≠ wa_52 := Nat.ne_of_lt (Nat.lt_of_lt_of_le (V37_43).lt u52_10)
  have ne69 : b_9 ≠ wa_52 := Nat.ne_of_lt (Nat.lt_of_lt_of_le (V37_44).lt u52_10)
  have ne70 : b_13 ≠ wa_52 := Nat.ne_of_lt (Nat.lt_of_lt_of_le (V37_45).lt u52_10)
  have ne71 : b_19 ≠ wa_52 := Nat.ne_of_lt (Nat.lt_of_lt_of_le (V37_46).lt u52_10)
  have ne72 : b27 ≠ wa_52 := Nat.ne_of_lt (Nat.lt_of_lt_of_le (V37_47).lt u52_10)
  have ne73 : b37 ≠ wa_52 := Nat.ne_of_lt (Nat.lt_of_lt_of_le (A37).lt u52_10)
  have hLD : LD Z T52.heap h0.size (0 : Int) w_DEE1 w_DEE1 kw_52 (0 : Int32) := Or.inl ⟨rfl, rfl⟩
  obtain ⟨cq74, kq74, q74a, q74b, q74c⟩ := isOf hZ rfl E52_59
  obtain ⟨_, _, ⟨T74, L74, k74, n74⟩, -, X74, ⟨Lc74, hQ74, l74, y74, z74⟩, st74⟩ := X52.virtualBack hx (y := y9) (z := y9) hown (mvT hZ (ow hw 54 rfl)) (mvT hZ (ow hw 55 rfl)) (notFace_of_selects (args := #[]) (mvT hZ (ow hw 57 rfl))) (mvT hZ (ow hw 57 rfl)) (mvT hZ (ow hw 56 rfl)) (by decide) (backOf (W := 0) (rm9 l Z ar hw [] b37 (0 : Int32) T52.heap n0 O52 u52_3) hZ (ow hw 58 rfl) (ow hw 12 rfl) (by decide) (by decide)) q74a q74c (g := (mkF m 76 #[iv p0, iv p1, iv p2, iv p3, iv p4, iv p5, iv (0 : Int32), iv sv, iv kv, rv b_7, rv b_9, rv b_13, rv b_19, rv b27, rv b37, un] [(.ref b37)])) rfl (by rw [hml]; rfl) (Steps.refl _) (argsL := []) (rest := []) (lenOf pd_10 rfl) rfl (by show 2 * 0 + _ ≤ _; exact Nat.le_of_eq rfl) (hb hby at_76) (fun _ _ => ⟨rfl, rfl, (by decide : 8 + 0 ≤ _), (by decide : 19 + 0 ≤ _)⟩)
  dsimp only [Pt.U, Pt.locs, Pt.cells, Pt.slots] at X74 l74 y74 z74 st74 hQ74
  subst l74 y74 z74
  obtain ⟨rfl, N74q, e74⟩ := hQ74
  have N74 := Fr.app N52 N74q
  have r74 : (f9 (0 : Int32)) = (1 : Int32) := by rw [f9, if_pos ((by decide) : (0 : Int32) = (0 : Int32))] <;> decide
  rw [r74] at st74
  obtain ⟨_, _, ⟨T75, L75, k75, n75⟩, -, X75, ⟨Lc75, hQ75, l75, y75, z75⟩, st75⟩ := Jvm.LawKit.callS X74 hx (y := y10) hown (mvT hZ (ow hw 59 rfl)) (mvT hZ (ow hw 60 rfl)) (mvT hZ (ow hw 3 rfl)) (mvT hZ (ow hw 61 rfl)) (by decide) (backOf (W := 1) (rm10 l Z ar hw [] (0 : Int32) sv (0 : Int32) p2 p3 p4 p5 T52.heap n0 O52) hZ (ow hw 61 rfl) (ow hw 3 rfl) (by decide) (by decide)) (g := (mkF m 90 #[iv p0, iv p1, iv p2, iv p3, iv p4, iv p5, iv (0 : Int32), iv sv, iv kv, rv b_7, rv b_9, rv b_13, rv b_19, rv b27, rv b37, un] [(.int p5), (.int p4), (.int p3), (.int p2), (.int (0 : Int32)), (.int sv), (.int (0 : Int32)), (.int (1 : Int32))])) rfl (by rw [hml]; rfl) (argsL := [(.int (0 : Int32)), (.int sv), (.int (0 : Int32)), (.int p2), (.int p3), (.int p4), (.int p5)]) (rest := [(.int (1 : Int32))]) (lenOf pd_11 rfl) rfl (by show 2 * 0 + _ ≤ _; exact Nat.le_of_eq rfl) (hb hby at_90) (fun _ _ => ⟨rfl, e74, (by decide : 8 + 0 ≤ _), (by decide : 19 + 0 ≤ _)⟩)
  dsimp only [Pt.U, Pt.locs, Pt.cells, Pt.slots] at X75 l75 y75 z75 st75 hQ75
  subst l75 y75 z75
  obtain ⟨rfl, N75q, e75⟩ := hQ75
  have N75 := Fr.app N74 N75q
  have r75 : (f10 (0 : Int32) sv (0 : Int32) p2 p3 p4 p5) = (1 : Int32) := by rw [f10, if_pos ((by decide) : (0 : Int32) < (1 : Int32))] <;> decide
  rw [r75] at st75
  have pre76 : ∀ tg, AT p e below T75 m 106 #[iv p0, iv p1, iv p2, iv p3, iv p4, iv p5, iv (0 : Int32), iv sv, iv kv, rv b_7, rv b_9, rv b_13, rv b_19, rv b27, rv b37, iv (1 : Int32)] [(.int (1 : Int32)), (.int kv)] tg → Steps p.tables e below S0 tg := fun tg kg => pre6 tg (by
   refine XS.iloadN X0.here hx rfl (hb hby at_30) rfl ?_
   refine st7 _ ?_
   refine XS.astore X7.here hx rfl (hb hby at_34) rfl rfl (l' := #[iv p0, iv p1, iv p2, iv p3, iv p4, iv p5, iv (0 : Int32), iv sv, iv kv, rv b_7, un, un, un, un, un, un]) rfl ?_
   refine XS.iloadN X7.here hx rfl (hb hby at_36) rfl ?_
   refine st9 _ ?_
   refine XS.astore X9.here hx rfl (hb hby at_40) rfl rfl (l' := #[iv p0, iv p1, iv p2, iv p3, iv p4, iv p5, iv (0 : Int32), iv sv, iv kv, rv b_7, rv b_9, un, un, un, un, un]) rfl ?_
   refine XS.iload X9.here hx rfl (hb hby at_42) rfl ?_
   refine st13 _ ?_
   refine XS.astore X13.here hx rfl (hb hby at_47) rfl rfl (l' := #[iv p0, iv p1, iv p2, iv p3, iv p4, iv p5, iv (0 : Int32), iv sv, iv kv, rv b_7, rv b_9, rv b_13, un, un, un, un]) rfl ?_
   refine XS.iload X13.here hx rfl (hb hby at_49) rfl ?_
   refine st19 _ ?_
   refine XS.astore X19.here hx rfl (hb hby at_54) rfl rfl (l' := #[iv p0, iv p1, iv p2, iv p3, iv p4, iv p5, iv (0 : Int32), iv sv, iv kv, rv b_7, rv b_9, rv b_13, rv b_19, un, un, un]) rfl ?_
   show AT p e below T19 m 56 #[iv p0, iv p1, iv p2, iv p3, iv p4, iv p5, iv (0 : Int32), iv sv, iv kv, rv b_7, rv b_9, rv b_13, rv b_19, un, un, un] [] _
   refine XS.iconst X19.here hx rfl (hb hby at_56) ?_
   refine st27 _ ?_
   refine XS.astore X27.here hx rfl (hb hby at_59) rfl rfl (l' := #[iv p0, iv p1, iv p2, iv p3, iv p4, iv p5, iv (0 : Int32), iv sv, iv kv, rv b_7, rv b_9, rv b_13, rv b_19, rv b27, un, un]) rfl ?_
   refine st37 _ ?_
   refine XS.dup X37.here hx rfl (hb hby at_64) rfl rfl ?_
   refine XS.iload X37.here hx rfl (hb hby at_65) rfl ?_
   refine XS.iload X37.here hx rfl (hb hby at_67) rfl ?_
   refine st52.trans ?_
   refine XS.astore X52.here hx rfl (hb hby at_72) rfl rfl (l' := #[iv p0, iv p1, iv p2, iv p3, iv p4, iv p5, iv (0 : Int32), iv sv, iv kv, rv b_7, rv b_9, rv b_13, rv b_19, rv b27, rv b37, un]) rfl ?_
   refine XS.aload X52.here hx rfl (hb hby at_74) rfl rfl ?_
   refine st74.trans ?_
   refine XS.iload X74.here hx rfl (hb hby at_79) rfl ?_
   show AT p e below T74 m 81 #[iv p0, iv p1, iv p2, iv p3, iv p4, iv p5, iv (0 : Int32), iv sv, iv kv, rv b_7, rv b_9, rv b_13, rv b_19, rv b27, rv b37, un] [(.int (0 : Int32)), (.int (1 : Int32))] _
   refine XS.iload X74.here hx rfl (hb hby at_81) rfl ?_
   refine XS.iconst X74.here hx rfl (hb hby at_83) ?_
   refine XS.iloadN X74.here hx rfl (hb hby at_84) rfl ?_
   refine XS.iloadN X74.here hx rfl (hb hby at_85) rfl ?_
   refine XS.iload X74.here hx rfl (hb hby at_86) rfl ?_
   refine XS.iload X74.here hx rfl (hb hby at_88) rfl ?_
   refine st75 _ ?_
   show AT p e below T75 m 93 #[iv p0, iv p1, iv p2, iv p3, iv p4, iv p5, iv (0 : Int32), iv sv, iv kv, rv b_7, rv b_9, rv b_13, rv b_19, rv b27, rv b37, un] [(.int (1 : Int32)), (.int (1 : Int32))] _
   refine XS.icmpNo X75.here hx rfl (hb hby at_93) rfl (XT.ii_ne_f ((by decide) : (1 : Int32) = (1 : Int32))) ?_
   refine XS.iconst X75.here hx rfl (hb hby at_96) ?_
   refine XS.goto X75.here hx rfl (pc0 := 97) (pc' := 101) rfl (hb hby at_97) (by decide) (by decide) ?_
   refine XS.istore X75.here hx rfl (hb hby at_101) rfl (l' := #[iv p0, iv p1, iv p2, iv p3, iv p4, iv p5, iv (0 : Int32), iv sv, iv kv, rv b_7, rv b_9, rv b_13, rv b_19, rv b27, rv b37, iv (1 : Int32)]) rfl ?_
   refine XS.iload X75.here hx rfl (hb hby at_103) rfl ?_
   refine XS.iconst X75.here hx rfl (hb hby at_105) ?_
   exact kg)
  rcases Decidable.em (kv < (1 : Int32)) with hc77 | hc77
  ·
   obtain ⟨fs, hr, hrun, hended, hW, hsame⟩ := X75.leave (v := some (.int (1 : Int32))) (fun h => by rw [Bd.returns] at h; cases h)
   subst hS0
   refine ⟨_, _, pre76 _ ?_, hrun, hended, _, _, rfl, ?_, ⟨_, rfl⟩, hW, hsame.mono (by decide) (by decide)⟩
   ·
    refine XS.icmpYes X75.here hx rfl (pc0 := 106) (pc' := 152) rfl (hb hby at_106) rfl (XT.ii_lt_t hc77) (by decide) (by decide) ?_
    show AT p e below T75 m 152 #[iv p0, iv p1, iv p2, iv p3, iv p4, iv p5, iv (0 : Int32), iv sv, iv kv, rv b_7, rv b_9, rv b_13, rv b_19, rv b27, rv b37, iv (1 : Int32)] [] _
    refine XS.iload X75.here hx rfl (hb hby at_152) rfl ?_
    refine XS.iconst X75.here hx rfl (hb hby at_154) ?_
    show AT p e below T75 m 155 #[iv p0, iv p1, iv p2, iv p3, iv p4, iv p5, iv (0 : Int32), iv sv, iv kv, rv b_7, rv b_9, rv b_13, rv b_19, rv b27, rv b37, iv (1 : Int32)] [(.int (2 : Int32)), (.int kv)] _
    refine XS.icmpYes X75.here hx rfl (pc0 := 155) (pc' := 201) rfl (hb hby at_155) rfl (XT.ii_lt_t ((own_up hc77 (by decide)) : kv < (2 : Int32))) (by decide) (by decide) ?_
    refine XS.iload X75.here hx rfl (hb hby at_201) rfl ?_
    refine XS.iconst X75.here hx rfl (hb hby at_203) ?_
    show AT p e below T75 m 204 #[iv p0, iv p1, iv p2, iv p3, iv p4, iv p5, iv (0 : Int32), iv sv, iv kv, rv b_7, rv b_9, rv b_13, rv b_19, rv b27, rv b37, iv (1 : Int32)] [(.int (3 : Int32)), (.int kv)] _
    refine XS.icmpYes X75.here hx rfl (pc0 := 204) (pc' := 250) rfl (hb hby at_204) rfl (XT.ii_lt_t ((own_up hc77 (by decide)) : kv < (3 : Int32))) (by decide) (by decide) ?_
    refine XS.iload X75.here hx rfl (hb hby at_250) rfl ?_
    refine XS.iconst X75.here hx rfl (hb hby at_252) ?_
    show AT p e below T75 m 253 #[iv p0, iv p1, iv p2, iv p3, iv p4, iv p5, iv (0 : Int32), iv sv, iv kv, rv b_7, rv b_9, rv b_13, rv b_19, rv b27, rv b37, iv (1 : Int32)] [(.int (4 : Int32)), (.int kv)] _
    refine XS.icmpYes X75.here hx rfl (pc0 := 253) (pc' := 299) rfl (hb hby at_253) rfl (XT.ii_lt_t ((own_up hc77 (by decide)) : kv < (4 : Int32))) (by decide) (by decide) ?_
    refine XS.iload X75.here hx rfl (hb hby at_299) rfl ?_
    exact retN X75 hx (t := .boolean) Bd.returns (by simp) (hb hby at_301) hr
   ·
    show Q0 Z p0 p1 p2 p3 p4 p5 w_EE0 w_DEE1 k_EE0 k_DEE1 h0 n0 _ T75.heap _
    rw [e75]
    exact ⟨rfl, N75⟩
  ·
   obtain ⟨cq78, kq78, q78a, q78b, q78c⟩ := isOf hZ e75 E52_59
   obtain ⟨_, _, ⟨T78, L78, k78, n78⟩, -, X78, ⟨Lc78, hQ78, l78, y78, z78⟩, st78⟩ := X75.virtualBack hx (y := y11) (z := y11) hown (mvT hZ (ow hw 62 rfl)) (mvT hZ (ow hw 63 rfl)) (notFace_of_selects (args := #[]) (mvT hZ (ow hw 65 rfl))) (mvT hZ (ow hw 65 rfl)) (mvT hZ (ow hw 64 rfl)) (by decide) (backOf (W := 0) (rm11_0 l Z ar hw [] b37 b27 b_7 wa_52 kw_52 kb_7 (f2 p2 (0 : Int32)) (f2 p2 (1 : Int32)) (f2 p2 (2 : Int32)) T52.heap n0 O52 E52_59 u52_2 u52_4 V52_53) hZ (ow hw 66 rfl) (ow hw 12 rfl) (by decide) (by decide)) q78a q78c (g := (mkF m 115 #[iv p0, iv p1, iv p2, iv p3, iv p4, iv p5, iv (0 : Int32), iv sv, iv kv, rv b_7, rv b_9, rv b_13, rv b_19, rv b27, rv b37, iv (1 : Int32)] [(.ref b_7), (.ref b27), (.ref b37)])) rfl (by rw [hml]; rfl) (Steps.refl _) (argsL := [(.ref b27), (.ref b_7)]) (rest := []) (lenOf pd_12 rfl) rfl (by show 2 * 0 + _ ≤ _; exact Nat.le_of_eq rfl) (hb hby at_115) (fun _ _ => ⟨rfl, e75, (by decide : 8 + 0 ≤ _), (by decide : 19 + 0 ≤ _)⟩)
   dsimp only [Pt.U, Pt.locs, Pt.cells, Pt.slots] at X78 l78 y78 z78 st78 hQ78
   subst l78 y78 z78
   obtain ⟨rfl, N78q, e78⟩ := hQ78
   have N78 := Fr.app N75 N78q
   obtain ⟨cq79, kq79, q79a, q79b, q79c⟩ := isOf hZ e78 E52_59
   obtain ⟨_, _, ⟨T79, L79, k79, n79⟩, -, X79, ⟨Lc79, hQ79, l79, y79, z79⟩, st79⟩ := X78.virtualBack hx (y := y9) (z := y9) hown (mvT hZ (ow hw 54 rfl)) (mvT hZ (ow hw 55 rfl)) (notFace_of_selects (args := #[]) (mvT hZ (ow hw 57 rfl))) (mvT hZ (ow hw 57 rfl)) (mvT hZ (ow hw 56 rfl)) (by decide) (backOf (W := 0) (rm9 l Z ar hw [] b37 (0 : Int32) T52.heap n0 O52 u52_3) hZ (ow hw 58 rfl) (ow hw 12 rfl) (by decide) (by decide)) q79a q79c (g := (mkF m 125 #[iv p0, iv p1, iv p2, iv p3, iv p4, iv p5, iv (0 : Int32), iv sv, iv kv, rv b_7, rv b_9, rv b_13, rv b_19, rv b27, rv b37, iv (1 : Int32)] [(.ref b37)])) rfl (by rw [hml]; rfl) (Steps.refl _) (argsL := []) (rest := []) (lenOf pd_10 rfl) rfl (by show 2 * 0 + _ ≤ _; exact Nat.le_of_eq rfl) (hb hby at_125) (fun _ _ => ⟨rfl, e78, (by decide : 8 + 0 ≤ _), (by decide : 19 + 0 ≤ _)⟩)
   dsimp only [Pt.U, Pt.locs, Pt.cells, Pt.slots] at X79 l79 y79 z79 st79 hQ79
   subst l79 y79 z79
   obtain ⟨rfl, N79q, e79⟩ := hQ79
   have N79 := Fr.app N78 N79q
   have r79 : (f9 (0 : Int32)) = (1 : Int32) := by rw [f9, if_pos ((by decide) : (0 : Int32) = (0 : Int32))] <;> decide
   rw [r79] at st79
   obtain ⟨_, _, ⟨T80, L80, k80, n80⟩, -, X80, ⟨Lc80, hQ80, l80, y80, z80⟩, st80⟩ := Jvm.LawKit.callS X79 hx (y := y10) hown (mvT hZ (ow hw 59 rfl)) (mvT hZ (ow hw 60 rfl)) (mvT hZ (ow hw 3 rfl)) (mvT hZ (ow hw 61 rfl)) (by decide) (backOf (W := 1) (rm10 l Z ar hw [] (0 : Int32) sv (1 : Int32) p2 p3 p4 p5 T52.heap n0 O52) hZ (ow hw 61 rfl) (ow hw 3 rfl) (by decide) (by decide)) (g := (mkF m 139 #[iv p0, iv p1, iv p2, iv p3, iv p4, iv p5, iv (0 : Int32), iv sv, iv kv, rv b_7, rv b_9, rv b_13, rv b_19, rv b27, rv b37, iv (1 : Int32)] [(.int p5), (.int p4), (.int p3), (.int p2), (.int (1 : Int32)), (.int sv), (.int (0 : Int32)), (.int (1 : Int32))])) rfl (by rw [hml]; rfl) (argsL := [(.int (0 : Int32)), (.int sv), (.int (1 : Int32)), (.int p2), (.int p3), (.int p4), (.int p5)]) (rest := [(.int (1 : Int32))]) (lenOf pd_11 rfl) rfl (by show 2 * 0 + _ ≤ _; exact Nat.le_of_eq rfl) (hb hby at_139) (fun _ _ => ⟨rfl, e79, (by decide : 8 + 0 ≤ _), (by decide : 19 + 0 ≤ _)⟩)
   dsimp only [Pt.U, Pt.locs, Pt.cells, Pt.slots] at X80 l80 y80 z80 st80 hQ80
   subst l80 y80 z80
   obtain ⟨rfl, N80q, e80⟩ := hQ80
   have N80 := Fr.app N79 N80q
   have r80 : (f10 (0 : Int32) sv (1 : Int32) p2 p3 p4 p5) = (1 : Int32) := by rw [f10, if_pos ((by decide) : (0 : Int32) < (1 : Int32))] <;> decide
   rw [r80] at st80
   have pre81 : ∀ tg, AT p e below T80 m 155 #[iv p0, iv p1, iv p2, iv p3, iv p4, iv p5, iv (0 : Int32), iv sv, iv kv, rv b_7, rv b_9, rv b_13, rv b_19, rv b27, rv b37, iv (1 : Int32)] [(.int (2 : Int32)), (.int kv)] tg → Steps p.tables e below S0 tg := fun tg kg => pre76 tg (by
    refine XS.icmpNo X75.here hx rfl (hb hby at_106) rfl (XT.ii_lt_f hc77) ?_
    show AT p e below T75 m 109 #[iv p0, iv p1, iv p2, iv p3, iv p4, iv p5, iv (0 : Int32), iv sv, iv kv, rv b_7, rv b_9, rv b_13, rv b_19, rv b27, rv b37, iv (1 : Int32)] [] _
    refine XS.aload X75.here hx rfl (hb hby at_109) rfl rfl ?_
    refine XS.aload X75.here hx rfl (hb hby at_111) rfl rfl ?_
    refine XS.aload X75.here hx rfl (hb hby at_113) rfl rfl ?_
    refine st78.trans ?_
    refine XS.iload X78.here hx rfl (hb hby at_118) rfl ?_
    show AT p e below T78 m 120 #[iv p0, iv p1, iv p2, iv p3, iv p4, iv p5, iv (0 : Int32), iv sv, iv kv, rv b_7, rv b_9, rv b_13, rv b_19, rv b27, rv b37, iv (1 : Int32)] [(.int (1 : Int32))] _
    refine XS.ifNo X78.here hx rfl (hb hby at_120) rfl (XT.i0_eq_f ((by decide) : ¬ ((1 : Int32) = (0 : Int32)))) ?_
    refine XS.aload X78.here hx rfl (hb hby at_123) rfl rfl ?_
    refine st79.trans ?_
    refine XS.iload X79.here hx rfl (hb hby at_128) rfl ?_
    refine XS.iload X79.here hx rfl (hb hby at_130) rfl ?_
    refine XS.iconst X79.here hx rfl (hb hby at_132) ?_
    refine XS.iloadN X79.here hx rfl (hb hby at_133) rfl ?_
    refine XS.iloadN X79.here hx rfl (hb hby at_134) rfl ?_
    show AT p e below T79 m 135 #[iv p0, iv p1, iv p2, iv p3, iv p4, iv p5, iv (0 : Int32), iv sv, iv kv, rv b_7, rv b_9, rv b_13, rv b_19, rv b27, rv b37, iv (1 : Int32)] [(.int p3), (.int p2), (.int (1 : Int32)), (.int sv), (.int (0 : Int32)), (.int (1 : Int32))] _
    refine XS.iload X79.here hx rfl (hb hby at_135) rfl ?_
    refine XS.iload X79.here hx rfl (hb hby at_137) rfl ?_
    refine st80 _ ?_
    show AT p e below T80 m 142 #[iv p0, iv p1, iv p2, iv p3, iv p4, iv p5, iv (0 : Int32), iv sv, iv kv, rv b_7, rv b_9, rv b_13, rv b_19, rv b27, rv b37, iv (1 : Int32)] [(.int (1 : Int32)), (.int (1 : Int32))] _
    refine XS.icmpNo X80.here hx rfl (hb hby at_142) rfl (XT.ii_ne_f ((by decide) : (1 : Int32) = (1 : Int32))) ?_
    refine XS.iconst X80.here hx rfl (hb hby at_145) ?_
    refine XS.goto X80.here hx rfl (pc0 := 146) (pc' := 150) rfl (hb hby at_146) (by decide) (by decide) ?_
    refine XS.istore X80.here hx rfl (hb hby at_150) rfl (l' := #[iv p0, iv p1, iv p2, iv p3, iv p4, iv p5, iv (0 : Int32), iv sv, iv kv, rv b_7, rv b_9, rv b_13, rv b_19, rv b27, rv b37, iv (1 : Int32)]) rfl ?_
    refine XS.iload X80.here hx rfl (hb hby at_152) rfl ?_
    refine XS.iconst X80.here hx rfl (hb hby at_154) ?_
    exact kg)
   rcases Decidable.em (kv < (2 : Int32)) with hc82 | hc82
   ·
    obtain ⟨fs, hr, hrun, hended, hW, hsame⟩ := X80.leave (v := some (.int (1 : Int32))) (fun h => by rw [Bd.returns] at h; cases h)
    subst hS0
    refine ⟨_, _, pre81 _ ?_, hrun, hended, _, _, rfl, ?_, ⟨_, rfl⟩, hW, hsame.mono (by decide) (by decide)⟩
    ·
     refine XS.icmpYes X80.here hx rfl (pc0 := 155) (pc' := 201) rfl (hb hby at_155) rfl (XT.ii_lt_t hc82) (by decide) (by decide) ?_
     refine XS.iload X80.here hx rfl (hb hby at_201) rfl ?_
     refine XS.iconst X80.here hx rfl (hb hby at_203) ?_
     show AT p e below T80 m 204 #[iv p0, iv p1, iv p2, iv p3, iv p4, iv p5, iv (0 : Int32), iv sv, iv kv, rv b_7, rv b_9, rv b_13, rv b_19, rv b27, rv b37, iv (1 : Int32)] [(.int (3 : Int32)), (.int kv)] _
     refine XS.icmpYes X80.here hx rfl (pc0 := 204) (pc' := 250) rfl (hb hby at_204) rfl (XT.ii_lt_t ((own_up hc82 (by decide)) : kv < (3 : Int32))) (by decide) (by decide) ?_
     refine XS.iload X80.here hx rfl (hb hby at_250) rfl ?_
     refine XS.iconst X80.here hx rfl (hb hby at_252) ?_
     show AT p e below T80 m 253 #[iv p0, iv p1, iv p2, iv p3, iv p4, iv p5, iv (0 : Int32), iv sv, iv kv, rv b_7, rv b_9, rv b_13, rv b_19, rv b27, rv b37, iv (1 : Int32)] [(.int (4 : Int32)), (.int kv)] _
     refine XS.icmpYes X80.here hx rfl (pc0 := 253) (pc' := 299) rfl (hb hby at_253) rfl (XT.ii_lt_t ((own_up hc82 (by decide)) : kv < (4 : Int32))) (by decide) (by decide) ?_
     show AT p e below T80 m 299 #[iv p0, iv p1, iv p2, iv p3, iv p4, iv p5, iv (0 : Int32), iv sv, iv kv, rv b_7, rv b_9, rv b_13, rv b_19, rv b27, rv b37, iv (1 : Int32)] [] _
     refine XS.iload X80.here hx rfl (hb hby at_299) rfl ?_
     exact retN X80 hx (t := .boolean) Bd.returns (by simp) (hb hby at_301) hr
    ·
     show Q0 Z p0 p1 p2 p3 p4 p5 w_EE0 w_DEE1 k_EE0 k_DEE1 h0 n0 _ T80.heap _
     rw [e80]
     exact ⟨rfl, N80⟩
   ·
    obtain ⟨cq83, kq83, q83a, q83b, q83c⟩ := isOf hZ e80 E52_59
    obtain ⟨_, _, ⟨T83, L83, k83, n83⟩, -, X83, ⟨Lc83, hQ83, l83, y83, z83⟩, st83⟩ := X80.virtualBack hx (y := y11) (z := y11) hown (mvT hZ (ow hw 62 rfl)) (mvT hZ (ow hw 63 rfl)) (notFace_of_selects (args := #[]) (mvT hZ (ow hw 65 rfl))) (mvT hZ (ow hw 65 rfl)) (mvT hZ (ow hw 64 rfl)) (by decide) (backOf (W := 0) (rm11_0 l Z ar hw [] b37 b27 b_9 wa_52 kw_52 kb_9 (f2 p3 (0 : Int32)) (f2 p3 (1 : Int32)) (f2 p3 (2 : Int32)) T52.heap n0 O52 E52_59 u52_2 u52_4 V52_54) hZ (ow hw 66 rfl) (ow hw 12 rfl) (by decide) (by decide)) q83a q83c (g := (mkF m 164 #[iv p0, iv p1, iv p2, iv p3, iv p4, iv p5, iv (0 : Int32), iv sv, iv kv, rv b_7, rv b_9, rv b_13, rv b_19, rv b27, rv b37, iv (1 : Int32)] [(.ref b_9), (.ref b27), (.ref b37)])) rfl (by rw [hml]; rfl) (Steps.refl _) (argsL := [(.ref b27), (.ref b_9)]) (rest := []) (lenOf pd_12 rfl) rfl (by show 2 * 0 + _ ≤ _; exact Nat.le_of_eq rfl) (hb hby at_164) (fun _ _ => ⟨rfl, e80, (by decide : 8 + 0 ≤ _), (by decide : 19 + 0 ≤ _)⟩)
    dsimp only [Pt.U, Pt.locs, Pt.cells, Pt.slots] at X83 l83 y83 z83 st83 hQ83
    subst l83 y83 z83
    obtain ⟨rfl, N83q, e83⟩ := hQ83
    have N83 := Fr.app N80 N83q
    obtain ⟨cq84, kq84, q84a, q84b, q84c⟩ := isOf hZ e83 E52_59
    obtain ⟨_, _, ⟨T84, L84, k84, n84⟩, -, X84, ⟨Lc84, hQ84, l84, y84, z84⟩, st84⟩ := X83.virtualBack hx (y := y9) (z := y9) hown (mvT hZ (ow hw 54 rfl)) (mvT hZ (ow hw 55 rfl)) (notFace_of_selects (args := #[]) (mvT hZ (ow hw 57 rfl))) (mvT hZ (ow hw 57 rfl)) (mvT hZ (ow hw 56 rfl)) (by decide) (backOf (W := 0) (rm9 l Z ar hw [] b37 (0 : Int32) T52.heap n0 O52 u52_3) hZ (ow hw 58 rfl) (ow hw 12 rfl) (by decide) (by decide)) q84a q84c (g := (mkF m 174 #[iv p0, iv p1, iv p2, iv p3, iv p4, iv p5, iv (0 : Int32), iv sv, iv kv, rv b_7, rv b_9, rv b_13, rv b_19, rv b27, rv b37, iv (1 : Int32)] [(.ref b37)])) rfl (by rw [hml]; rfl) (Steps.refl _) (argsL := []) (rest := []) (lenOf pd_10 rfl) rfl (by show 2 * 0 + _ ≤ _; exact Nat.le_of_eq rfl) (hb hby at_174) (fun _ _ => ⟨rfl, e83, (by decide : 8 + 0 ≤ _), (by decide : 19 + 0 ≤ _)⟩)
    dsimp only [Pt.U, Pt.locs, Pt.cells, Pt.slots] at X84 l84 y84 z84 st84 hQ84
    subst l84 y84 z84
    obtain ⟨rfl, N84q, e84⟩ := hQ84
    have N84 := Fr.app N83 N84q
    have r84 : (f9 (0 : Int32)) = (1 : Int32) := by rw [f9, if_pos ((by decide) : (0 : Int32) = (0 : Int32))] <;> decide
    rw [r84] at st84
    obtain ⟨_, _, ⟨T85, L85, k85, n85⟩, -, X85, ⟨Lc85, hQ85, l85, y85, z85⟩, st85⟩ := Jvm.LawKit.callS X84 hx (y := y10) hown (mvT hZ (ow hw 59 rfl)) (mvT hZ (ow hw 60 rfl)) (mvT hZ (ow hw 3 rfl)) (mvT hZ (ow hw 61 rfl)) (by decide) (backOf (W := 1) (rm10 l Z ar hw [] (0 : Int32) sv (2 : Int32) p2 p3 p4 p5 T52.heap n0 O52) hZ (ow hw 61 rfl) (ow hw 3 rfl) (by decide) (by decide)) (g := (mkF m 188 #[iv p0, iv p1, iv p2, iv p3, iv p4, iv p5, iv (0 : Int32), iv sv, iv kv, rv b_7, rv b_9, rv b_13, rv b_19, rv b27, rv b37, iv (1 : Int32)] [(.int p5), (.int p4), (.int p3), (.int p2), (.int (2 : Int32)), (.int sv), (.int (0 : Int32)), (.int (1 : Int32))])) rfl (by rw [hml]; rfl) (argsL := [(.int (0 : Int32)), (.int sv), (.int (2 : Int32)), (.int p2), (.int p3), (.int p4), (.int p5)]) (rest := [(.int (1 : Int32))]) (lenOf pd_11 rfl) rfl (by show 2 * 0 + _ ≤ _; exact Nat.le_of_eq rfl) (hb hby at_188) (fun _ _ => ⟨rfl, e84, (by decide : 8 + 0 ≤ _), (by decide : 19 + 0 ≤ _)⟩)
    dsimp only [Pt.U, Pt.locs, Pt.cells, Pt.slots] at X85 l85 y85 z85 st85 hQ85
    subst l85 y85 z85
    obtain ⟨rfl, N85q, e85⟩ := hQ85
    have N85 := Fr.app N84 N85q
    have r85 : (f10 (0 : Int32) sv (2 : Int32) p2 p3 p4 p5) = (1 : Int32) := by rw [f10, if_pos ((by decide) : (0 : Int32) < (1 : Int32))] <;> decide
    rw [r85] at st85
    have pre86 : ∀ tg, AT p e below T85 m 204 #[iv p0, iv p1, iv p2, iv p3, iv p4, iv p5, iv (0 : Int32), iv sv, iv kv, rv b_7, rv b_9, rv b_13, rv b_19, rv b27, rv b37, iv (1 : Int32)] [(.int (3 : Int32)), (.int kv)] tg → Steps p.tables e below S0 tg := fun tg kg => pre81 tg (by
     refine XS.icmpNo X80.here hx rfl (hb hby at_155) rfl (XT.ii_lt_f hc82) ?_
     refine XS.aload X80.here hx rfl (hb hby at_158) rfl rfl ?_
     refine XS.aload X80.here hx rfl (hb hby at_160) rfl rfl ?_
     refine XS.aload X80.here hx rfl (hb hby at_162) rfl rfl ?_
     refine st83.trans ?_
     show AT p e below T83 m 167 #[iv p0, iv p1, iv p2, iv p3, iv p4, iv p5, iv (0 : Int32), iv sv, iv kv, rv b_7, rv b_9, rv b_13, rv b_19, rv b27, rv b37, iv (1 : Int32)] [] _
     refine XS.iload X83.here hx rfl (hb hby at_167) rfl ?_
     show AT p e below T83 m 169 #[iv p0, iv p1, iv p2, iv p3, iv p4, iv p5, iv (0 : Int32), iv sv, iv kv, rv b_7, rv b_9, rv b_13, rv b_19, rv b27, rv b37, iv (1 : Int32)] [(.int (1 : Int32))] _
     refine XS.ifNo X83.here hx rfl (hb hby at_169) rfl (XT.i0_eq_f ((by decide) : ¬ ((1 : Int32) = (0 : Int32)))) ?_
     refine XS.aload X83.here hx rfl (hb hby at_172) rfl rfl ?_
     refine st84.trans ?_
     refine XS.iload X84.here hx rfl (hb hby at_177) rfl ?_
     refine XS.iload X84.here hx rfl (hb hby at_179) rfl ?_
     refine XS.iconst X84.here hx rfl (hb hby at_181) ?_
     refine XS.iloadN X84.here hx rfl (hb hby at_182) rfl ?_
     refine XS.iloadN X84.here hx rfl (hb hby at_183) rfl ?_
     refine XS.iload X84.here hx rfl (hb hby at_184) rfl ?_
     refine XS.iload X84.here hx rfl (hb hby at_186) rfl ?_
     refine st85 _ ?_
     show AT p e below T85 m 191 #[iv p0, iv p1, iv p2, iv p3, iv p4, iv p5, iv (0 : Int32), iv sv, iv kv, rv b_7, rv b_9, rv b_13, rv b_19, rv b27, rv b37, iv (1 : Int32)] [(.int (1 : Int32)), (.int (1 : Int32))] _
     refine XS.icmpNo X85.here hx rfl (hb hby at_191) rfl (XT.ii_ne_f ((by decide) : (1 : Int32) = (1 : Int32))) ?_
     refine XS.iconst X85.here hx rfl (hb hby at_194) ?_
     show AT p e below T85 m 195 #[iv p0, iv p1, iv p2, iv p3, iv p4, iv p5, iv (0 : Int32), iv sv, iv kv, rv b_7, rv b_9, rv b_13, rv b_19, rv b27, rv b37, iv (1 : Int32)] [(.int (1 : Int32))] _
     refine XS.goto X85.here hx rfl (pc0 := 195) (pc' := 199) rfl (hb hby at_195) (by decide) (by decide) ?_
     refine XS.istore X85.here hx rfl (hb hby at_199) rfl (l' := #[iv p0, iv p1, iv p2, iv p3, iv p4, iv p5, iv (0 : Int32), iv sv, iv kv, rv b_7, rv b_9, rv b_13, rv b_19, rv b27, rv b37, iv (1 : Int32)]) rfl ?_
     refine XS.iload X85.here hx rfl (hb hby at_201) rfl ?_
     refine XS.iconst X85.here hx rfl (hb hby at_203) ?_
     exact kg)
    rcases Decidable.em (kv < (3 : Int32)) with hc87 | hc87
    ·
     obtain ⟨fs, hr, hrun, hended, hW, hsame⟩ := X85.leave (v := some (.int (1 : Int32))) (fun h => by rw [Bd.returns] at h; cases h)
     subst hS0
     refine ⟨_, _, pre86 _ ?_, hrun, hended, _, _, rfl, ?_, ⟨_, rfl⟩, hW, hsame.mono (by decide) (by decide)⟩
     ·
      refine XS.icmpYes X85.here hx rfl (pc0 := 204) (pc' := 250) rfl (hb hby at_204) rfl (XT.ii_lt_t hc87) (by decide) (by decide) ?_
      refine XS.iload X85.here hx rfl (hb hby at_250) rfl ?_
      refine XS.iconst X85.here hx rfl (hb hby at_252) ?_
      show AT p e below T85 m 253 #[iv p0, iv p1, iv p2, iv p3, iv p4, iv p5, iv (0 : Int32), iv sv, iv kv, rv b_7, rv b_9, rv b_13, rv b_19, rv b27, rv b37, iv (1 : Int32)] [(.int (4 : Int32)), (.int kv)] _
      refine XS.icmpYes X85.here hx rfl (pc0 := 253) (pc' := 299) rfl (hb hby at_253) rfl (XT.ii_lt_t ((own_up hc87 (by decide)) : kv < (4 : Int32))) (by decide) (by decide) ?_
      refine XS.iload X85.here hx rfl (hb hby at_299) rfl ?_
      exact retN X85 hx (t := .boolean) Bd.returns (by simp) (hb hby at_301) hr
     ·
      show Q0 Z p0 p1 p2 p3 p4 p5 w_EE0 w_DEE1 k_EE0 k_DEE1 h0 n0 _ T85.heap _
      rw [e85]
      exact ⟨rfl, N85⟩
    ·
     obtain ⟨cq88, kq88, q88a, q88b, q88c⟩ := isOf hZ e85 E52_59
     obtain ⟨_, _, ⟨T88, L88, k88, n88⟩, -, X88, ⟨Lc88, hQ88, l88, y88, z88⟩, st88⟩ := X85.virtualBack hx (y := y11) (z := y11) hown (mvT hZ (ow hw 62 rfl)) (mvT hZ (ow hw 63 rfl)) (notFace_of_selects (args := #[]) (mvT hZ (ow hw 65 rfl))) (mvT hZ (ow hw 65 rfl)) (mvT hZ (ow hw 64 rfl)) (by decide) (backOf (W := 0) (rm11_0 l Z ar hw [] b37 b27 b_13 wa_52 kw_52 kb_13 (f2 p4 (0 : Int32)) (f2 p4 (1 : Int32)) (f2 p4 (2 : Int32)) T52.heap n0 O52 E52_59 u52_2 u52_4 V52_55) hZ (ow hw 66 rfl) (ow hw 12 rfl) (by decide) (by decide)) q88a q88c (g := (mkF m 213 #[iv p0, iv p1, iv p2, iv p3, iv p4, iv p5, iv (0 : Int32), iv sv, iv kv, rv b_7, rv b_9, rv b_13, rv b_19, rv b27, rv b37, iv (1 : Int32)] [(.ref b_13), (.ref b27), (.ref b37)])) rfl (by rw [hml]; rfl) (Steps.refl _) (argsL := [(.ref b27), (.ref b_13)]) (rest := []) (lenOf pd_12 rfl) rfl (by show 2 * 0 + _ ≤ _; exact Nat.le_of_eq rfl) (hb hby at_213) (fun _ _ => ⟨rfl, e85, (by decide : 8 + 0 ≤ _), (by decide : 19 + 0 ≤ _)⟩)
     dsimp only [Pt.U, Pt.locs, Pt.cells, Pt.slots] at X88 l88 y88 z88 st88 hQ88
     subst l88 y88 z88
     obtain ⟨rfl, N88q, e88⟩ := hQ88
     have N88 := Fr.app N85 N88q
     obtain ⟨cq89, kq89, q89a, q89b, q89c⟩ := isOf hZ e88 E52_59
     obtain ⟨_, _, ⟨T89, L89, k89, n89⟩, -, X89, ⟨Lc89, hQ89, l89, y89, z89⟩, st89⟩ := X88.virtualBack hx (y := y9) (z := y9) hown (mvT hZ (ow hw 54 rfl)) (mvT hZ (ow hw 55 rfl)) (notFace_of_selects (args := #[]) (mvT hZ (ow hw 57 rfl))) (mvT hZ (ow hw 57 rfl)) (mvT hZ (ow hw 56 rfl)) (by decide) (backOf (W := 0) (rm9 l Z ar hw [] b37 (0 : Int32) T52.heap n0 O52 u52_3) hZ (ow hw 58 rfl) (ow hw 12 rfl) (by decide) (by decide)) q89a q89c (g := (mkF m 223 #[iv p0, iv p1, iv p2, iv p3, iv p4, iv p5, iv (0 : Int32), iv sv, iv kv, rv b_7, rv b_9, rv b_13, rv b_19, rv b27, rv b37, iv (1 : Int32)] [(.ref b37)])) rfl (by rw [hml]; rfl) (Steps.refl _) (argsL := []) (rest := []) (lenOf pd_10 rfl) rfl (by show 2 * 0 + _ ≤ _; exact Nat.le_of_eq rfl) (hb hby at_223) (fun _ _ => ⟨rfl, e88, (by decide : 8 + 0 ≤ _), (by decide : 19 + 0 ≤ _)⟩)
     dsimp only [Pt.U, Pt.locs, Pt.cells, Pt.slots] at X89 l89 y89 z89 st89 hQ89
     subst l89 y89 z89
     obtain ⟨rfl, N89q, e89⟩ := hQ89
     have N89 := Fr.app N88 N89q
     have r89 : (f9 (0 : Int32)) = (1 : Int32) := by rw [f9, if_pos ((by decide) : (0 : Int32) = (0 : Int32))] <;> decide
     rw [r89] at st89
     obtain ⟨_, _, ⟨T90, L90, k90, n90⟩, -, X90, ⟨Lc90, hQ90, l90, y90, z90⟩, st90⟩ := Jvm.LawKit.callS X89 hx (y := y10) hown (mvT hZ (ow hw 59 rfl)) (mvT hZ (ow hw 60 rfl)) (mvT hZ (ow hw 3 rfl)) (mvT hZ (ow hw 61 rfl)) (by decide) (backOf (W := 1) (rm10 l Z ar hw [] (0 : Int32) sv (3 : Int32) p2 p3 p4 p5 T52.heap n0 O52) hZ (ow hw 61 rfl) (ow hw 3 rfl) (by decide) (by decide)) (g := (mkF m 237 #[iv p0, iv p1, iv p2, iv p3, iv p4, iv p5, iv (0 : Int32), iv sv, iv kv, rv b_7, rv b_9, rv b_13, rv b_19, rv b27, rv b37, iv (1 : Int32)] [(.int p5), (.int p4), (.int p3), (.int p2), (.int (3 : Int32)), (.int sv), (.int (0 : Int32)), (.int (1 : Int32))])) rfl (by rw [hml]; rfl) (argsL := [(.int (0 : Int32)), (.int sv), (.int (3 : Int32)), (.int p2), (.int p3), (.int p4), (.int p5)]) (rest := [(.int (1 : Int32))]) (lenOf pd_11 rfl) rfl (by show 2 * 0 + _ ≤ _; exact Nat.le_of_eq rfl) (hb hby at_237) (fun _ _ => ⟨rfl, e89, (by decide : 8 + 0 ≤ _), (by decide : 19 + 0 ≤ _)⟩)
     dsimp only [Pt.U, Pt.locs, Pt.cells, Pt.slots] at X90 l90 y90 z90 st90 hQ90
     subst l90 y90 z90
     obtain ⟨rfl, N90q, e90⟩ := hQ90
     have N90 := Fr.app N89 N90q
     have r90 : (f10 (0 : Int32) sv (3 : Int32) p2 p3 p4 p5) = (1 : Int32) := by rw [f10, if_pos ((by decide) : (0 : Int32) < (1 : Int32))] <;> decide
     rw [r90] at st90
     have pre91 : ∀ tg, AT p e below T90 m 253 #[iv p0, iv p1, iv p2, iv p3, iv p4, iv p5, iv (0 : Int32), iv sv, iv kv, rv b_7, rv b_9, rv b_13, rv b_19, rv b27, rv b37, iv (1 : Int32)] [(.int (4 : Int32)), (.int kv)] tg → Steps p.tables e below S0 tg := fun tg kg => pre86 tg (by
      refine XS.icmpNo X85.here hx rfl (hb hby at_204) rfl (XT.ii_lt_f hc87) ?_
      refine XS.aload X85.here hx rfl (hb hby at_207) rfl rfl ?_
      refine XS.aload X85.here hx rfl (hb hby at_209) rfl rfl ?_
      refine XS.aload X85.here hx rfl (hb hby at_211) rfl rfl ?_
      refine st88.trans ?_
      refine XS.iload X88.here hx rfl (hb hby at_216) rfl ?_
      show AT p e below T88 m 218 #[iv p0, iv p1, iv p2, iv p3, iv p4, iv p5, iv (0 : Int32), iv sv, iv kv, rv b_7, rv b_9, rv b_13, rv b_19, rv b27, rv b37, iv (1 : Int32)] [(.int (1 : Int32))] _
      refine XS.ifNo X88.here hx rfl (hb hby at_218) rfl (XT.i0_eq_f ((by decide) : ¬ ((1 : Int32) = (0 : Int32)))) ?_
      refine XS.aload X88.here hx rfl (hb hby at_221) rfl rfl ?_
      refine st89.trans ?_
      refine XS.iload X89.here hx rfl (hb hby at_226) rfl ?_
      show AT p e below T89 m 228 #[iv p0, iv p1, iv p2, iv p3, iv p4, iv p5, iv (0 : Int32), iv sv, iv kv, rv b_7, rv b_9, rv b_13, rv b_19, rv b27, rv b37, iv (1 : Int32)] [(.int (0 : Int32)), (.int (1 : Int32))] _
      refine XS.iload X89.here hx rfl (hb hby at_228) rfl ?_
      refine XS.iconst X89.here hx rfl (hb hby at_230) ?_
      refine XS.iloadN X89.here hx rfl (hb hby at_231) rfl ?_
      refine XS.iloadN X89.here hx rfl (hb hby at_232) rfl ?_
      refine XS.iload X89.here hx rfl (hb hby at_233) rfl ?_
      refine XS.iload X89.here hx rfl (hb hby at_235) rfl ?_
      refine st90 _ ?_
      show AT p e below T90 m 240 #[iv p0, iv p1, iv p2, iv p3, iv p4, iv p5, iv (0 : Int32), iv sv, iv kv, rv b_7, rv b_9, rv b_13, rv b_19, rv b27, rv b37, iv (1 : Int32)] [(.int (1 : Int32)), (.int (1 : Int32))] _
      refine XS.icmpNo X90.here hx rfl (hb hby at_240) rfl (XT.ii_ne_f ((by decide) : (1 : Int32) = (1 : Int32))) ?_
      refine XS.iconst X90.here hx rfl (hb hby at_243) ?_
      refine XS.goto X90.here hx rfl (pc0 := 244) (pc' := 248) rfl (hb hby at_244) (by decide) (by decide) ?_
      refine XS.istore X90.here hx rfl (hb hby at_248) rfl (l' := #[iv p0, iv p1, iv p2, iv p3, iv p4, iv p5, iv (0 : Int32), iv sv, iv kv, rv b_7, rv b_9, rv b_13, rv b_19, rv b27, rv b37, iv (1 : Int32)]) rfl ?_
      refine XS.iload X90.here hx rfl (hb hby at_250) rfl ?_
      refine XS.iconst X90.here hx rfl (hb hby at_252) ?_
      exact kg)
     rcases Decidable.em (kv < (4 : Int32)) with hc92 | hc92
     ·
      obtain ⟨fs, hr, hrun, hended, hW, hsame⟩ := X90.leave (v := some (.int (1 : Int32))) (fun h => by rw [Bd.returns] at h; cases h)
      subst hS0
      refine ⟨_, _, pre91 _ ?_, hrun, hended, _, _, rfl, ?_, ⟨_, rfl⟩, hW, hsame.mono (by decide) (by decide)⟩
      ·
       refine XS.icmpYes X90.here hx rfl (pc0 := 253) (pc' := 299) rfl (hb hby at_253) rfl (XT.ii_lt_t hc92) (by decide) (by decide) ?_
       show AT p e below T90 m 299 #[iv p0, iv p1, iv p2, iv p3, iv p4, iv p5, iv (0 : Int32), iv sv, iv kv, rv b_7, rv b_9, rv b_13, rv b_19, rv b27, rv b37, iv (1 : Int32)] [] _
       refine XS.iload X90.here hx rfl (hb hby at_299) rfl ?_
       exact retN X90 hx (t := .boolean) Bd.returns (by simp) (hb hby at_301) hr
      ·
       show Q0 Z p0 p1 p2 p3 p4 p5 w_EE0 w_DEE1 k_EE0 k_DEE1 h0 n0 _ T90.heap _
       rw [e90]
       exact ⟨rfl, N90⟩
     ·
      obtain ⟨cq93, kq93, q93a, q93b, q93c⟩ := isOf hZ e90 E52_59
      obtain ⟨_, _, ⟨T93, L93, k93, n93⟩, -, X93, ⟨Lc93, hQ93, l93, y93, z93⟩, st93⟩ := X90.virtualBack hx (y := y11) (z := y11) hown (mvT hZ (ow hw 62 rfl)) (mvT hZ (ow hw 63 rfl)) (notFace_of_selects (args := #[]) (mvT hZ (ow hw 65 rfl))) (mvT hZ (ow hw 65 rfl)) (mvT hZ (ow hw 64 rfl)) (by decide) (backOf (W := 0) (rm11_0 l Z ar hw [] b37 b27 b_19 wa_52 kw_52 kb_19 (f2 p5 (0 : Int32)) (f2 p5 (1 : Int32)) (f2 p5 (2 : Int32)) T52.heap n0 O52 E52_59 u52_2 u52_4 V52_56) hZ (ow hw 66 rfl) (ow hw 12 rfl) (by decide) (by decide)) q93a q93c (g := (mkF m 262 #[iv p0, iv p1, iv p2, iv p3, iv p4, iv p5, iv (0 : Int32), iv sv, iv kv, rv b_7, rv b_9, rv b_13, rv b_19, rv b27, rv b37, iv (1 : Int32)] [(.ref b_19), (.ref b27), (.ref b37)])) rfl (by rw [hml]; rfl) (Steps.refl _) (argsL := [(.ref b27), (.ref b_19)]) (rest := []) (lenOf pd_12 rfl) rfl (by show 2 * 0 + _ ≤ _; exact Nat.le_of_eq rfl) (hb hby at_262) (fun _ _ => ⟨rfl, e90, (by decide : 8 + 0 ≤ _), (by decide : 19 + 0 ≤ _)⟩)
      dsimp only [Pt.U, Pt.locs, Pt.cells, Pt.slots] at X93 l93 y93 z93 st93 hQ93
      subst l93 y93 z93
      obtain ⟨rfl, N93q, e93⟩ := hQ93
      have N93 := Fr.app N90 N93q
      obtain ⟨cq94, kq94, q94a, q94b, q94c⟩ := isOf hZ e93 E52_59
      obtain ⟨_, _, ⟨T94, L94, k94, n94⟩, -, X94, ⟨Lc94, hQ94, l94, y94, z94⟩, st94⟩ := X93.virtualBack hx (y := y9) (z := y9) hown (mvT hZ (ow hw 54 rfl)) (mvT hZ (ow hw 55 rfl)) (notFace_of_selects (args := #[]) (mvT hZ (ow hw 57 rfl))) (mvT hZ (ow hw 57 rfl)) (mvT hZ (ow hw 56 rfl)) (by decide) (backOf (W := 0) (rm9 l Z ar hw [] b37 (0 : Int32) T52.heap n0 O52 u52_3) hZ (ow hw 58 rfl) (ow hw 12 rfl) (by decide) (by decide)) q94a q94c (g := (mkF m 272 #[iv p0, iv p1, iv p2, iv p3, iv p4, iv p5, iv (0 : Int32), iv sv, iv kv, rv b_7, rv b_9, rv b_13, rv b_19, rv b27, rv b37, iv (1 : Int32)] [(.ref b37)])) rfl (by rw [hml]; rfl) (Steps.refl _) (argsL := []) (rest := []) (lenOf pd_10 rfl) rfl (by show 2 * 0 + _ ≤ _; exact Nat.le_of_eq rfl) (hb hby at_272) (fun _ _ => ⟨rfl, e93, (by decide : 8 + 0 ≤ _), (by decide : 19 + 0 ≤ _)⟩)
      dsimp only [Pt.U, Pt.locs, Pt.cells, Pt.slots] at X94 l94 y94 z94 st94 hQ94
      subst l94 y94 z94
      obtain ⟨rfl, N94q, e94⟩ := hQ94
      have N94 := Fr.app N93 N94q
      have r94 : (f9 (0 : Int32)) = (1 : Int32) := by rw [f9, if_pos ((by decide) : (0 : Int32) = (0 : Int32))] <;> decide
      rw [r94] at st94
      obtain ⟨_, _, ⟨T95, L95, k95, n95⟩, -, X95, ⟨Lc95, hQ95, l95, y95, z95⟩, st95⟩ := Jvm.LawKit.callS X94 hx (y := y10) hown (mvT hZ (ow hw 59 rfl)) (mvT hZ (ow hw 60 rfl)) (mvT hZ (ow hw 3 rfl)) (mvT hZ (ow hw 61 rfl)) (by decide) (backOf (W := 1) (rm10 l Z ar hw [] (0 : Int32) sv (4 : Int32) p2 p3 p4 p5 T52.heap n0 O52) hZ (ow hw 61 rfl) (ow hw 3 rfl) (by decide) (by decide)) (g := (mkF m 286 #[iv p0, iv p1, iv p2, iv p3, iv p4, iv p5, iv (0 : Int32), iv sv, iv kv, rv b_7, rv b_9, rv b_13, rv b_19, rv b27, rv b37, iv (1 : Int32)] [(.int p5), (.int p4), (.int p3), (.int p2), (.int (4 : Int32)), (.int sv), (.int (0 : Int32)), (.int (1 : Int32))])) rfl (by rw [hml]; rfl) (argsL := [(.int (0 : Int32)), (.int sv), (.int (4 : Int32)), (.int p2), (.int p3), (.int p4), (.int p5)]) (rest := [(.int (1 : Int32))]) (lenOf pd_11 rfl) rfl (by show 2 * 0 + _ ≤ _; exact Nat.le_of_eq rfl) (hb hby at_286) (fun _ _ => ⟨rfl, e94, (by decide : 8 + 0 ≤ _), (by decide : 19 + 0 ≤ _)⟩)
      dsimp only [Pt.U, Pt.locs, Pt.cells, Pt.slots] at X95 l95 y95 z95 st95 hQ95
      subst l95 y95 z95
      obtain ⟨rfl, N95q, e95⟩ := hQ95
      have N95 := Fr.app N94 N95q
      have r95 : (f10 (0 : Int32) sv (4 : Int32) p2 p3 p4 p5) = (1 : Int32) := by rw [f10, if_pos ((by decide) : (0 : Int32) < (1 : Int32))] <;> decide
      rw [r95] at st95
      obtain ⟨fs, hr, hrun, hended, hW, hsame⟩ := X95.leave (v := some (.int (1 : Int32))) (fun h => by rw [Bd.returns] at h; cases h)
      subst hS0
      refine ⟨_, _, pre91 _ ?_, hrun, hended, _, _, rfl, ?_, ⟨_, rfl⟩, hW, hsame.mono (by decide) (by decide)⟩
      ·
       refine XS.icmpNo X90.here hx rfl (hb hby at_253) rfl (XT.ii_lt_f hc92) ?_
       show AT p e below T90 m 256 #[iv p0, iv p1, iv p2, iv p3, iv p4, iv p5, iv (0 : Int32), iv sv, iv kv, rv b_7, rv b_9, rv b_13, rv b_19, rv b27, rv b37, iv (1 : Int32)] [] _
       refine XS.aload X90.here hx rfl (hb hby at_256) rfl rfl ?_
       refine XS.aload X90.here hx rfl (hb hby at_258) rfl rfl ?_
       refine XS.aload X90.here hx rfl (hb hby at_260) rfl rfl ?_
       refine st93.trans ?_
       refine XS.iload X93.here hx rfl (hb hby at_265) rfl ?_
       show AT p e below T93 m 267 #[iv p0, iv p1, iv p2, iv p3, iv p4, iv p5, iv (0 : Int32), iv sv, iv kv, rv b_7, rv b_9, rv b_13, rv b_19, rv b27, rv b37, iv (1 : Int32)] [(.int (1 : Int32))] _
       refine XS.ifNo X93.here hx rfl (hb hby at_267) rfl (XT.i0_eq_f ((by decide) : ¬ ((1 : Int32) = (0 : Int32)))) ?_
       refine XS.aload X93.here hx rfl (hb hby at_270) rfl rfl ?_
       refine st94.trans ?_
       refine XS.iload X94.here hx rfl (hb hby at_275) rfl ?_
       refine XS.iload X94.here hx rfl (hb hby at_277) rfl ?_
       refine XS.iconst X94.here hx rfl (hb hby at_279) ?_
       refine XS.iloadN X94.here hx rfl (hb hby at_280) rfl ?_
       refine XS.iloadN X94.here hx rfl (hb hby at_281) rfl ?_
       show AT p e below T94 m 282 #[iv p0, iv p1, iv p2, iv p3, iv p4, iv p5, iv (0 : Int32), iv sv, iv kv, rv b_7, rv b_9, rv b_13, rv b_19, rv b27, rv b37, iv (1 : Int32)] [(.int p3), (.int p2), (.int (4 : Int32)), (.int sv), (.int (0 : Int32)), (.int (1 : Int32))] _
       refine XS.iload X94.here hx rfl (hb hby at_282) rfl ?_
       refine XS.iload X94.here hx rfl (hb hby at_284) rfl ?_
       refine st95 _ ?_
       show AT p e below T95 m 289 #[iv p0, iv p1, iv p2, iv p3, iv p4, iv p5, iv (0 : Int32), iv sv, iv kv, rv b_7, rv b_9, rv b_13, rv b_19, rv b27, rv b37, iv (1 : Int32)] [(.int (1 : Int32)), (.int (1 : Int32))] _
       refine XS.icmpNo X95.here hx rfl (hb hby at_289) rfl (XT.ii_ne_f ((by decide) : (1 : Int32) = (1 : Int32))) ?_
       refine XS.iconst X95.here hx rfl (hb hby at_292) ?_
       refine XS.goto X95.here hx rfl (pc0 := 293) (pc' := 297) rfl (hb hby at_293) (by decide) (by decide) ?_
       refine XS.istore X95.here hx rfl (hb hby at_297) rfl (l' := #[iv p0, iv p1, iv p2, iv p3, iv p4, iv p5, iv (0 : Int32), iv sv, iv kv, rv b_7, rv b_9, rv b_13, rv b_19, rv b27, rv b37, iv (1 : Int32)]) rfl ?_
       refine XS.iload X95.here hx rfl (hb hby at_299) rfl ?_
       exact retN X95 hx (t := .boolean) Bd.returns (by simp) (hb hby at_301) hr
      ·
       show Q0 Z p0 p1 p2 p3 p4 p5 w_EE0 w_DEE1 k_EE0 k_DEE1 h0 n0 _ T95.heap _
       rw [e95]
       exact ⟨rfl, N95⟩
 ·
  have pre96 : ∀ tg, AT p e below s₁ m 22 #[iv p0, iv p1, iv p2, iv p3, iv p4, iv p5, iv (1 : Int32), iv ((1 : Int32) + (((p0.toUInt32 >>> ((2 : Int32) &&& 31).toUInt32).toInt32) % (3 : Int32))), un, un, un, un, un, un, un, un] [] tg → Steps p.tables e below S0 tg := fun tg kg => pre2 tg (by
   refine XS.iload X0.here hx rfl (hb hby at_5) rfl ?_
   refine XS.iconst X0.here hx rfl (hb hby at_7) ?_
   show AT p e below s₁ m 8 #[iv p0, iv p1, iv p2, iv p3, iv p4, iv p5, iv (1 : Int32), un, un, un, un, un, un, un, un, un] [(.int (3 : Int32)), (.int (1 : Int32))] _
   refine XS.icmpYes X0.here hx rfl (pc0 := 8) (pc' := 13) rfl (hb hby at_8) rfl (XT.ii_le_t ((by decide) : ¬ ((3 : Int32) < (1 : Int32)))) (by decide) (by decide) ?_
   refine XS.iconst X0.here hx rfl (hb hby at_13) ?_
   refine XS.iloadN X0.here hx rfl (hb hby at_14) rfl ?_
   refine XS.iconst X0.here hx rfl (hb hby at_15) ?_
   refine XS.iushr X0.here hx rfl (hb hby at_16) rfl ?_
   refine XS.iconst X0.here hx rfl (hb hby at_17) ?_
   refine iremM X0 hx rfl (hb hby at_18) rfl (by decide) ?_
   refine XS.iadd X0.here hx rfl (hb hby at_19) rfl ?_
   refine XS.istore X0.here hx rfl (hb hby at_20) rfl (l' := #[iv p0, iv p1, iv p2, iv p3, iv p4, iv p5, iv (1 : Int32), iv ((1 : Int32) + (((p0.toUInt32 >>> ((2 : Int32) &&& 31).toUInt32).toInt32) % (3 : Int32))), un, un, un, un, un, un, un, un]) rfl ?_
   exact kg)
  obtain ⟨sv, hsv⟩ : ∃ z, z = ((1 : Int32) + (((p0.toUInt32 >>> ((2 : Int32) &&& 31).toUInt32).toInt32) % (3 : Int32))) := ⟨_, rfl⟩
  have pre97 : ∀ tg, AT p e below s₁ m 22 #[iv p0, iv p1, iv p2, iv p3, iv p4, iv p5, iv (1 : Int32), iv sv, un, un, un, un, un, un, un, un] [] tg → Steps p.tables e below S0 tg := by rw [hsv]; exact pre96
  have hsv : 1 ≤ sv.toInt ∧ sv.toInt ≤ 3 := by rw [hsv]; exact own_s p0
  have pre98 : ∀ tg, AT p e below s₁ m 30 #[iv p0, iv p1, iv p2, iv p3, iv p4, iv p5, iv (1 : Int32), iv sv, iv ((p1 &&& (2147483647 : Int32)) % (5 : Int32)), un, un, un, un, un, un, un] [] tg → Steps p.tables e below S0 tg := fun tg kg => pre97 tg (by
   refine XS.iloadN X0.here hx rfl (hb hby at_22) rfl ?_
   refine X0.ldcInt hx hown (mvT hZ (ow hw 0 rfl)) (g := (mkF m 23 #[iv p0, iv p1, iv p2, iv p3, iv p4, iv p5, iv (1 : Int32), iv sv, un, un, un, un, un, un, un, un] [(.int p1)])) rfl (hb hby at_23) _ ?_
   refine XS.iand X0.here hx rfl (hb hby at_25) rfl ?_
   refine XS.iconst X0.here hx rfl (hb hby at_26) ?_
   refine iremM X0 hx rfl (hb hby at_27) rfl (by decide) ?_
   refine XS.istore X0.here hx rfl (hb hby at_28) rfl (l' := #[iv p0, iv p1, iv p2, iv p3, iv p4, iv p5, iv (1 : Int32), iv sv, iv ((p1 &&& (2147483647 : Int32)) % (5 : Int32)), un, un, un, un, un, un, un]) rfl ?_
   exact kg)
  obtain ⟨kv, hkv⟩ : ∃ z, z = ((p1 &&& (2147483647 : Int32)) % (5 : Int32)) := ⟨_, rfl⟩
  have pre99 : ∀ tg, AT p e below s₁ m 30 #[iv p0, iv p1, iv p2, iv p3, iv p4, iv p5, iv (1 : Int32), iv sv, iv kv, un, un, un, un, un, un, un] [] tg → Steps p.tables e below S0 tg := by rw [hkv]; exact pre98
  obtain ⟨_, _, ⟨T100, L100, k100, n100⟩, -, X100, ⟨Lc100, hQ100, l100, y100, z100⟩, st100⟩ := Jvm.LawKit.callS X0 hx (y := y1) hown (mvT hZ (ow hw 1 rfl)) (mvT hZ (ow hw 2 rfl)) (mvT hZ (ow hw 3 rfl)) (mvT hZ (ow hw 4 rfl)) (by decide) (backOf (W := 0) (rm1 l Z ar hw [] p2 h0 n0 O0) hZ (ow hw 4 rfl) (ow hw 3 rfl) (by decide) (by decide)) (g := (mkF m 31 #[iv p0, iv p1, iv p2, iv p3, iv p4, iv p5, iv (1 : Int32), iv sv, iv kv, un, un, un, un, un, un, un] [(.int p2)])) rfl (by rw [hml]; rfl) (argsL := [(.int p2)]) (rest := []) (lenOf pd_8 rfl) rfl (by show 2 * 0 + _ ≤ _; exact Nat.le_of_eq rfl) (hb hby at_31) (fun _ _ => ⟨rfl, e0, (by decide : 0 + 1 ≤ _), (by decide : 0 + 3 ≤ _)⟩)
  dsimp only [Pt.U, Pt.locs, Pt.cells, Pt.slots] at X100 l100 y100 z100 st100 hQ100
  subst l100 y100 z100
  obtain ⟨b_100, kb_100, rfl, N100q, Kq100, u100_0, u100_1⟩ := hQ100
  have N100 := Fr.app N0 N100q
  have K100 := (Keep.refl h0 []).trans Kq100 all0
  have O100 := O0.keep Kq100 all0
  have sz101 : h0.size ≤ b_100 := Nat.le_trans (Keep.refl h0 []).1 u100_1
  have gn101 : n0 ≤ b_100 := Nat.le_trans (Nat.le_trans (Nat.le_of_eq O0.1.symm) O0.2.1) u100_1
  obtain ⟨_, _, ⟨T102, L102, k102, n102⟩, -, X102, ⟨Lc102, hQ102, l102, y102, z102⟩, st102⟩ := Jvm.LawKit.callS X100 hx (y := y1) hown (mvT hZ (ow hw 1 rfl)) (mvT hZ (ow hw 2 rfl)) (mvT hZ (ow hw 3 rfl)) (mvT hZ (ow hw 4 rfl)) (by decide) (backOf (W := 0) (rm1 l Z ar hw [] p3 T100.heap n0 O100) hZ (ow hw 4 rfl) (ow hw 3 rfl) (by decide) (by decide)) (g := (mkF m 37 #[iv p0, iv p1, iv p2, iv p3, iv p4, iv p5, iv (1 : Int32), iv sv, iv kv, rv b_100, un, un, un, un, un, un] [(.int p3)])) rfl (by rw [hml]; rfl) (argsL := [(.int p3)]) (rest := []) (lenOf pd_8 rfl) rfl (by show 2 * 0 + _ ≤ _; exact Nat.le_of_eq rfl) (hb hby at_37) (fun _ _ => ⟨rfl, rfl, (by decide : 1 + 1 ≤ _), (by decide : 3 + 3 ≤ _)⟩)
  dsimp only [Pt.U, Pt.locs, Pt.cells, Pt.slots] at X102 l102 y102 z102 st102 hQ102
  subst l102 y102 z102
  obtain ⟨b_102, kb_102, rfl, N102q, Kq102, u102_0, u102_1⟩ := hQ102
  have N102 := Fr.app N100 N102q
  have V102_103 := u100_0.keep Kq102 nin0
  have K102 := K100.trans Kq102 all0
  have O102 := O100.keep Kq102 all0
  have sz104 : h0.size ≤ b_102 := Nat.le_trans K100.1 u102_1
  have gn104 : n0 ≤ b_102 := Nat.le_trans (Nat.le_trans (Nat.le_of_eq O100.1.symm) O100.2.1) u102_1
  have ne105 : b_100 ≠ b_102 := Nat.ne_of_lt (Nat.lt_of_lt_of_le (u100_0).lt u102_1)
  obtain ⟨_, _, ⟨T106, L106, k106, n106⟩, -, X106, ⟨Lc106, hQ106, l106, y106, z106⟩, st106⟩ := Jvm.LawKit.callS X102 hx (y := y1) hown (mvT hZ (ow hw 1 rfl)) (mvT hZ (ow hw 2 rfl)) (mvT hZ (ow hw 3 rfl)) (mvT hZ (ow hw 4 rfl)) (by decide) (backOf (W := 0) (rm1 l Z ar hw [] p4 T102.heap n0 O102) hZ (ow hw 4 rfl) (ow hw 3 rfl) (by decide) (by decide)) (g := (mkF m 44 #[iv p0, iv p1, iv p2, iv p3, iv p4, iv p5, iv (1 : Int32), iv sv, iv kv, rv b_100, rv b_102, un, un, un, un, un] [(.int p4)])) rfl (by rw [hml]; rfl) (argsL := [(.int p4)]) (rest := []) (lenOf pd_8 rfl) rfl (by show 2 * 0 + _ ≤ _; exact Nat.le_of_eq rfl) (hb hby at_44) (fun _ _ => ⟨rfl, rfl, (by decide : 2 + 1 ≤ _), (by decide : 6 + 3 ≤ _)⟩)
  dsimp only [Pt.U, Pt.locs, Pt.cells, Pt.slots] at X106 l106 y106 z106 st106 hQ106
  subst l106 y106 z106
  obtain ⟨b_106, kb_106, rfl, N106q, Kq106, u106_0, u106_1⟩ := hQ106
  have N106 := Fr.app N102 N106q
  have V106_107 := V102_103.keep Kq106 nin0
  have V106_108 := u102_0.keep Kq106 nin0
  have K106 := K102.trans Kq106 all0
  have O106 := O102.keep Kq106 all0
  have sz109 : h0.size ≤ b_106 := Nat.le_trans K102.1 u106_1
  have gn109 : n0 ≤ b_106 := Nat.le_trans (Nat.le_trans (Nat.le_of_eq O102.1.symm) O102.2.1) u106_1
  have ne110 : b_100 ≠ b_106 := Nat.ne_of_lt (Nat.lt_of_lt_of_le (V102_103).lt u106_1)
  have ne111 : b_102 ≠ b_106 := Nat.ne_of_lt (Nat.lt_of_lt_of_le (u102_0).lt u106_1)
  obtain ⟨_, _, ⟨T112, L112, k112, n112⟩, -, X112, ⟨Lc112, hQ112, l112, y112, z112⟩, st112⟩ := Jvm.LawKit.callS X106 hx (y := y1) hown (mvT hZ (ow hw 1 rfl)) (mvT hZ (ow hw 2 rfl)) (mvT hZ (ow hw 3 rfl)) (mvT hZ (ow hw 4 rfl)) (by decide) (backOf (W := 0) (rm1 l Z ar hw [] p5 T106.heap n0 O106) hZ (ow hw 4 rfl) (ow hw 3 rfl) (by decide) (by decide)) (g := (mkF m 51 #[iv p0, iv p1, iv p2, iv p3, iv p4, iv p5, iv (1 : Int32), iv sv, iv kv, rv b_100, rv b_102, rv b_106, un, un, un, un] [(.int p5)])) rfl (by rw [hml]; rfl) (argsL := [(.int p5)]) (rest := []) (lenOf pd_8 rfl) rfl (by show 2 * 0 + _ ≤ _; exact Nat.le_of_eq rfl) (hb hby at_51) (fun _ _ => ⟨rfl, rfl, (by decide : 3 + 1 ≤ _), (by decide : 9 + 3 ≤ _)⟩)
  dsimp only [Pt.U, Pt.locs, Pt.cells, Pt.slots] at X112 l112 y112 z112 st112 hQ112
  subst l112 y112 z112
  obtain ⟨b_112, kb_112, rfl, N112q, Kq112, u112_0, u112_1⟩ := hQ112
  have N112 := Fr.app N106 N112q
  have V112_113 := V106_107.keep Kq112 nin0
  have V112_114 := V106_108.keep Kq112 nin0
  have V112_115 := u106_0.keep Kq112 nin0
  have K112 := K106.trans Kq112 all0
  have O112 := O106.keep Kq112 all0
  have sz116 : h0.size ≤ b_112 := Nat.le_trans K106.1 u112_1
  have gn116 : n0 ≤ b_112 := Nat.le_trans (Nat.le_trans (Nat.le_of_eq O106.1.symm) O106.2.1) u112_1
  have ne117 : b_100 ≠ b_112 := Nat.ne_of_lt (Nat.lt_of_lt_of_le (V106_107).lt u112_1)
  have ne118 : b_102 ≠ b_112 := Nat.ne_of_lt (Nat.lt_of_lt_of_le (V106_108).lt u112_1)
  have ne119 : b_106 ≠ b_112 := Nat.ne_of_lt (Nat.lt_of_lt_of_le (u106_0).lt u112_1)
  obtain ⟨T120, h120, k120, X120, e120, E120, A120, B120, st120⟩ := newPE X112 hx hZ (ow hw 9 rfl) rfl (g := (mkF m 57 #[iv p0, iv p1, iv p2, iv p3, iv p4, iv p5, iv (1 : Int32), iv sv, iv kv, rv b_100, rv b_102, rv b_106, rv b_112, un, un, un] [(.int (1 : Int32))])) rfl (hb hby at_57) rfl (by decide) (cap := 1) (by decide) (by decide) (by decide) (by decide) (ad := "[B") (by decide)
  obtain ⟨b120, g120⟩ : ∃ z, z = T112.heap.size := ⟨_, rfl⟩
  rw [← g120] at A120 B120 st120
  have ne120_121 : b_100 ≠ b120 := Nat.ne_of_lt (Nat.lt_of_lt_of_le (V112_113).lt (Nat.le_of_eq g120.symm))
  have ne120_122 : b_102 ≠ b120 := Nat.ne_of_lt (Nat.lt_of_lt_of_le (V112_114).lt (Nat.le_of_eq g120.symm))
  have ne120_123 : b_106 ≠ b120 := Nat.ne_of_lt (Nat.lt_of_lt_of_le (V112_115).lt (Nat.le_of_eq g120.symm))
  have ne120_124 : b_112 ≠ b120 := Nat.ne_of_lt (Nat.lt_of_lt_of_le (u112_0).lt (Nat.le_of_eq g120.symm))
  have gn120 : n0 ≤ b120 := Nat.le_trans (Nat.le_trans (Nat.le_of_eq O112.1.symm) O112.2.1) (Nat.le_of_eq g120.symm)
  have sz120 : h0.size ≤ b120 := Nat.le_trans K112.1 (Nat.le_of_eq g120.symm)
  have V120_125 := V112_113.ext E120
  have V120_126 := V112_114.ext E120
  have V120_127 := V112_115.ext E120
  have V120_128 := u112_0.ext E120
  have K120 := K112.ext E120
  have O120 := O112.ext E120
  have V120_129 : Arv Z h120 b120 k120 .byte (1 : Int32) [(.int (0 : Int32))] (.int (0 : Int32)) := (Arv.new A120 (by decide)).pad (pad_rep [] (.int (0 : Int32)) 1)
  obtain ⟨T130, h130, X130, e130, E130, A130, D130, -, st130⟩ := newO X120 hx hZ hown (ow hw 10 rfl) (ow hw 11 rfl) (ow hw 12 rfl) e120 (g := (mkF m 61 #[iv p0, iv p1, iv p2, iv p3, iv p4, iv p5, iv (1 : Int32), iv sv, iv kv, rv b_100, rv b_102, rv b_106, rv b_112, rv b120, un, un] [])) rfl (hb hby at_61) (by decide) (by decide)
  obtain ⟨b130, g130⟩ : ∃ z, z = h120.size := ⟨_, rfl⟩
  rw [← g130] at A130 D130 st130
  have ne130_131 : b_100 ≠ b130 := Nat.ne_of_lt (Nat.lt_of_lt_of_le (V120_125).lt (Nat.le_of_eq g130.symm))
  have ne130_132 : b_102 ≠ b130 := Nat.ne_of_lt (Nat.lt_of_lt_of_le (V120_126).lt (Nat.le_of_eq g130.symm))
  have ne130_133 : b_106 ≠ b130 := Nat.ne_of_lt (Nat.lt_of_lt_of_le (V120_127).lt (Nat.le_of_eq g130.symm))
  have ne130_134 : b_112 ≠ b130 := Nat.ne_of_lt (Nat.lt_of_lt_of_le (V120_128).lt (Nat.le_of_eq g130.symm))
  have ne130_135 : b120 ≠ b130 := Nat.ne_of_lt (Nat.lt_of_lt_of_le (V120_129).lt (Nat.le_of_eq g130.symm))
  have gn130 : n0 ≤ b130 := Nat.le_trans (Nat.le_trans (Nat.le_of_eq O120.1.symm) O120.2.1) (Nat.le_of_eq g130.symm)
  have sz130 : h0.size ≤ b130 := Nat.le_trans K120.1 (Nat.le_of_eq g130.symm)
  have V130_136 := V120_125.ext E130
  have V130_137 := V120_126.ext E130
  have V130_138 := V120_127.ext E130
  have V130_139 := V120_128.ext E130
  have V130_140 := V120_129.ext E130
  have E130_141 := B120.ext E130
  have K130 := K120.ext E130
  have O130 := O120.ext E130
  have F130_142 : Fld Z h130 b130 "com/example/filters_under_siege/filtersundersiege/Cover" "elements" "Ljava/util/List;" .null := D130 (Or.inr (ow hw 44 rfl)) (ty := (.object "java/util/List")) (by decide)
  have F130_143 : Fld Z h130 b130 "com/example/filters_under_siege/filtersundersiege/Cover" "wanted" "[I" .null := D130 (Or.inr (ow hw 47 rfl)) (ty := (.array .int)) (by decide)
  have F130_144 : Fld Z h130 b130 "com/example/filters_under_siege/filtersundersiege/Cover" "uncovered" "I" (.int (0 : Int32)) := D130 (Or.inl (ow hw 53 rfl)) (ty := .int) (by decide)
  obtain ⟨_, _, ⟨T145, L145, k145, n145⟩, -, X145, ⟨Lc145, hQ145, l145, y145, z145⟩, st145⟩ := X130.specialBack hx (y := y3) rfl hown (mvT hZ (ow hw 13 rfl)) (mvT hZ (ow hw 14 rfl)) (mvT hZ (ow hw 15 rfl)) (by decide) (backOf (W := 1) (rm3_1 l Z ar hw [] b130 sv w_EE0 w_DEE1 k_EE0 k_DEE1 h130 n0 O130 HW A130 F130_142 F130_143 F130_144 gn130) hZ (ow hw 15 rfl) (ow hw 12 rfl) (by decide) (by decide)) (g := (mkF m 69 #[iv p0, iv p1, iv p2, iv p3, iv p4, iv p5, iv (1 : Int32), iv sv, iv kv, rv b_100, rv b_102, rv b_106, rv b_112, rv b120, un, un] [(.int sv), (.int (1 : Int32)), (.ref b130), (.ref b130)])) rfl (by rw [hml]; rfl) (Steps.refl _) (a := b130) (argsL := [(.int (1 : Int32)), (.int sv)]) (rest := [(.ref b130)]) (lenOf pd_9 rfl) rfl (by show 2 * 0 + _ ≤ _; exact Nat.le_of_eq rfl) (hb hby at_69) (fun _ _ => ⟨rfl, e130, (by decide : 6 + 2 ≤ _), (by decide : 16 + 4 ≤ _)⟩)
  dsimp only [Pt.U, Pt.locs, Pt.cells, Pt.slots] at X145 l145 y145 z145 st145 hQ145
  subst l145 y145 z145
  obtain ⟨li_145, wa_145, kw_145, rfl, N145q, Kq145, u145_0, u145_1, u145_2, u145_3, u145_4, u145_5, u145_6, u145_7, u145_8, u145_9, u145_10, u145_11, u145_12, u145_13⟩ := hQ145
  have N145 := Fr.app N112 N145q
  have V145_146 := V130_136.keep Kq145 (ninS ne130_131 nin0)
  have V145_147 := V130_137.keep Kq145 (ninS ne130_132 nin0)
  have V145_148 := V130_138.keep Kq145 (ninS ne130_133 nin0)
  have V145_149 := V130_139.keep Kq145 (ninS ne130_134 nin0)
  have V145_150 := V130_140.keep Kq145 (ninS ne130_135 nin0)
  have E145_151 := E130_141.keep Kq145
  have E145_152 := A130.keep Kq145
  have K145 := K130.trans Kq145 (allS (Or.inr sz130) all0)
  have O145 := O130.keep Kq145 (allS gn130 all0)
  have sz153 : h0.size ≤ li_145 := Nat.le_trans K130.1 u145_9
  have gn153 : n0 ≤ li_145 := Nat.le_trans (Nat.le_trans (Nat.le_of_eq O130.1.symm) O130.2.1) u145_9
  have ne154 : b_100 ≠ li_145 := Nat.ne_of_lt (Nat.lt_of_lt_of_le (V130_136).lt u145_9)
  have ne155 : b_102 ≠ li_145 := Nat.ne_of_lt (Nat.lt_of_lt_of_le (V130_137).lt u145_9)
  have ne156 : b_106 ≠ li_145 := Nat.ne_of_lt (Nat.lt_of_lt_of_le (V130_138).lt u145_9)
  have ne157 : b_112 ≠ li_145 := Nat.ne_of_lt (Nat.lt_of_lt_of_le (V130_139).lt u145_9)
  have ne158 : b120 ≠ li_145 := Nat.ne_of_lt (Nat.lt_of_lt_of_le (V130_140).lt u145_9)
  have ne159 : b130 ≠ li_145 := Nat.ne_of_lt (Nat.lt_of_lt_of_le (A130).lt u145_9)
  have sz160 : h0.size ≤ wa_145 := Nat.le_trans K130.1 u145_10
  have gn160 : n0 ≤ wa_145 := Nat.le_trans (Nat.le_trans (Nat.le_of_eq O130.1.symm) O130.2.1) u145_10
  have ne161 : b_100 ≠ wa_145 := Nat.ne_of_lt (Nat.lt_of_lt_of_le (V130_136).lt u145_10)
  have ne162 : b_102 ≠ wa_145 := Nat.ne_of_lt (Nat.lt_of_lt_of_le (V130_137).lt u145_10)
  have ne163 : b_106 ≠ wa_145 := Nat.ne_of_lt (Nat.lt_of_lt_of_le (V130_138).lt u145_10)
  have ne164 : b_112 ≠ wa_145 := Nat.ne_of_lt (Nat.lt_of_lt_of_le (V130_139).lt u145_10)
  have ne165 : b120 ≠ wa_145 := Nat.ne_of_lt (Nat.lt_of_lt_of_le (V130_140).lt u145_10)
  have ne166 : b130 ≠ wa_145 := Nat.ne_of_lt (Nat.lt_of_lt_of_le (A130).lt u145_10)
  have hLD : LD Z T145.heap h0.size (0 : Int) w_DEE1 w_DEE1 kw_145 (0 : Int32) := Or.inl ⟨rfl, rfl⟩
  obtain ⟨cq167, kq167, q167a, q167b, q167c⟩ := isOf hZ rfl E145_152
  obtain ⟨_, _, ⟨T167, L167, k167, n167⟩, -, X167, ⟨Lc167, hQ167, l167, y167, z167⟩, st167⟩ := X145.virtualBack hx (y := y9) (z := y9) hown (mvT hZ (ow hw 54 rfl)) (mvT hZ (ow hw 55 rfl)) (notFace_of_selects (args := #[]) (mvT hZ (ow hw 57 rfl))) (mvT hZ (ow hw 57 rfl)) (mvT hZ (ow hw 56 rfl)) (by decide) (backOf (W := 0) (rm9 l Z ar hw [] b130 (1 : Int32) T145.heap n0 O145 u145_3) hZ (ow hw 58 rfl) (ow hw 12 rfl) (by decide) (by decide)) q167a q167c (g := (mkF m 76 #[iv p0, iv p1, iv p2, iv p3, iv p4, iv p5, iv (1 : Int32), iv sv, iv kv, rv b_100, rv b_102, rv b_106, rv b_112, rv b120, rv b130, un] [(.ref b130)])) rfl (by rw [hml]; rfl) (Steps.refl _) (argsL := []) (rest := []) (lenOf pd_10 rfl) rfl (by show 2 * 0 + _ ≤ _; exact Nat.le_of_eq rfl) (hb hby at_76) (fun _ _ => ⟨rfl, rfl, (by decide : 8 + 0 ≤ _), (by decide : 20 + 0 ≤ _)⟩)
  dsimp only [Pt.U, Pt.locs, Pt.cells, Pt.slots] at X167 l167 y167 z167 st167 hQ167
  subst l167 y167 z167
  obtain ⟨rfl, N167q, e167⟩ := hQ167
  have N167 := Fr.app N145 N167q
  have r167 : (f9 (1 : Int32)) = (0 : Int32) := by rw [f9, if_neg ((by decide) : ¬ ((1 : Int32) = (0 : Int32)))] <;> decide
  rw [r167] at st167
  obtain ⟨_, _, ⟨T168, L168, k168, n168⟩, -, X168, ⟨Lc168, hQ168, l168, y168, z168⟩, st168⟩ := Jvm.LawKit.callS X167 hx (y := y10) hown (mvT hZ (ow hw 59 rfl)) (mvT hZ (ow hw 60 rfl)) (mvT hZ (ow hw 3 rfl)) (mvT hZ (ow hw 61 rfl)) (by decide) (backOf (W := 1) (rm10 l Z ar hw [] (1 : Int32) sv (0 : Int32) p2 p3 p4 p5 T145.heap n0 O145) hZ (ow hw 61 rfl) (ow hw 3 rfl) (by decide) (by decide)) (g := (mkF m 90 #[iv p0, iv p1, iv p2, iv p3, iv p4, iv p5, iv (1 : Int32), iv sv, iv kv, rv b_100, rv b_102, rv b_106, rv b_112, rv b120, rv b130, un] [(.int p5), (.int p4), (.int p3), (.int p2), (.int (0 : Int32)), (.int sv), (.int (1 : Int32)), (.int (0 : Int32))])) rfl (by rw [hml]; rfl) (argsL := [(.int (1 : Int32)), (.int sv), (.int (0 : Int32)), (.int p2), (.int p3), (.int p4), (.int p5)]) (rest := [(.int (0 : Int32))]) (lenOf pd_11 rfl) rfl (by show 2 * 0 + _ ≤ _; exact Nat.le_of_eq rfl) (hb hby at_90) (fun _ _ => ⟨rfl, e167, (by decide : 8 + 0 ≤ _), (by decide : 20 + 0 ≤ _)⟩)
  dsimp only [Pt.U, Pt.locs, Pt.cells, Pt.slots] at X168 l168 y168 z168 st168 hQ168
  subst l168 y168 z168
  obtain ⟨rfl, N168q, e168⟩ := hQ168
  have N168 := Fr.app N167 N168q
  have se169_0 : Sat sv.toInt (f12 (0 : Int32) (0 : Int32) p2 p3 p4 p5).toInt sv := own_st (w := sv) hsv (own_hv (0 : Int32) p2 p3 p4 p5).1
  have su169 : ((1 : Int32)).toInt = ps sv := by rw [own_p1 hsv]; decide
  have sq170 : (0 : Int32) = (f10 (1 : Int32) sv (0 : Int32) p2 p3 p4 p5) := by rw [show ((0 : Int32) : Int32) = f9 (1 : Int32) from by decide]; exact own_fin1 hsv su169 se169_0
  have pre171 : ∀ tg, AT p e below T168 m 106 #[iv p0, iv p1, iv p2, iv p3, iv p4, iv p5, iv (1 : Int32), iv sv, iv kv, rv b_100, rv b_102, rv b_106, rv b_112, rv b120, rv b130, iv (1 : Int32)] [(.int (1 : Int32)), (.int kv)] tg → Steps p.tables e below S0 tg := fun tg kg => pre99 tg (by
   refine XS.iloadN X0.here hx rfl (hb hby at_30) rfl ?_
   refine st100 _ ?_
   refine XS.astore X100.here hx rfl (hb hby at_34) rfl rfl (l' := #[iv p0, iv p1, iv p2, iv p3, iv p4, iv p5, iv (1 : Int32), iv sv, iv kv, rv b_100, un, un, un, un, un, un]) rfl ?_
   refine XS.iloadN X100.here hx rfl (hb hby at_36) rfl ?_
   refine st102 _ ?_
   refine XS.astore X102.here hx rfl (hb hby at_40) rfl rfl (l' := #[iv p0, iv p1, iv p2, iv p3, iv p4, iv p5, iv (1 : Int32), iv sv, iv kv, rv b_100, rv b_102, un, un, un, un, un]) rfl ?_
   refine XS.iload X102.here hx rfl (hb hby at_42) rfl ?_
   refine st106 _ ?_
   refine XS.astore X106.here hx rfl (hb hby at_47) rfl rfl (l' := #[iv p0, iv p1, iv p2, iv p3, iv p4, iv p5, iv (1 : Int32), iv sv, iv kv, rv b_100, rv b_102, rv b_106, un, un, un, un]) rfl ?_
   refine XS.iload X106.here hx rfl (hb hby at_49) rfl ?_
   refine st112 _ ?_
   refine XS.astore X112.here hx rfl (hb hby at_54) rfl rfl (l' := #[iv p0, iv p1, iv p2, iv p3, iv p4, iv p5, iv (1 : Int32), iv sv, iv kv, rv b_100, rv b_102, rv b_106, rv b_112, un, un, un]) rfl ?_
   show AT p e below T112 m 56 #[iv p0, iv p1, iv p2, iv p3, iv p4, iv p5, iv (1 : Int32), iv sv, iv kv, rv b_100, rv b_102, rv b_106, rv b_112, un, un, un] [] _
   refine XS.iconst X112.here hx rfl (hb hby at_56) ?_
   refine st120 _ ?_
   refine XS.astore X120.here hx rfl (hb hby at_59) rfl rfl (l' := #[iv p0, iv p1, iv p2, iv p3, iv p4, iv p5, iv (1 : Int32), iv sv, iv kv, rv b_100, rv b_102, rv b_106, rv b_112, rv b120, un, un]) rfl ?_
   refine st130 _ ?_
   refine XS.dup X130.here hx rfl (hb hby at_64) rfl rfl ?_
   refine XS.iload X130.here hx rfl (hb hby at_65) rfl ?_
   refine XS.iload X130.here hx rfl (hb hby at_67) rfl ?_
   refine st145.trans ?_
   refine XS.astore X145.here hx rfl (hb hby at_72) rfl rfl (l' := #[iv p0, iv p1, iv p2, iv p3, iv p4, iv p5, iv (1 : Int32), iv sv, iv kv, rv b_100, rv b_102, rv b_106, rv b_112, rv b120, rv b130, un]) rfl ?_
   refine XS.aload X145.here hx rfl (hb hby at_74) rfl rfl ?_
   refine st167.trans ?_
   refine XS.iload X167.here hx rfl (hb hby at_79) rfl ?_
   show AT p e below T167 m 81 #[iv p0, iv p1, iv p2, iv p3, iv p4, iv p5, iv (1 : Int32), iv sv, iv kv, rv b_100, rv b_102, rv b_106, rv b_112, rv b120, rv b130, un] [(.int (1 : Int32)), (.int (0 : Int32))] _
   refine XS.iload X167.here hx rfl (hb hby at_81) rfl ?_
   refine XS.iconst X167.here hx rfl (hb hby at_83) ?_
   refine XS.iloadN X167.here hx rfl (hb hby at_84) rfl ?_
   refine XS.iloadN X167.here hx rfl (hb hby at_85) rfl ?_
   refine XS.iload X167.here hx rfl (hb hby at_86) rfl ?_
   refine XS.iload X167.here hx rfl (hb hby at_88) rfl ?_
   refine st168 _ ?_
   show AT p e below T168 m 93 #[iv p0, iv p1, iv p2, iv p3, iv p4, iv p5, iv (1 : Int32), iv sv, iv kv, rv b_100, rv b_102, rv b_106, rv b_112, rv b120, rv b130, un] [(.int (f10 (1 : Int32) sv (0 : Int32) p2 p3 p4 p5)), (.int (0 : Int32))] _
   refine XS.icmpNo X168.here hx rfl (hb hby at_93) rfl (XT.ii_ne_f (sq170 : (0 : Int32) = (f10 (1 : Int32) sv (0 : Int32) p2 p3 p4 p5))) ?_
   refine XS.iconst X168.here hx rfl (hb hby at_96) ?_
   refine XS.goto X168.here hx rfl (pc0 := 97) (pc' := 101) rfl (hb hby at_97) (by decide) (by decide) ?_
   refine XS.istore X168.here hx rfl (hb hby at_101) rfl (l' := #[iv p0, iv p1, iv p2, iv p3, iv p4, iv p5, iv (1 : Int32), iv sv, iv kv, rv b_100, rv b_102, rv b_106, rv b_112, rv b120, rv b130, iv (1 : Int32)]) rfl ?_
   refine XS.iload X168.here hx rfl (hb hby at_103) rfl ?_
   refine XS.iconst X168.here hx rfl (hb hby at_105) ?_
   exact kg)
  rcases Decidable.em (kv < (1 : Int32)) with hc172 | hc172
  ·
   obtain ⟨fs, hr, hrun, hended, hW, hsame⟩ := X168.leave (v := some (.int (1 : Int32))) (fun h => by rw [Bd.returns] at h; cases h)
   subst hS0
   refine ⟨_, _, pre171 _ ?_, hrun, hended, _, _, rfl, ?_, ⟨_, rfl⟩, hW, hsame.mono (by decide) (by decide)⟩
   ·
    refine XS.icmpYes X168.here hx rfl (pc0 := 106) (pc' := 152) rfl (hb hby at_106) rfl (XT.ii_lt_t hc172) (by decide) (by decide) ?_
    show AT p e below T168 m 152 #[iv p0, iv p1, iv p2, iv p3, iv p4, iv p5, iv (1 : Int32), iv sv, iv kv, rv b_100, rv b_102, rv b_106, rv b_112, rv b120, rv b130, iv (1 : Int32)] [] _
    refine XS.iload X168.here hx rfl (hb hby at_152) rfl ?_
    refine XS.iconst X168.here hx rfl (hb hby at_154) ?_
    show AT p e below T168 m 155 #[iv p0, iv p1, iv p2, iv p3, iv p4, iv p5, iv (1 : Int32), iv sv, iv kv, rv b_100, rv b_102, rv b_106, rv b_112, rv b120, rv b130, iv (1 : Int32)] [(.int (2 : Int32)), (.int kv)] _
    refine XS.icmpYes X168.here hx rfl (pc0 := 155) (pc' := 201) rfl (hb hby at_155) rfl (XT.ii_lt_t ((own_up hc172 (by decide)) : kv < (2 : Int32))) (by decide) (by decide) ?_
    refine XS.iload X168.here hx rfl (hb hby at_201) rfl ?_
    refine XS.iconst X168.here hx rfl (hb hby at_203) ?_
    show AT p e below T168 m 204 #[iv p0, iv p1, iv p2, iv p3, iv p4, iv p5, iv (1 : Int32), iv sv, iv kv, rv b_100, rv b_102, rv b_106, rv b_112, rv b120, rv b130, iv (1 : Int32)] [(.int (3 : Int32)), (.int kv)] _
    refine XS.icmpYes X168.here hx rfl (pc0 := 204) (pc' := 250) rfl (hb hby at_204) rfl (XT.ii_lt_t ((own_up hc172 (by decide)) : kv < (3 : Int32))) (by decide) (by decide) ?_
    refine XS.iload X168.here hx rfl (hb hby at_250) rfl ?_
    refine XS.iconst X168.here hx rfl (hb hby at_252) ?_
    show AT p e below T168 m 253 #[iv p0, iv p1, iv p2, iv p3, iv p4, iv p5, iv (1 : Int32), iv sv, iv kv, rv b_100, rv b_102, rv b_106, rv b_112, rv b120, rv b130, iv (1 : Int32)] [(.int (4 : Int32)), (.int kv)] _
    refine XS.icmpYes X168.here hx rfl (pc0 := 253) (pc' := 299) rfl (hb hby at_253) rfl (XT.ii_lt_t ((own_up hc172 (by decide)) : kv < (4 : Int32))) (by decide) (by decide) ?_
    refine XS.iload X168.here hx rfl (hb hby at_299) rfl ?_
    exact retN X168 hx (t := .boolean) Bd.returns (by simp) (hb hby at_301) hr
   ·
    show Q0 Z p0 p1 p2 p3 p4 p5 w_EE0 w_DEE1 k_EE0 k_DEE1 h0 n0 _ T168.heap _
    rw [e168]
    exact ⟨rfl, N168⟩
  ·
   obtain ⟨cq173, kq173, q173a, q173b, q173c⟩ := isOf hZ e168 E145_152
   obtain ⟨_, _, ⟨T173, L173, k173, n173⟩, -, X173, ⟨Lc173, hQ173, l173, y173, z173⟩, st173⟩ := X168.virtualBack hx (y := y11) (z := y11) hown (mvT hZ (ow hw 62 rfl)) (mvT hZ (ow hw 63 rfl)) (notFace_of_selects (args := #[]) (mvT hZ (ow hw 65 rfl))) (mvT hZ (ow hw 65 rfl)) (mvT hZ (ow hw 64 rfl)) (by decide) (backOf (W := 0) (rm11_1 l Z ar hw [] b130 b120 b_100 w_EE0 w_DEE1 k_EE0 k_DEE1 wa_145 kw_145 kb_100 (f2 p2 (0 : Int32)) (f2 p2 (1 : Int32)) (f2 p2 (2 : Int32)) sv (1 : Int32) li_145 (0 : Int32) (0 : Int32) w_DEE1 kw_145 h0.size (0 : Int) T145.heap n0 O145 HW E145_152 u145_2 u145_1 u145_3 u145_4 V145_146 gn130 gn160 u145_12 (Ne.symm ne130_131) (Ne.symm ne161) u145_5 u145_6 u145_7 u145_8 hLD gn153 E145_151 u145_11 (Ne.symm u145_13) ne154 (Ne.symm ne130_135) (Ne.symm ne165) (Ne.symm ne158) (Ne.symm (Old.ne O145 E_DEE1.lt gn130)) (Ne.symm (Old.ne O145 E_DEE1.lt gn160)) (Ne.symm (Old.ne O145 E_DEE1.lt gn101)) (Ne.symm (Old.ne O145 E_DEE1.lt gn153)) (Ne.symm (Old.ne O145 E_DEE1.lt gn120)) Z0 K145.1 (by omega)) hZ (ow hw 66 rfl) (ow hw 12 rfl) (by decide) (by decide)) q173a q173c (g := (mkF m 115 #[iv p0, iv p1, iv p2, iv p3, iv p4, iv p5, iv (1 : Int32), iv sv, iv kv, rv b_100, rv b_102, rv b_106, rv b_112, rv b120, rv b130, iv (1 : Int32)] [(.ref b_100), (.ref b120), (.ref b130)])) rfl (by rw [hml]; rfl) (Steps.refl _) (argsL := [(.ref b120), (.ref b_100)]) (rest := []) (lenOf pd_12 rfl) rfl (by show 2 * 0 + _ ≤ _; exact Nat.le_of_eq rfl) (hb hby at_115) (fun _ _ => ⟨rfl, e168, (by decide : 8 + 1 ≤ _), (by decide : 20 + 10 ≤ _)⟩)
   dsimp only [Pt.U, Pt.locs, Pt.cells, Pt.slots] at X173 l173 y173 z173 st173 hQ173
   subst l173 y173 z173
   obtain ⟨x0_173, xu_173, m2_173, s2_173, e2_173, k2_173, ys_173, rfl, N173q, Kq173, u173_0, u173_1, u173_2, u173_3, u173_4, u173_5, u173_6, u173_7, u173_8, u173_9, u173_10, u173_11, u173_12, u173_13⟩ := hQ173
   have N173 := Fr.app N168 N173q
   have ne174 : b_100 ≠ e2_173 := own_nx u173_13 (V145_146).lt (Ne.symm (Old.ne O145 E_DEE1.lt gn101))
   have ne175 : b_102 ≠ e2_173 := own_nx u173_13 (V145_147).lt (Ne.symm (Old.ne O145 E_DEE1.lt gn104))
   have ne176 : b_106 ≠ e2_173 := own_nx u173_13 (V145_148).lt (Ne.symm (Old.ne O145 E_DEE1.lt gn109))
   have ne177 : b_112 ≠ e2_173 := own_nx u173_13 (V145_149).lt (Ne.symm (Old.ne O145 E_DEE1.lt gn116))
   have ne178 : b120 ≠ e2_173 := own_nx u173_13 (V145_150).lt (Ne.symm (Old.ne O145 E_DEE1.lt gn120))
   have ne179 : b130 ≠ e2_173 := own_nx u173_13 (E145_152).lt (Ne.symm (Old.ne O145 E_DEE1.lt gn130))
   have ne180 : wa_145 ≠ e2_173 := own_nx u173_13 (u145_4).lt (Ne.symm (Old.ne O145 E_DEE1.lt gn160))
   have ne181 : li_145 ≠ e2_173 := own_nx u173_13 (u145_5).lt (Ne.symm (Old.ne O145 E_DEE1.lt gn153))
   have V173_182 := V145_146.keep Kq173 (ninS ne130_131 (ninS ne161 (ninS ne154 (own_nys u173_12 (Ne.symm (Old.ne O145 E_DEE1.lt gn101))))))
   have V173_183 := V145_147.keep Kq173 (ninS ne130_132 (ninS ne162 (ninS ne155 (own_nys u173_12 (Ne.symm (Old.ne O145 E_DEE1.lt gn104))))))
   have V173_184 := V145_148.keep Kq173 (ninS ne130_133 (ninS ne163 (ninS ne156 (own_nys u173_12 (Ne.symm (Old.ne O145 E_DEE1.lt gn109))))))
   have V173_185 := V145_149.keep Kq173 (ninS ne130_134 (ninS ne164 (ninS ne157 (own_nys u173_12 (Ne.symm (Old.ne O145 E_DEE1.lt gn116))))))
   have V173_186 := V145_150.keep Kq173 (ninS ne130_135 (ninS ne165 (ninS ne158 (own_nys u173_12 (Ne.symm (Old.ne O145 E_DEE1.lt gn120))))))
   have E173_187 := E145_151.keep Kq173
   have E173_188 := E145_152.keep Kq173
   have E173_189 := u145_5.keep Kq173
   have K173 := K145.trans Kq173 (allS (Or.inr sz130) (allS (Or.inr sz160) (allS (Or.inr sz153) (own_ays u173_12))))
   have O173 : Old Z n0 T173.heap := O145.keep Kq173 (allS gn130 (allS gn160 (allS gn153 (own_gys u173_12 Z0))))
   have sr190_0 := own_rw hsv (by have a := own_hv (0 : Int32) p2 p3 p4 p5; have b1 := own_b01 p2 (0 : Int32); have b2 := own_b01 p3 (0 : Int32); have b3 := own_b01 p4 (0 : Int32); omega) se169_0
   have se190_0 : Sat sv.toInt (f12 (0 : Int32) (1 : Int32) p2 p3 p4 p5).toInt x0_173 := by
    have a := own_hv (0 : Int32) p2 p3 p4 p5; have b1 := own_b01 p2 (0 : Int32); have b2 := own_b01 p3 (0 : Int32); have b3 := own_b01 p4 (0 : Int32)
    rw [u173_5, show (f12 (0 : Int32) (1 : Int32) p2 p3 p4 p5).toInt = (f12 (0 : Int32) (0 : Int32) p2 p3 p4 p5).toInt + (f2 p2 (0 : Int32)).toInt from by omega]
    exact own_dc hsv (own_bit _ _) (by omega) se169_0
   have su190 : xu_173.toInt = ps x0_173 := by rw [u173_6, u173_5]; exact own_us1 (own_bit _ _) sr190_0 su169
   obtain ⟨cq191, kq191, q191a, q191b, q191c⟩ := isOf hZ rfl E173_188
   obtain ⟨_, _, ⟨T191, L191, k191, n191⟩, -, X191, ⟨Lc191, hQ191, l191, y191, z191⟩, st191⟩ := X173.virtualBack hx (y := y9) (z := y9) hown (mvT hZ (ow hw 54 rfl)) (mvT hZ (ow hw 55 rfl)) (notFace_of_selects (args := #[]) (mvT hZ (ow hw 57 rfl))) (mvT hZ (ow hw 57 rfl)) (mvT hZ (ow hw 56 rfl)) (by decide) (backOf (W := 0) (rm9 l Z ar hw [] b130 xu_173 T173.heap n0 O173 u173_3) hZ (ow hw 58 rfl) (ow hw 12 rfl) (by decide) (by decide)) q191a q191c (g := (mkF m 125 #[iv p0, iv p1, iv p2, iv p3, iv p4, iv p5, iv (1 : Int32), iv sv, iv kv, rv b_100, rv b_102, rv b_106, rv b_112, rv b120, rv b130, iv (1 : Int32)] [(.ref b130)])) rfl (by rw [hml]; rfl) (Steps.refl _) (argsL := []) (rest := []) (lenOf pd_10 rfl) rfl (by show 2 * 0 + _ ≤ _; exact Nat.le_of_eq rfl) (hb hby at_125) (fun _ _ => ⟨rfl, rfl, (by decide : 9 + 0 ≤ _), (by decide : 30 + 0 ≤ _)⟩)
   dsimp only [Pt.U, Pt.locs, Pt.cells, Pt.slots] at X191 l191 y191 z191 st191 hQ191
   subst l191 y191 z191
   obtain ⟨rfl, N191q, e191⟩ := hQ191
   have N191 := Fr.app N173 N191q
   obtain ⟨_, _, ⟨T192, L192, k192, n192⟩, -, X192, ⟨Lc192, hQ192, l192, y192, z192⟩, st192⟩ := Jvm.LawKit.callS X191 hx (y := y10) hown (mvT hZ (ow hw 59 rfl)) (mvT hZ (ow hw 60 rfl)) (mvT hZ (ow hw 3 rfl)) (mvT hZ (ow hw 61 rfl)) (by decide) (backOf (W := 1) (rm10 l Z ar hw [] (1 : Int32) sv (1 : Int32) p2 p3 p4 p5 T173.heap n0 O173) hZ (ow hw 61 rfl) (ow hw 3 rfl) (by decide) (by decide)) (g := (mkF m 139 #[iv p0, iv p1, iv p2, iv p3, iv p4, iv p5, iv (1 : Int32), iv sv, iv kv, rv b_100, rv b_102, rv b_106, rv b_112, rv b120, rv b130, iv (1 : Int32)] [(.int p5), (.int p4), (.int p3), (.int p2), (.int (1 : Int32)), (.int sv), (.int (1 : Int32)), (.int (f9 xu_173))])) rfl (by rw [hml]; rfl) (argsL := [(.int (1 : Int32)), (.int sv), (.int (1 : Int32)), (.int p2), (.int p3), (.int p4), (.int p5)]) (rest := [(.int (f9 xu_173))]) (lenOf pd_11 rfl) rfl (by show 2 * 0 + _ ≤ _; exact Nat.le_of_eq rfl) (hb hby at_139) (fun _ _ => ⟨rfl, e191, (by decide : 9 + 0 ≤ _), (by decide : 30 + 0 ≤ _)⟩)
   dsimp only [Pt.U, Pt.locs, Pt.cells, Pt.slots] at X192 l192 y192 z192 st192 hQ192
   subst l192 y192 z192
   obtain ⟨rfl, N192q, e192⟩ := hQ192
   have N192 := Fr.app N191 N192q
   have sq193 : (f9 xu_173) = (f10 (1 : Int32) sv (1 : Int32) p2 p3 p4 p5) := own_fin1 hsv su190 se190_0
   have pre194 : ∀ tg, AT p e below T192 m 155 #[iv p0, iv p1, iv p2, iv p3, iv p4, iv p5, iv (1 : Int32), iv sv, iv kv, rv b_100, rv b_102, rv b_106, rv b_112, rv b120, rv b130, iv (1 : Int32)] [(.int (2 : Int32)), (.int kv)] tg → Steps p.tables e below S0 tg := fun tg kg => pre171 tg (by
    refine XS.icmpNo X168.here hx rfl (hb hby at_106) rfl (XT.ii_lt_f hc172) ?_
    show AT p e below T168 m 109 #[iv p0, iv p1, iv p2, iv p3, iv p4, iv p5, iv (1 : Int32), iv sv, iv kv, rv b_100, rv b_102, rv b_106, rv b_112, rv b120, rv b130, iv (1 : Int32)] [] _
    refine XS.aload X168.here hx rfl (hb hby at_109) rfl rfl ?_
    refine XS.aload X168.here hx rfl (hb hby at_111) rfl rfl ?_
    refine XS.aload X168.here hx rfl (hb hby at_113) rfl rfl ?_
    refine st173.trans ?_
    refine XS.iload X173.here hx rfl (hb hby at_118) rfl ?_
    show AT p e below T173 m 120 #[iv p0, iv p1, iv p2, iv p3, iv p4, iv p5, iv (1 : Int32), iv sv, iv kv, rv b_100, rv b_102, rv b_106, rv b_112, rv b120, rv b130, iv (1 : Int32)] [(.int (1 : Int32))] _
    refine XS.ifNo X173.here hx rfl (hb hby at_120) rfl (XT.i0_eq_f ((by decide) : ¬ ((1 : Int32) = (0 : Int32)))) ?_
    refine XS.aload X173.here hx rfl (hb hby at_123) rfl rfl ?_
    refine st191.trans ?_
    refine XS.iload X191.here hx rfl (hb hby at_128) rfl ?_
    refine XS.iload X191.here hx rfl (hb hby at_130) rfl ?_
    refine XS.iconst X191.here hx rfl (hb hby at_132) ?_
    refine XS.iloadN X191.here hx rfl (hb hby at_133) rfl ?_
    refine XS.iloadN X191.here hx rfl (hb hby at_134) rfl ?_
    show AT p e below T191 m 135 #[iv p0, iv p1, iv p2, iv p3, iv p4, iv p5, iv (1 : Int32), iv sv, iv kv, rv b_100, rv b_102, rv b_106, rv b_112, rv b120, rv b130, iv (1 : Int32)] [(.int p3), (.int p2), (.int (1 : Int32)), (.int sv), (.int (1 : Int32)), (.int (f9 xu_173))] _
    refine XS.iload X191.here hx rfl (hb hby at_135) rfl ?_
    refine XS.iload X191.here hx rfl (hb hby at_137) rfl ?_
    refine st192 _ ?_
    show AT p e below T192 m 142 #[iv p0, iv p1, iv p2, iv p3, iv p4, iv p5, iv (1 : Int32), iv sv, iv kv, rv b_100, rv b_102, rv b_106, rv b_112, rv b120, rv b130, iv (1 : Int32)] [(.int (f10 (1 : Int32) sv (1 : Int32) p2 p3 p4 p5)), (.int (f9 xu_173))] _
    refine XS.icmpNo X192.here hx rfl (hb hby at_142) rfl (XT.ii_ne_f (sq193 : (f9 xu_173) = (f10 (1 : Int32) sv (1 : Int32) p2 p3 p4 p5))) ?_
    refine XS.iconst X192.here hx rfl (hb hby at_145) ?_
    refine XS.goto X192.here hx rfl (pc0 := 146) (pc' := 150) rfl (hb hby at_146) (by decide) (by decide) ?_
    refine XS.istore X192.here hx rfl (hb hby at_150) rfl (l' := #[iv p0, iv p1, iv p2, iv p3, iv p4, iv p5, iv (1 : Int32), iv sv, iv kv, rv b_100, rv b_102, rv b_106, rv b_112, rv b120, rv b130, iv (1 : Int32)]) rfl ?_
    refine XS.iload X192.here hx rfl (hb hby at_152) rfl ?_
    refine XS.iconst X192.here hx rfl (hb hby at_154) ?_
    exact kg)
   rcases Decidable.em (kv < (2 : Int32)) with hc195 | hc195
   ·
    obtain ⟨fs, hr, hrun, hended, hW, hsame⟩ := X192.leave (v := some (.int (1 : Int32))) (fun h => by rw [Bd.returns] at h; cases h)
    subst hS0
    refine ⟨_, _, pre194 _ ?_, hrun, hended, _, _, rfl, ?_, ⟨_, rfl⟩, hW, hsame.mono (by decide) (by decide)⟩
    ·
     refine XS.icmpYes X192.here hx rfl (pc0 := 155) (pc' := 201) rfl (hb hby at_155) rfl (XT.ii_lt_t hc195) (by decide) (by decide) ?_
     refine XS.iload X192.here hx rfl (hb hby at_201) rfl ?_
     refine XS.iconst X192.here hx rfl (hb hby at_203) ?_
     show AT p e below T192 m 204 #[iv p0, iv p1, iv p2, iv p3, iv p4, iv p5, iv (1 : Int32), iv sv, iv kv, rv b_100, rv b_102, rv b_106, rv b_112, rv b120, rv b130, iv (1 : Int32)] [(.int (3 : Int32)), (.int kv)] _
     refine XS.icmpYes X192.here hx rfl (pc0 := 204) (pc' := 250) rfl (hb hby at_204) rfl (XT.ii_lt_t ((own_up hc195 (by decide)) : kv < (3 : Int32))) (by decide) (by decide) ?_
     refine XS.iload X192.here hx rfl (hb hby at_250) rfl ?_
     refine XS.iconst X192.here hx rfl (hb hby at_252) ?_
     show AT p e below T192 m 253 #[iv p0, iv p1, iv p2, iv p3, iv p4, iv p5, iv (1 : Int32), iv sv, iv kv, rv b_100, rv b_102, rv b_106, rv b_112, rv b120, rv b130, iv (1 : Int32)] [(.int (4 : Int32)), (.int kv)] _
     refine XS.icmpYes X192.here hx rfl (pc0 := 253) (pc' := 299) rfl (hb hby at_253) rfl (XT.ii_lt_t ((own_up hc195 (by decide)) : kv < (4 : Int32))) (by decide) (by decide) ?_
     show AT p e below T192 m 299 #[iv p0, iv p1, iv p2, iv p3, iv p4, iv p5, iv (1 : Int32), iv sv, iv kv, rv b_100, rv b_102, rv b_106, rv b_112, rv b120, rv b130, iv (1 : Int32)] [] _
     refine XS.iload X192.here hx rfl (hb hby at_299) rfl ?_
     exact retN X192 hx (t := .boolean) Bd.returns (by simp) (hb hby at_301) hr
    ·
     show Q0 Z p0 p1 p2 p3 p4 p5 w_EE0 w_DEE1 k_EE0 k_DEE1 h0 n0 _ T192.heap _
     rw [e192]
     exact ⟨rfl, N192⟩
   ·
    obtain ⟨cq196, kq196, q196a, q196b, q196c⟩ := isOf hZ e192 E173_188
    obtain ⟨_, _, ⟨T196, L196, k196, n196⟩, -, X196, ⟨Lc196, hQ196, l196, y196, z196⟩, st196⟩ := X192.virtualBack hx (y := y11) (z := y11) hown (mvT hZ (ow hw 62 rfl)) (mvT hZ (ow hw 63 rfl)) (notFace_of_selects (args := #[]) (mvT hZ (ow hw 65 rfl))) (mvT hZ (ow hw 65 rfl)) (mvT hZ (ow hw 64 rfl)) (by decide) (backOf (W := 0) (rm11_1 l Z ar hw [] b130 b120 b_102 w_EE0 w_DEE1 k_EE0 k_DEE1 wa_145 kw_145 kb_102 (f2 p3 (0 : Int32)) (f2 p3 (1 : Int32)) (f2 p3 (2 : Int32)) x0_173 xu_173 li_145 m2_173 s2_173 e2_173 k2_173 h0.size ((0 : Int) + 1) T173.heap n0 O173 HW E173_188 u173_1 u173_2 u173_3 u173_4 V173_183 gn130 gn160 u145_12 (Ne.symm ne130_132) (Ne.symm ne162) E173_189 u173_8 u173_9 u173_10 u173_11 gn153 E173_187 u145_11 (Ne.symm u145_13) ne155 (Ne.symm ne130_135) (Ne.symm ne165) (Ne.symm ne158) ne179 ne180 ne175 ne181 ne178 Z0 K173.1 (by omega)) hZ (ow hw 66 rfl) (ow hw 12 rfl) (by decide) (by decide)) q196a q196c (g := (mkF m 164 #[iv p0, iv p1, iv p2, iv p3, iv p4, iv p5, iv (1 : Int32), iv sv, iv kv, rv b_100, rv b_102, rv b_106, rv b_112, rv b120, rv b130, iv (1 : Int32)] [(.ref b_102), (.ref b120), (.ref b130)])) rfl (by rw [hml]; rfl) (Steps.refl _) (argsL := [(.ref b120), (.ref b_102)]) (rest := []) (lenOf pd_12 rfl) rfl (by show 2 * 0 + _ ≤ _; exact Nat.le_of_eq rfl) (hb hby at_164) (fun _ _ => ⟨rfl, e192, (by decide : 9 + 1 ≤ _), (by decide : 30 + 10 ≤ _)⟩)
    dsimp only [Pt.U, Pt.locs, Pt.cells, Pt.slots] at X196 l196 y196 z196 st196 hQ196
    subst l196 y196 z196
    obtain ⟨x0_196, xu_196, m2_196, s2_196, e2_196, k2_196, ys_196, rfl, N196q, Kq196, u196_0, u196_1, u196_2, u196_3, u196_4, u196_5, u196_6, u196_7, u196_8, u196_9, u196_10, u196_11, u196_12, u196_13⟩ := hQ196
    have N196 := Fr.app N192 N196q
    have ne197 : b_100 ≠ e2_196 := own_nx u196_13 (V173_182).lt ne174
    have ne198 : b_102 ≠ e2_196 := own_nx u196_13 (V173_183).lt ne175
    have ne199 : b_106 ≠ e2_196 := own_nx u196_13 (V173_184).lt ne176
    have ne200 : b_112 ≠ e2_196 := own_nx u196_13 (V173_185).lt ne177
    have ne201 : b120 ≠ e2_196 := own_nx u196_13 (V173_186).lt ne178
    have ne202 : b130 ≠ e2_196 := own_nx u196_13 (E173_188).lt ne179
    have ne203 : li_145 ≠ e2_196 := own_nx u196_13 (E173_189).lt ne181
    have ne204 : wa_145 ≠ e2_196 := own_nx u196_13 (u173_4).lt ne180
    have V196_205 := V173_182.keep Kq196 (ninS ne130_131 (ninS ne161 (ninS ne154 (own_nys u196_12 ne174))))
    have V196_206 := V173_183.keep Kq196 (ninS ne130_132 (ninS ne162 (ninS ne155 (own_nys u196_12 ne175))))
    have V196_207 := V173_184.keep Kq196 (ninS ne130_133 (ninS ne163 (ninS ne156 (own_nys u196_12 ne176))))
    have V196_208 := V173_185.keep Kq196 (ninS ne130_134 (ninS ne164 (ninS ne157 (own_nys u196_12 ne177))))
    have V196_209 := V173_186.keep Kq196 (ninS ne130_135 (ninS ne165 (ninS ne158 (own_nys u196_12 ne178))))
    have E196_210 := E173_187.keep Kq196
    have E196_211 := E173_188.keep Kq196
    have E196_212 := E173_189.keep Kq196
    have K196 := K173.trans Kq196 (allS (Or.inr sz130) (allS (Or.inr sz160) (allS (Or.inr sz153) (own_ays u196_12))))
    have O196 : Old Z n0 T196.heap := O173.keep Kq196 (allS gn130 (allS gn160 (allS gn153 (own_gys u196_12 Z0))))
    have sr213_0 := own_rw hsv (by have a := own_hv (0 : Int32) p2 p3 p4 p5; have b1 := own_b01 p2 (0 : Int32); have b2 := own_b01 p3 (0 : Int32); have b3 := own_b01 p4 (0 : Int32); omega) se190_0
    have se213_0 : Sat sv.toInt (f12 (0 : Int32) (2 : Int32) p2 p3 p4 p5).toInt x0_196 := by
     have a := own_hv (0 : Int32) p2 p3 p4 p5; have b1 := own_b01 p2 (0 : Int32); have b2 := own_b01 p3 (0 : Int32); have b3 := own_b01 p4 (0 : Int32)
     rw [u196_5, show (f12 (0 : Int32) (2 : Int32) p2 p3 p4 p5).toInt = (f12 (0 : Int32) (1 : Int32) p2 p3 p4 p5).toInt + (f2 p3 (0 : Int32)).toInt from by omega]
     exact own_dc hsv (own_bit _ _) (by omega) se190_0
    have su213 : xu_196.toInt = ps x0_196 := by rw [u196_6, u196_5]; exact own_us1 (own_bit _ _) sr213_0 su190
    obtain ⟨cq214, kq214, q214a, q214b, q214c⟩ := isOf hZ rfl E196_211
    obtain ⟨_, _, ⟨T214, L214, k214, n214⟩, -, X214, ⟨Lc214, hQ214, l214, y214, z214⟩, st214⟩ := X196.virtualBack hx (y := y9) (z := y9) hown (mvT hZ (ow hw 54 rfl)) (mvT hZ (ow hw 55 rfl)) (notFace_of_selects (args := #[]) (mvT hZ (ow hw 57 rfl))) (mvT hZ (ow hw 57 rfl)) (mvT hZ (ow hw 56 rfl)) (by decide) (backOf (W := 0) (rm9 l Z ar hw [] b130 xu_196 T196.heap n0 O196 u196_3) hZ (ow hw 58 rfl) (ow hw 12 rfl) (by decide) (by decide)) q214a q214c (g := (mkF m 174 #[iv p0, iv p1, iv p2, iv p3, iv p4, iv p5, iv (1 : Int32), iv sv, iv kv, rv b_100, rv b_102, rv b_106, rv b_112, rv b120, rv b130, iv (1 : Int32)] [(.ref b130)])) rfl (by rw [hml]; rfl) (Steps.refl _) (argsL := []) (rest := []) (lenOf pd_10 rfl) rfl (by show 2 * 0 + _ ≤ _; exact Nat.le_of_eq rfl) (hb hby at_174) (fun _ _ => ⟨rfl, rfl, (by decide : 10 + 0 ≤ _), (by decide : 40 + 0 ≤ _)⟩)
    dsimp only [Pt.U, Pt.locs, Pt.cells, Pt.slots] at X214 l214 y214 z214 st214 hQ214
    subst l214 y214 z214
    obtain ⟨rfl, N214q, e214⟩ := hQ214
    have N214 := Fr.app N196 N214q
    obtain ⟨_, _, ⟨T215, L215, k215, n215⟩, -, X215, ⟨Lc215, hQ215, l215, y215, z215⟩, st215⟩ := Jvm.LawKit.callS X214 hx (y := y10) hown (mvT hZ (ow hw 59 rfl)) (mvT hZ (ow hw 60 rfl)) (mvT hZ (ow hw 3 rfl)) (mvT hZ (ow hw 61 rfl)) (by decide) (backOf (W := 1) (rm10 l Z ar hw [] (1 : Int32) sv (2 : Int32) p2 p3 p4 p5 T196.heap n0 O196) hZ (ow hw 61 rfl) (ow hw 3 rfl) (by decide) (by decide)) (g := (mkF m 188 #[iv p0, iv p1, iv p2, iv p3, iv p4, iv p5, iv (1 : Int32), iv sv, iv kv, rv b_100, rv b_102, rv b_106, rv b_112, rv b120, rv b130, iv (1 : Int32)] [(.int p5), (.int p4), (.int p3), (.int p2), (.int (2 : Int32)), (.int sv), (.int (1 : Int32)), (.int (f9 xu_196))])) rfl (by rw [hml]; rfl) (argsL := [(.int (1 : Int32)), (.int sv), (.int (2 : Int32)), (.int p2), (.int p3), (.int p4), (.int p5)]) (rest := [(.int (f9 xu_196))]) (lenOf pd_11 rfl) rfl (by show 2 * 0 + _ ≤ _; exact Nat.le_of_eq rfl) (hb hby at_188) (fun _ _ => ⟨rfl, e214, (by decide : 10 + 0 ≤ _), (by decide : 40 + 0 ≤ _)⟩)
    dsimp only [Pt.U, Pt.locs, Pt.cells, Pt.slots] at X215 l215 y215 z215 st215 hQ215
    subst l215 y215 z215
    obtain ⟨rfl, N215q, e215⟩ := hQ215
    have N215 := Fr.app N214 N215q
    have sq216 : (f9 xu_196) = (f10 (1 : Int32) sv (2 : Int32) p2 p3 p4 p5) := own_fin1 hsv su213 se213_0
    have pre217 : ∀ tg, AT p e below T215 m 204 #[iv p0, iv p1, iv p2, iv p3, iv p4, iv p5, iv (1 : Int32), iv sv, iv kv, rv b_100, rv b_102, rv b_106, rv b_112, rv b120, rv b130, iv (1 : Int32)] [(.int (3 : Int32)), (.int kv)] tg → Steps p.tables e below S0 tg := fun tg kg => pre194 tg (by
     refine XS.icmpNo X192.here hx rfl (hb hby at_155) rfl (XT.ii_lt_f hc195) ?_
     refine XS.aload X192.here hx rfl (hb hby at_158) rfl rfl ?_
     refine XS.aload X192.here hx rfl (hb hby at_160) rfl rfl ?_
     refine XS.aload X192.here hx rfl (hb hby at_162) rfl rfl ?_
     refine st196.trans ?_
     show AT p e below T196 m 167 #[iv p0, iv p1, iv p2, iv p3, iv p4, iv p5, iv (1 : Int32), iv sv, iv kv, rv b_100, rv b_102, rv b_106, rv b_112, rv b120, rv b130, iv (1 : Int32)] [] _
     refine XS.iload X196.here hx rfl (hb hby at_167) rfl ?_
     show AT p e below T196 m 169 #[iv p0, iv p1, iv p2, iv p3, iv p4, iv p5, iv (1 : Int32), iv sv, iv kv, rv b_100, rv b_102, rv b_106, rv b_112, rv b120, rv b130, iv (1 : Int32)] [(.int (1 : Int32))] _
     refine XS.ifNo X196.here hx rfl (hb hby at_169) rfl (XT.i0_eq_f ((by decide) : ¬ ((1 : Int32) = (0 : Int32)))) ?_
     refine XS.aload X196.here hx rfl (hb hby at_172) rfl rfl ?_
     refine st214.trans ?_
     refine XS.iload X214.here hx rfl (hb hby at_177) rfl ?_
     refine XS.iload X214.here hx rfl (hb hby at_179) rfl ?_
     refine XS.iconst X214.here hx rfl (hb hby at_181) ?_
     refine XS.iloadN X214.here hx rfl (hb hby at_182) rfl ?_
     refine XS.iloadN X214.here hx rfl (hb hby at_183) rfl ?_
     refine XS.iload X214.here hx rfl (hb hby at_184) rfl ?_
     refine XS.iload X214.here hx rfl (hb hby at_186) rfl ?_
     refine st215 _ ?_
     show AT p e below T215 m 191 #[iv p0, iv p1, iv p2, iv p3, iv p4, iv p5, iv (1 : Int32), iv sv, iv kv, rv b_100, rv b_102, rv b_106, rv b_112, rv b120, rv b130, iv (1 : Int32)] [(.int (f10 (1 : Int32) sv (2 : Int32) p2 p3 p4 p5)), (.int (f9 xu_196))] _
     refine XS.icmpNo X215.here hx rfl (hb hby at_191) rfl (XT.ii_ne_f (sq216 : (f9 xu_196) = (f10 (1 : Int32) sv (2 : Int32) p2 p3 p4 p5))) ?_
     refine XS.iconst X215.here hx rfl (hb hby at_194) ?_
     show AT p e below T215 m 195 #[iv p0, iv p1, iv p2, iv p3, iv p4, iv p5, iv (1 : Int32), iv sv, iv kv, rv b_100, rv b_102, rv b_106, rv b_112, rv b120, rv b130, iv (1 : Int32)] [(.int (1 : Int32))] _
     refine XS.goto X215.here hx rfl (pc0 := 195) (pc' := 199) rfl (hb hby at_195) (by decide) (by decide) ?_
     refine XS.istore X215.here hx rfl (hb hby at_199) rfl (l' := #[iv p0, iv p1, iv p2, iv p3, iv p4, iv p5, iv (1 : Int32), iv sv, iv kv, rv b_100, rv b_102, rv b_106, rv b_112, rv b120, rv b130, iv (1 : Int32)]) rfl ?_
     refine XS.iload X215.here hx rfl (hb hby at_201) rfl ?_
     refine XS.iconst X215.here hx rfl (hb hby at_203) ?_
     exact kg)
    rcases Decidable.em (kv < (3 : Int32)) with hc218 | hc218
    ·
     obtain ⟨fs, hr, hrun, hended, hW, hsame⟩ := X215.leave (v := some (.int (1 : Int32))) (fun h => by rw [Bd.returns] at h; cases h)
     subst hS0
     refine ⟨_, _, pre217 _ ?_, hrun, hended, _, _, rfl, ?_, ⟨_, rfl⟩, hW, hsame.mono (by decide) (by decide)⟩
     ·
      refine XS.icmpYes X215.here hx rfl (pc0 := 204) (pc' := 250) rfl (hb hby at_204) rfl (XT.ii_lt_t hc218) (by decide) (by decide) ?_
      refine XS.iload X215.here hx rfl (hb hby at_250) rfl ?_
      refine XS.iconst X215.here hx rfl (hb hby at_252) ?_
      show AT p e below T215 m 253 #[iv p0, iv p1, iv p2, iv p3, iv p4, iv p5, iv (1 : Int32), iv sv, iv kv, rv b_100, rv b_102, rv b_106, rv b_112, rv b120, rv b130, iv (1 : Int32)] [(.int (4 : Int32)), (.int kv)] _
      refine XS.icmpYes X215.here hx rfl (pc0 := 253) (pc' := 299) rfl (hb hby at_253) rfl (XT.ii_lt_t ((own_up hc218 (by decide)) : kv < (4 : Int32))) (by decide) (by decide) ?_
      refine XS.iload X215.here hx rfl (hb hby at_299) rfl ?_
      exact retN X215 hx (t := .boolean) Bd.returns (by simp) (hb hby at_301) hr
     ·
      show Q0 Z p0 p1 p2 p3 p4 p5 w_EE0 w_DEE1 k_EE0 k_DEE1 h0 n0 _ T215.heap _
      rw [e215]
      exact ⟨rfl, N215⟩
    ·
     obtain ⟨cq219, kq219, q219a, q219b, q219c⟩ := isOf hZ e215 E196_211
     obtain ⟨_, _, ⟨T219, L219, k219, n219⟩, -, X219, ⟨Lc219, hQ219, l219, y219, z219⟩, st219⟩ := X215.virtualBack hx (y := y11) (z := y11) hown (mvT hZ (ow hw 62 rfl)) (mvT hZ (ow hw 63 rfl)) (notFace_of_selects (args := #[]) (mvT hZ (ow hw 65 rfl))) (mvT hZ (ow hw 65 rfl)) (mvT hZ (ow hw 64 rfl)) (by decide) (backOf (W := 0) (rm11_1 l Z ar hw [] b130 b120 b_106 w_EE0 w_DEE1 k_EE0 k_DEE1 wa_145 kw_145 kb_106 (f2 p4 (0 : Int32)) (f2 p4 (1 : Int32)) (f2 p4 (2 : Int32)) x0_196 xu_196 li_145 m2_196 s2_196 e2_196 k2_196 h0.size (((0 : Int) + 1) + 1) T196.heap n0 O196 HW E196_211 u196_1 u196_2 u196_3 u196_4 V196_207 gn130 gn160 u145_12 (Ne.symm ne130_133) (Ne.symm ne163) E196_212 u196_8 u196_9 u196_10 u196_11 gn153 E196_210 u145_11 (Ne.symm u145_13) ne156 (Ne.symm ne130_135) (Ne.symm ne165) (Ne.symm ne158) ne202 ne204 ne199 ne203 ne201 Z0 K196.1 (by omega)) hZ (ow hw 66 rfl) (ow hw 12 rfl) (by decide) (by decide)) q219a q219c (g := (mkF m 213 #[iv p0, iv p1, iv p2, iv p3, iv p4, iv p5, iv (1 : Int32), iv sv, iv kv, rv b_100, rv b_102, rv b_106, rv b_112, rv b120, rv b130, iv (1 : Int32)] [(.ref b_106), (.ref b120), (.ref b130)])) rfl (by rw [hml]; rfl) (Steps.refl _) (argsL := [(.ref b120), (.ref b_106)]) (rest := []) (lenOf pd_12 rfl) rfl (by show 2 * 0 + _ ≤ _; exact Nat.le_of_eq rfl) (hb hby at_213) (fun _ _ => ⟨rfl, e215, (by decide : 10 + 1 ≤ _), (by decide : 40 + 10 ≤ _)⟩)
     dsimp only [Pt.U, Pt.locs, Pt.cells, Pt.slots] at X219 l219 y219 z219 st219 hQ219
     subst l219 y219 z219
     obtain ⟨x0_219, xu_219, m2_219, s2_219, e2_219, k2_219, ys_219, rfl, N219q, Kq219, u219_0, u219_1, u219_2, u219_3, u219_4, u219_5, u219_6, u219_7, u219_8, u219_9, u219_10, u219_11, u219_12, u219_13⟩ := hQ219
     have N219 := Fr.app N215 N219q
     have ne220 : b_100 ≠ e2_219 := own_nx u219_13 (V196_205).lt ne197
     have ne221 : b_102 ≠ e2_219 := own_nx u219_13 (V196_206).lt ne198
     have ne222 : b_106 ≠ e2_219 := own_nx u219_13 (V196_207).lt ne199
     have ne223 : b_112 ≠ e2_219 := own_nx u219_13 (V196_208).lt ne200
     have ne224 : b120 ≠ e2_219 := own_nx u219_13 (V196_209).lt ne201
     have ne225 : b130 ≠ e2_219 := own_nx u219_13 (E196_211).lt ne202
     have ne226 : li_145 ≠ e2_219 := own_nx u219_13 (E196_212).lt ne203
     have ne227 : wa_145 ≠ e2_219 := own_nx u219_13 (u196_4).lt ne204
     have V219_228 := V196_205.keep Kq219 (ninS ne130_131 (ninS ne161 (ninS ne154 (own_nys u219_12 ne197))))
     have V219_229 := V196_206.keep Kq219 (ninS ne130_132 (ninS ne162 (ninS ne155 (own_nys u219_12 ne198))))
     have V219_230 := V196_207.keep Kq219 (ninS ne130_133 (ninS ne163 (ninS ne156 (own_nys u219_12 ne199))))
     have V219_231 := V196_208.keep Kq219 (ninS ne130_134 (ninS ne164 (ninS ne157 (own_nys u219_12 ne200))))
     have V219_232 := V196_209.keep Kq219 (ninS ne130_135 (ninS ne165 (ninS ne158 (own_nys u219_12 ne201))))
     have E219_233 := E196_210.keep Kq219
     have E219_234 := E196_211.keep Kq219
     have E219_235 := E196_212.keep Kq219
     have K219 := K196.trans Kq219 (allS (Or.inr sz130) (allS (Or.inr sz160) (allS (Or.inr sz153) (own_ays u219_12))))
     have O219 : Old Z n0 T219.heap := O196.keep Kq219 (allS gn130 (allS gn160 (allS gn153 (own_gys u219_12 Z0))))
     have sr236_0 := own_rw hsv (by have a := own_hv (0 : Int32) p2 p3 p4 p5; have b1 := own_b01 p2 (0 : Int32); have b2 := own_b01 p3 (0 : Int32); have b3 := own_b01 p4 (0 : Int32); omega) se213_0
     have se236_0 : Sat sv.toInt (f12 (0 : Int32) (3 : Int32) p2 p3 p4 p5).toInt x0_219 := by
      have a := own_hv (0 : Int32) p2 p3 p4 p5; have b1 := own_b01 p2 (0 : Int32); have b2 := own_b01 p3 (0 : Int32); have b3 := own_b01 p4 (0 : Int32)
      rw [u219_5, show (f12 (0 : Int32) (3 : Int32) p2 p3 p4 p5).toInt = (f12 (0 : Int32) (2 : Int32) p2 p3 p4 p5).toInt + (f2 p4 (0 : Int32)).toInt from by omega]
      exact own_dc hsv (own_bit _ _) (by omega) se213_0
     have su236 : xu_219.toInt = ps x0_219 := by rw [u219_6, u219_5]; exact own_us1 (own_bit _ _) sr236_0 su213
     obtain ⟨cq237, kq237, q237a, q237b, q237c⟩ := isOf hZ rfl E219_234
     obtain ⟨_, _, ⟨T237, L237, k237, n237⟩, -, X237, ⟨Lc237, hQ237, l237, y237, z237⟩, st237⟩ := X219.virtualBack hx (y := y9) (z := y9) hown (mvT hZ (ow hw 54 rfl)) (mvT hZ (ow hw 55 rfl)) (notFace_of_selects (args := #[]) (mvT hZ (ow hw 57 rfl))) (mvT hZ (ow hw 57 rfl)) (mvT hZ (ow hw 56 rfl)) (by decide) (backOf (W := 0) (rm9 l Z ar hw [] b130 xu_219 T219.heap n0 O219 u219_3) hZ (ow hw 58 rfl) (ow hw 12 rfl) (by decide) (by decide)) q237a q237c (g := (mkF m 223 #[iv p0, iv p1, iv p2, iv p3, iv p4, iv p5, iv (1 : Int32), iv sv, iv kv, rv b_100, rv b_102, rv b_106, rv b_112, rv b120, rv b130, iv (1 : Int32)] [(.ref b130)])) rfl (by rw [hml]; rfl) (Steps.refl _) (argsL := []) (rest := []) (lenOf pd_10 rfl) rfl (by show 2 * 0 + _ ≤ _; exact Nat.le_of_eq rfl) (hb hby at_223) (fun _ _ => ⟨rfl, rfl, (by decide : 11 + 0 ≤ _), (by decide : 50 + 0 ≤ _)⟩)
     dsimp only [Pt.U, Pt.locs, Pt.cells, Pt.slots] at X237 l237 y237 z237 st237 hQ237
     subst l237 y237 z237
     obtain ⟨rfl, N237q, e237⟩ := hQ237
     have N237 := Fr.app N219 N237q
     obtain ⟨_, _, ⟨T238, L238, k238, n238⟩, -, X238, ⟨Lc238, hQ238, l238, y238, z238⟩, st238⟩ := Jvm.LawKit.callS X237 hx (y := y10) hown (mvT hZ (ow hw 59 rfl)) (mvT hZ (ow hw 60 rfl)) (mvT hZ (ow hw 3 rfl)) (mvT hZ (ow hw 61 rfl)) (by decide) (backOf (W := 1) (rm10 l Z ar hw [] (1 : Int32) sv (3 : Int32) p2 p3 p4 p5 T219.heap n0 O219) hZ (ow hw 61 rfl) (ow hw 3 rfl) (by decide) (by decide)) (g := (mkF m 237 #[iv p0, iv p1, iv p2, iv p3, iv p4, iv p5, iv (1 : Int32), iv sv, iv kv, rv b_100, rv b_102, rv b_106, rv b_112, rv b120, rv b130, iv (1 : Int32)] [(.int p5), (.int p4), (.int p3), (.int p2), (.int (3 : Int32)), (.int sv), (.int (1 : Int32)), (.int (f9 xu_219))])) rfl (by rw [hml]; rfl) (argsL := [(.int (1 : Int32)), (.int sv), (.int (3 : Int32)), (.int p2), (.int p3), (.int p4), (.int p5)]) (rest := [(.int (f9 xu_219))]) (lenOf pd_11 rfl) rfl (by show 2 * 0 + _ ≤ _; exact Nat.le_of_eq rfl) (hb hby at_237) (fun _ _ => ⟨rfl, e237, (by decide : 11 + 0 ≤ _), (by decide : 50 + 0 ≤ _)⟩)
     dsimp only [Pt.U, Pt.locs, Pt.cells, Pt.slots] at X238 l238 y238 z238 st238 hQ238
     subst l238 y238 z238
     obtain ⟨rfl, N238q, e238⟩ := hQ238
     have N238 := Fr.app N237 N238q
     have sq239 : (f9 xu_219) = (f10 (1 : Int32) sv (3 : Int32) p2 p3 p4 p5) := own_fin1 hsv su236 se236_0
     have pre240 : ∀ tg, AT p e below T238 m 253 #[iv p0, iv p1, iv p2, iv p3, iv p4, iv p5, iv (1 : Int32), iv sv, iv kv, rv b_100, rv b_102, rv b_106, rv b_112, rv b120, rv b130, iv (1 : Int32)] [(.int (4 : Int32)), (.int kv)] tg → Steps p.tables e below S0 tg := fun tg kg => pre217 tg (by
      refine XS.icmpNo X215.here hx rfl (hb hby at_204) rfl (XT.ii_lt_f hc218) ?_
      refine XS.aload X215.here hx rfl (hb hby at_207) rfl rfl ?_
      refine XS.aload X215.here hx rfl (hb hby at_209) rfl rfl ?_
      refine XS.aload X215.here hx rfl (hb hby at_211) rfl rfl ?_
      refine st219.trans ?_
      refine XS.iload X219.here hx rfl (hb hby at_216) rfl ?_
      show AT p e below T219 m 218 #[iv p0, iv p1, iv p2, iv p3, iv p4, iv p5, iv (1 : Int32), iv sv, iv kv, rv b_100, rv b_102, rv b_106, rv b_112, rv b120, rv b130, iv (1 : Int32)] [(.int (1 : Int32))] _
      refine XS.ifNo X219.here hx rfl (hb hby at_218) rfl (XT.i0_eq_f ((by decide) : ¬ ((1 : Int32) = (0 : Int32)))) ?_
      refine XS.aload X219.here hx rfl (hb hby at_221) rfl rfl ?_
      refine st237.trans ?_
      refine XS.iload X237.here hx rfl (hb hby at_226) rfl ?_
      show AT p e below T237 m 228 #[iv p0, iv p1, iv p2, iv p3, iv p4, iv p5, iv (1 : Int32), iv sv, iv kv, rv b_100, rv b_102, rv b_106, rv b_112, rv b120, rv b130, iv (1 : Int32)] [(.int (1 : Int32)), (.int (f9 xu_219))] _
      refine XS.iload X237.here hx rfl (hb hby at_228) rfl ?_
      refine XS.iconst X237.here hx rfl (hb hby at_230) ?_
      refine XS.iloadN X237.here hx rfl (hb hby at_231) rfl ?_
      refine XS.iloadN X237.here hx rfl (hb hby at_232) rfl ?_
      refine XS.iload X237.here hx rfl (hb hby at_233) rfl ?_
      refine XS.iload X237.here hx rfl (hb hby at_235) rfl ?_
      refine st238 _ ?_
      show AT p e below T238 m 240 #[iv p0, iv p1, iv p2, iv p3, iv p4, iv p5, iv (1 : Int32), iv sv, iv kv, rv b_100, rv b_102, rv b_106, rv b_112, rv b120, rv b130, iv (1 : Int32)] [(.int (f10 (1 : Int32) sv (3 : Int32) p2 p3 p4 p5)), (.int (f9 xu_219))] _
      refine XS.icmpNo X238.here hx rfl (hb hby at_240) rfl (XT.ii_ne_f (sq239 : (f9 xu_219) = (f10 (1 : Int32) sv (3 : Int32) p2 p3 p4 p5))) ?_
      refine XS.iconst X238.here hx rfl (hb hby at_243) ?_
      refine XS.goto X238.here hx rfl (pc0 := 244) (pc' := 248) rfl (hb hby at_244) (by decide) (by decide) ?_
      refine XS.istore X238.here hx rfl (hb hby at_248) rfl (l' := #[iv p0, iv p1, iv p2, iv p3, iv p4, iv p5, iv (1 : Int32), iv sv, iv kv, rv b_100, rv b_102, rv b_106, rv b_112, rv b120, rv b130, iv (1 : Int32)]) rfl ?_
      refine XS.iload X238.here hx rfl (hb hby at_250) rfl ?_
      refine XS.iconst X238.here hx rfl (hb hby at_252) ?_
      exact kg)
     rcases Decidable.em (kv < (4 : Int32)) with hc241 | hc241
     ·
      obtain ⟨fs, hr, hrun, hended, hW, hsame⟩ := X238.leave (v := some (.int (1 : Int32))) (fun h => by rw [Bd.returns] at h; cases h)
      subst hS0
      refine ⟨_, _, pre240 _ ?_, hrun, hended, _, _, rfl, ?_, ⟨_, rfl⟩, hW, hsame.mono (by decide) (by decide)⟩
      ·
       refine XS.icmpYes X238.here hx rfl (pc0 := 253) (pc' := 299) rfl (hb hby at_253) rfl (XT.ii_lt_t hc241) (by decide) (by decide) ?_
       show AT p e below T238 m 299 #[iv p0, iv p1, iv p2, iv p3, iv p4, iv p5, iv (1 : Int32), iv sv, iv kv, rv b_100, rv b_102, rv b_106, rv b_112, rv b120, rv b130, iv (1 : Int32)] [] _
       refine XS.iload X238.here hx rfl (hb hby at_299) rfl ?_
       exact retN X238 hx (t := .boolean) Bd.returns (by simp) (hb hby at_301) hr
      ·
       show Q0 Z p0 p1 p2 p3 p4 p5 w_EE0 w_DEE1 k_EE0 k_DEE1 h0 n0 _ T238.heap _
       rw [e238]
       exact ⟨rfl, N238⟩
     ·
      obtain ⟨cq242, kq242, q242a, q242b, q242c⟩ := isOf hZ e238 E219_234
      obtain ⟨_, _, ⟨T242, L242, k242, n242⟩, -, X242, ⟨Lc242, hQ242, l242, y242, z242⟩, st242⟩ := X238.virtualBack hx (y := y11) (z := y11) hown (mvT hZ (ow hw 62 rfl)) (mvT hZ (ow hw 63 rfl)) (notFace_of_selects (args := #[]) (mvT hZ (ow hw 65 rfl))) (mvT hZ (ow hw 65 rfl)) (mvT hZ (ow hw 64 rfl)) (by decide) (backOf (W := 0) (rm11_1 l Z ar hw [] b130 b120 b_112 w_EE0 w_DEE1 k_EE0 k_DEE1 wa_145 kw_145 kb_112 (f2 p5 (0 : Int32)) (f2 p5 (1 : Int32)) (f2 p5 (2 : Int32)) x0_219 xu_219 li_145 m2_219 s2_219 e2_219 k2_219 h0.size ((((0 : Int) + 1) + 1) + 1) T219.heap n0 O219 HW E219_234 u219_1 u219_2 u219_3 u219_4 V219_231 gn130 gn160 u145_12 (Ne.symm ne130_134) (Ne.symm ne164) E219_235 u219_8 u219_9 u219_10 u219_11 gn153 E219_233 u145_11 (Ne.symm u145_13) ne157 (Ne.symm ne130_135) (Ne.symm ne165) (Ne.symm ne158) ne225 ne227 ne223 ne226 ne224 Z0 K219.1 (by omega)) hZ (ow hw 66 rfl) (ow hw 12 rfl) (by decide) (by decide)) q242a q242c (g := (mkF m 262 #[iv p0, iv p1, iv p2, iv p3, iv p4, iv p5, iv (1 : Int32), iv sv, iv kv, rv b_100, rv b_102, rv b_106, rv b_112, rv b120, rv b130, iv (1 : Int32)] [(.ref b_112), (.ref b120), (.ref b130)])) rfl (by rw [hml]; rfl) (Steps.refl _) (argsL := [(.ref b120), (.ref b_112)]) (rest := []) (lenOf pd_12 rfl) rfl (by show 2 * 0 + _ ≤ _; exact Nat.le_of_eq rfl) (hb hby at_262) (fun _ _ => ⟨rfl, e238, (by decide : 11 + 1 ≤ _), (by decide : 50 + 10 ≤ _)⟩)
      dsimp only [Pt.U, Pt.locs, Pt.cells, Pt.slots] at X242 l242 y242 z242 st242 hQ242
      subst l242 y242 z242
      obtain ⟨x0_242, xu_242, m2_242, s2_242, e2_242, k2_242, ys_242, rfl, N242q, Kq242, u242_0, u242_1, u242_2, u242_3, u242_4, u242_5, u242_6, u242_7, u242_8, u242_9, u242_10, u242_11, u242_12, u242_13⟩ := hQ242
      have N242 := Fr.app N238 N242q
      have ne243 : b_100 ≠ e2_242 := own_nx u242_13 (V219_228).lt ne220
      have ne244 : b_102 ≠ e2_242 := own_nx u242_13 (V219_229).lt ne221
      have ne245 : b_106 ≠ e2_242 := own_nx u242_13 (V219_230).lt ne222
      have ne246 : b_112 ≠ e2_242 := own_nx u242_13 (V219_231).lt ne223
      have ne247 : b120 ≠ e2_242 := own_nx u242_13 (V219_232).lt ne224
      have ne248 : b130 ≠ e2_242 := own_nx u242_13 (E219_234).lt ne225
      have ne249 : li_145 ≠ e2_242 := own_nx u242_13 (E219_235).lt ne226
      have ne250 : wa_145 ≠ e2_242 := own_nx u242_13 (u219_4).lt ne227
      have V242_251 := V219_228.keep Kq242 (ninS ne130_131 (ninS ne161 (ninS ne154 (own_nys u242_12 ne220))))
      have V242_252 := V219_229.keep Kq242 (ninS ne130_132 (ninS ne162 (ninS ne155 (own_nys u242_12 ne221))))
      have V242_253 := V219_230.keep Kq242 (ninS ne130_133 (ninS ne163 (ninS ne156 (own_nys u242_12 ne222))))
      have V242_254 := V219_231.keep Kq242 (ninS ne130_134 (ninS ne164 (ninS ne157 (own_nys u242_12 ne223))))
      have V242_255 := V219_232.keep Kq242 (ninS ne130_135 (ninS ne165 (ninS ne158 (own_nys u242_12 ne224))))
      have E242_256 := E219_233.keep Kq242
      have E242_257 := E219_234.keep Kq242
      have E242_258 := E219_235.keep Kq242
      have K242 := K219.trans Kq242 (allS (Or.inr sz130) (allS (Or.inr sz160) (allS (Or.inr sz153) (own_ays u242_12))))
      have O242 : Old Z n0 T242.heap := O219.keep Kq242 (allS gn130 (allS gn160 (allS gn153 (own_gys u242_12 Z0))))
      have sr259_0 := own_rw hsv (by have a := own_hv (0 : Int32) p2 p3 p4 p5; have b1 := own_b01 p2 (0 : Int32); have b2 := own_b01 p3 (0 : Int32); have b3 := own_b01 p4 (0 : Int32); omega) se236_0
      have se259_0 : Sat sv.toInt (f12 (0 : Int32) (4 : Int32) p2 p3 p4 p5).toInt x0_242 := by
       have a := own_hv (0 : Int32) p2 p3 p4 p5; have b1 := own_b01 p2 (0 : Int32); have b2 := own_b01 p3 (0 : Int32); have b3 := own_b01 p4 (0 : Int32)
       rw [u242_5, show (f12 (0 : Int32) (4 : Int32) p2 p3 p4 p5).toInt = (f12 (0 : Int32) (3 : Int32) p2 p3 p4 p5).toInt + (f2 p5 (0 : Int32)).toInt from by omega]
       exact own_dc hsv (own_bit _ _) (by omega) se236_0
      have su259 : xu_242.toInt = ps x0_242 := by rw [u242_6, u242_5]; exact own_us1 (own_bit _ _) sr259_0 su236
      obtain ⟨cq260, kq260, q260a, q260b, q260c⟩ := isOf hZ rfl E242_257
      obtain ⟨_, _, ⟨T260, L260, k260, n260⟩, -, X260, ⟨Lc260, hQ260, l260, y260, z260⟩, st260⟩ := X242.virtualBack hx (y := y9) (z := y9) hown (mvT hZ (ow hw 54 rfl)) (mvT hZ (ow hw 55 rfl)) (notFace_of_selects (args := #[]) (mvT hZ (ow hw 57 rfl))) (mvT hZ (ow hw 57 rfl)) (mvT hZ (ow hw 56 rfl)) (by decide) (backOf (W := 0) (rm9 l Z ar hw [] b130 xu_242 T242.heap n0 O242 u242_3) hZ (ow hw 58 rfl) (ow hw 12 rfl) (by decide) (by decide)) q260a q260c (g := (mkF m 272 #[iv p0, iv p1, iv p2, iv p3, iv p4, iv p5, iv (1 : Int32), iv sv, iv kv, rv b_100, rv b_102, rv b_106, rv b_112, rv b120, rv b130, iv (1 : Int32)] [(.ref b130)])) rfl (by rw [hml]; rfl) (Steps.refl _) (argsL := []) (rest := []) (lenOf pd_10 rfl) rfl (by show 2 * 0 + _ ≤ _; exact Nat.le_of_eq rfl) (hb hby at_272) (fun _ _ => ⟨rfl, rfl, (by decide : 12 + 0 ≤ _), (by decide : 60 + 0 ≤ _)⟩)
      dsimp only [Pt.U, Pt.locs, Pt.cells, Pt.slots] at X260 l260 y260 z260 st260 hQ260
      subst l260 y260 z260
      obtain ⟨rfl, N260q, e260⟩ := hQ260
      have N260 := Fr.app N242 N260q
      obtain ⟨_, _, ⟨T261, L261, k261, n261⟩, -, X261, ⟨Lc261, hQ261, l261, y261, z261⟩, st261⟩ := Jvm.LawKit.callS X260 hx (y := y10) hown (mvT hZ (ow hw 59 rfl)) (mvT hZ (ow hw 60 rfl)) (mvT hZ (ow hw 3 rfl)) (mvT hZ (ow hw 61 rfl)) (by decide) (backOf (W := 1) (rm10 l Z ar hw [] (1 : Int32) sv (4 : Int32) p2 p3 p4 p5 T242.heap n0 O242) hZ (ow hw 61 rfl) (ow hw 3 rfl) (by decide) (by decide)) (g := (mkF m 286 #[iv p0, iv p1, iv p2, iv p3, iv p4, iv p5, iv (1 : Int32), iv sv, iv kv, rv b_100, rv b_102, rv b_106, rv b_112, rv b120, rv b130, iv (1 : Int32)] [(.int p5), (.int p4), (.int p3), (.int p2), (.int (4 : Int32)), (.int sv), (.int (1 : Int32)), (.int (f9 xu_242))])) rfl (by rw [hml]; rfl) (argsL := [(.int (1 : Int32)), (.int sv), (.int (4 : Int32)), (.int p2), (.int p3), (.int p4), (.int p5)]) (rest := [(.int (f9 xu_242))]) (lenOf pd_11 rfl) rfl (by show 2 * 0 + _ ≤ _; exact Nat.le_of_eq rfl) (hb hby at_286) (fun _ _ => ⟨rfl, e260, (by decide : 12 + 0 ≤ _), (by decide : 60 + 0 ≤ _)⟩)
      dsimp only [Pt.U, Pt.locs, Pt.cells, Pt.slots] at X261 l261 y261 z261 st261 hQ261
      subst l261 y261 z261
      obtain ⟨rfl, N261q, e261⟩ := hQ261
      have N261 := Fr.app N260 N261q
      have sq262 : (f9 xu_242) = (f10 (1 : Int32) sv (4 : Int32) p2 p3 p4 p5) := own_fin1 hsv su259 se259_0
      obtain ⟨fs, hr, hrun, hended, hW, hsame⟩ := X261.leave (v := some (.int (1 : Int32))) (fun h => by rw [Bd.returns] at h; cases h)
      subst hS0
      refine ⟨_, _, pre240 _ ?_, hrun, hended, _, _, rfl, ?_, ⟨_, rfl⟩, hW, hsame.mono (by decide) (by decide)⟩
      ·
       refine XS.icmpNo X238.here hx rfl (hb hby at_253) rfl (XT.ii_lt_f hc241) ?_
       show AT p e below T238 m 256 #[iv p0, iv p1, iv p2, iv p3, iv p4, iv p5, iv (1 : Int32), iv sv, iv kv, rv b_100, rv b_102, rv b_106, rv b_112, rv b120, rv b130, iv (1 : Int32)] [] _
       refine XS.aload X238.here hx rfl (hb hby at_256) rfl rfl ?_
       refine XS.aload X238.here hx rfl (hb hby at_258) rfl rfl ?_
       refine XS.aload X238.here hx rfl (hb hby at_260) rfl rfl ?_
       refine st242.trans ?_
       refine XS.iload X242.here hx rfl (hb hby at_265) rfl ?_
       show AT p e below T242 m 267 #[iv p0, iv p1, iv p2, iv p3, iv p4, iv p5, iv (1 : Int32), iv sv, iv kv, rv b_100, rv b_102, rv b_106, rv b_112, rv b120, rv b130, iv (1 : Int32)] [(.int (1 : Int32))] _
       refine XS.ifNo X242.here hx rfl (hb hby at_267) rfl (XT.i0_eq_f ((by decide) : ¬ ((1 : Int32) = (0 : Int32)))) ?_
       refine XS.aload X242.here hx rfl (hb hby at_270) rfl rfl ?_
       refine st260.trans ?_
       refine XS.iload X260.here hx rfl (hb hby at_275) rfl ?_
       refine XS.iload X260.here hx rfl (hb hby at_277) rfl ?_
       refine XS.iconst X260.here hx rfl (hb hby at_279) ?_
       refine XS.iloadN X260.here hx rfl (hb hby at_280) rfl ?_
       refine XS.iloadN X260.here hx rfl (hb hby at_281) rfl ?_
       show AT p e below T260 m 282 #[iv p0, iv p1, iv p2, iv p3, iv p4, iv p5, iv (1 : Int32), iv sv, iv kv, rv b_100, rv b_102, rv b_106, rv b_112, rv b120, rv b130, iv (1 : Int32)] [(.int p3), (.int p2), (.int (4 : Int32)), (.int sv), (.int (1 : Int32)), (.int (f9 xu_242))] _
       refine XS.iload X260.here hx rfl (hb hby at_282) rfl ?_
       refine XS.iload X260.here hx rfl (hb hby at_284) rfl ?_
       refine st261 _ ?_
       show AT p e below T261 m 289 #[iv p0, iv p1, iv p2, iv p3, iv p4, iv p5, iv (1 : Int32), iv sv, iv kv, rv b_100, rv b_102, rv b_106, rv b_112, rv b120, rv b130, iv (1 : Int32)] [(.int (f10 (1 : Int32) sv (4 : Int32) p2 p3 p4 p5)), (.int (f9 xu_242))] _
       refine XS.icmpNo X261.here hx rfl (hb hby at_289) rfl (XT.ii_ne_f (sq262 : (f9 xu_242) = (f10 (1 : Int32) sv (4 : Int32) p2 p3 p4 p5))) ?_
       refine XS.iconst X261.here hx rfl (hb hby at_292) ?_
       refine XS.goto X261.here hx rfl (pc0 := 293) (pc' := 297) rfl (hb hby at_293) (by decide) (by decide) ?_
       refine XS.istore X261.here hx rfl (hb hby at_297) rfl (l' := #[iv p0, iv p1, iv p2, iv p3, iv p4, iv p5, iv (1 : Int32), iv sv, iv kv, rv b_100, rv b_102, rv b_106, rv b_112, rv b120, rv b130, iv (1 : Int32)]) rfl ?_
       refine XS.iload X261.here hx rfl (hb hby at_299) rfl ?_
       exact retN X261 hx (t := .boolean) Bd.returns (by simp) (hb hby at_301) hr
      ·
       show Q0 Z p0 p1 p2 p3 p4 p5 w_EE0 w_DEE1 k_EE0 k_DEE1 h0 n0 _ T261.heap _
       rw [e261]
       exact ⟨rfl, N261⟩
 ·
  have pre263 : ∀ tg, AT p e below s₁ m 22 #[iv p0, iv p1, iv p2, iv p3, iv p4, iv p5, iv (2 : Int32), iv ((1 : Int32) + (((p0.toUInt32 >>> ((2 : Int32) &&& 31).toUInt32).toInt32) % (3 : Int32))), un, un, un, un, un, un, un, un] [] tg → Steps p.tables e below S0 tg := fun tg kg => pre2 tg (by
   refine XS.iload X0.here hx rfl (hb hby at_5) rfl ?_
   refine XS.iconst X0.here hx rfl (hb hby at_7) ?_
   show AT p e below s₁ m 8 #[iv p0, iv p1, iv p2, iv p3, iv p4, iv p5, iv (2 : Int32), un, un, un, un, un, un, un, un, un] [(.int (3 : Int32)), (.int (2 : Int32))] _
   refine XS.icmpYes X0.here hx rfl (pc0 := 8) (pc' := 13) rfl (hb hby at_8) rfl (XT.ii_le_t ((by decide) : ¬ ((3 : Int32) < (2 : Int32)))) (by decide) (by decide) ?_
   refine XS.iconst X0.here hx rfl (hb hby at_13) ?_
   refine XS.iloadN X0.here hx rfl (hb hby at_14) rfl ?_
   refine XS.iconst X0.here hx rfl (hb hby at_15) ?_
   refine XS.iushr X0.here hx rfl (hb hby at_16) rfl ?_
   refine XS.iconst X0.here hx rfl (hb hby at_17) ?_
   refine iremM X0 hx rfl (hb hby at_18) rfl (by decide) ?_
   refine XS.iadd X0.here hx rfl (hb hby at_19) rfl ?_
   refine XS.istore X0.here hx rfl (hb hby at_20) rfl (l' := #[iv p0, iv p1, iv p2, iv p3, iv p4, iv p5, iv (2 : Int32), iv ((1 : Int32) + (((p0.toUInt32 >>> ((2 : Int32) &&& 31).toUInt32).toInt32) % (3 : Int32))), un, un, un, un, un, un, un, un]) rfl ?_
   exact kg)
  obtain ⟨sv, hsv⟩ : ∃ z, z = ((1 : Int32) + (((p0.toUInt32 >>> ((2 : Int32) &&& 31).toUInt32).toInt32) % (3 : Int32))) := ⟨_, rfl⟩
  have pre264 : ∀ tg, AT p e below s₁ m 22 #[iv p0, iv p1, iv p2, iv p3, iv p4, iv p5, iv (2 : Int32), iv sv, un, un, un, un, un, un, un, un] [] tg → Steps p.tables e below S0 tg := by rw [hsv]; exact pre263
  have hsv : 1 ≤ sv.toInt ∧ sv.toInt ≤ 3 := by rw [hsv]; exact own_s p0
  have pre265 : ∀ tg, AT p e below s₁ m 30 #[iv p0, iv p1, iv p2, iv p3, iv p4, iv p5, iv (2 : Int32), iv sv, iv ((p1 &&& (2147483647 : Int32)) % (5 : Int32)), un, un, un, un, un, un, un] [] tg → Steps p.tables e below S0 tg := fun tg kg => pre264 tg (by
   refine XS.iloadN X0.here hx rfl (hb hby at_22) rfl ?_
   refine X0.ldcInt hx hown (mvT hZ (ow hw 0 rfl)) (g := (mkF m 23 #[iv p0, iv p1, iv p2, iv p3, iv p4, iv p5, iv (2 : Int32), iv sv, un, un, un, un, un, un, un, un] [(.int p1)])) rfl (hb hby at_23) _ ?_
   refine XS.iand X0.here hx rfl (hb hby at_25) rfl ?_
   refine XS.iconst X0.here hx rfl (hb hby at_26) ?_
   refine iremM X0 hx rfl (hb hby at_27) rfl (by decide) ?_
   refine XS.istore X0.here hx rfl (hb hby at_28) rfl (l' := #[iv p0, iv p1, iv p2, iv p3, iv p4, iv p5, iv (2 : Int32), iv sv, iv ((p1 &&& (2147483647 : Int32)) % (5 : Int32)), un, un, un, un, un, un, un]) rfl ?_
   exact kg)
  obtain ⟨kv, hkv⟩ : ∃ z, z = ((p1 &&& (2147483647 : Int32)) % (5 : Int32)) := ⟨_, rfl⟩
  have pre266 : ∀ tg, AT p e below s₁ m 30 #[iv p0, iv p1, iv p2, iv p3, iv p4, iv p5, iv (2 : Int32), iv sv, iv kv, un, un, un, un, un, un, un] [] tg → Steps p.tables e below S0 tg := by rw [hkv]; exact pre265
  obtain ⟨_, _, ⟨T267, L267, k267, n267⟩, -, X267, ⟨Lc267, hQ267, l267, y267, z267⟩, st267⟩ := Jvm.LawKit.callS X0 hx (y := y1) hown (mvT hZ (ow hw 1 rfl)) (mvT hZ (ow hw 2 rfl)) (mvT hZ (ow hw 3 rfl)) (mvT hZ (ow hw 4 rfl)) (by decide) (backOf (W := 0) (rm1 l Z ar hw [] p2 h0 n0 O0) hZ (ow hw 4 rfl) (ow hw 3 rfl) (by decide) (by decide)) (g := (mkF m 31 #[iv p0, iv p1, iv p2, iv p3, iv p4, iv p5, iv (2 : Int32), iv sv, iv kv, un, un, un, un, un, un, un] [(.int p2)])) rfl (by rw [hml]; rfl) (argsL := [(.int p2)]) (rest := []) (lenOf pd_8 rfl) rfl (by show 2 * 0 + _ ≤ _; exact Nat.le_of_eq rfl) (hb hby at_31) (fun _ _ => ⟨rfl, e0, (by decide : 0 + 1 ≤ _), (by decide : 0 + 3 ≤ _)⟩)
  dsimp only [Pt.U, Pt.locs, Pt.cells, Pt.slots] at X267 l267 y267 z267 st267 hQ267
  subst l267 y267 z267
  obtain ⟨b_267, kb_267, rfl, N267q, Kq267, u267_0, u267_1⟩ := hQ267
  have N267 := Fr.app N0 N267q
  have K267 := (Keep.refl h0 []).trans Kq267 all0
  have O267 := O0.keep Kq267 all0
  have sz268 : h0.size ≤ b_267 := Nat.le_trans (Keep.refl h0 []).1 u267_1
  have gn268 : n0 ≤ b_267 := Nat.le_trans (Nat.le_trans (Nat.le_of_eq O0.1.symm) O0.2.1) u267_1
  obtain ⟨_, _, ⟨T269, L269, k269, n269⟩, -, X269, ⟨Lc269, hQ269, l269, y269, z269⟩, st269⟩ := Jvm.LawKit.callS X267 hx (y := y1) hown (mvT hZ (ow hw 1 rfl)) (mvT hZ (ow hw 2 rfl)) (mvT hZ (ow hw 3 rfl)) (mvT hZ (ow hw 4 rfl)) (by decide) (backOf (W := 0) (rm1 l Z ar hw [] p3 T267.heap n0 O267) hZ (ow hw 4 rfl) (ow hw 3 rfl) (by decide) (by decide)) (g := (mkF m 37 #[iv p0, iv p1, iv p2, iv p3, iv p4, iv p5, iv (2 : Int32), iv sv, iv kv, rv b_267, un, un, un, un, un, un] [(.int p3)])) rfl (by rw [hml]; rfl) (argsL := [(.int p3)]) (rest := []) (lenOf pd_8 rfl) rfl (by show 2 * 0 + _ ≤ _; exact Nat.le_of_eq rfl) (hb hby at_37) (fun _ _ => ⟨rfl, rfl, (by decide : 1 + 1 ≤ _), (by decide : 3 + 3 ≤ _)⟩)
  dsimp only [Pt.U, Pt.locs, Pt.cells, Pt.slots] at X269 l269 y269 z269 st269 hQ269
  subst l269 y269 z269
  obtain ⟨b_269, kb_269, rfl, N269q, Kq269, u269_0, u269_1⟩ := hQ269
  have N269 := Fr.app N267 N269q
  have V269_270 := u267_0.keep Kq269 nin0
  have K269 := K267.trans Kq269 all0
  have O269 := O267.keep Kq269 all0
  have sz271 : h0.size ≤ b_269 := Nat.le_trans K267.1 u269_1
  have gn271 : n0 ≤ b_269 := Nat.le_trans (Nat.le_trans (Nat.le_of_eq O267.1.symm) O267.2.1) u269_1
  have ne272 : b_267 ≠ b_269 := Nat.ne_of_lt (Nat.lt_of_lt_of_le (u267_0).lt u269_1)
  obtain ⟨_, _, ⟨T273, L273, k273, n273⟩, -, X273, ⟨Lc273, hQ273, l273, y273, z273⟩, st273⟩ := Jvm.LawKit.callS X269 hx (y := y1) hown (mvT hZ (ow hw 1 rfl)) (mvT hZ (ow hw 2 rfl)) (mvT hZ (ow hw 3 rfl)) (mvT hZ (ow hw 4 rfl)) (by decide) (backOf (W := 0) (rm1 l Z ar hw [] p4 T269.heap n0 O269) hZ (ow hw 4 rfl) (ow hw 3 rfl) (by decide) (by decide)) (g := (mkF m 44 #[iv p0, iv p1, iv p2, iv p3, iv p4, iv p5, iv (2 : Int32), iv sv, iv kv, rv b_267, rv b_269, un, un, un, un, un] [(.int p4)])) rfl (by rw [hml]; rfl) (argsL := [(.int p4)]) (rest := []) (lenOf pd_8 rfl) rfl (by show 2 * 0 + _ ≤ _; exact Nat.le_of_eq rfl) (hb hby at_44) (fun _ _ => ⟨rfl, rfl, (by decide : 2 + 1 ≤ _), (by decide : 6 + 3 ≤ _)⟩)
  dsimp only [Pt.U, Pt.locs, Pt.cells, Pt.slots] at X273 l273 y273 z273 st273 hQ273
  subst l273 y273 z273
  obtain ⟨b_273, kb_273, rfl, N273q, Kq273, u273_0, u273_1⟩ := hQ273
  have N273 := Fr.app N269 N273q
  have V273_274 := V269_270.keep Kq273 nin0
  have V273_275 := u269_0.keep Kq273 nin0
  have K273 := K269.trans Kq273 all0
  have O273 := O269.keep Kq273 all0
  have sz276 : h0.size ≤ b_273 := Nat.le_trans K269.1 u273_1
  have gn276 : n0 ≤ b_273 := Nat.le_trans (Nat.le_trans (Nat.le_of_eq O269.1.symm) O269.2.1) u273_1
  have ne277 : b_267 ≠ b_273 := Nat.ne_of_lt (Nat.lt_of_lt_of_le (V269_270).lt u273_1)
  have ne278 : b_269 ≠ b_273 := Nat.ne_of_lt (Nat.lt_of_lt_of_le (u269_0).lt u273_1)
  obtain ⟨_, _, ⟨T279, L279, k279, n279⟩, -, X279, ⟨Lc279, hQ279, l279, y279, z279⟩, st279⟩ := Jvm.LawKit.callS X273 hx (y := y1) hown (mvT hZ (ow hw 1 rfl)) (mvT hZ (ow hw 2 rfl)) (mvT hZ (ow hw 3 rfl)) (mvT hZ (ow hw 4 rfl)) (by decide) (backOf (W := 0) (rm1 l Z ar hw [] p5 T273.heap n0 O273) hZ (ow hw 4 rfl) (ow hw 3 rfl) (by decide) (by decide)) (g := (mkF m 51 #[iv p0, iv p1, iv p2, iv p3, iv p4, iv p5, iv (2 : Int32), iv sv, iv kv, rv b_267, rv b_269, rv b_273, un, un, un, un] [(.int p5)])) rfl (by rw [hml]; rfl) (argsL := [(.int p5)]) (rest := []) (lenOf pd_8 rfl) rfl (by show 2 * 0 + _ ≤ _; exact Nat.le_of_eq rfl) (hb hby at_51) (fun _ _ => ⟨rfl, rfl, (by decide : 3 + 1 ≤ _), (by decide : 9 + 3 ≤ _)⟩)
  dsimp only [Pt.U, Pt.locs, Pt.cells, Pt.slots] at X279 l279 y279 z279 st279 hQ279
  subst l279 y279 z279
  obtain ⟨b_279, kb_279, rfl, N279q, Kq279, u279_0, u279_1⟩ := hQ279
  have N279 := Fr.app N273 N279q
  have V279_280 := V273_274.keep Kq279 nin0
  have V279_281 := V273_275.keep Kq279 nin0
  have V279_282 := u273_0.keep Kq279 nin0
  have K279 := K273.trans Kq279 all0
  have O279 := O273.keep Kq279 all0
  have sz283 : h0.size ≤ b_279 := Nat.le_trans K273.1 u279_1
  have gn283 : n0 ≤ b_279 := Nat.le_trans (Nat.le_trans (Nat.le_of_eq O273.1.symm) O273.2.1) u279_1
  have ne284 : b_267 ≠ b_279 := Nat.ne_of_lt (Nat.lt_of_lt_of_le (V273_274).lt u279_1)
  have ne285 : b_269 ≠ b_279 := Nat.ne_of_lt (Nat.lt_of_lt_of_le (V273_275).lt u279_1)
  have ne286 : b_273 ≠ b_279 := Nat.ne_of_lt (Nat.lt_of_lt_of_le (u273_0).lt u279_1)
  obtain ⟨T287, h287, k287, X287, e287, E287, A287, B287, st287⟩ := newPE X279 hx hZ (ow hw 9 rfl) rfl (g := (mkF m 57 #[iv p0, iv p1, iv p2, iv p3, iv p4, iv p5, iv (2 : Int32), iv sv, iv kv, rv b_267, rv b_269, rv b_273, rv b_279, un, un, un] [(.int (1 : Int32))])) rfl (hb hby at_57) rfl (by decide) (cap := 1) (by decide) (by decide) (by decide) (by decide) (ad := "[B") (by decide)
  obtain ⟨b287, g287⟩ : ∃ z, z = T279.heap.size := ⟨_, rfl⟩
  rw [← g287] at A287 B287 st287
  have ne287_288 : b_267 ≠ b287 := Nat.ne_of_lt (Nat.lt_of_lt_of_le (V279_280).lt (Nat.le_of_eq g287.symm))
  have ne287_289 : b_269 ≠ b287 := Nat.ne_of_lt (Nat.lt_of_lt_of_le (V279_281).lt (Nat.le_of_eq g287.symm))
  have ne287_290 : b_273 ≠ b287 := Nat.ne_of_lt (Nat.lt_of_lt_of_le (V279_282).lt (Nat.le_of_eq g287.symm))
  have ne287_291 : b_279 ≠ b287 := Nat.ne_of_lt (Nat.lt_of_lt_of_le (u279_0).lt (Nat.le_of_eq g287.symm))
  have gn287 : n0 ≤ b287 := Nat.le_trans (Nat.le_trans (Nat.le_of_eq O279.1.symm) O279.2.1) (Nat.le_of_eq g287.symm)
  have sz287 : h0.size ≤ b287 := Nat.le_trans K279.1 (Nat.le_of_eq g287.symm)
  have V287_292 := V279_280.ext E287
  have V287_293 := V279_281.ext E287
  have V287_294 := V279_282.ext E287
  have V287_295 := u279_0.ext E287
  have K287 := K279.ext E287
  have O287 := O279.ext E287
  have V287_296 : Arv Z h287 b287 k287 .byte (1 : Int32) [(.int (0 : Int32))] (.int (0 : Int32)) := (Arv.new A287 (by decide)).pad (pad_rep [] (.int (0 : Int32)) 1)
  obtain ⟨T297, h297, X297, e297, E297, A297, D297, -, st297⟩ := newO X287 hx hZ hown (ow hw 10 rfl) (ow hw 11 rfl) (ow hw 12 rfl) e287 (g := (mkF m 61 #[iv p0, iv p1, iv p2, iv p3, iv p4, iv p5, iv (2 : Int32), iv sv, iv kv, rv b_267, rv b_269, rv b_273, rv b_279, rv b287, un, un] [])) rfl (hb hby at_61) (by decide) (by decide)
  obtain ⟨b297, g297⟩ : ∃ z, z = h287.size := ⟨_, rfl⟩
  rw [← g297] at A297 D297 st297
  have ne297_298 : b_267 ≠ b297 := Nat.ne_of_lt (Nat.lt_of_lt_of_le (V287_292).lt (Nat.le_of_eq g297.symm))
  have ne297_299 : b_269 ≠ b297 := Nat.ne_of_lt (Nat.lt_of_lt_of_le (V287_293).lt (Nat.le_of_eq g297.symm))
  have ne297_300 : b_273 ≠ b297 := Nat.ne_of_lt (Nat.lt_of_lt_of_le (V287_294).lt (Nat.le_of_eq g297.symm))
  have ne297_301 : b_279 ≠ b297 := Nat.ne_of_lt (Nat.lt_of_lt_of_le (V287_295).lt (Nat.le_of_eq g297.symm))
  have ne297_302 : b287 ≠ b297 := Nat.ne_of_lt (Nat.lt_of_lt_of_le (V287_296).lt (Nat.le_of_eq g297.symm))
  have gn297 : n0 ≤ b297 := Nat.le_trans (Nat.le_trans (Nat.le_of_eq O287.1.symm) O287.2.1) (Nat.le_of_eq g297.symm)
  have sz297 : h0.size ≤ b297 := Nat.le_trans K287.1 (Nat.le_of_eq g297.symm)
  have V297_303 := V287_292.ext E297
  have V297_304 := V287_293.ext E297
  have V297_305 := V287_294.ext E297
  have V297_306 := V287_295.ext E297
  have V297_307 := V287_296.ext E297
  have E297_308 := B287.ext E297
  have K297 := K287.ext E297
  have O297 := O287.ext E297
  have F297_309 : Fld Z h297 b297 "com/example/filters_under_siege/filtersundersiege/Cover" "elements" "Ljava/util/List;" .null := D297 (Or.inr (ow hw 44 rfl)) (ty := (.object "java/util/List")) (by decide)
  have F297_310 : Fld Z h297 b297 "com/example/filters_under_siege/filtersundersiege/Cover" "wanted" "[I" .null := D297 (Or.inr (ow hw 47 rfl)) (ty := (.array .int)) (by decide)
  have F297_311 : Fld Z h297 b297 "com/example/filters_under_siege/filtersundersiege/Cover" "uncovered" "I" (.int (0 : Int32)) := D297 (Or.inl (ow hw 53 rfl)) (ty := .int) (by decide)
  obtain ⟨_, _, ⟨T312, L312, k312, n312⟩, -, X312, ⟨Lc312, hQ312, l312, y312, z312⟩, st312⟩ := X297.specialBack hx (y := y3) rfl hown (mvT hZ (ow hw 13 rfl)) (mvT hZ (ow hw 14 rfl)) (mvT hZ (ow hw 15 rfl)) (by decide) (backOf (W := 1) (rm3_2 l Z ar hw [] b297 sv w_EE0 w_DEE1 k_EE0 k_DEE1 h297 n0 O297 HW A297 F297_309 F297_310 F297_311 gn297) hZ (ow hw 15 rfl) (ow hw 12 rfl) (by decide) (by decide)) (g := (mkF m 69 #[iv p0, iv p1, iv p2, iv p3, iv p4, iv p5, iv (2 : Int32), iv sv, iv kv, rv b_267, rv b_269, rv b_273, rv b_279, rv b287, un, un] [(.int sv), (.int (2 : Int32)), (.ref b297), (.ref b297)])) rfl (by rw [hml]; rfl) (Steps.refl _) (a := b297) (argsL := [(.int (2 : Int32)), (.int sv)]) (rest := [(.ref b297)]) (lenOf pd_9 rfl) rfl (by show 2 * 0 + _ ≤ _; exact Nat.le_of_eq rfl) (hb hby at_69) (fun _ _ => ⟨rfl, e297, (by decide : 6 + 2 ≤ _), (by decide : 16 + 5 ≤ _)⟩)
  dsimp only [Pt.U, Pt.locs, Pt.cells, Pt.slots] at X312 l312 y312 z312 st312 hQ312
  subst l312 y312 z312
  obtain ⟨li_312, wa_312, kw_312, rfl, N312q, Kq312, u312_0, u312_1, u312_2, u312_3, u312_4, u312_5, u312_6, u312_7, u312_8, u312_9, u312_10, u312_11, u312_12, u312_13⟩ := hQ312
  have N312 := Fr.app N279 N312q
  have V312_313 := V297_303.keep Kq312 (ninS ne297_298 nin0)
  have V312_314 := V297_304.keep Kq312 (ninS ne297_299 nin0)
  have V312_315 := V297_305.keep Kq312 (ninS ne297_300 nin0)
  have V312_316 := V297_306.keep Kq312 (ninS ne297_301 nin0)
  have V312_317 := V297_307.keep Kq312 (ninS ne297_302 nin0)
  have E312_318 := E297_308.keep Kq312
  have E312_319 := A297.keep Kq312
  have K312 := K297.trans Kq312 (allS (Or.inr sz297) all0)
  have O312 := O297.keep Kq312 (allS gn297 all0)
  have sz320 : h0.size ≤ li_312 := Nat.le_trans K297.1 u312_9
  have gn320 : n0 ≤ li_312 := Nat.le_trans (Nat.le_trans (Nat.le_of_eq O297.1.symm) O297.2.1) u312_9
  have ne321 : b_267 ≠ li_312 := Nat.ne_of_lt (Nat.lt_of_lt_of_le (V297_303).lt u312_9)
  have ne322 : b_269 ≠ li_312 := Nat.ne_of_lt (Nat.lt_of_lt_of_le (V297_304).lt u312_9)
  have ne323 : b_273 ≠ li_312 := Nat.ne_of_lt (Nat.lt_of_lt_of_le (V297_305).lt u312_9)
  have ne324 : b_279 ≠ li_312 := Nat.ne_of_lt (Nat.lt_of_lt_of_le (V297_306).lt u312_9)
  have ne325 : b287 ≠ li_312 := Nat.ne_of_lt (Nat.lt_of_lt_of_le (V297_307).lt u312_9)
  have ne326 : b297 ≠ li_312 := Nat.ne_of_lt (Nat.lt_of_lt_of_le (A297).lt u312_9)
  have sz327 : h0.size ≤ wa_312 := Nat.le_trans K297.1 u312_10
  have gn327 : n0 ≤ wa_312 := Nat.le_trans (Nat.le_trans (Nat.le_of_eq O297.1.symm) O297.2.1) u312_10
  have ne328 : b_267 ≠ wa_312 := Nat.ne_of_lt (Nat.lt_of_lt_of_le (V297_303).lt u312_10)
  have ne329 : b_269 ≠ wa_312 := Nat.ne_of_lt (Nat.lt_of_lt_of_le (V297_304).lt u312_10)
  have ne330 : b_273 ≠ wa_312 := Nat.ne_of_lt (Nat.lt_of_lt_of_le (V297_305).lt u312_10)
  have ne331 : b_279 ≠ wa_312 := Nat.ne_of_lt (Nat.lt_of_lt_of_le (V297_306).lt u312_10)
  have ne332 : b287 ≠ wa_312 := Nat.ne_of_lt (Nat.lt_of_lt_of_le (V297_307).lt u312_10)
  have ne333 : b297 ≠ wa_312 := Nat.ne_of_lt (Nat.lt_of_lt_of_le (A297).lt u312_10)
  have hLD : LD Z T312.heap h0.size (0 : Int) w_DEE1 w_DEE1 kw_312 (0 : Int32) := Or.inl ⟨rfl, rfl⟩
  obtain ⟨cq334, kq334, q334a, q334b, q334c⟩ := isOf hZ rfl E312_319
  obtain ⟨_, _, ⟨T334, L334, k334, n334⟩, -, X334, ⟨Lc334, hQ334, l334, y334, z334⟩, st334⟩ := X312.virtualBack hx (y := y9) (z := y9) hown (mvT hZ (ow hw 54 rfl)) (mvT hZ (ow hw 55 rfl)) (notFace_of_selects (args := #[]) (mvT hZ (ow hw 57 rfl))) (mvT hZ (ow hw 57 rfl)) (mvT hZ (ow hw 56 rfl)) (by decide) (backOf (W := 0) (rm9 l Z ar hw [] b297 (2 : Int32) T312.heap n0 O312 u312_3) hZ (ow hw 58 rfl) (ow hw 12 rfl) (by decide) (by decide)) q334a q334c (g := (mkF m 76 #[iv p0, iv p1, iv p2, iv p3, iv p4, iv p5, iv (2 : Int32), iv sv, iv kv, rv b_267, rv b_269, rv b_273, rv b_279, rv b287, rv b297, un] [(.ref b297)])) rfl (by rw [hml]; rfl) (Steps.refl _) (argsL := []) (rest := []) (lenOf pd_10 rfl) rfl (by show 2 * 0 + _ ≤ _; exact Nat.le_of_eq rfl) (hb hby at_76) (fun _ _ => ⟨rfl, rfl, (by decide : 8 + 0 ≤ _), (by decide : 21 + 0 ≤ _)⟩)
  dsimp only [Pt.U, Pt.locs, Pt.cells, Pt.slots] at X334 l334 y334 z334 st334 hQ334
  subst l334 y334 z334
  obtain ⟨rfl, N334q, e334⟩ := hQ334
  have N334 := Fr.app N312 N334q
  have r334 : (f9 (2 : Int32)) = (0 : Int32) := by rw [f9, if_neg ((by decide) : ¬ ((2 : Int32) = (0 : Int32)))] <;> decide
  rw [r334] at st334
  obtain ⟨_, _, ⟨T335, L335, k335, n335⟩, -, X335, ⟨Lc335, hQ335, l335, y335, z335⟩, st335⟩ := Jvm.LawKit.callS X334 hx (y := y10) hown (mvT hZ (ow hw 59 rfl)) (mvT hZ (ow hw 60 rfl)) (mvT hZ (ow hw 3 rfl)) (mvT hZ (ow hw 61 rfl)) (by decide) (backOf (W := 1) (rm10 l Z ar hw [] (2 : Int32) sv (0 : Int32) p2 p3 p4 p5 T312.heap n0 O312) hZ (ow hw 61 rfl) (ow hw 3 rfl) (by decide) (by decide)) (g := (mkF m 90 #[iv p0, iv p1, iv p2, iv p3, iv p4, iv p5, iv (2 : Int32), iv sv, iv kv, rv b_267, rv b_269, rv b_273, rv b_279, rv b287, rv b297, un] [(.int p5), (.int p4), (.int p3), (.int p2), (.int (0 : Int32)), (.int sv), (.int (2 : Int32)), (.int (0 : Int32))])) rfl (by rw [hml]; rfl) (argsL := [(.int (2 : Int32)), (.int sv), (.int (0 : Int32)), (.int p2), (.int p3), (.int p4), (.int p5)]) (rest := [(.int (0 : Int32))]) (lenOf pd_11 rfl) rfl (by show 2 * 0 + _ ≤ _; exact Nat.le_of_eq rfl) (hb hby at_90) (fun _ _ => ⟨rfl, e334, (by decide : 8 + 0 ≤ _), (by decide : 21 + 0 ≤ _)⟩)
  dsimp only [Pt.U, Pt.locs, Pt.cells, Pt.slots] at X335 l335 y335 z335 st335 hQ335
  subst l335 y335 z335
  obtain ⟨rfl, N335q, e335⟩ := hQ335
  have N335 := Fr.app N334 N335q
  have se336_0 : Sat sv.toInt (f12 (0 : Int32) (0 : Int32) p2 p3 p4 p5).toInt sv := own_st (w := sv) hsv (own_hv (0 : Int32) p2 p3 p4 p5).1
  have se336_1 : Sat sv.toInt (f12 (1 : Int32) (0 : Int32) p2 p3 p4 p5).toInt sv := own_st (w := sv) hsv (own_hv (1 : Int32) p2 p3 p4 p5).1
  have su336 : ((2 : Int32)).toInt = ps sv + ps sv := by rw [own_p1 hsv]; decide
  have sq337 : (0 : Int32) = (f10 (2 : Int32) sv (0 : Int32) p2 p3 p4 p5) := by rw [show ((0 : Int32) : Int32) = f9 (2 : Int32) from by decide]; exact own_fin2 hsv su336 se336_0 se336_1
  have pre338 : ∀ tg, AT p e below T335 m 106 #[iv p0, iv p1, iv p2, iv p3, iv p4, iv p5, iv (2 : Int32), iv sv, iv kv, rv b_267, rv b_269, rv b_273, rv b_279, rv b287, rv b297, iv (1 : Int32)] [(.int (1 : Int32)), (.int kv)] tg → Steps p.tables e below S0 tg := fun tg kg => pre266 tg (by
   refine XS.iloadN X0.here hx rfl (hb hby at_30) rfl ?_
   refine st267 _ ?_
   refine XS.astore X267.here hx rfl (hb hby at_34) rfl rfl (l' := #[iv p0, iv p1, iv p2, iv p3, iv p4, iv p5, iv (2 : Int32), iv sv, iv kv, rv b_267, un, un, un, un, un, un]) rfl ?_
   refine XS.iloadN X267.here hx rfl (hb hby at_36) rfl ?_
   refine st269 _ ?_
   refine XS.astore X269.here hx rfl (hb hby at_40) rfl rfl (l' := #[iv p0, iv p1, iv p2, iv p3, iv p4, iv p5, iv (2 : Int32), iv sv, iv kv, rv b_267, rv b_269, un, un, un, un, un]) rfl ?_
   refine XS.iload X269.here hx rfl (hb hby at_42) rfl ?_
   refine st273 _ ?_
   refine XS.astore X273.here hx rfl (hb hby at_47) rfl rfl (l' := #[iv p0, iv p1, iv p2, iv p3, iv p4, iv p5, iv (2 : Int32), iv sv, iv kv, rv b_267, rv b_269, rv b_273, un, un, un, un]) rfl ?_
   refine XS.iload X273.here hx rfl (hb hby at_49) rfl ?_
   refine st279 _ ?_
   refine XS.astore X279.here hx rfl (hb hby at_54) rfl rfl (l' := #[iv p0, iv p1, iv p2, iv p3, iv p4, iv p5, iv (2 : Int32), iv sv, iv kv, rv b_267, rv b_269, rv b_273, rv b_279, un, un, un]) rfl ?_
   show AT p e below T279 m 56 #[iv p0, iv p1, iv p2, iv p3, iv p4, iv p5, iv (2 : Int32), iv sv, iv kv, rv b_267, rv b_269, rv b_273, rv b_279, un, un, un] [] _
   refine XS.iconst X279.here hx rfl (hb hby at_56) ?_
   refine st287 _ ?_
   refine XS.astore X287.here hx rfl (hb hby at_59) rfl rfl (l' := #[iv p0, iv p1, iv p2, iv p3, iv p4, iv p5, iv (2 : Int32), iv sv, iv kv, rv b_267, rv b_269, rv b_273, rv b_279, rv b287, un, un]) rfl ?_
   refine st297 _ ?_
   refine XS.dup X297.here hx rfl (hb hby at_64) rfl rfl ?_
   refine XS.iload X297.here hx rfl (hb hby at_65) rfl ?_
   refine XS.iload X297.here hx rfl (hb hby at_67) rfl ?_
   refine st312.trans ?_
   refine XS.astore X312.here hx rfl (hb hby at_72) rfl rfl (l' := #[iv p0, iv p1, iv p2, iv p3, iv p4, iv p5, iv (2 : Int32), iv sv, iv kv, rv b_267, rv b_269, rv b_273, rv b_279, rv b287, rv b297, un]) rfl ?_
   refine XS.aload X312.here hx rfl (hb hby at_74) rfl rfl ?_
   refine st334.trans ?_
   refine XS.iload X334.here hx rfl (hb hby at_79) rfl ?_
   show AT p e below T334 m 81 #[iv p0, iv p1, iv p2, iv p3, iv p4, iv p5, iv (2 : Int32), iv sv, iv kv, rv b_267, rv b_269, rv b_273, rv b_279, rv b287, rv b297, un] [(.int (2 : Int32)), (.int (0 : Int32))] _
   refine XS.iload X334.here hx rfl (hb hby at_81) rfl ?_
   refine XS.iconst X334.here hx rfl (hb hby at_83) ?_
   refine XS.iloadN X334.here hx rfl (hb hby at_84) rfl ?_
   refine XS.iloadN X334.here hx rfl (hb hby at_85) rfl ?_
   refine XS.iload X334.here hx rfl (hb hby at_86) rfl ?_
   refine XS.iload X334.here hx rfl (hb hby at_88) rfl ?_
   refine st335 _ ?_
   show AT p e below T335 m 93 #[iv p0, iv p1, iv p2, iv p3, iv p4, iv p5, iv (2 : Int32), iv sv, iv kv, rv b_267, rv b_269, rv b_273, rv b_279, rv b287, rv b297, un] [(.int (f10 (2 : Int32) sv (0 : Int32) p2 p3 p4 p5)), (.int (0 : Int32))] _
   refine XS.icmpNo X335.here hx rfl (hb hby at_93) rfl (XT.ii_ne_f (sq337 : (0 : Int32) = (f10 (2 : Int32) sv (0 : Int32) p2 p3 p4 p5))) ?_
   refine XS.iconst X335.here hx rfl (hb hby at_96) ?_
   refine XS.goto X335.here hx rfl (pc0 := 97) (pc' := 101) rfl (hb hby at_97) (by decide) (by decide) ?_
   refine XS.istore X335.here hx rfl (hb hby at_101) rfl (l' := #[iv p0, iv p1, iv p2, iv p3, iv p4, iv p5, iv (2 : Int32), iv sv, iv kv, rv b_267, rv b_269, rv b_273, rv b_279, rv b287, rv b297, iv (1 : Int32)]) rfl ?_
   refine XS.iload X335.here hx rfl (hb hby at_103) rfl ?_
   refine XS.iconst X335.here hx rfl (hb hby at_105) ?_
   exact kg)
  rcases Decidable.em (kv < (1 : Int32)) with hc339 | hc339
  ·
   obtain ⟨fs, hr, hrun, hended, hW, hsame⟩ := X335.leave (v := some (.int (1 : Int32))) (fun h => by rw [Bd.returns] at h; cases h)
   subst hS0
   refine ⟨_, _, pre338 _ ?_, hrun, hended, _, _, rfl, ?_, ⟨_, rfl⟩, hW, hsame.mono (by decide) (by decide)⟩
   ·
    refine XS.icmpYes X335.here hx rfl (pc0 := 106) (pc' := 152) rfl (hb hby at_106) rfl (XT.ii_lt_t hc339) (by decide) (by decide) ?_
    show AT p e below T335 m 152 #[iv p0, iv p1, iv p2, iv p3, iv p4, iv p5, iv (2 : Int32), iv sv, iv kv, rv b_267, rv b_269, rv b_273, rv b_279, rv b287, rv b297, iv (1 : Int32)] [] _
    refine XS.iload X335.here hx rfl (hb hby at_152) rfl ?_
    refine XS.iconst X335.here hx rfl (hb hby at_154) ?_
    show AT p e below T335 m 155 #[iv p0, iv p1, iv p2, iv p3, iv p4, iv p5, iv (2 : Int32), iv sv, iv kv, rv b_267, rv b_269, rv b_273, rv b_279, rv b287, rv b297, iv (1 : Int32)] [(.int (2 : Int32)), (.int kv)] _
    refine XS.icmpYes X335.here hx rfl (pc0 := 155) (pc' := 201) rfl (hb hby at_155) rfl (XT.ii_lt_t ((own_up hc339 (by decide)) : kv < (2 : Int32))) (by decide) (by decide) ?_
    refine XS.iload X335.here hx rfl (hb hby at_201) rfl ?_
    refine XS.iconst X335.here hx rfl (hb hby at_203) ?_
    show AT p e below T335 m 204 #[iv p0, iv p1, iv p2, iv p3, iv p4, iv p5, iv (2 : Int32), iv sv, iv kv, rv b_267, rv b_269, rv b_273, rv b_279, rv b287, rv b297, iv (1 : Int32)] [(.int (3 : Int32)), (.int kv)] _
    refine XS.icmpYes X335.here hx rfl (pc0 := 204) (pc' := 250) rfl (hb hby at_204) rfl (XT.ii_lt_t ((own_up hc339 (by decide)) : kv < (3 : Int32))) (by decide) (by decide) ?_
    refine XS.iload X335.here hx rfl (hb hby at_250) rfl ?_
    refine XS.iconst X335.here hx rfl (hb hby at_252) ?_
    show AT p e below T335 m 253 #[iv p0, iv p1, iv p2, iv p3, iv p4, iv p5, iv (2 : Int32), iv sv, iv kv, rv b_267, rv b_269, rv b_273, rv b_279, rv b287, rv b297, iv (1 : Int32)] [(.int (4 : Int32)), (.int kv)] _
    refine XS.icmpYes X335.here hx rfl (pc0 := 253) (pc' := 299) rfl (hb hby at_253) rfl (XT.ii_lt_t ((own_up hc339 (by decide)) : kv < (4 : Int32))) (by decide) (by decide) ?_
    refine XS.iload X335.here hx rfl (hb hby at_299) rfl ?_
    exact retN X335 hx (t := .boolean) Bd.returns (by simp) (hb hby at_301) hr
   ·
    show Q0 Z p0 p1 p2 p3 p4 p5 w_EE0 w_DEE1 k_EE0 k_DEE1 h0 n0 _ T335.heap _
    rw [e335]
    exact ⟨rfl, N335⟩
  ·
   obtain ⟨cq340, kq340, q340a, q340b, q340c⟩ := isOf hZ e335 E312_319
   obtain ⟨_, _, ⟨T340, L340, k340, n340⟩, -, X340, ⟨Lc340, hQ340, l340, y340, z340⟩, st340⟩ := X335.virtualBack hx (y := y11) (z := y11) hown (mvT hZ (ow hw 62 rfl)) (mvT hZ (ow hw 63 rfl)) (notFace_of_selects (args := #[]) (mvT hZ (ow hw 65 rfl))) (mvT hZ (ow hw 65 rfl)) (mvT hZ (ow hw 64 rfl)) (by decide) (backOf (W := 0) (rm11_2 l Z ar hw [] b297 b287 b_267 w_EE0 w_DEE1 k_EE0 k_DEE1 wa_312 kw_312 kb_267 (f2 p2 (0 : Int32)) (f2 p2 (1 : Int32)) (f2 p2 (2 : Int32)) sv sv (2 : Int32) li_312 (0 : Int32) (0 : Int32) w_DEE1 kw_312 h0.size (0 : Int) T312.heap n0 O312 HW E312_319 u312_2 u312_1 u312_3 u312_4 V312_313 gn297 gn327 u312_12 (Ne.symm ne297_298) (Ne.symm ne328) u312_5 u312_6 u312_7 u312_8 hLD gn320 E312_318 u312_11 (Ne.symm u312_13) ne321 (Ne.symm ne297_302) (Ne.symm ne332) (Ne.symm ne325) (Ne.symm (Old.ne O312 E_DEE1.lt gn297)) (Ne.symm (Old.ne O312 E_DEE1.lt gn327)) (Ne.symm (Old.ne O312 E_DEE1.lt gn268)) (Ne.symm (Old.ne O312 E_DEE1.lt gn320)) (Ne.symm (Old.ne O312 E_DEE1.lt gn287)) Z0 K312.1 (by omega)) hZ (ow hw 66 rfl) (ow hw 12 rfl) (by decide) (by decide)) q340a q340c (g := (mkF m 115 #[iv p0, iv p1, iv p2, iv p3, iv p4, iv p5, iv (2 : Int32), iv sv, iv kv, rv b_267, rv b_269, rv b_273, rv b_279, rv b287, rv b297, iv (1 : Int32)] [(.ref b_267), (.ref b287), (.ref b297)])) rfl (by rw [hml]; rfl) (Steps.refl _) (argsL := [(.ref b287), (.ref b_267)]) (rest := []) (lenOf pd_12 rfl) rfl (by show 2 * 0 + _ ≤ _; exact Nat.le_of_eq rfl) (hb hby at_115) (fun _ _ => ⟨rfl, e335, (by decide : 8 + 1 ≤ _), (by decide : 21 + 10 ≤ _)⟩)
   dsimp only [Pt.U, Pt.locs, Pt.cells, Pt.slots] at X340 l340 y340 z340 st340 hQ340
   subst l340 y340 z340
   obtain ⟨x0_340, x1_340, xu_340, m2_340, s2_340, e2_340, k2_340, ys_340, rfl, N340q, Kq340, u340_0, u340_1, u340_2, u340_3, u340_4, u340_5, u340_6, u340_7, u340_8, u340_9, u340_10, u340_11, u340_12, u340_13, u340_14⟩ := hQ340
   have N340 := Fr.app N335 N340q
   have ne341 : b_267 ≠ e2_340 := own_nx u340_14 (V312_313).lt (Ne.symm (Old.ne O312 E_DEE1.lt gn268))
   have ne342 : b_269 ≠ e2_340 := own_nx u340_14 (V312_314).lt (Ne.symm (Old.ne O312 E_DEE1.lt gn271))
   have ne343 : b_273 ≠ e2_340 := own_nx u340_14 (V312_315).lt (Ne.symm (Old.ne O312 E_DEE1.lt gn276))
   have ne344 : b_279 ≠ e2_340 := own_nx u340_14 (V312_316).lt (Ne.symm (Old.ne O312 E_DEE1.lt gn283))
   have ne345 : b287 ≠ e2_340 := own_nx u340_14 (V312_317).lt (Ne.symm (Old.ne O312 E_DEE1.lt gn287))
   have ne346 : b297 ≠ e2_340 := own_nx u340_14 (E312_319).lt (Ne.symm (Old.ne O312 E_DEE1.lt gn297))
   have ne347 : wa_312 ≠ e2_340 := own_nx u340_14 (u312_4).lt (Ne.symm (Old.ne O312 E_DEE1.lt gn327))
   have ne348 : li_312 ≠ e2_340 := own_nx u340_14 (u312_5).lt (Ne.symm (Old.ne O312 E_DEE1.lt gn320))
   have V340_349 := V312_313.keep Kq340 (ninS ne297_298 (ninS ne328 (ninS ne321 (own_nys u340_13 (Ne.symm (Old.ne O312 E_DEE1.lt gn268))))))
   have V340_350 := V312_314.keep Kq340 (ninS ne297_299 (ninS ne329 (ninS ne322 (own_nys u340_13 (Ne.symm (Old.ne O312 E_DEE1.lt gn271))))))
   have V340_351 := V312_315.keep Kq340 (ninS ne297_300 (ninS ne330 (ninS ne323 (own_nys u340_13 (Ne.symm (Old.ne O312 E_DEE1.lt gn276))))))
   have V340_352 := V312_316.keep Kq340 (ninS ne297_301 (ninS ne331 (ninS ne324 (own_nys u340_13 (Ne.symm (Old.ne O312 E_DEE1.lt gn283))))))
   have V340_353 := V312_317.keep Kq340 (ninS ne297_302 (ninS ne332 (ninS ne325 (own_nys u340_13 (Ne.symm (Old.ne O312 E_DEE1.lt gn287))))))
   have E340_354 := E312_318.keep Kq340
   have E340_355 := E312_319.keep Kq340
   have E340_356 := u312_5.keep Kq340
   have K340 := K312.trans Kq340 (allS (Or.inr sz297) (allS (Or.inr sz327) (allS (Or.inr sz320) (own_ays u340_13))))
   have O340 : Old Z n0 T340.heap := O312.keep Kq340 (allS gn297 (allS gn327 (allS gn320 (own_gys u340_13 Z0))))
   have sr357_0 := own_rw hsv (by have a := own_hv (0 : Int32) p2 p3 p4 p5; have b1 := own_b01 p2 (0 : Int32); have b2 := own_b01 p3 (0 : Int32); have b3 := own_b01 p4 (0 : Int32); omega) se336_0
   have se357_0 : Sat sv.toInt (f12 (0 : Int32) (1 : Int32) p2 p3 p4 p5).toInt x0_340 := by
    have a := own_hv (0 : Int32) p2 p3 p4 p5; have b1 := own_b01 p2 (0 : Int32); have b2 := own_b01 p3 (0 : Int32); have b3 := own_b01 p4 (0 : Int32)
    rw [u340_5, show (f12 (0 : Int32) (1 : Int32) p2 p3 p4 p5).toInt = (f12 (0 : Int32) (0 : Int32) p2 p3 p4 p5).toInt + (f2 p2 (0 : Int32)).toInt from by omega]
    exact own_dc hsv (own_bit _ _) (by omega) se336_0
   have sr357_1 := own_rw hsv (by have a := own_hv (1 : Int32) p2 p3 p4 p5; have b1 := own_b01 p2 (1 : Int32); have b2 := own_b01 p3 (1 : Int32); have b3 := own_b01 p4 (1 : Int32); omega) se336_1
   have se357_1 : Sat sv.toInt (f12 (1 : Int32) (1 : Int32) p2 p3 p4 p5).toInt x1_340 := by
    have a := own_hv (1 : Int32) p2 p3 p4 p5; have b1 := own_b01 p2 (1 : Int32); have b2 := own_b01 p3 (1 : Int32); have b3 := own_b01 p4 (1 : Int32)
    rw [u340_6, show (f12 (1 : Int32) (1 : Int32) p2 p3 p4 p5).toInt = (f12 (1 : Int32) (0 : Int32) p2 p3 p4 p5).toInt + (f2 p2 (1 : Int32)).toInt from by omega]
    exact own_dc hsv (own_bit _ _) (by omega) se336_1
   have su357 : xu_340.toInt = ps x0_340 + ps x1_340 := by rw [u340_7, u340_5, u340_6]; exact own_us2 (own_bit _ _) (own_bit _ _) sr357_0 sr357_1 su336
   obtain ⟨cq358, kq358, q358a, q358b, q358c⟩ := isOf hZ rfl E340_355
   obtain ⟨_, _, ⟨T358, L358, k358, n358⟩, -, X358, ⟨Lc358, hQ358, l358, y358, z358⟩, st358⟩ := X340.virtualBack hx (y := y9) (z := y9) hown (mvT hZ (ow hw 54 rfl)) (mvT hZ (ow hw 55 rfl)) (notFace_of_selects (args := #[]) (mvT hZ (ow hw 57 rfl))) (mvT hZ (ow hw 57 rfl)) (mvT hZ (ow hw 56 rfl)) (by decide) (backOf (W := 0) (rm9 l Z ar hw [] b297 xu_340 T340.heap n0 O340 u340_3) hZ (ow hw 58 rfl) (ow hw 12 rfl) (by decide) (by decide)) q358a q358c (g := (mkF m 125 #[iv p0, iv p1, iv p2, iv p3, iv p4, iv p5, iv (2 : Int32), iv sv, iv kv, rv b_267, rv b_269, rv b_273, rv b_279, rv b287, rv b297, iv (1 : Int32)] [(.ref b297)])) rfl (by rw [hml]; rfl) (Steps.refl _) (argsL := []) (rest := []) (lenOf pd_10 rfl) rfl (by show 2 * 0 + _ ≤ _; exact Nat.le_of_eq rfl) (hb hby at_125) (fun _ _ => ⟨rfl, rfl, (by decide : 9 + 0 ≤ _), (by decide : 31 + 0 ≤ _)⟩)
   dsimp only [Pt.U, Pt.locs, Pt.cells, Pt.slots] at X358 l358 y358 z358 st358 hQ358
   subst l358 y358 z358
   obtain ⟨rfl, N358q, e358⟩ := hQ358
   have N358 := Fr.app N340 N358q
   obtain ⟨_, _, ⟨T359, L359, k359, n359⟩, -, X359, ⟨Lc359, hQ359, l359, y359, z359⟩, st359⟩ := Jvm.LawKit.callS X358 hx (y := y10) hown (mvT hZ (ow hw 59 rfl)) (mvT hZ (ow hw 60 rfl)) (mvT hZ (ow hw 3 rfl)) (mvT hZ (ow hw 61 rfl)) (by decide) (backOf (W := 1) (rm10 l Z ar hw [] (2 : Int32) sv (1 : Int32) p2 p3 p4 p5 T340.heap n0 O340) hZ (ow hw 61 rfl) (ow hw 3 rfl) (by decide) (by decide)) (g := (mkF m 139 #[iv p0, iv p1, iv p2, iv p3, iv p4, iv p5, iv (2 : Int32), iv sv, iv kv, rv b_267, rv b_269, rv b_273, rv b_279, rv b287, rv b297, iv (1 : Int32)] [(.int p5), (.int p4), (.int p3), (.int p2), (.int (1 : Int32)), (.int sv), (.int (2 : Int32)), (.int (f9 xu_340))])) rfl (by rw [hml]; rfl) (argsL := [(.int (2 : Int32)), (.int sv), (.int (1 : Int32)), (.int p2), (.int p3), (.int p4), (.int p5)]) (rest := [(.int (f9 xu_340))]) (lenOf pd_11 rfl) rfl (by show 2 * 0 + _ ≤ _; exact Nat.le_of_eq rfl) (hb hby at_139) (fun _ _ => ⟨rfl, e358, (by decide : 9 + 0 ≤ _), (by decide : 31 + 0 ≤ _)⟩)
   dsimp only [Pt.U, Pt.locs, Pt.cells, Pt.slots] at X359 l359 y359 z359 st359 hQ359
   subst l359 y359 z359
   obtain ⟨rfl, N359q, e359⟩ := hQ359
   have N359 := Fr.app N358 N359q
   have sq360 : (f9 xu_340) = (f10 (2 : Int32) sv (1 : Int32) p2 p3 p4 p5) := own_fin2 hsv su357 se357_0 se357_1
   have pre361 : ∀ tg, AT p e below T359 m 155 #[iv p0, iv p1, iv p2, iv p3, iv p4, iv p5, iv (2 : Int32), iv sv, iv kv, rv b_267, rv b_269, rv b_273, rv b_279, rv b287, rv b297, iv (1 : Int32)] [(.int (2 : Int32)), (.int kv)] tg → Steps p.tables e below S0 tg := fun tg kg => pre338 tg (by
    refine XS.icmpNo X335.here hx rfl (hb hby at_106) rfl (XT.ii_lt_f hc339) ?_
    show AT p e below T335 m 109 #[iv p0, iv p1, iv p2, iv p3, iv p4, iv p5, iv (2 : Int32), iv sv, iv kv, rv b_267, rv b_269, rv b_273, rv b_279, rv b287, rv b297, iv (1 : Int32)] [] _
    refine XS.aload X335.here hx rfl (hb hby at_109) rfl rfl ?_
    refine XS.aload X335.here hx rfl (hb hby at_111) rfl rfl ?_
    refine XS.aload X335.here hx rfl (hb hby at_113) rfl rfl ?_
    refine st340.trans ?_
    refine XS.iload X340.here hx rfl (hb hby at_118) rfl ?_
    show AT p e below T340 m 120 #[iv p0, iv p1, iv p2, iv p3, iv p4, iv p5, iv (2 : Int32), iv sv, iv kv, rv b_267, rv b_269, rv b_273, rv b_279, rv b287, rv b297, iv (1 : Int32)] [(.int (1 : Int32))] _
    refine XS.ifNo X340.here hx rfl (hb hby at_120) rfl (XT.i0_eq_f ((by decide) : ¬ ((1 : Int32) = (0 : Int32)))) ?_
    refine XS.aload X340.here hx rfl (hb hby at_123) rfl rfl ?_
    refine st358.trans ?_
    refine XS.iload X358.here hx rfl (hb hby at_128) rfl ?_
    refine XS.iload X358.here hx rfl (hb hby at_130) rfl ?_
    refine XS.iconst X358.here hx rfl (hb hby at_132) ?_
    refine XS.iloadN X358.here hx rfl (hb hby at_133) rfl ?_
    refine XS.iloadN X358.here hx rfl (hb hby at_134) rfl ?_
    show AT p e below T358 m 135 #[iv p0, iv p1, iv p2, iv p3, iv p4, iv p5, iv (2 : Int32), iv sv, iv kv, rv b_267, rv b_269, rv b_273, rv b_279, rv b287, rv b297, iv (1 : Int32)] [(.int p3), (.int p2), (.int (1 : Int32)), (.int sv), (.int (2 : Int32)), (.int (f9 xu_340))] _
    refine XS.iload X358.here hx rfl (hb hby at_135) rfl ?_
    refine XS.iload X358.here hx rfl (hb hby at_137) rfl ?_
    refine st359 _ ?_
    show AT p e below T359 m 142 #[iv p0, iv p1, iv p2, iv p3, iv p4, iv p5, iv (2 : Int32), iv sv, iv kv, rv b_267, rv b_269, rv b_273, rv b_279, rv b287, rv b297, iv (1 : Int32)] [(.int (f10 (2 : Int32) sv (1 : Int32) p2 p3 p4 p5)), (.int (f9 xu_340))] _
    refine XS.icmpNo X359.here hx rfl (hb hby at_142) rfl (XT.ii_ne_f (sq360 : (f9 xu_340) = (f10 (2 : Int32) sv (1 : Int32) p2 p3 p4 p5))) ?_
    refine XS.iconst X359.here hx rfl (hb hby at_145) ?_
    refine XS.goto X359.here hx rfl (pc0 := 146) (pc' := 150) rfl (hb hby at_146) (by decide) (by decide) ?_
    refine XS.istore X359.here hx rfl (hb hby at_150) rfl (l' := #[iv p0, iv p1, iv p2, iv p3, iv p4, iv p5, iv (2 : Int32), iv sv, iv kv, rv b_267, rv b_269, rv b_273, rv b_279, rv b287, rv b297, iv (1 : Int32)]) rfl ?_
    refine XS.iload X359.here hx rfl (hb hby at_152) rfl ?_
    refine XS.iconst X359.here hx rfl (hb hby at_154) ?_
    exact kg)
   rcases Decidable.em (kv < (2 : Int32)) with hc362 | hc362
   ·
    obtain ⟨fs, hr, hrun, hended, hW, hsame⟩ := X359.leave (v := some (.int (1 : Int32))) (fun h => by rw [Bd.returns] at h; cases h)
    subst hS0
    refine ⟨_, _, pre361 _ ?_, hrun, hended, _, _, rfl, ?_, ⟨_, rfl⟩, hW, hsame.mono (by decide) (by decide)⟩
    ·
     refine XS.icmpYes X359.here hx rfl (pc0 := 155) (pc' := 201) rfl (hb hby at_155) rfl (XT.ii_lt_t hc362) (by decide) (by decide) ?_
     refine XS.iload X359.here hx rfl (hb hby at_201) rfl ?_
     refine XS.iconst X359.here hx rfl (hb hby at_203) ?_
     show AT p e below T359 m 204 #[iv p0, iv p1, iv p2, iv p3, iv p4, iv p5, iv (2 : Int32), iv sv, iv kv, rv b_267, rv b_269, rv b_273, rv b_279, rv b287, rv b297, iv (1 : Int32)] [(.int (3 : Int32)), (.int kv)] _
     refine XS.icmpYes X359.here hx rfl (pc0 := 204) (pc' := 250) rfl (hb hby at_204) rfl (XT.ii_lt_t ((own_up hc362 (by decide)) : kv < (3 : Int32))) (by decide) (by decide) ?_
     refine XS.iload X359.here hx rfl (hb hby at_250) rfl ?_
     refine XS.iconst X359.here hx rfl (hb hby at_252) ?_
     show AT p e below T359 m 253 #[iv p0, iv p1, iv p2, iv p3, iv p4, iv p5, iv (2 : Int32), iv sv, iv kv, rv b_267, rv b_269, rv b_273, rv b_279, rv b287, rv b297, iv (1 : Int32)] [(.int (4 : Int32)), (.int kv)] _
     refine XS.icmpYes X359.here hx rfl (pc0 := 253) (pc' := 299) rfl (hb hby at_253) rfl (XT.ii_lt_t ((own_up hc362 (by decide)) : kv < (4 : Int32))) (by decide) (by decide) ?_
     show AT p e below T359 m 299 #[iv p0, iv p1, iv p2, iv p3, iv p4, iv p5, iv (2 : Int32), iv sv, iv kv, rv b_267, rv b_269, rv b_273, rv b_279, rv b287, rv b297, iv (1 : Int32)] [] _
     refine XS.iload X359.here hx rfl (hb hby at_299) rfl ?_
     exact retN X359 hx (t := .boolean) Bd.returns (by simp) (hb hby at_301) hr
    ·
     show Q0 Z p0 p1 p2 p3 p4 p5 w_EE0 w_DEE1 k_EE0 k_DEE1 h0 n0 _ T359.heap _
     rw [e359]
     exact ⟨rfl, N359⟩
   ·
    obtain ⟨cq363, kq363, q363a, q363b, q363c⟩ := isOf hZ e359 E340_355
    obtain ⟨_, _, ⟨T363, L363, k363, n363⟩, -, X363, ⟨Lc363, hQ363, l363, y363, z363⟩, st363⟩ := X359.virtualBack hx (y := y11) (z := y11) hown (mvT hZ (ow hw 62 rfl)) (mvT hZ (ow hw 63 rfl)) (notFace_of_selects (args := #[]) (mvT hZ (ow hw 65 rfl))) (mvT hZ (ow hw 65 rfl)) (mvT hZ (ow hw 64 rfl)) (by decide) (backOf (W := 0) (rm11_2 l Z ar hw [] b297 b287 b_269 w_EE0 w_DEE1 k_EE0 k_DEE1 wa_312 kw_312 kb_269 (f2 p3 (0 : Int32)) (f2 p3 (1 : Int32)) (f2 p3 (2 : Int32)) x0_340 x1_340 xu_340 li_312 m2_340 s2_340 e2_340 k2_340 h0.size ((0 : Int) + 1) T340.heap n0 O340 HW E340_355 u340_1 u340_2 u340_3 u340_4 V340_350 gn297 gn327 u312_12 (Ne.symm ne297_299) (Ne.symm ne329) E340_356 u340_9 u340_10 u340_11 u340_12 gn320 E340_354 u312_11 (Ne.symm u312_13) ne322 (Ne.symm ne297_302) (Ne.symm ne332) (Ne.symm ne325) ne346 ne347 ne342 ne348 ne345 Z0 K340.1 (by omega)) hZ (ow hw 66 rfl) (ow hw 12 rfl) (by decide) (by decide)) q363a q363c (g := (mkF m 164 #[iv p0, iv p1, iv p2, iv p3, iv p4, iv p5, iv (2 : Int32), iv sv, iv kv, rv b_267, rv b_269, rv b_273, rv b_279, rv b287, rv b297, iv (1 : Int32)] [(.ref b_269), (.ref b287), (.ref b297)])) rfl (by rw [hml]; rfl) (Steps.refl _) (argsL := [(.ref b287), (.ref b_269)]) (rest := []) (lenOf pd_12 rfl) rfl (by show 2 * 0 + _ ≤ _; exact Nat.le_of_eq rfl) (hb hby at_164) (fun _ _ => ⟨rfl, e359, (by decide : 9 + 1 ≤ _), (by decide : 31 + 10 ≤ _)⟩)
    dsimp only [Pt.U, Pt.locs, Pt.cells, Pt.slots] at X363 l363 y363 z363 st363 hQ363
    subst l363 y363 z363
    obtain ⟨x0_363, x1_363, xu_363, m2_363, s2_363, e2_363, k2_363, ys_363, rfl, N363q, Kq363, u363_0, u363_1, u363_2, u363_3, u363_4, u363_5, u363_6, u363_7, u363_8, u363_9, u363_10, u363_11, u363_12, u363_13, u363_14⟩ := hQ363
    have N363 := Fr.app N359 N363q
    have ne364 : b_267 ≠ e2_363 := own_nx u363_14 (V340_349).lt ne341
    have ne365 : b_269 ≠ e2_363 := own_nx u363_14 (V340_350).lt ne342
    have ne366 : b_273 ≠ e2_363 := own_nx u363_14 (V340_351).lt ne343
    have ne367 : b_279 ≠ e2_363 := own_nx u363_14 (V340_352).lt ne344
    have ne368 : b287 ≠ e2_363 := own_nx u363_14 (V340_353).lt ne345
    have ne369 : b297 ≠ e2_363 := own_nx u363_14 (E340_355).lt ne346
    have ne370 : li_312 ≠ e2_363 := own_nx u363_14 (E340_356).lt ne348
    have ne371 : wa_312 ≠ e2_363 := own_nx u363_14 (u340_4).lt ne347
    have V363_372 := V340_349.keep Kq363 (ninS ne297_298 (ninS ne328 (ninS ne321 (own_nys u363_13 ne341))))
    have V363_373 := V340_350.keep Kq363 (ninS ne297_299 (ninS ne329 (ninS ne322 (own_nys u363_13 ne342))))
    have V363_374 := V340_351.keep Kq363 (ninS ne297_300 (ninS ne330 (ninS ne323 (own_nys u363_13 ne343))))
    have V363_375 := V340_352.keep Kq363 (ninS ne297_301 (ninS ne331 (ninS ne324 (own_nys u363_13 ne344))))
    have V363_376 := V340_353.keep Kq363 (ninS ne297_302 (ninS ne332 (ninS ne325 (own_nys u363_13 ne345))))
    have E363_377 := E340_354.keep Kq363
    have E363_378 := E340_355.keep Kq363
    have E363_379 := E340_356.keep Kq363
    have K363 := K340.trans Kq363 (allS (Or.inr sz297) (allS (Or.inr sz327) (allS (Or.inr sz320) (own_ays u363_13))))
    have O363 : Old Z n0 T363.heap := O340.keep Kq363 (allS gn297 (allS gn327 (allS gn320 (own_gys u363_13 Z0))))
    have sr380_0 := own_rw hsv (by have a := own_hv (0 : Int32) p2 p3 p4 p5; have b1 := own_b01 p2 (0 : Int32); have b2 := own_b01 p3 (0 : Int32); have b3 := own_b01 p4 (0 : Int32); omega) se357_0
    have se380_0 : Sat sv.toInt (f12 (0 : Int32) (2 : Int32) p2 p3 p4 p5).toInt x0_363 := by
     have a := own_hv (0 : Int32) p2 p3 p4 p5; have b1 := own_b01 p2 (0 : Int32); have b2 := own_b01 p3 (0 : Int32); have b3 := own_b01 p4 (0 : Int32)
     rw [u363_5, show (f12 (0 : Int32) (2 : Int32) p2 p3 p4 p5).toInt = (f12 (0 : Int32) (1 : Int32) p2 p3 p4 p5).toInt + (f2 p3 (0 : Int32)).toInt from by omega]
     exact own_dc hsv (own_bit _ _) (by omega) se357_0
    have sr380_1 := own_rw hsv (by have a := own_hv (1 : Int32) p2 p3 p4 p5; have b1 := own_b01 p2 (1 : Int32); have b2 := own_b01 p3 (1 : Int32); have b3 := own_b01 p4 (1 : Int32); omega) se357_1
    have se380_1 : Sat sv.toInt (f12 (1 : Int32) (2 : Int32) p2 p3 p4 p5).toInt x1_363 := by
     have a := own_hv (1 : Int32) p2 p3 p4 p5; have b1 := own_b01 p2 (1 : Int32); have b2 := own_b01 p3 (1 : Int32); have b3 := own_b01 p4 (1 : Int32)
     rw [u363_6, show (f12 (1 : Int32) (2 : Int32) p2 p3 p4 p5).toInt = (f12 (1 : Int32) (1 : Int32) p2 p3 p4 p5).toInt + (f2 p3 (1 : Int32)).toInt from by omega]
     exact own_dc hsv (own_bit _ _) (by omega) se357_1
    have su380 : xu_363.toInt = ps x0_363 + ps x1_363 := by rw [u363_7, u363_5, u363_6]; exact own_us2 (own_bit _ _) (own_bit _ _) sr380_0 sr380_1 su357
    obtain ⟨cq381, kq381, q381a, q381b, q381c⟩ := isOf hZ rfl E363_378
    obtain ⟨_, _, ⟨T381, L381, k381, n381⟩, -, X381, ⟨Lc381, hQ381, l381, y381, z381⟩, st381⟩ := X363.virtualBack hx (y := y9) (z := y9) hown (mvT hZ (ow hw 54 rfl)) (mvT hZ (ow hw 55 rfl)) (notFace_of_selects (args := #[]) (mvT hZ (ow hw 57 rfl))) (mvT hZ (ow hw 57 rfl)) (mvT hZ (ow hw 56 rfl)) (by decide) (backOf (W := 0) (rm9 l Z ar hw [] b297 xu_363 T363.heap n0 O363 u363_3) hZ (ow hw 58 rfl) (ow hw 12 rfl) (by decide) (by decide)) q381a q381c (g := (mkF m 174 #[iv p0, iv p1, iv p2, iv p3, iv p4, iv p5, iv (2 : Int32), iv sv, iv kv, rv b_267, rv b_269, rv b_273, rv b_279, rv b287, rv b297, iv (1 : Int32)] [(.ref b297)])) rfl (by rw [hml]; rfl) (Steps.refl _) (argsL := []) (rest := []) (lenOf pd_10 rfl) rfl (by show 2 * 0 + _ ≤ _; exact Nat.le_of_eq rfl) (hb hby at_174) (fun _ _ => ⟨rfl, rfl, (by decide : 10 + 0 ≤ _), (by decide : 41 + 0 ≤ _)⟩)
    dsimp only [Pt.U, Pt.locs, Pt.cells, Pt.slots] at X381 l381 y381 z381 st381 hQ381
    subst l381 y381 z381
    obtain ⟨rfl, N381q, e381⟩ := hQ381
    have N381 := Fr.app N363 N381q
    obtain ⟨_, _, ⟨T382, L382, k382, n382⟩, -, X382, ⟨Lc382, hQ382, l382, y382, z382⟩, st382⟩ := Jvm.LawKit.callS X381 hx (y := y10) hown (mvT hZ (ow hw 59 rfl)) (mvT hZ (ow hw 60 rfl)) (mvT hZ (ow hw 3 rfl)) (mvT hZ (ow hw 61 rfl)) (by decide) (backOf (W := 1) (rm10 l Z ar hw [] (2 : Int32) sv (2 : Int32) p2 p3 p4 p5 T363.heap n0 O363) hZ (ow hw 61 rfl) (ow hw 3 rfl) (by decide) (by decide)) (g := (mkF m 188 #[iv p0, iv p1, iv p2, iv p3, iv p4, iv p5, iv (2 : Int32), iv sv, iv kv, rv b_267, rv b_269, rv b_273, rv b_279, rv b287, rv b297, iv (1 : Int32)] [(.int p5), (.int p4), (.int p3), (.int p2), (.int (2 : Int32)), (.int sv), (.int (2 : Int32)), (.int (f9 xu_363))])) rfl (by rw [hml]; rfl) (argsL := [(.int (2 : Int32)), (.int sv), (.int (2 : Int32)), (.int p2), (.int p3), (.int p4), (.int p5)]) (rest := [(.int (f9 xu_363))]) (lenOf pd_11 rfl) rfl (by show 2 * 0 + _ ≤ _; exact Nat.le_of_eq rfl) (hb hby at_188) (fun _ _ => ⟨rfl, e381, (by decide : 10 + 0 ≤ _), (by decide : 41 + 0 ≤ _)⟩)
    dsimp only [Pt.U, Pt.locs, Pt.cells, Pt.slots] at X382 l382 y382 z382 st382 hQ382
    subst l382 y382 z382
    obtain ⟨rfl, N382q, e382⟩ := hQ382
    have N382 := Fr.app N381 N382q
    have sq383 : (f9 xu_363) = (f10 (2 : Int32) sv (2 : Int32) p2 p3 p4 p5) := own_fin2 hsv su380 se380_0 se380_1
    have pre384 : ∀ tg, AT p e below T382 m 204 #[iv p0, iv p1, iv p2, iv p3, iv p4, iv p5, iv (2 : Int32), iv sv, iv kv, rv b_267, rv b_269, rv b_273, rv b_279, rv b287, rv b297, iv (1 : Int32)] [(.int (3 : Int32)), (.int kv)] tg → Steps p.tables e below S0 tg := fun tg kg => pre361 tg (by
     refine XS.icmpNo X359.here hx rfl (hb hby at_155) rfl (XT.ii_lt_f hc362) ?_
     refine XS.aload X359.here hx rfl (hb hby at_158) rfl rfl ?_
     refine XS.aload X359.here hx rfl (hb hby at_160) rfl rfl ?_
     refine XS.aload X359.here hx rfl (hb hby at_162) rfl rfl ?_
     refine st363.trans ?_
     show AT p e below T363 m 167 #[iv p0, iv p1, iv p2, iv p3, iv p4, iv p5, iv (2 : Int32), iv sv, iv kv, rv b_267, rv b_269, rv b_273, rv b_279, rv b287, rv b297, iv (1 : Int32)] [] _
     refine XS.iload X363.here hx rfl (hb hby at_167) rfl ?_
     show AT p e below T363 m 169 #[iv p0, iv p1, iv p2, iv p3, iv p4, iv p5, iv (2 : Int32), iv sv, iv kv, rv b_267, rv b_269, rv b_273, rv b_279, rv b287, rv b297, iv (1 : Int32)] [(.int (1 : Int32))] _
     refine XS.ifNo X363.here hx rfl (hb hby at_169) rfl (XT.i0_eq_f ((by decide) : ¬ ((1 : Int32) = (0 : Int32)))) ?_
     refine XS.aload X363.here hx rfl (hb hby at_172) rfl rfl ?_
     refine st381.trans ?_
     refine XS.iload X381.here hx rfl (hb hby at_177) rfl ?_
     refine XS.iload X381.here hx rfl (hb hby at_179) rfl ?_
     refine XS.iconst X381.here hx rfl (hb hby at_181) ?_
     refine XS.iloadN X381.here hx rfl (hb hby at_182) rfl ?_
     refine XS.iloadN X381.here hx rfl (hb hby at_183) rfl ?_
     refine XS.iload X381.here hx rfl (hb hby at_184) rfl ?_
     refine XS.iload X381.here hx rfl (hb hby at_186) rfl ?_
     refine st382 _ ?_
     show AT p e below T382 m 191 #[iv p0, iv p1, iv p2, iv p3, iv p4, iv p5, iv (2 : Int32), iv sv, iv kv, rv b_267, rv b_269, rv b_273, rv b_279, rv b287, rv b297, iv (1 : Int32)] [(.int (f10 (2 : Int32) sv (2 : Int32) p2 p3 p4 p5)), (.int (f9 xu_363))] _
     refine XS.icmpNo X382.here hx rfl (hb hby at_191) rfl (XT.ii_ne_f (sq383 : (f9 xu_363) = (f10 (2 : Int32) sv (2 : Int32) p2 p3 p4 p5))) ?_
     refine XS.iconst X382.here hx rfl (hb hby at_194) ?_
     show AT p e below T382 m 195 #[iv p0, iv p1, iv p2, iv p3, iv p4, iv p5, iv (2 : Int32), iv sv, iv kv, rv b_267, rv b_269, rv b_273, rv b_279, rv b287, rv b297, iv (1 : Int32)] [(.int (1 : Int32))] _
     refine XS.goto X382.here hx rfl (pc0 := 195) (pc' := 199) rfl (hb hby at_195) (by decide) (by decide) ?_
     refine XS.istore X382.here hx rfl (hb hby at_199) rfl (l' := #[iv p0, iv p1, iv p2, iv p3, iv p4, iv p5, iv (2 : Int32), iv sv, iv kv, rv b_267, rv b_269, rv b_273, rv b_279, rv b287, rv b297, iv (1 : Int32)]) rfl ?_
     refine XS.iload X382.here hx rfl (hb hby at_201) rfl ?_
     refine XS.iconst X382.here hx rfl (hb hby at_203) ?_
     exact kg)
    rcases Decidable.em (kv < (3 : Int32)) with hc385 | hc385
    ·
     obtain ⟨fs, hr, hrun, hended, hW, hsame⟩ := X382.leave (v := some (.int (1 : Int32))) (fun h => by rw [Bd.returns] at h; cases h)
     subst hS0
     refine ⟨_, _, pre384 _ ?_, hrun, hended, _, _, rfl, ?_, ⟨_, rfl⟩, hW, hsame.mono (by decide) (by decide)⟩
     ·
      refine XS.icmpYes X382.here hx rfl (pc0 := 204) (pc' := 250) rfl (hb hby at_204) rfl (XT.ii_lt_t hc385) (by decide) (by decide) ?_
      refine XS.iload X382.here hx rfl (hb hby at_250) rfl ?_
      refine XS.iconst X382.here hx rfl (hb hby at_252) ?_
      show AT p e below T382 m 253 #[iv p0, iv p1, iv p2, iv p3, iv p4, iv p5, iv (2 : Int32), iv sv, iv kv, rv b_267, rv b_269, rv b_273, rv b_279, rv b287, rv b297, iv (1 : Int32)] [(.int (4 : Int32)), (.int kv)] _
      refine XS.icmpYes X382.here hx rfl (pc0 := 253) (pc' := 299) rfl (hb hby at_253) rfl (XT.ii_lt_t ((own_up hc385 (by decide)) : kv < (4 : Int32))) (by decide) (by decide) ?_
      refine XS.iload X382.here hx rfl (hb hby at_299) rfl ?_
      exact retN X382 hx (t := .boolean) Bd.returns (by simp) (hb hby at_301) hr
     ·
      show Q0 Z p0 p1 p2 p3 p4 p5 w_EE0 w_DEE1 k_EE0 k_DEE1 h0 n0 _ T382.heap _
      rw [e382]
      exact ⟨rfl, N382⟩
    ·
     obtain ⟨cq386, kq386, q386a, q386b, q386c⟩ := isOf hZ e382 E363_378
     obtain ⟨_, _, ⟨T386, L386, k386, n386⟩, -, X386, ⟨Lc386, hQ386, l386, y386, z386⟩, st386⟩ := X382.virtualBack hx (y := y11) (z := y11) hown (mvT hZ (ow hw 62 rfl)) (mvT hZ (ow hw 63 rfl)) (notFace_of_selects (args := #[]) (mvT hZ (ow hw 65 rfl))) (mvT hZ (ow hw 65 rfl)) (mvT hZ (ow hw 64 rfl)) (by decide) (backOf (W := 0) (rm11_2 l Z ar hw [] b297 b287 b_273 w_EE0 w_DEE1 k_EE0 k_DEE1 wa_312 kw_312 kb_273 (f2 p4 (0 : Int32)) (f2 p4 (1 : Int32)) (f2 p4 (2 : Int32)) x0_363 x1_363 xu_363 li_312 m2_363 s2_363 e2_363 k2_363 h0.size (((0 : Int) + 1) + 1) T363.heap n0 O363 HW E363_378 u363_1 u363_2 u363_3 u363_4 V363_374 gn297 gn327 u312_12 (Ne.symm ne297_300) (Ne.symm ne330) E363_379 u363_9 u363_10 u363_11 u363_12 gn320 E363_377 u312_11 (Ne.symm u312_13) ne323 (Ne.symm ne297_302) (Ne.symm ne332) (Ne.symm ne325) ne369 ne371 ne366 ne370 ne368 Z0 K363.1 (by omega)) hZ (ow hw 66 rfl) (ow hw 12 rfl) (by decide) (by decide)) q386a q386c (g := (mkF m 213 #[iv p0, iv p1, iv p2, iv p3, iv p4, iv p5, iv (2 : Int32), iv sv, iv kv, rv b_267, rv b_269, rv b_273, rv b_279, rv b287, rv b297, iv (1 : Int32)] [(.ref b_273), (.ref b287), (.ref b297)])) rfl (by rw [hml]; rfl) (Steps.refl _) (argsL := [(.ref b287), (.ref b_273)]) (rest := []) (lenOf pd_12 rfl) rfl (by show 2 * 0 + _ ≤ _; exact Nat.le_of_eq rfl) (hb hby at_213) (fun _ _ => ⟨rfl, e382, (by decide : 10 + 1 ≤ _), (by decide : 41 + 10 ≤ _)⟩)
     dsimp only [Pt.U, Pt.locs, Pt.cells, Pt.slots] at X386 l386 y386 z386 st386 hQ386
     subst l386 y386 z386
     obtain ⟨x0_386, x1_386, xu_386, m2_386, s2_386, e2_386, k2_386, ys_386, rfl, N386q, Kq386, u386_0, u386_1, u386_2, u386_3, u386_4, u386_5, u386_6, u386_7, u386_8, u386_9, u386_10, u386_11, u386_12, u386_13, u386_14⟩ := hQ386
     have N386 := Fr.app N382 N386q
     have ne387 : b_267 ≠ e2_386 := own_nx u386_14 (V363_372).lt ne364
     have ne388 : b_269 ≠ e2_386 := own_nx u386_14 (V363_373).lt ne365
     have ne389 : b_273 ≠ e2_386 := own_nx u386_14 (V363_374).lt ne366
     have ne390 : b_279 ≠ e2_386 := own_nx u386_14 (V363_375).lt ne367
     have ne391 : b287 ≠ e2_386 := own_nx u386_14 (V363_376).lt ne368
     have ne392 : b297 ≠ e2_386 := own_nx u386_14 (E363_378).lt ne369
     have ne393 : li_312 ≠ e2_386 := own_nx u386_14 (E363_379).lt ne370
     have ne394 : wa_312 ≠ e2_386 := own_nx u386_14 (u363_4).lt ne371
     have V386_395 := V363_372.keep Kq386 (ninS ne297_298 (ninS ne328 (ninS ne321 (own_nys u386_13 ne364))))
     have V386_396 := V363_373.keep Kq386 (ninS ne297_299 (ninS ne329 (ninS ne322 (own_nys u386_13 ne365))))
     have V386_397 := V363_374.keep Kq386 (ninS ne297_300 (ninS ne330 (ninS ne323 (own_nys u386_13 ne366))))
     have V386_398 := V363_375.keep Kq386 (ninS ne297_301 (ninS ne331 (ninS ne324 (own_nys u386_13 ne367))))
     have V386_399 := V363_376.keep Kq386 (ninS ne297_302 (ninS ne332 (ninS ne325 (own_nys u386_13 ne368))))
     have E386_400 := E363_377.keep Kq386
     have E386_401 := E363_378.keep Kq386
     have E386_402 := E363_379.keep Kq386
     have K386 := K363.trans Kq386 (allS (Or.inr sz297) (allS (Or.inr sz327) (allS (Or.inr sz320) (own_ays u386_13))))
     have O386 : Old Z n0 T386.heap := O363.keep Kq386 (allS gn297 (allS gn327 (allS gn320 (own_gys u386_13 Z0))))
     have sr403_0 := own_rw hsv (by have a := own_hv (0 : Int32) p2 p3 p4 p5; have b1 := own_b01 p2 (0 : Int32); have b2 := own_b01 p3 (0 : Int32); have b3 := own_b01 p4 (0 : Int32); omega) se380_0
     have se403_0 : Sat sv.toInt (f12 (0 : Int32) (3 : Int32) p2 p3 p4 p5).toInt x0_386 := by
      have a := own_hv (0 : Int32) p2 p3 p4 p5; have b1 := own_b01 p2 (0 : Int32); have b2 := own_b01 p3 (0 : Int32); have b3 := own_b01 p4 (0 : Int32)
      rw [u386_5, show (f12 (0 : Int32) (3 : Int32) p2 p3 p4 p5).toInt = (f12 (0 : Int32) (2 : Int32) p2 p3 p4 p5).toInt + (f2 p4 (0 : Int32)).toInt from by omega]
      exact own_dc hsv (own_bit _ _) (by omega) se380_0
     have sr403_1 := own_rw hsv (by have a := own_hv (1 : Int32) p2 p3 p4 p5; have b1 := own_b01 p2 (1 : Int32); have b2 := own_b01 p3 (1 : Int32); have b3 := own_b01 p4 (1 : Int32); omega) se380_1
     have se403_1 : Sat sv.toInt (f12 (1 : Int32) (3 : Int32) p2 p3 p4 p5).toInt x1_386 := by
      have a := own_hv (1 : Int32) p2 p3 p4 p5; have b1 := own_b01 p2 (1 : Int32); have b2 := own_b01 p3 (1 : Int32); have b3 := own_b01 p4 (1 : Int32)
      rw [u386_6, show (f12 (1 : Int32) (3 : Int32) p2 p3 p4 p5).toInt = (f12 (1 : Int32) (2 : Int32) p2 p3 p4 p5).toInt + (f2 p4 (1 : Int32)).toInt from by omega]
      exact own_dc hsv (own_bit _ _) (by omega) se380_1
     have su403 : xu_386.toInt = ps x0_386 + ps x1_386 := by rw [u386_7, u386_5, u386_6]; exact own_us2 (own_bit _ _) (own_bit _ _) sr403_0 sr403_1 su380
     obtain ⟨cq404, kq404, q404a, q404b, q404c⟩ := isOf hZ rfl E386_401
     obtain ⟨_, _, ⟨T404, L404, k404, n404⟩, -, X404, ⟨Lc404, hQ404, l404, y404, z404⟩, st404⟩ := X386.virtualBack hx (y := y9) (z := y9) hown (mvT hZ (ow hw 54 rfl)) (mvT hZ (ow hw 55 rfl)) (notFace_of_selects (args := #[]) (mvT hZ (ow hw 57 rfl))) (mvT hZ (ow hw 57 rfl)) (mvT hZ (ow hw 56 rfl)) (by decide) (backOf (W := 0) (rm9 l Z ar hw [] b297 xu_386 T386.heap n0 O386 u386_3) hZ (ow hw 58 rfl) (ow hw 12 rfl) (by decide) (by decide)) q404a q404c (g := (mkF m 223 #[iv p0, iv p1, iv p2, iv p3, iv p4, iv p5, iv (2 : Int32), iv sv, iv kv, rv b_267, rv b_269, rv b_273, rv b_279, rv b287, rv b297, iv (1 : Int32)] [(.ref b297)])) rfl (by rw [hml]; rfl) (Steps.refl _) (argsL := []) (rest := []) (lenOf pd_10 rfl) rfl (by show 2 * 0 + _ ≤ _; exact Nat.le_of_eq rfl) (hb hby at_223) (fun _ _ => ⟨rfl, rfl, (by decide : 11 + 0 ≤ _), (by decide : 51 + 0 ≤ _)⟩)
     dsimp only [Pt.U, Pt.locs, Pt.cells, Pt.slots] at X404 l404 y404 z404 st404 hQ404
     subst l404 y404 z404
     obtain ⟨rfl, N404q, e404⟩ := hQ404
     have N404 := Fr.app N386 N404q
     obtain ⟨_, _, ⟨T405, L405, k405, n405⟩, -, X405, ⟨Lc405, hQ405, l405, y405, z405⟩, st405⟩ := Jvm.LawKit.callS X404 hx (y := y10) hown (mvT hZ (ow hw 59 rfl)) (mvT hZ (ow hw 60 rfl)) (mvT hZ (ow hw 3 rfl)) (mvT hZ (ow hw 61 rfl)) (by decide) (backOf (W := 1) (rm10 l Z ar hw [] (2 : Int32) sv (3 : Int32) p2 p3 p4 p5 T386.heap n0 O386) hZ (ow hw 61 rfl) (ow hw 3 rfl) (by decide) (by decide)) (g := (mkF m 237 #[iv p0, iv p1, iv p2, iv p3, iv p4, iv p5, iv (2 : Int32), iv sv, iv kv, rv b_267, rv b_269, rv b_273, rv b_279, rv b287, rv b297, iv (1 : Int32)] [(.int p5), (.int p4), (.int p3), (.int p2), (.int (3 : Int32)), (.int sv), (.int (2 : Int32)), (.int (f9 xu_386))])) rfl (by rw [hml]; rfl) (argsL := [(.int (2 : Int32)), (.int sv), (.int (3 : Int32)), (.int p2), (.int p3), (.int p4), (.int p5)]) (rest := [(.int (f9 xu_386))]) (lenOf pd_11 rfl) rfl (by show 2 * 0 + _ ≤ _; exact Nat.le_of_eq rfl) (hb hby at_237) (fun _ _ => ⟨rfl, e404, (by decide : 11 + 0 ≤ _), (by decide : 51 + 0 ≤ _)⟩)
     dsimp only [Pt.U, Pt.locs, Pt.cells, Pt.slots] at X405 l405 y405 z405 st405 hQ405
     subst l405 y405 z405
     obtain ⟨rfl, N405q, e405⟩ := hQ405
     have N405 := Fr.app N404 N405q
     have sq406 : (f9 xu_386) = (f10 (2 : Int32) sv (3 : Int32) p2 p3 p4 p5) := own_fin2 hsv su403 se403_0 se403_1
     have pre407 : ∀ tg, AT p e below T405 m 253 #[iv p0, iv p1, iv p2, iv p3, iv p4, iv p5, iv (2 : Int32), iv sv, iv kv, rv b_267, rv b_269, rv b_273, rv b_279, rv b287, rv b297, iv (1 : Int32)] [(.int (4 : Int32)), (.int kv)] tg → Steps p.tables e below S0 tg := fun tg kg => pre384 tg (by
      refine XS.icmpNo X382.here hx rfl (hb hby at_204) rfl (XT.ii_lt_f hc385) ?_
      refine XS.aload X382.here hx rfl (hb hby at_207) rfl rfl ?_
      refine XS.aload X382.here hx rfl (hb hby at_209) rfl rfl ?_
      refine XS.aload X382.here hx rfl (hb hby at_211) rfl rfl ?_
      refine st386.trans ?_
      refine XS.iload X386.here hx rfl (hb hby at_216) rfl ?_
      show AT p e below T386 m 218 #[iv p0, iv p1, iv p2, iv p3, iv p4, iv p5, iv (2 : Int32), iv sv, iv kv, rv b_267, rv b_269, rv b_273, rv b_279, rv b287, rv b297, iv (1 : Int32)] [(.int (1 : Int32))] _
      refine XS.ifNo X386.here hx rfl (hb hby at_218) rfl (XT.i0_eq_f ((by decide) : ¬ ((1 : Int32) = (0 : Int32)))) ?_
      refine XS.aload X386.here hx rfl (hb hby at_221) rfl rfl ?_
      refine st404.trans ?_
      refine XS.iload X404.here hx rfl (hb hby at_226) rfl ?_
      show AT p e below T404 m 228 #[iv p0, iv p1, iv p2, iv p3, iv p4, iv p5, iv (2 : Int32), iv sv, iv kv, rv b_267, rv b_269, rv b_273, rv b_279, rv b287, rv b297, iv (1 : Int32)] [(.int (2 : Int32)), (.int (f9 xu_386))] _
      refine XS.iload X404.here hx rfl (hb hby at_228) rfl ?_
      refine XS.iconst X404.here hx rfl (hb hby at_230) ?_
      refine XS.iloadN X404.here hx rfl (hb hby at_231) rfl ?_
      refine XS.iloadN X404.here hx rfl (hb hby at_232) rfl ?_
      refine XS.iload X404.here hx rfl (hb hby at_233) rfl ?_
      refine XS.iload X404.here hx rfl (hb hby at_235) rfl ?_
      refine st405 _ ?_
      show AT p e below T405 m 240 #[iv p0, iv p1, iv p2, iv p3, iv p4, iv p5, iv (2 : Int32), iv sv, iv kv, rv b_267, rv b_269, rv b_273, rv b_279, rv b287, rv b297, iv (1 : Int32)] [(.int (f10 (2 : Int32) sv (3 : Int32) p2 p3 p4 p5)), (.int (f9 xu_386))] _
      refine XS.icmpNo X405.here hx rfl (hb hby at_240) rfl (XT.ii_ne_f (sq406 : (f9 xu_386) = (f10 (2 : Int32) sv (3 : Int32) p2 p3 p4 p5))) ?_
      refine XS.iconst X405.here hx rfl (hb hby at_243) ?_
      refine XS.goto X405.here hx rfl (pc0 := 244) (pc' := 248) rfl (hb hby at_244) (by decide) (by decide) ?_
      refine XS.istore X405.here hx rfl (hb hby at_248) rfl (l' := #[iv p0, iv p1, iv p2, iv p3, iv p4, iv p5, iv (2 : Int32), iv sv, iv kv, rv b_267, rv b_269, rv b_273, rv b_279, rv b287, rv b297, iv (1 : Int32)]) rfl ?_
      refine XS.iload X405.here hx rfl (hb hby at_250) rfl ?_
      refine XS.iconst X405.here hx rfl (hb hby at_252) ?_
      exact kg)
     rcases Decidable.em (kv < (4 : Int32)) with hc408 | hc408
     ·
      obtain ⟨fs, hr, hrun, hended, hW, hsame⟩ := X405.leave (v := some (.int (1 : Int32))) (fun h => by rw [Bd.returns] at h; cases h)
      subst hS0
      refine ⟨_, _, pre407 _ ?_, hrun, hended, _, _, rfl, ?_, ⟨_, rfl⟩, hW, hsame.mono (by decide) (by decide)⟩
      ·
       refine XS.icmpYes X405.here hx rfl (pc0 := 253) (pc' := 299) rfl (hb hby at_253) rfl (XT.ii_lt_t hc408) (by decide) (by decide) ?_
       show AT p e below T405 m 299 #[iv p0, iv p1, iv p2, iv p3, iv p4, iv p5, iv (2 : Int32), iv sv, iv kv, rv b_267, rv b_269, rv b_273, rv b_279, rv b287, rv b297, iv (1 : Int32)] [] _
       refine XS.iload X405.here hx rfl (hb hby at_299) rfl ?_
       exact retN X405 hx (t := .boolean) Bd.returns (by simp) (hb hby at_301) hr
      ·
       show Q0 Z p0 p1 p2 p3 p4 p5 w_EE0 w_DEE1 k_EE0 k_DEE1 h0 n0 _ T405.heap _
       rw [e405]
       exact ⟨rfl, N405⟩
     ·
      obtain ⟨cq409, kq409, q409a, q409b, q409c⟩ := isOf hZ e405 E386_401
      obtain ⟨_, _, ⟨T409, L409, k409, n409⟩, -, X409, ⟨Lc409, hQ409, l409, y409, z409⟩, st409⟩ := X405.virtualBack hx (y := y11) (z := y11) hown (mvT hZ (ow hw 62 rfl)) (mvT hZ (ow hw 63 rfl)) (notFace_of_selects (args := #[]) (mvT hZ (ow hw 65 rfl))) (mvT hZ (ow hw 65 rfl)) (mvT hZ (ow hw 64 rfl)) (by decide) (backOf (W := 0) (rm11_2 l Z ar hw [] b297 b287 b_279 w_EE0 w_DEE1 k_EE0 k_DEE1 wa_312 kw_312 kb_279 (f2 p5 (0 : Int32)) (f2 p5 (1 : Int32)) (f2 p5 (2 : Int32)) x0_386 x1_386 xu_386 li_312 m2_386 s2_386 e2_386 k2_386 h0.size ((((0 : Int) + 1) + 1) + 1) T386.heap n0 O386 HW E386_401 u386_1 u386_2 u386_3 u386_4 V386_398 gn297 gn327 u312_12 (Ne.symm ne297_301) (Ne.symm ne331) E386_402 u386_9 u386_10 u386_11 u386_12 gn320 E386_400 u312_11 (Ne.symm u312_13) ne324 (Ne.symm ne297_302) (Ne.symm ne332) (Ne.symm ne325) ne392 ne394 ne390 ne393 ne391 Z0 K386.1 (by omega)) hZ (ow hw 66 rfl) (ow hw 12 rfl) (by decide) (by decide)) q409a q409c (g := (mkF m 262 #[iv p0, iv p1, iv p2, iv p3, iv p4, iv p5, iv (2 : Int32), iv sv, iv kv, rv b_267, rv b_269, rv b_273, rv b_279, rv b287, rv b297, iv (1 : Int32)] [(.ref b_279), (.ref b287), (.ref b297)])) rfl (by rw [hml]; rfl) (Steps.refl _) (argsL := [(.ref b287), (.ref b_279)]) (rest := []) (lenOf pd_12 rfl) rfl (by show 2 * 0 + _ ≤ _; exact Nat.le_of_eq rfl) (hb hby at_262) (fun _ _ => ⟨rfl, e405, (by decide : 11 + 1 ≤ _), (by decide : 51 + 10 ≤ _)⟩)
      dsimp only [Pt.U, Pt.locs, Pt.cells, Pt.slots] at X409 l409 y409 z409 st409 hQ409
      subst l409 y409 z409
      obtain ⟨x0_409, x1_409, xu_409, m2_409, s2_409, e2_409, k2_409, ys_409, rfl, N409q, Kq409, u409_0, u409_1, u409_2, u409_3, u409_4, u409_5, u409_6, u409_7, u409_8, u409_9, u409_10, u409_11, u409_12, u409_13, u409_14⟩ := hQ409
      have N409 := Fr.app N405 N409q
      have ne410 : b_267 ≠ e2_409 := own_nx u409_14 (V386_395).lt ne387
      have ne411 : b_269 ≠ e2_409 := own_nx u409_14 (V386_396).lt ne388
      have ne412 : b_273 ≠ e2_409 := own_nx u409_14 (V386_397).lt ne389
      have ne413 : b_279 ≠ e2_409 := own_nx u409_14 (V386_398).lt ne390
      have ne414 : b287 ≠ e2_409 := own_nx u409_14 (V386_399).lt ne391
      have ne415 : b297 ≠ e2_409 := own_nx u409_14 (E386_401).lt ne392
      have ne416 : li_312 ≠ e2_409 := own_nx u409_14 (E386_402).lt ne393
      have ne417 : wa_312 ≠ e2_409 := own_nx u409_14 (u386_4).lt ne394
      have V409_418 := V386_395.keep Kq409 (ninS ne297_298 (ninS ne328 (ninS ne321 (own_nys u409_13 ne387))))
      have V409_419 := V386_396.keep Kq409 (ninS ne297_299 (ninS ne329 (ninS ne322 (own_nys u409_13 ne388))))
      have V409_420 := V386_397.keep Kq409 (ninS ne297_300 (ninS ne330 (ninS ne323 (own_nys u409_13 ne389))))
      have V409_421 := V386_398.keep Kq409 (ninS ne297_301 (ninS ne331 (ninS ne324 (own_nys u409_13 ne390))))
      have V409_422 := V386_399.keep Kq409 (ninS ne297_302 (ninS ne332 (ninS ne325 (own_nys u409_13 ne391))))
      have E409_423 := E386_400.keep Kq409
      have E409_424 := E386_401.keep Kq409
      have E409_425 := E386_402.keep Kq409
      have K409 := K386.trans Kq409 (allS (Or.inr sz297) (allS (Or.inr sz327) (allS (Or.inr sz320) (own_ays u409_13))))
      have O409 : Old Z n0 T409.heap := O386.keep Kq409 (allS gn297 (allS gn327 (allS gn320 (own_gys u409_13 Z0))))
      have sr426_0 := own_rw hsv (by have a := own_hv (0 : Int32) p2 p3 p4 p5; have b1 := own_b01 p2 (0 : Int32); have b2 := own_b01 p3 (0 : Int32); have b3 := own_b01 p4 (0 : Int32); omega) se403_0
      have se426_0 : Sat sv.toInt (f12 (0 : Int32) (4 : Int32) p2 p3 p4 p5).toInt x0_409 := by
       have a := own_hv (0 : Int32) p2 p3 p4 p5; have b1 := own_b01 p2 (0 : Int32); have b2 := own_b01 p3 (0 : Int32); have b3 := own_b01 p4 (0 : Int32)
       rw [u409_5, show (f12 (0 : Int32) (4 : Int32) p2 p3 p4 p5).toInt = (f12 (0 : Int32) (3 : Int32) p2 p3 p4 p5).toInt + (f2 p5 (0 : Int32)).toInt from by omega]
       exact own_dc hsv (own_bit _ _) (by omega) se403_0
      have sr426_1 := own_rw hsv (by have a := own_hv (1 : Int32) p2 p3 p4 p5; have b1 := own_b01 p2 (1 : Int32); have b2 := own_b01 p3 (1 : Int32); have b3 := own_b01 p4 (1 : Int32); omega) se403_1
      have se426_1 : Sat sv.toInt (f12 (1 : Int32) (4 : Int32) p2 p3 p4 p5).toInt x1_409 := by
       have a := own_hv (1 : Int32) p2 p3 p4 p5; have b1 := own_b01 p2 (1 : Int32); have b2 := own_b01 p3 (1 : Int32); have b3 := own_b01 p4 (1 : Int32)
       rw [u409_6, show (f12 (1 : Int32) (4 : Int32) p2 p3 p4 p5).toInt = (f12 (1 : Int32) (3 : Int32) p2 p3 p4 p5).toInt + (f2 p5 (1 : Int32)).toInt from by omega]
       exact own_dc hsv (own_bit _ _) (by omega) se403_1
      have su426 : xu_409.toInt = ps x0_409 + ps x1_409 := by rw [u409_7, u409_5, u409_6]; exact own_us2 (own_bit _ _) (own_bit _ _) sr426_0 sr426_1 su403
      obtain ⟨cq427, kq427, q427a, q427b, q427c⟩ := isOf hZ rfl E409_424
      obtain ⟨_, _, ⟨T427, L427, k427, n427⟩, -, X427, ⟨Lc427, hQ427, l427, y427, z427⟩, st427⟩ := X409.virtualBack hx (y := y9) (z := y9) hown (mvT hZ (ow hw 54 rfl)) (mvT hZ (ow hw 55 rfl)) (notFace_of_selects (args := #[]) (mvT hZ (ow hw 57 rfl))) (mvT hZ (ow hw 57 rfl)) (mvT hZ (ow hw 56 rfl)) (by decide) (backOf (W := 0) (rm9 l Z ar hw [] b297 xu_409 T409.heap n0 O409 u409_3) hZ (ow hw 58 rfl) (ow hw 12 rfl) (by decide) (by decide)) q427a q427c (g := (mkF m 272 #[iv p0, iv p1, iv p2, iv p3, iv p4, iv p5, iv (2 : Int32), iv sv, iv kv, rv b_267, rv b_269, rv b_273, rv b_279, rv b287, rv b297, iv (1 : Int32)] [(.ref b297)])) rfl (by rw [hml]; rfl) (Steps.refl _) (argsL := []) (rest := []) (lenOf pd_10 rfl) rfl (by show 2 * 0 + _ ≤ _; exact Nat.le_of_eq rfl) (hb hby at_272) (fun _ _ => ⟨rfl, rfl, (by decide : 12 + 0 ≤ _), (by decide : 61 + 0 ≤ _)⟩)
      dsimp only [Pt.U, Pt.locs, Pt.cells, Pt.slots] at X427 l427 y427 z427 st427 hQ427
      subst l427 y427 z427
      obtain ⟨rfl, N427q, e427⟩ := hQ427
      have N427 := Fr.app N409 N427q
      obtain ⟨_, _, ⟨T428, L428, k428, n428⟩, -, X428, ⟨Lc428, hQ428, l428, y428, z428⟩, st428⟩ := Jvm.LawKit.callS X427 hx (y := y10) hown (mvT hZ (ow hw 59 rfl)) (mvT hZ (ow hw 60 rfl)) (mvT hZ (ow hw 3 rfl)) (mvT hZ (ow hw 61 rfl)) (by decide) (backOf (W := 1) (rm10 l Z ar hw [] (2 : Int32) sv (4 : Int32) p2 p3 p4 p5 T409.heap n0 O409) hZ (ow hw 61 rfl) (ow hw 3 rfl) (by decide) (by decide)) (g := (mkF m 286 #[iv p0, iv p1, iv p2, iv p3, iv p4, iv p5, iv (2 : Int32), iv sv, iv kv, rv b_267, rv b_269, rv b_273, rv b_279, rv b287, rv b297, iv (1 : Int32)] [(.int p5), (.int p4), (.int p3), (.int p2), (.int (4 : Int32)), (.int sv), (.int (2 : Int32)), (.int (f9 xu_409))])) rfl (by rw [hml]; rfl) (argsL := [(.int (2 : Int32)), (.int sv), (.int (4 : Int32)), (.int p2), (.int p3), (.int p4), (.int p5)]) (rest := [(.int (f9 xu_409))]) (lenOf pd_11 rfl) rfl (by show 2 * 0 + _ ≤ _; exact Nat.le_of_eq rfl) (hb hby at_286) (fun _ _ => ⟨rfl, e427, (by decide : 12 + 0 ≤ _), (by decide : 61 + 0 ≤ _)⟩)
      dsimp only [Pt.U, Pt.locs, Pt.cells, Pt.slots] at X428 l428 y428 z428 st428 hQ428
      subst l428 y428 z428
      obtain ⟨rfl, N428q, e428⟩ := hQ428
      have N428 := Fr.app N427 N428q
      have sq429 : (f9 xu_409) = (f10 (2 : Int32) sv (4 : Int32) p2 p3 p4 p5) := own_fin2 hsv su426 se426_0 se426_1
      obtain ⟨fs, hr, hrun, hended, hW, hsame⟩ := X428.leave (v := some (.int (1 : Int32))) (fun h => by rw [Bd.returns] at h; cases h)
      subst hS0
      refine ⟨_, _, pre407 _ ?_, hrun, hended, _, _, rfl, ?_, ⟨_, rfl⟩, hW, hsame.mono (by decide) (by decide)⟩
      ·
       refine XS.icmpNo X405.here hx rfl (hb hby at_253) rfl (XT.ii_lt_f hc408) ?_
       show AT p e below T405 m 256 #[iv p0, iv p1, iv p2, iv p3, iv p4, iv p5, iv (2 : Int32), iv sv, iv kv, rv b_267, rv b_269, rv b_273, rv b_279, rv b287, rv b297, iv (1 : Int32)] [] _
       refine XS.aload X405.here hx rfl (hb hby at_256) rfl rfl ?_
       refine XS.aload X405.here hx rfl (hb hby at_258) rfl rfl ?_
       refine XS.aload X405.here hx rfl (hb hby at_260) rfl rfl ?_
       refine st409.trans ?_
       refine XS.iload X409.here hx rfl (hb hby at_265) rfl ?_
       show AT p e below T409 m 267 #[iv p0, iv p1, iv p2, iv p3, iv p4, iv p5, iv (2 : Int32), iv sv, iv kv, rv b_267, rv b_269, rv b_273, rv b_279, rv b287, rv b297, iv (1 : Int32)] [(.int (1 : Int32))] _
       refine XS.ifNo X409.here hx rfl (hb hby at_267) rfl (XT.i0_eq_f ((by decide) : ¬ ((1 : Int32) = (0 : Int32)))) ?_
       refine XS.aload X409.here hx rfl (hb hby at_270) rfl rfl ?_
       refine st427.trans ?_
       refine XS.iload X427.here hx rfl (hb hby at_275) rfl ?_
       refine XS.iload X427.here hx rfl (hb hby at_277) rfl ?_
       refine XS.iconst X427.here hx rfl (hb hby at_279) ?_
       refine XS.iloadN X427.here hx rfl (hb hby at_280) rfl ?_
       refine XS.iloadN X427.here hx rfl (hb hby at_281) rfl ?_
       show AT p e below T427 m 282 #[iv p0, iv p1, iv p2, iv p3, iv p4, iv p5, iv (2 : Int32), iv sv, iv kv, rv b_267, rv b_269, rv b_273, rv b_279, rv b287, rv b297, iv (1 : Int32)] [(.int p3), (.int p2), (.int (4 : Int32)), (.int sv), (.int (2 : Int32)), (.int (f9 xu_409))] _
       refine XS.iload X427.here hx rfl (hb hby at_282) rfl ?_
       refine XS.iload X427.here hx rfl (hb hby at_284) rfl ?_
       refine st428 _ ?_
       show AT p e below T428 m 289 #[iv p0, iv p1, iv p2, iv p3, iv p4, iv p5, iv (2 : Int32), iv sv, iv kv, rv b_267, rv b_269, rv b_273, rv b_279, rv b287, rv b297, iv (1 : Int32)] [(.int (f10 (2 : Int32) sv (4 : Int32) p2 p3 p4 p5)), (.int (f9 xu_409))] _
       refine XS.icmpNo X428.here hx rfl (hb hby at_289) rfl (XT.ii_ne_f (sq429 : (f9 xu_409) = (f10 (2 : Int32) sv (4 : Int32) p2 p3 p4 p5))) ?_
       refine XS.iconst X428.here hx rfl (hb hby at_292) ?_
       refine XS.goto X428.here hx rfl (pc0 := 293) (pc' := 297) rfl (hb hby at_293) (by decide) (by decide) ?_
       refine XS.istore X428.here hx rfl (hb hby at_297) rfl (l' := #[iv p0, iv p1, iv p2, iv p3, iv p4, iv p5, iv (2 : Int32), iv sv, iv kv, rv b_267, rv b_269, rv b_273, rv b_279, rv b287, rv b297, iv (1 : Int32)]) rfl ?_
       refine XS.iload X428.here hx rfl (hb hby at_299) rfl ?_
       exact retN X428 hx (t := .boolean) Bd.returns (by simp) (hb hby at_301) hr
      ·
       show Q0 Z p0 p1 p2 p3 p4 p5 w_EE0 w_DEE1 k_EE0 k_DEE1 h0 n0 _ T428.heap _
       rw [e428]
       exact ⟨rfl, N428⟩
 ·
  have pre430 : ∀ tg, AT p e below s₁ m 22 #[iv p0, iv p1, iv p2, iv p3, iv p4, iv p5, iv (3 : Int32), iv ((1 : Int32) + (((p0.toUInt32 >>> ((2 : Int32) &&& 31).toUInt32).toInt32) % (3 : Int32))), un, un, un, un, un, un, un, un] [] tg → Steps p.tables e below S0 tg := fun tg kg => pre2 tg (by
   refine XS.iload X0.here hx rfl (hb hby at_5) rfl ?_
   refine XS.iconst X0.here hx rfl (hb hby at_7) ?_
   show AT p e below s₁ m 8 #[iv p0, iv p1, iv p2, iv p3, iv p4, iv p5, iv (3 : Int32), un, un, un, un, un, un, un, un, un] [(.int (3 : Int32)), (.int (3 : Int32))] _
   refine XS.icmpYes X0.here hx rfl (pc0 := 8) (pc' := 13) rfl (hb hby at_8) rfl (XT.ii_le_t ((by decide) : ¬ ((3 : Int32) < (3 : Int32)))) (by decide) (by decide) ?_
   refine XS.iconst X0.here hx rfl (hb hby at_13) ?_
   refine XS.iloadN X0.here hx rfl (hb hby at_14) rfl ?_
   refine XS.iconst X0.here hx rfl (hb hby at_15) ?_
   refine XS.iushr X0.here hx rfl (hb hby at_16) rfl ?_
   refine XS.iconst X0.here hx rfl (hb hby at_17) ?_
   refine iremM X0 hx rfl (hb hby at_18) rfl (by decide) ?_
   refine XS.iadd X0.here hx rfl (hb hby at_19) rfl ?_
   refine XS.istore X0.here hx rfl (hb hby at_20) rfl (l' := #[iv p0, iv p1, iv p2, iv p3, iv p4, iv p5, iv (3 : Int32), iv ((1 : Int32) + (((p0.toUInt32 >>> ((2 : Int32) &&& 31).toUInt32).toInt32) % (3 : Int32))), un, un, un, un, un, un, un, un]) rfl ?_
   exact kg)
  obtain ⟨sv, hsv⟩ : ∃ z, z = ((1 : Int32) + (((p0.toUInt32 >>> ((2 : Int32) &&& 31).toUInt32).toInt32) % (3 : Int32))) := ⟨_, rfl⟩
  have pre431 : ∀ tg, AT p e below s₁ m 22 #[iv p0, iv p1, iv p2, iv p3, iv p4, iv p5, iv (3 : Int32), iv sv, un, un, un, un, un, un, un, un] [] tg → Steps p.tables e below S0 tg := by rw [hsv]; exact pre430
  have hsv : 1 ≤ sv.toInt ∧ sv.toInt ≤ 3 := by rw [hsv]; exact own_s p0
  have pre432 : ∀ tg, AT p e below s₁ m 30 #[iv p0, iv p1, iv p2, iv p3, iv p4, iv p5, iv (3 : Int32), iv sv, iv ((p1 &&& (2147483647 : Int32)) % (5 : Int32)), un, un, un, un, un, un, un] [] tg → Steps p.tables e below S0 tg := fun tg kg => pre431 tg (by
   refine XS.iloadN X0.here hx rfl (hb hby at_22) rfl ?_
   refine X0.ldcInt hx hown (mvT hZ (ow hw 0 rfl)) (g := (mkF m 23 #[iv p0, iv p1, iv p2, iv p3, iv p4, iv p5, iv (3 : Int32), iv sv, un, un, un, un, un, un, un, un] [(.int p1)])) rfl (hb hby at_23) _ ?_
   refine XS.iand X0.here hx rfl (hb hby at_25) rfl ?_
   refine XS.iconst X0.here hx rfl (hb hby at_26) ?_
   refine iremM X0 hx rfl (hb hby at_27) rfl (by decide) ?_
   refine XS.istore X0.here hx rfl (hb hby at_28) rfl (l' := #[iv p0, iv p1, iv p2, iv p3, iv p4, iv p5, iv (3 : Int32), iv sv, iv ((p1 &&& (2147483647 : Int32)) % (5 : Int32)), un, un, un, un, un, un, un]) rfl ?_
   exact kg)
  obtain ⟨kv, hkv⟩ : ∃ z, z = ((p1 &&& (2147483647 : Int32)) % (5 : Int32)) := ⟨_, rfl⟩
  have pre433 : ∀ tg, AT p e below s₁ m 30 #[iv p0, iv p1, iv p2, iv p3, iv p4, iv p5, iv (3 : Int32), iv sv, iv kv, un, un, un, un, un, un, un] [] tg → Steps p.tables e below S0 tg := by rw [hkv]; exact pre432
  obtain ⟨_, _, ⟨T434, L434, k434, n434⟩, -, X434, ⟨Lc434, hQ434, l434, y434, z434⟩, st434⟩ := Jvm.LawKit.callS X0 hx (y := y1) hown (mvT hZ (ow hw 1 rfl)) (mvT hZ (ow hw 2 rfl)) (mvT hZ (ow hw 3 rfl)) (mvT hZ (ow hw 4 rfl)) (by decide) (backOf (W := 0) (rm1 l Z ar hw [] p2 h0 n0 O0) hZ (ow hw 4 rfl) (ow hw 3 rfl) (by decide) (by decide)) (g := (mkF m 31 #[iv p0, iv p1, iv p2, iv p3, iv p4, iv p5, iv (3 : Int32), iv sv, iv kv, un, un, un, un, un, un, un] [(.int p2)])) rfl (by rw [hml]; rfl) (argsL := [(.int p2)]) (rest := []) (lenOf pd_8 rfl) rfl (by show 2 * 0 + _ ≤ _; exact Nat.le_of_eq rfl) (hb hby at_31) (fun _ _ => ⟨rfl, e0, (by decide : 0 + 1 ≤ _), (by decide : 0 + 3 ≤ _)⟩)
  dsimp only [Pt.U, Pt.locs, Pt.cells, Pt.slots] at X434 l434 y434 z434 st434 hQ434
  subst l434 y434 z434
  obtain ⟨b_434, kb_434, rfl, N434q, Kq434, u434_0, u434_1⟩ := hQ434
  have N434 := Fr.app N0 N434q
  have K434 := (Keep.refl h0 []).trans Kq434 all0
  have O434 := O0.keep Kq434 all0
  have sz435 : h0.size ≤ b_434 := Nat.le_trans (Keep.refl h0 []).1 u434_1
  have gn435 : n0 ≤ b_434 := Nat.le_trans (Nat.le_trans (Nat.le_of_eq O0.1.symm) O0.2.1) u434_1
  obtain ⟨_, _, ⟨T436, L436, k436, n436⟩, -, X436, ⟨Lc436, hQ436, l436, y436, z436⟩, st436⟩ := Jvm.LawKit.callS X434 hx (y := y1) hown (mvT hZ (ow hw 1 rfl)) (mvT hZ (ow hw 2 rfl)) (mvT hZ (ow hw 3 rfl)) (mvT hZ (ow hw 4 rfl)) (by decide) (backOf (W := 0) (rm1 l Z ar hw [] p3 T434.heap n0 O434) hZ (ow hw 4 rfl) (ow hw 3 rfl) (by decide) (by decide)) (g := (mkF m 37 #[iv p0, iv p1, iv p2, iv p3, iv p4, iv p5, iv (3 : Int32), iv sv, iv kv, rv b_434, un, un, un, un, un, un] [(.int p3)])) rfl (by rw [hml]; rfl) (argsL := [(.int p3)]) (rest := []) (lenOf pd_8 rfl) rfl (by show 2 * 0 + _ ≤ _; exact Nat.le_of_eq rfl) (hb hby at_37) (fun _ _ => ⟨rfl, rfl, (by decide : 1 + 1 ≤ _), (by decide : 3 + 3 ≤ _)⟩)
  dsimp only [Pt.U, Pt.locs, Pt.cells, Pt.slots] at X436 l436 y436 z436 st436 hQ436
  subst l436 y436 z436
  obtain ⟨b_436, kb_436, rfl, N436q, Kq436, u436_0, u436_1⟩ := hQ436
  have N436 := Fr.app N434 N436q
  have V436_437 := u434_0.keep Kq436 nin0
  have K436 := K434.trans Kq436 all0
  have O436 := O434.keep Kq436 all0
  have sz438 : h0.size ≤ b_436 := Nat.le_trans K434.1 u436_1
  have gn438 : n0 ≤ b_436 := Nat.le_trans (Nat.le_trans (Nat.le_of_eq O434.1.symm) O434.2.1) u436_1
  have ne439 : b_434 ≠ b_436 := Nat.ne_of_lt (Nat.lt_of_lt_of_le (u434_0).lt u436_1)
  obtain ⟨_, _, ⟨T440, L440, k440, n440⟩, -, X440, ⟨Lc440, hQ440, l440, y440, z440⟩, st440⟩ := Jvm.LawKit.callS X436 hx (y := y1) hown (mvT hZ (ow hw 1 rfl)) (mvT hZ (ow hw 2 rfl)) (mvT hZ (ow hw 3 rfl)) (mvT hZ (ow hw 4 rfl)) (by decide) (backOf (W := 0) (rm1 l Z ar hw [] p4 T436.heap n0 O436) hZ (ow hw 4 rfl) (ow hw 3 rfl) (by decide) (by decide)) (g := (mkF m 44 #[iv p0, iv p1, iv p2, iv p3, iv p4, iv p5, iv (3 : Int32), iv sv, iv kv, rv b_434, rv b_436, un, un, un, un, un] [(.int p4)])) rfl (by rw [hml]; rfl) (argsL := [(.int p4)]) (rest := []) (lenOf pd_8 rfl) rfl (by show 2 * 0 + _ ≤ _; exact Nat.le_of_eq rfl) (hb hby at_44) (fun _ _ => ⟨rfl, rfl, (by decide : 2 + 1 ≤ _), (by decide : 6 + 3 ≤ _)⟩)
  dsimp only [Pt.U, Pt.locs, Pt.cells, Pt.slots] at X440 l440 y440 z440 st440 hQ440
  subst l440 y440 z440
  obtain ⟨b_440, kb_440, rfl, N440q, Kq440, u440_0, u440_1⟩ := hQ440
  have N440 := Fr.app N436 N440q
  have V440_441 := V436_437.keep Kq440 nin0
  have V440_442 := u436_0.keep Kq440 nin0
  have K440 := K436.trans Kq440 all0
  have O440 := O436.keep Kq440 all0
  have sz443 : h0.size ≤ b_440 := Nat.le_trans K436.1 u440_1
  have gn443 : n0 ≤ b_440 := Nat.le_trans (Nat.le_trans (Nat.le_of_eq O436.1.symm) O436.2.1) u440_1
  have ne444 : b_434 ≠ b_440 := Nat.ne_of_lt (Nat.lt_of_lt_of_le (V436_437).lt u440_1)
  have ne445 : b_436 ≠ b_440 := Nat.ne_of_lt (Nat.lt_of_lt_of_le (u436_0).lt u440_1)
  obtain ⟨_, _, ⟨T446, L446, k446, n446⟩, -, X446, ⟨Lc446, hQ446, l446, y446, z446⟩, st446⟩ := Jvm.LawKit.callS X440 hx (y := y1) hown (mvT hZ (ow hw 1 rfl)) (mvT hZ (ow hw 2 rfl)) (mvT hZ (ow hw 3 rfl)) (mvT hZ (ow hw 4 rfl)) (by decide) (backOf (W := 0) (rm1 l Z ar hw [] p5 T440.heap n0 O440) hZ (ow hw 4 rfl) (ow hw 3 rfl) (by decide) (by decide)) (g := (mkF m 51 #[iv p0, iv p1, iv p2, iv p3, iv p4, iv p5, iv (3 : Int32), iv sv, iv kv, rv b_434, rv b_436, rv b_440, un, un, un, un] [(.int p5)])) rfl (by rw [hml]; rfl) (argsL := [(.int p5)]) (rest := []) (lenOf pd_8 rfl) rfl (by show 2 * 0 + _ ≤ _; exact Nat.le_of_eq rfl) (hb hby at_51) (fun _ _ => ⟨rfl, rfl, (by decide : 3 + 1 ≤ _), (by decide : 9 + 3 ≤ _)⟩)
  dsimp only [Pt.U, Pt.locs, Pt.cells, Pt.slots] at X446 l446 y446 z446 st446 hQ446
  subst l446 y446 z446
  obtain ⟨b_446, kb_446, rfl, N446q, Kq446, u446_0, u446_1⟩ := hQ446
  have N446 := Fr.app N440 N446q
  have V446_447 := V440_441.keep Kq446 nin0
  have V446_448 := V440_442.keep Kq446 nin0
  have V446_449 := u440_0.keep Kq446 nin0
  have K446 := K440.trans Kq446 all0
  have O446 := O440.keep Kq446 all0
  have sz450 : h0.size ≤ b_446 := Nat.le_trans K440.1 u446_1
  have gn450 : n0 ≤ b_446 := Nat.le_trans (Nat.le_trans (Nat.le_of_eq O440.1.symm) O440.2.1) u446_1
  have ne451 : b_434 ≠ b_446 := Nat.ne_of_lt (Nat.lt_of_lt_of_le (V440_441).lt u446_1)
  have ne452 : b_436 ≠ b_446 := Nat.ne_of_lt (Nat.lt_of_lt_of_le (V440_442).lt u446_1)
  have ne453 : b_440 ≠ b_446 := Nat.ne_of_lt (Nat.lt_of_lt_of_le (u440_0).lt u446_1)
  obtain ⟨T454, h454, k454, X454, e454, E454, A454, B454, st454⟩ := newPE X446 hx hZ (ow hw 9 rfl) rfl (g := (mkF m 57 #[iv p0, iv p1, iv p2, iv p3, iv p4, iv p5, iv (3 : Int32), iv sv, iv kv, rv b_434, rv b_436, rv b_440, rv b_446, un, un, un] [(.int (1 : Int32))])) rfl (hb hby at_57) rfl (by decide) (cap := 1) (by decide) (by decide) (by decide) (by decide) (ad := "[B") (by decide)
  obtain ⟨b454, g454⟩ : ∃ z, z = T446.heap.size := ⟨_, rfl⟩
  rw [← g454] at A454 B454 st454
  have ne454_455 : b_434 ≠ b454 := Nat.ne_of_lt (Nat.lt_of_lt_of_le (V446_447).lt (Nat.le_of_eq g454.symm))
  have ne454_456 : b_436 ≠ b454 := Nat.ne_of_lt (Nat.lt_of_lt_of_le (V446_448).lt (Nat.le_of_eq g454.symm))
  have ne454_457 : b_440 ≠ b454 := Nat.ne_of_lt (Nat.lt_of_lt_of_le (V446_449).lt (Nat.le_of_eq g454.symm))
  have ne454_458 : b_446 ≠ b454 := Nat.ne_of_lt (Nat.lt_of_lt_of_le (u446_0).lt (Nat.le_of_eq g454.symm))
  have gn454 : n0 ≤ b454 := Nat.le_trans (Nat.le_trans (Nat.le_of_eq O446.1.symm) O446.2.1) (Nat.le_of_eq g454.symm)
  have sz454 : h0.size ≤ b454 := Nat.le_trans K446.1 (Nat.le_of_eq g454.symm)
  have V454_459 := V446_447.ext E454
  have V454_460 := V446_448.ext E454
  have V454_461 := V446_449.ext E454
  have V454_462 := u446_0.ext E454
  have K454 := K446.ext E454
  have O454 := O446.ext E454
  have V454_463 : Arv Z h454 b454 k454 .byte (1 : Int32) [(.int (0 : Int32))] (.int (0 : Int32)) := (Arv.new A454 (by decide)).pad (pad_rep [] (.int (0 : Int32)) 1)
  obtain ⟨T464, h464, X464, e464, E464, A464, D464, -, st464⟩ := newO X454 hx hZ hown (ow hw 10 rfl) (ow hw 11 rfl) (ow hw 12 rfl) e454 (g := (mkF m 61 #[iv p0, iv p1, iv p2, iv p3, iv p4, iv p5, iv (3 : Int32), iv sv, iv kv, rv b_434, rv b_436, rv b_440, rv b_446, rv b454, un, un] [])) rfl (hb hby at_61) (by decide) (by decide)
  obtain ⟨b464, g464⟩ : ∃ z, z = h454.size := ⟨_, rfl⟩
  rw [← g464] at A464 D464 st464
  have ne464_465 : b_434 ≠ b464 := Nat.ne_of_lt (Nat.lt_of_lt_of_le (V454_459).lt (Nat.le_of_eq g464.symm))
  have ne464_466 : b_436 ≠ b464 := Nat.ne_of_lt (Nat.lt_of_lt_of_le (V454_460).lt (Nat.le_of_eq g464.symm))
  have ne464_467 : b_440 ≠ b464 := Nat.ne_of_lt (Nat.lt_of_lt_of_le (V454_461).lt (Nat.le_of_eq g464.symm))
  have ne464_468 : b_446 ≠ b464 := Nat.ne_of_lt (Nat.lt_of_lt_of_le (V454_462).lt (Nat.le_of_eq g464.symm))
  have ne464_469 : b454 ≠ b464 := Nat.ne_of_lt (Nat.lt_of_lt_of_le (V454_463).lt (Nat.le_of_eq g464.symm))
  have gn464 : n0 ≤ b464 := Nat.le_trans (Nat.le_trans (Nat.le_of_eq O454.1.symm) O454.2.1) (Nat.le_of_eq g464.symm)
  have sz464 : h0.size ≤ b464 := Nat.le_trans K454.1 (Nat.le_of_eq g464.symm)
  have V464_470 := V454_459.ext E464
  have V464_471 := V454_460.ext E464
  have V464_472 := V454_461.ext E464
  have V464_473 := V454_462.ext E464
  have V464_474 := V454_463.ext E464
  have E464_475 := B454.ext E464
  have K464 := K454.ext E464
  have O464 := O454.ext E464
  have F464_476 : Fld Z h464 b464 "com/example/filters_under_siege/filtersundersiege/Cover" "elements" "Ljava/util/List;" .null := D464 (Or.inr (ow hw 44 rfl)) (ty := (.object "java/util/List")) (by decide)
  have F464_477 : Fld Z h464 b464 "com/example/filters_under_siege/filtersundersiege/Cover" "wanted" "[I" .null := D464 (Or.inr (ow hw 47 rfl)) (ty := (.array .int)) (by decide)
  have F464_478 : Fld Z h464 b464 "com/example/filters_under_siege/filtersundersiege/Cover" "uncovered" "I" (.int (0 : Int32)) := D464 (Or.inl (ow hw 53 rfl)) (ty := .int) (by decide)
  obtain ⟨_, _, ⟨T479, L479, k479, n479⟩, -, X479, ⟨Lc479, hQ479, l479, y479, z479⟩, st479⟩ := X464.specialBack hx (y := y3) rfl hown (mvT hZ (ow hw 13 rfl)) (mvT hZ (ow hw 14 rfl)) (mvT hZ (ow hw 15 rfl)) (by decide) (backOf (W := 1) (rm3_3 l Z ar hw [] b464 sv w_EE0 w_DEE1 k_EE0 k_DEE1 h464 n0 O464 HW A464 F464_476 F464_477 F464_478 gn464) hZ (ow hw 15 rfl) (ow hw 12 rfl) (by decide) (by decide)) (g := (mkF m 69 #[iv p0, iv p1, iv p2, iv p3, iv p4, iv p5, iv (3 : Int32), iv sv, iv kv, rv b_434, rv b_436, rv b_440, rv b_446, rv b454, un, un] [(.int sv), (.int (3 : Int32)), (.ref b464), (.ref b464)])) rfl (by rw [hml]; rfl) (Steps.refl _) (a := b464) (argsL := [(.int (3 : Int32)), (.int sv)]) (rest := [(.ref b464)]) (lenOf pd_9 rfl) rfl (by show 2 * 0 + _ ≤ _; exact Nat.le_of_eq rfl) (hb hby at_69) (fun _ _ => ⟨rfl, e464, (by decide : 6 + 2 ≤ _), (by decide : 16 + 6 ≤ _)⟩)
  dsimp only [Pt.U, Pt.locs, Pt.cells, Pt.slots] at X479 l479 y479 z479 st479 hQ479
  subst l479 y479 z479
  obtain ⟨li_479, wa_479, kw_479, rfl, N479q, Kq479, u479_0, u479_1, u479_2, u479_3, u479_4, u479_5, u479_6, u479_7, u479_8, u479_9, u479_10, u479_11, u479_12, u479_13⟩ := hQ479
  have N479 := Fr.app N446 N479q
  have V479_480 := V464_470.keep Kq479 (ninS ne464_465 nin0)
  have V479_481 := V464_471.keep Kq479 (ninS ne464_466 nin0)
  have V479_482 := V464_472.keep Kq479 (ninS ne464_467 nin0)
  have V479_483 := V464_473.keep Kq479 (ninS ne464_468 nin0)
  have V479_484 := V464_474.keep Kq479 (ninS ne464_469 nin0)
  have E479_485 := E464_475.keep Kq479
  have E479_486 := A464.keep Kq479
  have K479 := K464.trans Kq479 (allS (Or.inr sz464) all0)
  have O479 := O464.keep Kq479 (allS gn464 all0)
  have sz487 : h0.size ≤ li_479 := Nat.le_trans K464.1 u479_9
  have gn487 : n0 ≤ li_479 := Nat.le_trans (Nat.le_trans (Nat.le_of_eq O464.1.symm) O464.2.1) u479_9
  have ne488 : b_434 ≠ li_479 := Nat.ne_of_lt (Nat.lt_of_lt_of_le (V464_470).lt u479_9)
  have ne489 : b_436 ≠ li_479 := Nat.ne_of_lt (Nat.lt_of_lt_of_le (V464_471).lt u479_9)
  have ne490 : b_440 ≠ li_479 := Nat.ne_of_lt (Nat.lt_of_lt_of_le (V464_472).lt u479_9)
  have ne491 : b_446 ≠ li_479 := Nat.ne_of_lt (Nat.lt_of_lt_of_le (V464_473).lt u479_9)
  have ne492 : b454 ≠ li_479 := Nat.ne_of_lt (Nat.lt_of_lt_of_le (V464_474).lt u479_9)
  have ne493 : b464 ≠ li_479 := Nat.ne_of_lt (Nat.lt_of_lt_of_le (A464).lt u479_9)
  have sz494 : h0.size ≤ wa_479 := Nat.le_trans K464.1 u479_10
  have gn494 : n0 ≤ wa_479 := Nat.le_trans (Nat.le_trans (Nat.le_of_eq O464.1.symm) O464.2.1) u479_10
  have ne495 : b_434 ≠ wa_479 := Nat.ne_of_lt (Nat.lt_of_lt_of_le (V464_470).lt u479_10)
  have ne496 : b_436 ≠ wa_479 := Nat.ne_of_lt (Nat.lt_of_lt_of_le (V464_471).lt u479_10)
  have ne497 : b_440 ≠ wa_479 := Nat.ne_of_lt (Nat.lt_of_lt_of_le (V464_472).lt u479_10)
  have ne498 : b_446 ≠ wa_479 := Nat.ne_of_lt (Nat.lt_of_lt_of_le (V464_473).lt u479_10)
  have ne499 : b454 ≠ wa_479 := Nat.ne_of_lt (Nat.lt_of_lt_of_le (V464_474).lt u479_10)
  have ne500 : b464 ≠ wa_479 := Nat.ne_of_lt (Nat.lt_of_lt_of_le (A464).lt u479_10)
  have hLD : LD Z T479.heap h0.size (0 : Int) w_DEE1 w_DEE1 kw_479 (0 : Int32) := Or.inl ⟨rfl, rfl⟩
  obtain ⟨cq501, kq501, q501a, q501b, q501c⟩ := isOf hZ rfl E479_486
  obtain ⟨_, _, ⟨T501, L501, k501, n501⟩, -, X501, ⟨Lc501, hQ501, l501, y501, z501⟩, st501⟩ := X479.virtualBack hx (y := y9) (z := y9) hown (mvT hZ (ow hw 54 rfl)) (mvT hZ (ow hw 55 rfl)) (notFace_of_selects (args := #[]) (mvT hZ (ow hw 57 rfl))) (mvT hZ (ow hw 57 rfl)) (mvT hZ (ow hw 56 rfl)) (by decide) (backOf (W := 0) (rm9 l Z ar hw [] b464 (3 : Int32) T479.heap n0 O479 u479_3) hZ (ow hw 58 rfl) (ow hw 12 rfl) (by decide) (by decide)) q501a q501c (g := (mkF m 76 #[iv p0, iv p1, iv p2, iv p3, iv p4, iv p5, iv (3 : Int32), iv sv, iv kv, rv b_434, rv b_436, rv b_440, rv b_446, rv b454, rv b464, un] [(.ref b464)])) rfl (by rw [hml]; rfl) (Steps.refl _) (argsL := []) (rest := []) (lenOf pd_10 rfl) rfl (by show 2 * 0 + _ ≤ _; exact Nat.le_of_eq rfl) (hb hby at_76) (fun _ _ => ⟨rfl, rfl, (by decide : 8 + 0 ≤ _), (by decide : 22 + 0 ≤ _)⟩)
  dsimp only [Pt.U, Pt.locs, Pt.cells, Pt.slots] at X501 l501 y501 z501 st501 hQ501
  subst l501 y501 z501
  obtain ⟨rfl, N501q, e501⟩ := hQ501
  have N501 := Fr.app N479 N501q
  have r501 : (f9 (3 : Int32)) = (0 : Int32) := by rw [f9, if_neg ((by decide) : ¬ ((3 : Int32) = (0 : Int32)))] <;> decide
  rw [r501] at st501
  obtain ⟨_, _, ⟨T502, L502, k502, n502⟩, -, X502, ⟨Lc502, hQ502, l502, y502, z502⟩, st502⟩ := Jvm.LawKit.callS X501 hx (y := y10) hown (mvT hZ (ow hw 59 rfl)) (mvT hZ (ow hw 60 rfl)) (mvT hZ (ow hw 3 rfl)) (mvT hZ (ow hw 61 rfl)) (by decide) (backOf (W := 1) (rm10 l Z ar hw [] (3 : Int32) sv (0 : Int32) p2 p3 p4 p5 T479.heap n0 O479) hZ (ow hw 61 rfl) (ow hw 3 rfl) (by decide) (by decide)) (g := (mkF m 90 #[iv p0, iv p1, iv p2, iv p3, iv p4, iv p5, iv (3 : Int32), iv sv, iv kv, rv b_434, rv b_436, rv b_440, rv b_446, rv b454, rv b464, un] [(.int p5), (.int p4), (.int p3), (.int p2), (.int (0 : Int32)), (.int sv), (.int (3 : Int32)), (.int (0 : Int32))])) rfl (by rw [hml]; rfl) (argsL := [(.int (3 : Int32)), (.int sv), (.int (0 : Int32)), (.int p2), (.int p3), (.int p4), (.int p5)]) (rest := [(.int (0 : Int32))]) (lenOf pd_11 rfl) rfl (by show 2 * 0 + _ ≤ _; exact Nat.le_of_eq rfl) (hb hby at_90) (fun _ _ => ⟨rfl, e501, (by decide : 8 + 0 ≤ _), (by decide : 22 + 0 ≤ _)⟩)
  dsimp only [Pt.U, Pt.locs, Pt.cells, Pt.slots] at X502 l502 y502 z502 st502 hQ502
  subst l502 y502 z502
  obtain ⟨rfl, N502q, e502⟩ := hQ502
  have N502 := Fr.app N501 N502q
  have se503_0 : Sat sv.toInt (f12 (0 : Int32) (0 : Int32) p2 p3 p4 p5).toInt sv := own_st (w := sv) hsv (own_hv (0 : Int32) p2 p3 p4 p5).1
  have se503_1 : Sat sv.toInt (f12 (1 : Int32) (0 : Int32) p2 p3 p4 p5).toInt sv := own_st (w := sv) hsv (own_hv (1 : Int32) p2 p3 p4 p5).1
  have se503_2 : Sat sv.toInt (f12 (2 : Int32) (0 : Int32) p2 p3 p4 p5).toInt sv := own_st (w := sv) hsv (own_hv (2 : Int32) p2 p3 p4 p5).1
  have su503 : ((3 : Int32)).toInt = ps sv + ps sv + ps sv := by rw [own_p1 hsv]; decide
  have sq504 : (0 : Int32) = (f10 (3 : Int32) sv (0 : Int32) p2 p3 p4 p5) := by rw [show ((0 : Int32) : Int32) = f9 (3 : Int32) from by decide]; exact own_fin3 hsv su503 se503_0 se503_1 se503_2
  have pre505 : ∀ tg, AT p e below T502 m 106 #[iv p0, iv p1, iv p2, iv p3, iv p4, iv p5, iv (3 : Int32), iv sv, iv kv, rv b_434, rv b_436, rv b_440, rv b_446, rv b454, rv b464, iv (1 : Int32)] [(.int (1 : Int32)), (.int kv)] tg → Steps p.tables e below S0 tg := fun tg kg => pre433 tg (by
   refine XS.iloadN X0.here hx rfl (hb hby at_30) rfl ?_
   refine st434 _ ?_
   refine XS.astore X434.here hx rfl (hb hby at_34) rfl rfl (l' := #[iv p0, iv p1, iv p2, iv p3, iv p4, iv p5, iv (3 : Int32), iv sv, iv kv, rv b_434, un, un, un, un, un, un]) rfl ?_
   refine XS.iloadN X434.here hx rfl (hb hby at_36) rfl ?_
   refine st436 _ ?_
   refine XS.astore X436.here hx rfl (hb hby at_40) rfl rfl (l' := #[iv p0, iv p1, iv p2, iv p3, iv p4, iv p5, iv (3 : Int32), iv sv, iv kv, rv b_434, rv b_436, un, un, un, un, un]) rfl ?_
   refine XS.iload X436.here hx rfl (hb hby at_42) rfl ?_
   refine st440 _ ?_
   refine XS.astore X440.here hx rfl (hb hby at_47) rfl rfl (l' := #[iv p0, iv p1, iv p2, iv p3, iv p4, iv p5, iv (3 : Int32), iv sv, iv kv, rv b_434, rv b_436, rv b_440, un, un, un, un]) rfl ?_
   refine XS.iload X440.here hx rfl (hb hby at_49) rfl ?_
   refine st446 _ ?_
   refine XS.astore X446.here hx rfl (hb hby at_54) rfl rfl (l' := #[iv p0, iv p1, iv p2, iv p3, iv p4, iv p5, iv (3 : Int32), iv sv, iv kv, rv b_434, rv b_436, rv b_440, rv b_446, un, un, un]) rfl ?_
   show AT p e below T446 m 56 #[iv p0, iv p1, iv p2, iv p3, iv p4, iv p5, iv (3 : Int32), iv sv, iv kv, rv b_434, rv b_436, rv b_440, rv b_446, un, un, un] [] _
   refine XS.iconst X446.here hx rfl (hb hby at_56) ?_
   refine st454 _ ?_
   refine XS.astore X454.here hx rfl (hb hby at_59) rfl rfl (l' := #[iv p0, iv p1, iv p2, iv p3, iv p4, iv p5, iv (3 : Int32), iv sv, iv kv, rv b_434, rv b_436, rv b_440, rv b_446, rv b454, un, un]) rfl ?_
   refine st464 _ ?_
   refine XS.dup X464.here hx rfl (hb hby at_64) rfl rfl ?_
   refine XS.iload X464.here hx rfl (hb hby at_65) rfl ?_
   refine XS.iload X464.here hx rfl (hb hby at_67) rfl ?_
   refine st479.trans ?_
   refine XS.astore X479.here hx rfl (hb hby at_72) rfl rfl (l' := #[iv p0, iv p1, iv p2, iv p3, iv p4, iv p5, iv (3 : Int32), iv sv, iv kv, rv b_434, rv b_436, rv b_440, rv b_446, rv b454, rv b464, un]) rfl ?_
   refine XS.aload X479.here hx rfl (hb hby at_74) rfl rfl ?_
   refine st501.trans ?_
   refine XS.iload X501.here hx rfl (hb hby at_79) rfl ?_
   show AT p e below T501 m 81 #[iv p0, iv p1, iv p2, iv p3, iv p4, iv p5, iv (3 : Int32), iv sv, iv kv, rv b_434, rv b_436, rv b_440, rv b_446, rv b454, rv b464, un] [(.int (3 : Int32)), (.int (0 : Int32))] _
   refine XS.iload X501.here hx rfl (hb hby at_81) rfl ?_
   refine XS.iconst X501.here hx rfl (hb hby at_83) ?_
   refine XS.iloadN X501.here hx rfl (hb hby at_84) rfl ?_
   refine XS.iloadN X501.here hx rfl (hb hby at_85) rfl ?_
   refine XS.iload X501.here hx rfl (hb hby at_86) rfl ?_
   refine XS.iload X501.here hx rfl (hb hby at_88) rfl ?_
   refine st502 _ ?_
   show AT p e below T502 m 93 #[iv p0, iv p1, iv p2, iv p3, iv p4, iv p5, iv (3 : Int32), iv sv, iv kv, rv b_434, rv b_436, rv b_440, rv b_446, rv b454, rv b464, un] [(.int (f10 (3 : Int32) sv (0 : Int32) p2 p3 p4 p5)), (.int (0 : Int32))] _
   refine XS.icmpNo X502.here hx rfl (hb hby at_93) rfl (XT.ii_ne_f (sq504 : (0 : Int32) = (f10 (3 : Int32) sv (0 : Int32) p2 p3 p4 p5))) ?_
   refine XS.iconst X502.here hx rfl (hb hby at_96) ?_
   refine XS.goto X502.here hx rfl (pc0 := 97) (pc' := 101) rfl (hb hby at_97) (by decide) (by decide) ?_
   refine XS.istore X502.here hx rfl (hb hby at_101) rfl (l' := #[iv p0, iv p1, iv p2, iv p3, iv p4, iv p5, iv (3 : Int32), iv sv, iv kv, rv b_434, rv b_436, rv b_440, rv b_446, rv b454, rv b464, iv (1 : Int32)]) rfl ?_
   refine XS.iload X502.here hx rfl (hb hby at_103) rfl ?_
   refine XS.iconst X502.here hx rfl (hb hby at_105) ?_
   exact kg)
  rcases Decidable.em (kv < (1 : Int32)) with hc506 | hc506
  ·
   obtain ⟨fs, hr, hrun, hended, hW, hsame⟩ := X502.leave (v := some (.int (1 : Int32))) (fun h => by rw [Bd.returns] at h; cases h)
   subst hS0
   refine ⟨_, _, pre505 _ ?_, hrun, hended, _, _, rfl, ?_, ⟨_, rfl⟩, hW, hsame.mono (by decide) (by decide)⟩
   ·
    refine XS.icmpYes X502.here hx rfl (pc0 := 106) (pc' := 152) rfl (hb hby at_106) rfl (XT.ii_lt_t hc506) (by decide) (by decide) ?_
    show AT p e below T502 m 152 #[iv p0, iv p1, iv p2, iv p3, iv p4, iv p5, iv (3 : Int32), iv sv, iv kv, rv b_434, rv b_436, rv b_440, rv b_446, rv b454, rv b464, iv (1 : Int32)] [] _
    refine XS.iload X502.here hx rfl (hb hby at_152) rfl ?_
    refine XS.iconst X502.here hx rfl (hb hby at_154) ?_
    show AT p e below T502 m 155 #[iv p0, iv p1, iv p2, iv p3, iv p4, iv p5, iv (3 : Int32), iv sv, iv kv, rv b_434, rv b_436, rv b_440, rv b_446, rv b454, rv b464, iv (1 : Int32)] [(.int (2 : Int32)), (.int kv)] _
    refine XS.icmpYes X502.here hx rfl (pc0 := 155) (pc' := 201) rfl (hb hby at_155) rfl (XT.ii_lt_t ((own_up hc506 (by decide)) : kv < (2 : Int32))) (by decide) (by decide) ?_
    refine XS.iload X502.here hx rfl (hb hby at_201) rfl ?_
    refine XS.iconst X502.here hx rfl (hb hby at_203) ?_
    show AT p e below T502 m 204 #[iv p0, iv p1, iv p2, iv p3, iv p4, iv p5, iv (3 : Int32), iv sv, iv kv, rv b_434, rv b_436, rv b_440, rv b_446, rv b454, rv b464, iv (1 : Int32)] [(.int (3 : Int32)), (.int kv)] _
    refine XS.icmpYes X502.here hx rfl (pc0 := 204) (pc' := 250) rfl (hb hby at_204) rfl (XT.ii_lt_t ((own_up hc506 (by decide)) : kv < (3 : Int32))) (by decide) (by decide) ?_
    refine XS.iload X502.here hx rfl (hb hby at_250) rfl ?_
    refine XS.iconst X502.here hx rfl (hb hby at_252) ?_
    show AT p e below T502 m 253 #[iv p0, iv p1, iv p2, iv p3, iv p4, iv p5, iv (3 : Int32), iv sv, iv kv, rv b_434, rv b_436, rv b_440, rv b_446, rv b454, rv b464, iv (1 : Int32)] [(.int (4 : Int32)), (.int kv)] _
    refine XS.icmpYes X502.here hx rfl (pc0 := 253) (pc' := 299) rfl (hb hby at_253) rfl (XT.ii_lt_t ((own_up hc506 (by decide)) : kv < (4 : Int32))) (by decide) (by decide) ?_
    refine XS.iload X502.here hx rfl (hb hby at_299) rfl ?_
    exact retN X502 hx (t := .boolean) Bd.returns (by simp) (hb hby at_301) hr
   ·
    show Q0 Z p0 p1 p2 p3 p4 p5 w_EE0 w_DEE1 k_EE0 k_DEE1 h0 n0 _ T502.heap _
    rw [e502]
    exact ⟨rfl, N502⟩
  ·
   obtain ⟨cq507, kq507, q507a, q507b, q507c⟩ := isOf hZ e502 E479_486
   obtain ⟨_, _, ⟨T507, L507, k507, n507⟩, -, X507, ⟨Lc507, hQ507, l507, y507, z507⟩, st507⟩ := X502.virtualBack hx (y := y11) (z := y11) hown (mvT hZ (ow hw 62 rfl)) (mvT hZ (ow hw 63 rfl)) (notFace_of_selects (args := #[]) (mvT hZ (ow hw 65 rfl))) (mvT hZ (ow hw 65 rfl)) (mvT hZ (ow hw 64 rfl)) (by decide) (backOf (W := 0) (rm11_3 l Z ar hw [] b464 b454 b_434 w_EE0 w_DEE1 k_EE0 k_DEE1 wa_479 kw_479 kb_434 (f2 p2 (0 : Int32)) (f2 p2 (1 : Int32)) (f2 p2 (2 : Int32)) sv sv sv (3 : Int32) li_479 (0 : Int32) (0 : Int32) w_DEE1 kw_479 h0.size (0 : Int) T479.heap n0 O479 HW E479_486 u479_2 u479_1 u479_3 u479_4 V479_480 gn464 gn494 u479_12 (Ne.symm ne464_465) (Ne.symm ne495) u479_5 u479_6 u479_7 u479_8 hLD gn487 E479_485 u479_11 (Ne.symm u479_13) ne488 (Ne.symm ne464_469) (Ne.symm ne499) (Ne.symm ne492) (Ne.symm (Old.ne O479 E_DEE1.lt gn464)) (Ne.symm (Old.ne O479 E_DEE1.lt gn494)) (Ne.symm (Old.ne O479 E_DEE1.lt gn435)) (Ne.symm (Old.ne O479 E_DEE1.lt gn487)) (Ne.symm (Old.ne O479 E_DEE1.lt gn454)) Z0 K479.1 (by omega)) hZ (ow hw 66 rfl) (ow hw 12 rfl) (by decide) (by decide)) q507a q507c (g := (mkF m 115 #[iv p0, iv p1, iv p2, iv p3, iv p4, iv p5, iv (3 : Int32), iv sv, iv kv, rv b_434, rv b_436, rv b_440, rv b_446, rv b454, rv b464, iv (1 : Int32)] [(.ref b_434), (.ref b454), (.ref b464)])) rfl (by rw [hml]; rfl) (Steps.refl _) (argsL := [(.ref b454), (.ref b_434)]) (rest := []) (lenOf pd_12 rfl) rfl (by show 2 * 0 + _ ≤ _; exact Nat.le_of_eq rfl) (hb hby at_115) (fun _ _ => ⟨rfl, e502, (by decide : 8 + 1 ≤ _), (by decide : 22 + 10 ≤ _)⟩)
   dsimp only [Pt.U, Pt.locs, Pt.cells, Pt.slots] at X507 l507 y507 z507 st507 hQ507
   subst l507 y507 z507
   obtain ⟨x0_507, x1_507, x2_507, xu_507, m2_507, s2_507, e2_507, k2_507, ys_507, rfl, N507q, Kq507, u507_0, u507_1, u507_2, u507_3, u507_4, u507_5, u507_6, u507_7, u507_8, u507_9, u507_10, u507_11, u507_12, u507_13, u507_14, u507_15⟩ := hQ507
   have N507 := Fr.app N502 N507q
   have ne508 : b_434 ≠ e2_507 := own_nx u507_15 (V479_480).lt (Ne.symm (Old.ne O479 E_DEE1.lt gn435))
   have ne509 : b_436 ≠ e2_507 := own_nx u507_15 (V479_481).lt (Ne.symm (Old.ne O479 E_DEE1.lt gn438))
   have ne510 : b_440 ≠ e2_507 := own_nx u507_15 (V479_482).lt (Ne.symm (Old.ne O479 E_DEE1.lt gn443))
   have ne511 : b_446 ≠ e2_507 := own_nx u507_15 (V479_483).lt (Ne.symm (Old.ne O479 E_DEE1.lt gn450))
   have ne512 : b454 ≠ e2_507 := own_nx u507_15 (V479_484).lt (Ne.symm (Old.ne O479 E_DEE1.lt gn454))
   have ne513 : b464 ≠ e2_507 := own_nx u507_15 (E479_486).lt (Ne.symm (Old.ne O479 E_DEE1.lt gn464))
   have ne514 : wa_479 ≠ e2_507 := own_nx u507_15 (u479_4).lt (Ne.symm (Old.ne O479 E_DEE1.lt gn494))
   have ne515 : li_479 ≠ e2_507 := own_nx u507_15 (u479_5).lt (Ne.symm (Old.ne O479 E_DEE1.lt gn487))
   have V507_516 := V479_480.keep Kq507 (ninS ne464_465 (ninS ne495 (ninS ne488 (own_nys u507_14 (Ne.symm (Old.ne O479 E_DEE1.lt gn435))))))
   have V507_517 := V479_481.keep Kq507 (ninS ne464_466 (ninS ne496 (ninS ne489 (own_nys u507_14 (Ne.symm (Old.ne O479 E_DEE1.lt gn438))))))
   have V507_518 := V479_482.keep Kq507 (ninS ne464_467 (ninS ne497 (ninS ne490 (own_nys u507_14 (Ne.symm (Old.ne O479 E_DEE1.lt gn443))))))
   have V507_519 := V479_483.keep Kq507 (ninS ne464_468 (ninS ne498 (ninS ne491 (own_nys u507_14 (Ne.symm (Old.ne O479 E_DEE1.lt gn450))))))
   have V507_520 := V479_484.keep Kq507 (ninS ne464_469 (ninS ne499 (ninS ne492 (own_nys u507_14 (Ne.symm (Old.ne O479 E_DEE1.lt gn454))))))
   have E507_521 := E479_485.keep Kq507
   have E507_522 := E479_486.keep Kq507
   have E507_523 := u479_5.keep Kq507
   have K507 := K479.trans Kq507 (allS (Or.inr sz464) (allS (Or.inr sz494) (allS (Or.inr sz487) (own_ays u507_14))))
   have O507 : Old Z n0 T507.heap := O479.keep Kq507 (allS gn464 (allS gn494 (allS gn487 (own_gys u507_14 Z0))))
   have sr524_0 := own_rw hsv (by have a := own_hv (0 : Int32) p2 p3 p4 p5; have b1 := own_b01 p2 (0 : Int32); have b2 := own_b01 p3 (0 : Int32); have b3 := own_b01 p4 (0 : Int32); omega) se503_0
   have se524_0 : Sat sv.toInt (f12 (0 : Int32) (1 : Int32) p2 p3 p4 p5).toInt x0_507 := by
    have a := own_hv (0 : Int32) p2 p3 p4 p5; have b1 := own_b01 p2 (0 : Int32); have b2 := own_b01 p3 (0 : Int32); have b3 := own_b01 p4 (0 : Int32)
    rw [u507_5, show (f12 (0 : Int32) (1 : Int32) p2 p3 p4 p5).toInt = (f12 (0 : Int32) (0 : Int32) p2 p3 p4 p5).toInt + (f2 p2 (0 : Int32)).toInt from by omega]
    exact own_dc hsv (own_bit _ _) (by omega) se503_0
   have sr524_1 := own_rw hsv (by have a := own_hv (1 : Int32) p2 p3 p4 p5; have b1 := own_b01 p2 (1 : Int32); have b2 := own_b01 p3 (1 : Int32); have b3 := own_b01 p4 (1 : Int32); omega) se503_1
   have se524_1 : Sat sv.toInt (f12 (1 : Int32) (1 : Int32) p2 p3 p4 p5).toInt x1_507 := by
    have a := own_hv (1 : Int32) p2 p3 p4 p5; have b1 := own_b01 p2 (1 : Int32); have b2 := own_b01 p3 (1 : Int32); have b3 := own_b01 p4 (1 : Int32)
    rw [u507_6, show (f12 (1 : Int32) (1 : Int32) p2 p3 p4 p5).toInt = (f12 (1 : Int32) (0 : Int32) p2 p3 p4 p5).toInt + (f2 p2 (1 : Int32)).toInt from by omega]
    exact own_dc hsv (own_bit _ _) (by omega) se503_1
   have sr524_2 := own_rw hsv (by have a := own_hv (2 : Int32) p2 p3 p4 p5; have b1 := own_b01 p2 (2 : Int32); have b2 := own_b01 p3 (2 : Int32); have b3 := own_b01 p4 (2 : Int32); omega) se503_2
   have se524_2 : Sat sv.toInt (f12 (2 : Int32) (1 : Int32) p2 p3 p4 p5).toInt x2_507 := by
    have a := own_hv (2 : Int32) p2 p3 p4 p5; have b1 := own_b01 p2 (2 : Int32); have b2 := own_b01 p3 (2 : Int32); have b3 := own_b01 p4 (2 : Int32)
    rw [u507_7, show (f12 (2 : Int32) (1 : Int32) p2 p3 p4 p5).toInt = (f12 (2 : Int32) (0 : Int32) p2 p3 p4 p5).toInt + (f2 p2 (2 : Int32)).toInt from by omega]
    exact own_dc hsv (own_bit _ _) (by omega) se503_2
   have su524 : xu_507.toInt = ps x0_507 + ps x1_507 + ps x2_507 := by rw [u507_8, u507_5, u507_6, u507_7]; exact own_us3 (own_bit _ _) (own_bit _ _) (own_bit _ _) sr524_0 sr524_1 sr524_2 su503
   obtain ⟨cq525, kq525, q525a, q525b, q525c⟩ := isOf hZ rfl E507_522
   obtain ⟨_, _, ⟨T525, L525, k525, n525⟩, -, X525, ⟨Lc525, hQ525, l525, y525, z525⟩, st525⟩ := X507.virtualBack hx (y := y9) (z := y9) hown (mvT hZ (ow hw 54 rfl)) (mvT hZ (ow hw 55 rfl)) (notFace_of_selects (args := #[]) (mvT hZ (ow hw 57 rfl))) (mvT hZ (ow hw 57 rfl)) (mvT hZ (ow hw 56 rfl)) (by decide) (backOf (W := 0) (rm9 l Z ar hw [] b464 xu_507 T507.heap n0 O507 u507_3) hZ (ow hw 58 rfl) (ow hw 12 rfl) (by decide) (by decide)) q525a q525c (g := (mkF m 125 #[iv p0, iv p1, iv p2, iv p3, iv p4, iv p5, iv (3 : Int32), iv sv, iv kv, rv b_434, rv b_436, rv b_440, rv b_446, rv b454, rv b464, iv (1 : Int32)] [(.ref b464)])) rfl (by rw [hml]; rfl) (Steps.refl _) (argsL := []) (rest := []) (lenOf pd_10 rfl) rfl (by show 2 * 0 + _ ≤ _; exact Nat.le_of_eq rfl) (hb hby at_125) (fun _ _ => ⟨rfl, rfl, (by decide : 9 + 0 ≤ _), (by decide : 32 + 0 ≤ _)⟩)
   dsimp only [Pt.U, Pt.locs, Pt.cells, Pt.slots] at X525 l525 y525 z525 st525 hQ525
   subst l525 y525 z525
   obtain ⟨rfl, N525q, e525⟩ := hQ525
   have N525 := Fr.app N507 N525q
   obtain ⟨_, _, ⟨T526, L526, k526, n526⟩, -, X526, ⟨Lc526, hQ526, l526, y526, z526⟩, st526⟩ := Jvm.LawKit.callS X525 hx (y := y10) hown (mvT hZ (ow hw 59 rfl)) (mvT hZ (ow hw 60 rfl)) (mvT hZ (ow hw 3 rfl)) (mvT hZ (ow hw 61 rfl)) (by decide) (backOf (W := 1) (rm10 l Z ar hw [] (3 : Int32) sv (1 : Int32) p2 p3 p4 p5 T507.heap n0 O507) hZ (ow hw 61 rfl) (ow hw 3 rfl) (by decide) (by decide)) (g := (mkF m 139 #[iv p0, iv p1, iv p2, iv p3, iv p4, iv p5, iv (3 : Int32), iv sv, iv kv, rv b_434, rv b_436, rv b_440, rv b_446, rv b454, rv b464, iv (1 : Int32)] [(.int p5), (.int p4), (.int p3), (.int p2), (.int (1 : Int32)), (.int sv), (.int (3 : Int32)), (.int (f9 xu_507))])) rfl (by rw [hml]; rfl) (argsL := [(.int (3 : Int32)), (.int sv), (.int (1 : Int32)), (.int p2), (.int p3), (.int p4), (.int p5)]) (rest := [(.int (f9 xu_507))]) (lenOf pd_11 rfl) rfl (by show 2 * 0 + _ ≤ _; exact Nat.le_of_eq rfl) (hb hby at_139) (fun _ _ => ⟨rfl, e525, (by decide : 9 + 0 ≤ _), (by decide : 32 + 0 ≤ _)⟩)
   dsimp only [Pt.U, Pt.locs, Pt.cells, Pt.slots] at X526 l526 y526 z526 st526 hQ526
   subst l526 y526 z526
   obtain ⟨rfl, N526q, e526⟩ := hQ526
   have N526 := Fr.app N525 N526q
   have sq527 : (f9 xu_507) = (f10 (3 : Int32) sv (1 : Int32) p2 p3 p4 p5) := own_fin3 hsv su524 se524_0 se524_1 se524_2
   have pre528 : ∀ tg, AT p e below T526 m 155 #[iv p0, iv p1, iv p2, iv p3, iv p4, iv p5, iv (3 : Int32), iv sv, iv kv, rv b_434, rv b_436, rv b_440, rv b_446, rv b454, rv b464, iv (1 : Int32)] [(.int (2 : Int32)), (.int kv)] tg → Steps p.tables e below S0 tg := fun tg kg => pre505 tg (by
    refine XS.icmpNo X502.here hx rfl (hb hby at_106) rfl (XT.ii_lt_f hc506) ?_
    show AT p e below T502 m 109 #[iv p0, iv p1, iv p2, iv p3, iv p4, iv p5, iv (3 : Int32), iv sv, iv kv, rv b_434, rv b_436, rv b_440, rv b_446, rv b454, rv b464, iv (1 : Int32)] [] _
    refine XS.aload X502.here hx rfl (hb hby at_109) rfl rfl ?_
    refine XS.aload X502.here hx rfl (hb hby at_111) rfl rfl ?_
    refine XS.aload X502.here hx rfl (hb hby at_113) rfl rfl ?_
    refine st507.trans ?_
    refine XS.iload X507.here hx rfl (hb hby at_118) rfl ?_
    show AT p e below T507 m 120 #[iv p0, iv p1, iv p2, iv p3, iv p4, iv p5, iv (3 : Int32), iv sv, iv kv, rv b_434, rv b_436, rv b_440, rv b_446, rv b454, rv b464, iv (1 : Int32)] [(.int (1 : Int32))] _
    refine XS.ifNo X507.here hx rfl (hb hby at_120) rfl (XT.i0_eq_f ((by decide) : ¬ ((1 : Int32) = (0 : Int32)))) ?_
    refine XS.aload X507.here hx rfl (hb hby at_123) rfl rfl ?_
    refine st525.trans ?_
    refine XS.iload X525.here hx rfl (hb hby at_128) rfl ?_
    refine XS.iload X525.here hx rfl (hb hby at_130) rfl ?_
    refine XS.iconst X525.here hx rfl (hb hby at_132) ?_
    refine XS.iloadN X525.here hx rfl (hb hby at_133) rfl ?_
    refine XS.iloadN X525.here hx rfl (hb hby at_134) rfl ?_
    show AT p e below T525 m 135 #[iv p0, iv p1, iv p2, iv p3, iv p4, iv p5, iv (3 : Int32), iv sv, iv kv, rv b_434, rv b_436, rv b_440, rv b_446, rv b454, rv b464, iv (1 : Int32)] [(.int p3), (.int p2), (.int (1 : Int32)), (.int sv), (.int (3 : Int32)), (.int (f9 xu_507))] _
    refine XS.iload X525.here hx rfl (hb hby at_135) rfl ?_
    refine XS.iload X525.here hx rfl (hb hby at_137) rfl ?_
    refine st526 _ ?_
    show AT p e below T526 m 142 #[iv p0, iv p1, iv p2, iv p3, iv p4, iv p5, iv (3 : Int32), iv sv, iv kv, rv b_434, rv b_436, rv b_440, rv b_446, rv b454, rv b464, iv (1 : Int32)] [(.int (f10 (3 : Int32) sv (1 : Int32) p2 p3 p4 p5)), (.int (f9 xu_507))] _
    refine XS.icmpNo X526.here hx rfl (hb hby at_142) rfl (XT.ii_ne_f (sq527 : (f9 xu_507) = (f10 (3 : Int32) sv (1 : Int32) p2 p3 p4 p5))) ?_
    refine XS.iconst X526.here hx rfl (hb hby at_145) ?_
    refine XS.goto X526.here hx rfl (pc0 := 146) (pc' := 150) rfl (hb hby at_146) (by decide) (by decide) ?_
    refine XS.istore X526.here hx rfl (hb hby at_150) rfl (l' := #[iv p0, iv p1, iv p2, iv p3, iv p4, iv p5, iv (3 : Int32), iv sv, iv kv, rv b_434, rv b_436, rv b_440, rv b_446, rv b454, rv b464, iv (1 : Int32)]) rfl ?_
    refine XS.iload X526.here hx rfl (hb hby at_152) rfl ?_
    refine XS.iconst X526.here hx rfl (hb hby at_154) ?_
    exact kg)
   rcases Decidable.em (kv < (2 : Int32)) with hc529 | hc529
   ·
    obtain ⟨fs, hr, hrun, hended, hW, hsame⟩ := X526.leave (v := some (.int (1 : Int32))) (fun h => by rw [Bd.returns] at h; cases h)
    subst hS0
    refine ⟨_, _, pre528 _ ?_, hrun, hended, _, _, rfl, ?_, ⟨_, rfl⟩, hW, hsame.mono (by decide) (by decide)⟩
    ·
     refine XS.icmpYes X526.here hx rfl (pc0 := 155) (pc' := 201) rfl (hb hby at_155) rfl (XT.ii_lt_t hc529) (by decide) (by decide) ?_
     refine XS.iload X526.here hx rfl (hb hby at_201) rfl ?_
     refine XS.iconst X526.here hx rfl (hb hby at_203) ?_
     show AT p e below T526 m 204 #[iv p0, iv p1, iv p2, iv p3, iv p4, iv p5, iv (3 : Int32), iv sv, iv kv, rv b_434, rv b_436, rv b_440, rv b_446, rv b454, rv b464, iv (1 : Int32)] [(.int (3 : Int32)), (.int kv)] _
     refine XS.icmpYes X526.here hx rfl (pc0 := 204) (pc' := 250) rfl (hb hby at_204) rfl (XT.ii_lt_t ((own_up hc529 (by decide)) : kv < (3 : Int32))) (by decide) (by decide) ?_
     refine XS.iload X526.here hx rfl (hb hby at_250) rfl ?_
     refine XS.iconst X526.here hx rfl (hb hby at_252) ?_
     show AT p e below T526 m 253 #[iv p0, iv p1, iv p2, iv p3, iv p4, iv p5, iv (3 : Int32), iv sv, iv kv, rv b_434, rv b_436, rv b_440, rv b_446, rv b454, rv b464, iv (1 : Int32)] [(.int (4 : Int32)), (.int kv)] _
     refine XS.icmpYes X526.here hx rfl (pc0 := 253) (pc' := 299) rfl (hb hby at_253) rfl (XT.ii_lt_t ((own_up hc529 (by decide)) : kv < (4 : Int32))) (by decide) (by decide) ?_
     show AT p e below T526 m 299 #[iv p0, iv p1, iv p2, iv p3, iv p4, iv p5, iv (3 : Int32), iv sv, iv kv, rv b_434, rv b_436, rv b_440, rv b_446, rv b454, rv b464, iv (1 : Int32)] [] _
     refine XS.iload X526.here hx rfl (hb hby at_299) rfl ?_
     exact retN X526 hx (t := .boolean) Bd.returns (by simp) (hb hby at_301) hr
    ·
     show Q0 Z p0 p1 p2 p3 p4 p5 w_EE0 w_DEE1 k_EE0 k_DEE1 h0 n0 _ T526.heap _
     rw [e526]
     exact ⟨rfl, N526⟩
   ·
    obtain ⟨cq530, kq530, q530a, q530b, q530c⟩ := isOf hZ e526 E507_522
    obtain ⟨_, _, ⟨T530, L530, k530, n530⟩, -, X530, ⟨Lc530, hQ530, l530, y530, z530⟩, st530⟩ := X526.virtualBack hx (y := y11) (z := y11) hown (mvT hZ (ow hw 62 rfl)) (mvT hZ (ow hw 63 rfl)) (notFace_of_selects (args := #[]) (mvT hZ (ow hw 65 rfl))) (mvT hZ (ow hw 65 rfl)) (mvT hZ (ow hw 64 rfl)) (by decide) (backOf (W := 0) (rm11_3 l Z ar hw [] b464 b454 b_436 w_EE0 w_DEE1 k_EE0 k_DEE1 wa_479 kw_479 kb_436 (f2 p3 (0 : Int32)) (f2 p3 (1 : Int32)) (f2 p3 (2 : Int32)) x0_507 x1_507 x2_507 xu_507 li_479 m2_507 s2_507 e2_507 k2_507 h0.size ((0 : Int) + 1) T507.heap n0 O507 HW E507_522 u507_1 u507_2 u507_3 u507_4 V507_517 gn464 gn494 u479_12 (Ne.symm ne464_466) (Ne.symm ne496) E507_523 u507_10 u507_11 u507_12 u507_13 gn487 E507_521 u479_11 (Ne.symm u479_13) ne489 (Ne.symm ne464_469) (Ne.symm ne499) (Ne.symm ne492) ne513 ne514 ne509 ne515 ne512 Z0 K507.1 (by omega)) hZ (ow hw 66 rfl) (ow hw 12 rfl) (by decide) (by decide)) q530a q530c (g := (mkF m 164 #[iv p0, iv p1, iv p2, iv p3, iv p4, iv p5, iv (3 : Int32), iv sv, iv kv, rv b_434, rv b_436, rv b_440, rv b_446, rv b454, rv b464, iv (1 : Int32)] [(.ref b_436), (.ref b454), (.ref b464)])) rfl (by rw [hml]; rfl) (Steps.refl _) (argsL := [(.ref b454), (.ref b_436)]) (rest := []) (lenOf pd_12 rfl) rfl (by show 2 * 0 + _ ≤ _; exact Nat.le_of_eq rfl) (hb hby at_164) (fun _ _ => ⟨rfl, e526, (by decide : 9 + 1 ≤ _), (by decide : 32 + 10 ≤ _)⟩)
    dsimp only [Pt.U, Pt.locs, Pt.cells, Pt.slots] at X530 l530 y530 z530 st530 hQ530
    subst l530 y530 z530
    obtain ⟨x0_530, x1_530, x2_530, xu_530, m2_530, s2_530, e2_530, k2_530, ys_530, rfl, N530q, Kq530, u530_0, u530_1, u530_2, u530_3, u530_4, u530_5, u530_6, u530_7, u530_8, u530_9, u530_10, u530_11, u530_12, u530_13, u530_14, u530_15⟩ := hQ530
    have N530 := Fr.app N526 N530q
    have ne531 : b_434 ≠ e2_530 := own_nx u530_15 (V507_516).lt ne508
    have ne532 : b_436 ≠ e2_530 := own_nx u530_15 (V507_517).lt ne509
    have ne533 : b_440 ≠ e2_530 := own_nx u530_15 (V507_518).lt ne510
    have ne534 : b_446 ≠ e2_530 := own_nx u530_15 (V507_519).lt ne511
    have ne535 : b454 ≠ e2_530 := own_nx u530_15 (V507_520).lt ne512
    have ne536 : b464 ≠ e2_530 := own_nx u530_15 (E507_522).lt ne513
    have ne537 : li_479 ≠ e2_530 := own_nx u530_15 (E507_523).lt ne515
    have ne538 : wa_479 ≠ e2_530 := own_nx u530_15 (u507_4).lt ne514
    have V530_539 := V507_516.keep Kq530 (ninS ne464_465 (ninS ne495 (ninS ne488 (own_nys u530_14 ne508))))
    have V530_540 := V507_517.keep Kq530 (ninS ne464_466 (ninS ne496 (ninS ne489 (own_nys u530_14 ne509))))
    have V530_541 := V507_518.keep Kq530 (ninS ne464_467 (ninS ne497 (ninS ne490 (own_nys u530_14 ne510))))
    have V530_542 := V507_519.keep Kq530 (ninS ne464_468 (ninS ne498 (ninS ne491 (own_nys u530_14 ne511))))
    have V530_543 := V507_520.keep Kq530 (ninS ne464_469 (ninS ne499 (ninS ne492 (own_nys u530_14 ne512))))
    have E530_544 := E507_521.keep Kq530
    have E530_545 := E507_522.keep Kq530
    have E530_546 := E507_523.keep Kq530
    have K530 := K507.trans Kq530 (allS (Or.inr sz464) (allS (Or.inr sz494) (allS (Or.inr sz487) (own_ays u530_14))))
    have O530 : Old Z n0 T530.heap := O507.keep Kq530 (allS gn464 (allS gn494 (allS gn487 (own_gys u530_14 Z0))))
    have sr547_0 := own_rw hsv (by have a := own_hv (0 : Int32) p2 p3 p4 p5; have b1 := own_b01 p2 (0 : Int32); have b2 := own_b01 p3 (0 : Int32); have b3 := own_b01 p4 (0 : Int32); omega) se524_0
    have se547_0 : Sat sv.toInt (f12 (0 : Int32) (2 : Int32) p2 p3 p4 p5).toInt x0_530 := by
     have a := own_hv (0 : Int32) p2 p3 p4 p5; have b1 := own_b01 p2 (0 : Int32); have b2 := own_b01 p3 (0 : Int32); have b3 := own_b01 p4 (0 : Int32)
     rw [u530_5, show (f12 (0 : Int32) (2 : Int32) p2 p3 p4 p5).toInt = (f12 (0 : Int32) (1 : Int32) p2 p3 p4 p5).toInt + (f2 p3 (0 : Int32)).toInt from by omega]
     exact own_dc hsv (own_bit _ _) (by omega) se524_0
    have sr547_1 := own_rw hsv (by have a := own_hv (1 : Int32) p2 p3 p4 p5; have b1 := own_b01 p2 (1 : Int32); have b2 := own_b01 p3 (1 : Int32); have b3 := own_b01 p4 (1 : Int32); omega) se524_1
    have se547_1 : Sat sv.toInt (f12 (1 : Int32) (2 : Int32) p2 p3 p4 p5).toInt x1_530 := by
     have a := own_hv (1 : Int32) p2 p3 p4 p5; have b1 := own_b01 p2 (1 : Int32); have b2 := own_b01 p3 (1 : Int32); have b3 := own_b01 p4 (1 : Int32)
     rw [u530_6, show (f12 (1 : Int32) (2 : Int32) p2 p3 p4 p5).toInt = (f12 (1 : Int32) (1 : Int32) p2 p3 p4 p5).toInt + (f2 p3 (1 : Int32)).toInt from by omega]
     exact own_dc hsv (own_bit _ _) (by omega) se524_1
    have sr547_2 := own_rw hsv (by have a := own_hv (2 : Int32) p2 p3 p4 p5; have b1 := own_b01 p2 (2 : Int32); have b2 := own_b01 p3 (2 : Int32); have b3 := own_b01 p4 (2 : Int32); omega) se524_2
    have se547_2 : Sat sv.toInt (f12 (2 : Int32) (2 : Int32) p2 p3 p4 p5).toInt x2_530 := by
     have a := own_hv (2 : Int32) p2 p3 p4 p5; have b1 := own_b01 p2 (2 : Int32); have b2 := own_b01 p3 (2 : Int32); have b3 := own_b01 p4 (2 : Int32)
     rw [u530_7, show (f12 (2 : Int32) (2 : Int32) p2 p3 p4 p5).toInt = (f12 (2 : Int32) (1 : Int32) p2 p3 p4 p5).toInt + (f2 p3 (2 : Int32)).toInt from by omega]
     exact own_dc hsv (own_bit _ _) (by omega) se524_2
    have su547 : xu_530.toInt = ps x0_530 + ps x1_530 + ps x2_530 := by rw [u530_8, u530_5, u530_6, u530_7]; exact own_us3 (own_bit _ _) (own_bit _ _) (own_bit _ _) sr547_0 sr547_1 sr547_2 su524
    obtain ⟨cq548, kq548, q548a, q548b, q548c⟩ := isOf hZ rfl E530_545
    obtain ⟨_, _, ⟨T548, L548, k548, n548⟩, -, X548, ⟨Lc548, hQ548, l548, y548, z548⟩, st548⟩ := X530.virtualBack hx (y := y9) (z := y9) hown (mvT hZ (ow hw 54 rfl)) (mvT hZ (ow hw 55 rfl)) (notFace_of_selects (args := #[]) (mvT hZ (ow hw 57 rfl))) (mvT hZ (ow hw 57 rfl)) (mvT hZ (ow hw 56 rfl)) (by decide) (backOf (W := 0) (rm9 l Z ar hw [] b464 xu_530 T530.heap n0 O530 u530_3) hZ (ow hw 58 rfl) (ow hw 12 rfl) (by decide) (by decide)) q548a q548c (g := (mkF m 174 #[iv p0, iv p1, iv p2, iv p3, iv p4, iv p5, iv (3 : Int32), iv sv, iv kv, rv b_434, rv b_436, rv b_440, rv b_446, rv b454, rv b464, iv (1 : Int32)] [(.ref b464)])) rfl (by rw [hml]; rfl) (Steps.refl _) (argsL := []) (rest := []) (lenOf pd_10 rfl) rfl (by show 2 * 0 + _ ≤ _; exact Nat.le_of_eq rfl) (hb hby at_174) (fun _ _ => ⟨rfl, rfl, (by decide : 10 + 0 ≤ _), (by decide : 42 + 0 ≤ _)⟩)
    dsimp only [Pt.U, Pt.locs, Pt.cells, Pt.slots] at X548 l548 y548 z548 st548 hQ548
    subst l548 y548 z548
    obtain ⟨rfl, N548q, e548⟩ := hQ548
    have N548 := Fr.app N530 N548q
    obtain ⟨_, _, ⟨T549, L549, k549, n549⟩, -, X549, ⟨Lc549, hQ549, l549, y549, z549⟩, st549⟩ := Jvm.LawKit.callS X548 hx (y := y10) hown (mvT hZ (ow hw 59 rfl)) (mvT hZ (ow hw 60 rfl)) (mvT hZ (ow hw 3 rfl)) (mvT hZ (ow hw 61 rfl)) (by decide) (backOf (W := 1) (rm10 l Z ar hw [] (3 : Int32) sv (2 : Int32) p2 p3 p4 p5 T530.heap n0 O530) hZ (ow hw 61 rfl) (ow hw 3 rfl) (by decide) (by decide)) (g := (mkF m 188 #[iv p0, iv p1, iv p2, iv p3, iv p4, iv p5, iv (3 : Int32), iv sv, iv kv, rv b_434, rv b_436, rv b_440, rv b_446, rv b454, rv b464, iv (1 : Int32)] [(.int p5), (.int p4), (.int p3), (.int p2), (.int (2 : Int32)), (.int sv), (.int (3 : Int32)), (.int (f9 xu_530))])) rfl (by rw [hml]; rfl) (argsL := [(.int (3 : Int32)), (.int sv), (.int (2 : Int32)), (.int p2), (.int p3), (.int p4), (.int p5)]) (rest := [(.int (f9 xu_530))]) (lenOf pd_11 rfl) rfl (by show 2 * 0 + _ ≤ _; exact Nat.le_of_eq rfl) (hb hby at_188) (fun _ _ => ⟨rfl, e548, (by decide : 10 + 0 ≤ _), (by decide : 42 + 0 ≤ _)⟩)
    dsimp only [Pt.U, Pt.locs, Pt.cells, Pt.slots] at X549 l549 y549 z549 st549 hQ549
    subst l549 y549 z549
    obtain ⟨rfl, N549q, e549⟩ := hQ549
    have N549 := Fr.app N548 N549q
    have sq550 : (f9 xu_530) = (f10 (3 : Int32) sv (2 : Int32) p2 p3 p4 p5) := own_fin3 hsv su547 se547_0 se547_1 se547_2
    have pre551 : ∀ tg, AT p e below T549 m 204 #[iv p0, iv p1, iv p2, iv p3, iv p4, iv p5, iv (3 : Int32), iv sv, iv kv, rv b_434, rv b_436, rv b_440, rv b_446, rv b454, rv b464, iv (1 : Int32)] [(.int (3 : Int32)), (.int kv)] tg → Steps p.tables e below S0 tg := fun tg kg => pre528 tg (by
     refine XS.icmpNo X526.here hx rfl (hb hby at_155) rfl (XT.ii_lt_f hc529) ?_
     refine XS.aload X526.here hx rfl (hb hby at_158) rfl rfl ?_
     refine XS.aload X526.here hx rfl (hb hby at_160) rfl rfl ?_
     refine XS.aload X526.here hx rfl (hb hby at_162) rfl rfl ?_
     refine st530.trans ?_
     show AT p e below T530 m 167 #[iv p0, iv p1, iv p2, iv p3, iv p4, iv p5, iv (3 : Int32), iv sv, iv kv, rv b_434, rv b_436, rv b_440, rv b_446, rv b454, rv b464, iv (1 : Int32)] [] _
     refine XS.iload X530.here hx rfl (hb hby at_167) rfl ?_
     show AT p e below T530 m 169 #[iv p0, iv p1, iv p2, iv p3, iv p4, iv p5, iv (3 : Int32), iv sv, iv kv, rv b_434, rv b_436, rv b_440, rv b_446, rv b454, rv b464, iv (1 : Int32)] [(.int (1 : Int32))] _
     refine XS.ifNo X530.here hx rfl (hb hby at_169) rfl (XT.i0_eq_f ((by decide) : ¬ ((1 : Int32) = (0 : Int32)))) ?_
     refine XS.aload X530.here hx rfl (hb hby at_172) rfl rfl ?_
     refine st548.trans ?_
     refine XS.iload X548.here hx rfl (hb hby at_177) rfl ?_
     refine XS.iload X548.here hx rfl (hb hby at_179) rfl ?_
     refine XS.iconst X548.here hx rfl (hb hby at_181) ?_
     refine XS.iloadN X548.here hx rfl (hb hby at_182) rfl ?_
     refine XS.iloadN X548.here hx rfl (hb hby at_183) rfl ?_
     refine XS.iload X548.here hx rfl (hb hby at_184) rfl ?_
     refine XS.iload X548.here hx rfl (hb hby at_186) rfl ?_
     refine st549 _ ?_
     show AT p e below T549 m 191 #[iv p0, iv p1, iv p2, iv p3, iv p4, iv p5, iv (3 : Int32), iv sv, iv kv, rv b_434, rv b_436, rv b_440, rv b_446, rv b454, rv b464, iv (1 : Int32)] [(.int (f10 (3 : Int32) sv (2 : Int32) p2 p3 p4 p5)), (.int (f9 xu_530))] _
     refine XS.icmpNo X549.here hx rfl (hb hby at_191) rfl (XT.ii_ne_f (sq550 : (f9 xu_530) = (f10 (3 : Int32) sv (2 : Int32) p2 p3 p4 p5))) ?_
     refine XS.iconst X549.here hx rfl (hb hby at_194) ?_
     show AT p e below T549 m 195 #[iv p0, iv p1, iv p2, iv p3, iv p4, iv p5, iv (3 : Int32), iv sv, iv kv, rv b_434, rv b_436, rv b_440, rv b_446, rv b454, rv b464, iv (1 : Int32)] [(.int (1 : Int32))] _
     refine XS.goto X549.here hx rfl (pc0 := 195) (pc' := 199) rfl (hb hby at_195) (by decide) (by decide) ?_
     refine XS.istore X549.here hx rfl (hb hby at_199) rfl (l' := #[iv p0, iv p1, iv p2, iv p3, iv p4, iv p5, iv (3 : Int32), iv sv, iv kv, rv b_434, rv b_436, rv b_440, rv b_446, rv b454, rv b464, iv (1 : Int32)]) rfl ?_
     refine XS.iload X549.here hx rfl (hb hby at_201) rfl ?_
     refine XS.iconst X549.here hx rfl (hb hby at_203) ?_
     exact kg)
    rcases Decidable.em (kv < (3 : Int32)) with hc552 | hc552
    ·
     obtain ⟨fs, hr, hrun, hended, hW, hsame⟩ := X549.leave (v := some (.int (1 : Int32))) (fun h => by rw [Bd.returns] at h; cases h)
     subst hS0
     refine ⟨_, _, pre551 _ ?_, hrun, hended, _, _, rfl, ?_, ⟨_, rfl⟩, hW, hsame.mono (by decide) (by decide)⟩
     ·
      refine XS.icmpYes X549.here hx rfl (pc0 := 204) (pc' := 250) rfl (hb hby at_204) rfl (XT.ii_lt_t hc552) (by decide) (by decide) ?_
      refine XS.iload X549.here hx rfl (hb hby at_250) rfl ?_
      refine XS.iconst X549.here hx rfl (hb hby at_252) ?_
      show AT p e below T549 m 253 #[iv p0, iv p1, iv p2, iv p3, iv p4, iv p5, iv (3 : Int32), iv sv, iv kv, rv b_434, rv b_436, rv b_440, rv b_446, rv b454, rv b464, iv (1 : Int32)] [(.int (4 : Int32)), (.int kv)] _
      refine XS.icmpYes X549.here hx rfl (pc0 := 253) (pc' := 299) rfl (hb hby at_253) rfl (XT.ii_lt_t ((own_up hc552 (by decide)) : kv < (4 : Int32))) (by decide) (by decide) ?_
      refine XS.iload X549.here hx rfl (hb hby at_299) rfl ?_
      exact retN X549 hx (t := .boolean) Bd.returns (by simp) (hb hby at_301) hr
     ·
      show Q0 Z p0 p1 p2 p3 p4 p5 w_EE0 w_DEE1 k_EE0 k_DEE1 h0 n0 _ T549.heap _
      rw [e549]
      exact ⟨rfl, N549⟩
    ·
     obtain ⟨cq553, kq553, q553a, q553b, q553c⟩ := isOf hZ e549 E530_545
     obtain ⟨_, _, ⟨T553, L553, k553, n553⟩, -, X553, ⟨Lc553, hQ553, l553, y553, z553⟩, st553⟩ := X549.virtualBack hx (y := y11) (z := y11) hown (mvT hZ (ow hw 62 rfl)) (mvT hZ (ow hw 63 rfl)) (notFace_of_selects (args := #[]) (mvT hZ (ow hw 65 rfl))) (mvT hZ (ow hw 65 rfl)) (mvT hZ (ow hw 64 rfl)) (by decide) (backOf (W := 0) (rm11_3 l Z ar hw [] b464 b454 b_440 w_EE0 w_DEE1 k_EE0 k_DEE1 wa_479 kw_479 kb_440 (f2 p4 (0 : Int32)) (f2 p4 (1 : Int32)) (f2 p4 (2 : Int32)) x0_530 x1_530 x2_530 xu_530 li_479 m2_530 s2_530 e2_530 k2_530 h0.size (((0 : Int) + 1) + 1) T530.heap n0 O530 HW E530_545 u530_1 u530_2 u530_3 u530_4 V530_541 gn464 gn494 u479_12 (Ne.symm ne464_467) (Ne.symm ne497) E530_546 u530_10 u530_11 u530_12 u530_13 gn487 E530_544 u479_11 (Ne.symm u479_13) ne490 (Ne.symm ne464_469) (Ne.symm ne499) (Ne.symm ne492) ne536 ne538 ne533 ne537 ne535 Z0 K530.1 (by omega)) hZ (ow hw 66 rfl) (ow hw 12 rfl) (by decide) (by decide)) q553a q553c (g := (mkF m 213 #[iv p0, iv p1, iv p2, iv p3, iv p4, iv p5, iv (3 : Int32), iv sv, iv kv, rv b_434, rv b_436, rv b_440, rv b_446, rv b454, rv b464, iv (1 : Int32)] [(.ref b_440), (.ref b454), (.ref b464)])) rfl (by rw [hml]; rfl) (Steps.refl _) (argsL := [(.ref b454), (.ref b_440)]) (rest := []) (lenOf pd_12 rfl) rfl (by show 2 * 0 + _ ≤ _; exact Nat.le_of_eq rfl) (hb hby at_213) (fun _ _ => ⟨rfl, e549, (by decide : 10 + 1 ≤ _), (by decide : 42 + 10 ≤ _)⟩)
     dsimp only [Pt.U, Pt.locs, Pt.cells, Pt.slots] at X553 l553 y553 z553 st553 hQ553
     subst l553 y553 z553
     obtain ⟨x0_553, x1_553, x2_553, xu_553, m2_553, s2_553, e2_553, k2_553, ys_553, rfl, N553q, Kq553, u553_0, u553_1, u553_2, u553_3, u553_4, u553_5, u553_6, u553_7, u553_8, u553_9, u553_10, u553_11, u553_12, u553_13, u553_14, u553_15⟩ := hQ553
     have N553 := Fr.app N549 N553q
     have ne554 : b_434 ≠ e2_553 := own_nx u553_15 (V530_539).lt ne531
     have ne555 : b_436 ≠ e2_553 := own_nx u553_15 (V530_540).lt ne532
     have ne556 : b_440 ≠ e2_553 := own_nx u553_15 (V530_541).lt ne533
     have ne557 : b_446 ≠ e2_553 := own_nx u553_15 (V530_542).lt ne534
     have ne558 : b454 ≠ e2_553 := own_nx u553_15 (V530_543).lt ne535
     have ne559 : b464 ≠ e2_553 := own_nx u553_15 (E530_545).lt ne536
     have ne560 : li_479 ≠ e2_553 := own_nx u553_15 (E530_546).lt ne537
     have ne561 : wa_479 ≠ e2_553 := own_nx u553_15 (u530_4).lt ne538
     have V553_562 := V530_539.keep Kq553 (ninS ne464_465 (ninS ne495 (ninS ne488 (own_nys u553_14 ne531))))
     have V553_563 := V530_540.keep Kq553 (ninS ne464_466 (ninS ne496 (ninS ne489 (own_nys u553_14 ne532))))
     have V553_564 := V530_541.keep Kq553 (ninS ne464_467 (ninS ne497 (ninS ne490 (own_nys u553_14 ne533))))
     have V553_565 := V530_542.keep Kq553 (ninS ne464_468 (ninS ne498 (ninS ne491 (own_nys u553_14 ne534))))
     have V553_566 := V530_543.keep Kq553 (ninS ne464_469 (ninS ne499 (ninS ne492 (own_nys u553_14 ne535))))
     have E553_567 := E530_544.keep Kq553
     have E553_568 := E530_545.keep Kq553
     have E553_569 := E530_546.keep Kq553
     have K553 := K530.trans Kq553 (allS (Or.inr sz464) (allS (Or.inr sz494) (allS (Or.inr sz487) (own_ays u553_14))))
     have O553 : Old Z n0 T553.heap := O530.keep Kq553 (allS gn464 (allS gn494 (allS gn487 (own_gys u553_14 Z0))))
     have sr570_0 := own_rw hsv (by have a := own_hv (0 : Int32) p2 p3 p4 p5; have b1 := own_b01 p2 (0 : Int32); have b2 := own_b01 p3 (0 : Int32); have b3 := own_b01 p4 (0 : Int32); omega) se547_0
     have se570_0 : Sat sv.toInt (f12 (0 : Int32) (3 : Int32) p2 p3 p4 p5).toInt x0_553 := by
      have a := own_hv (0 : Int32) p2 p3 p4 p5; have b1 := own_b01 p2 (0 : Int32); have b2 := own_b01 p3 (0 : Int32); have b3 := own_b01 p4 (0 : Int32)
      rw [u553_5, show (f12 (0 : Int32) (3 : Int32) p2 p3 p4 p5).toInt = (f12 (0 : Int32) (2 : Int32) p2 p3 p4 p5).toInt + (f2 p4 (0 : Int32)).toInt from by omega]
      exact own_dc hsv (own_bit _ _) (by omega) se547_0
     have sr570_1 := own_rw hsv (by have a := own_hv (1 : Int32) p2 p3 p4 p5; have b1 := own_b01 p2 (1 : Int32); have b2 := own_b01 p3 (1 : Int32); have b3 := own_b01 p4 (1 : Int32); omega) se547_1
     have se570_1 : Sat sv.toInt (f12 (1 : Int32) (3 : Int32) p2 p3 p4 p5).toInt x1_553 := by
      have a := own_hv (1 : Int32) p2 p3 p4 p5; have b1 := own_b01 p2 (1 : Int32); have b2 := own_b01 p3 (1 : Int32); have b3 := own_b01 p4 (1 : Int32)
      rw [u553_6, show (f12 (1 : Int32) (3 : Int32) p2 p3 p4 p5).toInt = (f12 (1 : Int32) (2 : Int32) p2 p3 p4 p5).toInt + (f2 p4 (1 : Int32)).toInt from by omega]
      exact own_dc hsv (own_bit _ _) (by omega) se547_1
     have sr570_2 := own_rw hsv (by have a := own_hv (2 : Int32) p2 p3 p4 p5; have b1 := own_b01 p2 (2 : Int32); have b2 := own_b01 p3 (2 : Int32); have b3 := own_b01 p4 (2 : Int32); omega) se547_2
     have se570_2 : Sat sv.toInt (f12 (2 : Int32) (3 : Int32) p2 p3 p4 p5).toInt x2_553 := by
      have a := own_hv (2 : Int32) p2 p3 p4 p5; have b1 := own_b01 p2 (2 : Int32); have b2 := own_b01 p3 (2 : Int32); have b3 := own_b01 p4 (2 : Int32)
      rw [u553_7, show (f12 (2 : Int32) (3 : Int32) p2 p3 p4 p5).toInt = (f12 (2 : Int32) (2 : Int32) p2 p3 p4 p5).toInt + (f2 p4 (2 : Int32)).toInt from by omega]
      exact own_dc hsv (own_bit _ _) (by omega) se547_2
     have su570 : xu_553.toInt = ps x0_553 + ps x1_553 + ps x2_553 := by rw [u553_8, u553_5, u553_6, u553_7]; exact own_us3 (own_bit _ _) (own_bit _ _) (own_bit _ _) sr570_0 sr570_1 sr570_2 su547
     obtain ⟨cq571, kq571, q571a, q571b, q571c⟩ := isOf hZ rfl E553_568
     obtain ⟨_, _, ⟨T571, L571, k571, n571⟩, -, X571, ⟨Lc571, hQ571, l571, y571, z571⟩, st571⟩ := X553.virtualBack hx (y := y9) (z := y9) hown (mvT hZ (ow hw 54 rfl)) (mvT hZ (ow hw 55 rfl)) (notFace_of_selects (args := #[]) (mvT hZ (ow hw 57 rfl))) (mvT hZ (ow hw 57 rfl)) (mvT hZ (ow hw 56 rfl)) (by decide) (backOf (W := 0) (rm9 l Z ar hw [] b464 xu_553 T553.heap n0 O553 u553_3) hZ (ow hw 58 rfl) (ow hw 12 rfl) (by decide) (by decide)) q571a q571c (g := (mkF m 223 #[iv p0, iv p1, iv p2, iv p3, iv p4, iv p5, iv (3 : Int32), iv sv, iv kv, rv b_434, rv b_436, rv b_440, rv b_446, rv b454, rv b464, iv (1 : Int32)] [(.ref b464)])) rfl (by rw [hml]; rfl) (Steps.refl _) (argsL := []) (rest := []) (lenOf pd_10 rfl) rfl (by show 2 * 0 + _ ≤ _; exact Nat.le_of_eq rfl) (hb hby at_223) (fun _ _ => ⟨rfl, rfl, (by decide : 11 + 0 ≤ _), (by decide : 52 + 0 ≤ _)⟩)
     dsimp only [Pt.U, Pt.locs, Pt.cells, Pt.slots] at X571 l571 y571 z571 st571 hQ571
     subst l571 y571 z571
     obtain ⟨rfl, N571q, e571⟩ := hQ571
     have N571 := Fr.app N553 N571q
     obtain ⟨_, _, ⟨T572, L572, k572, n572⟩, -, X572, ⟨Lc572, hQ572, l572, y572, z572⟩, st572⟩ := Jvm.LawKit.callS X571 hx (y := y10) hown (mvT hZ (ow hw 59 rfl)) (mvT hZ (ow hw 60 rfl)) (mvT hZ (ow hw 3 rfl)) (mvT hZ (ow hw 61 rfl)) (by decide) (backOf (W := 1) (rm10 l Z ar hw [] (3 : Int32) sv (3 : Int32) p2 p3 p4 p5 T553.heap n0 O553) hZ (ow hw 61 rfl) (ow hw 3 rfl) (by decide) (by decide)) (g := (mkF m 237 #[iv p0, iv p1, iv p2, iv p3, iv p4, iv p5, iv (3 : Int32), iv sv, iv kv, rv b_434, rv b_436, rv b_440, rv b_446, rv b454, rv b464, iv (1 : Int32)] [(.int p5), (.int p4), (.int p3), (.int p2), (.int (3 : Int32)), (.int sv), (.int (3 : Int32)), (.int (f9 xu_553))])) rfl (by rw [hml]; rfl) (argsL := [(.int (3 : Int32)), (.int sv), (.int (3 : Int32)), (.int p2), (.int p3), (.int p4), (.int p5)]) (rest := [(.int (f9 xu_553))]) (lenOf pd_11 rfl) rfl (by show 2 * 0 + _ ≤ _; exact Nat.le_of_eq rfl) (hb hby at_237) (fun _ _ => ⟨rfl, e571, (by decide : 11 + 0 ≤ _), (by decide : 52 + 0 ≤ _)⟩)
     dsimp only [Pt.U, Pt.locs, Pt.cells, Pt.slots] at X572 l572 y572 z572 st572 hQ572
     subst l572 y572 z572
     obtain ⟨rfl, N572q, e572⟩ := hQ572
     have N572 := Fr.app N571 N572q
     have sq573 : (f9 xu_553) = (f10 (3 : Int32) sv (3 : Int32) p2 p3 p4 p5) := own_fin3 hsv su570 se570_0 se570_1 se570_2
     have pre574 : ∀ tg, AT p e below T572 m 253 #[iv p0, iv p1, iv p2, iv p3, iv p4, iv p5, iv (3 : Int32), iv sv, iv kv, rv b_434, rv b_436, rv b_440, rv b_446, rv b454, rv b464, iv (1 : Int32)] [(.int (4 : Int32)), (.int kv)] tg → Steps p.tables e below S0 tg := fun tg kg => pre551 tg (by
      refine XS.icmpNo X549.here hx rfl (hb hby at_204) rfl (XT.ii_lt_f hc552) ?_
      refine XS.aload X549.here hx rfl (hb hby at_207) rfl rfl ?_
      refine XS.aload X549.here hx rfl (hb hby at_209) rfl rfl ?_
      refine XS.aload X549.here hx rfl (hb hby at_211) rfl rfl ?_
      refine st553.trans ?_
      refine XS.iload X553.here hx rfl (hb hby at_216) rfl ?_
      show AT p e below T553 m 218 #[iv p0, iv p1, iv p2, iv p3, iv p4, iv p5, iv (3 : Int32), iv sv, iv kv, rv b_434, rv b_436, rv b_440, rv b_446, rv b454, rv b464, iv (1 : Int32)] [(.int (1 : Int32))] _
      refine XS.ifNo X553.here hx rfl (hb hby at_218) rfl (XT.i0_eq_f ((by decide) : ¬ ((1 : Int32) = (0 : Int32)))) ?_
      refine XS.aload X553.here hx rfl (hb hby at_221) rfl rfl ?_
      refine st571.trans ?_
      refine XS.iload X571.here hx rfl (hb hby at_226) rfl ?_
      show AT p e below T571 m 228 #[iv p0, iv p1, iv p2, iv p3, iv p4, iv p5, iv (3 : Int32), iv sv, iv kv, rv b_434, rv b_436, rv b_440, rv b_446, rv b454, rv b464, iv (1 : Int32)] [(.int (3 : Int32)), (.int (f9 xu_553))] _
      refine XS.iload X571.here hx rfl (hb hby at_228) rfl ?_
      refine XS.iconst X571.here hx rfl (hb hby at_230) ?_
      refine XS.iloadN X571.here hx rfl (hb hby at_231) rfl ?_
      refine XS.iloadN X571.here hx rfl (hb hby at_232) rfl ?_
      refine XS.iload X571.here hx rfl (hb hby at_233) rfl ?_
      refine XS.iload X571.here hx rfl (hb hby at_235) rfl ?_
      refine st572 _ ?_
      show AT p e below T572 m 240 #[iv p0, iv p1, iv p2, iv p3, iv p4, iv p5, iv (3 : Int32), iv sv, iv kv, rv b_434, rv b_436, rv b_440, rv b_446, rv b454, rv b464, iv (1 : Int32)] [(.int (f10 (3 : Int32) sv (3 : Int32) p2 p3 p4 p5)), (.int (f9 xu_553))] _
      refine XS.icmpNo X572.here hx rfl (hb hby at_240) rfl (XT.ii_ne_f (sq573 : (f9 xu_553) = (f10 (3 : Int32) sv (3 : Int32) p2 p3 p4 p5))) ?_
      refine XS.iconst X572.here hx rfl (hb hby at_243) ?_
      refine XS.goto X572.here hx rfl (pc0 := 244) (pc' := 248) rfl (hb hby at_244) (by decide) (by decide) ?_
      refine XS.istore X572.here hx rfl (hb hby at_248) rfl (l' := #[iv p0, iv p1, iv p2, iv p3, iv p4, iv p5, iv (3 : Int32), iv sv, iv kv, rv b_434, rv b_436, rv b_440, rv b_446, rv b454, rv b464, iv (1 : Int32)]) rfl ?_
      refine XS.iload X572.here hx rfl (hb hby at_250) rfl ?_
      refine XS.iconst X572.here hx rfl (hb hby at_252) ?_
      exact kg)
     rcases Decidable.em (kv < (4 : Int32)) with hc575 | hc575
     ·
      obtain ⟨fs, hr, hrun, hended, hW, hsame⟩ := X572.leave (v := some (.int (1 : Int32))) (fun h => by rw [Bd.returns] at h; cases h)
      subst hS0
      refine ⟨_, _, pre574 _ ?_, hrun, hended, _, _, rfl, ?_, ⟨_, rfl⟩, hW, hsame.mono (by decide) (by decide)⟩
      ·
       refine XS.icmpYes X572.here hx rfl (pc0 := 253) (pc' := 299) rfl (hb hby at_253) rfl (XT.ii_lt_t hc575) (by decide) (by decide) ?_
       show AT p e below T572 m 299 #[iv p0, iv p1, iv p2, iv p3, iv p4, iv p5, iv (3 : Int32), iv sv, iv kv, rv b_434, rv b_436, rv b_440, rv b_446, rv b454, rv b464, iv (1 : Int32)] [] _
       refine XS.iload X572.here hx rfl (hb hby at_299) rfl ?_
       exact retN X572 hx (t := .boolean) Bd.returns (by simp) (hb hby at_301) hr
      ·
       show Q0 Z p0 p1 p2 p3 p4 p5 w_EE0 w_DEE1 k_EE0 k_DEE1 h0 n0 _ T572.heap _
       rw [e572]
       exact ⟨rfl, N572⟩
     ·
      obtain ⟨cq576, kq576, q576a, q576b, q576c⟩ := isOf hZ e572 E553_568
      obtain ⟨_, _, ⟨T576, L576, k576, n576⟩, -, X576, ⟨Lc576, hQ576, l576, y576, z576⟩, st576⟩ := X572.virtualBack hx (y := y11) (z := y11) hown (mvT hZ (ow hw 62 rfl)) (mvT hZ (ow hw 63 rfl)) (notFace_of_selects (args := #[]) (mvT hZ (ow hw 65 rfl))) (mvT hZ (ow hw 65 rfl)) (mvT hZ (ow hw 64 rfl)) (by decide) (backOf (W := 0) (rm11_3 l Z ar hw [] b464 b454 b_446 w_EE0 w_DEE1 k_EE0 k_DEE1 wa_479 kw_479 kb_446 (f2 p5 (0 : Int32)) (f2 p5 (1 : Int32)) (f2 p5 (2 : Int32)) x0_553 x1_553 x2_553 xu_553 li_479 m2_553 s2_553 e2_553 k2_553 h0.size ((((0 : Int) + 1) + 1) + 1) T553.heap n0 O553 HW E553_568 u553_1 u553_2 u553_3 u553_4 V553_565 gn464 gn494 u479_12 (Ne.symm ne464_468) (Ne.symm ne498) E553_569 u553_10 u553_11 u553_12 u553_13 gn487 E553_567 u479_11 (Ne.symm u479_13) ne491 (Ne.symm ne464_469) (Ne.symm ne499) (Ne.symm ne492) ne559 ne561 ne557 ne560 ne558 Z0 K553.1 (by omega)) hZ (ow hw 66 rfl) (ow hw 12 rfl) (by decide) (by decide)) q576a q576c (g := (mkF m 262 #[iv p0, iv p1, iv p2, iv p3, iv p4, iv p5, iv (3 : Int32), iv sv, iv kv, rv b_434, rv b_436, rv b_440, rv b_446, rv b454, rv b464, iv (1 : Int32)] [(.ref b_446), (.ref b454), (.ref b464)])) rfl (by rw [hml]; rfl) (Steps.refl _) (argsL := [(.ref b454), (.ref b_446)]) (rest := []) (lenOf pd_12 rfl) rfl (by show 2 * 0 + _ ≤ _; exact Nat.le_of_eq rfl) (hb hby at_262) (fun _ _ => ⟨rfl, e572, (by decide : 11 + 1 ≤ _), (by decide : 52 + 10 ≤ _)⟩)
      dsimp only [Pt.U, Pt.locs, Pt.cells, Pt.slots] at X576 l576 y576 z576 st576 hQ576
      subst l576 y576 z576
      obtain ⟨x0_576, x1_576, x2_576, xu_576, m2_576, s2_576, e2_576, k2_576, ys_576, rfl, N576q, Kq576, u576_0, u576_1, u576_2, u576_3, u576_4, u576_5, u576_6, u576_7, u576_8, u576_9, u576_10, u576_11, u576_12, u576_13, u576_14, u576_15⟩ := hQ576
      have N576 := Fr.app N572 N576q
      have ne577 : b_434 ≠ e2_576 := own_nx u576_15 (V553_562).lt ne554
      have ne578 : b_436 ≠ e2_576 := own_nx u576_15 (V553_563).lt ne555
      have ne579 : b_440 ≠ e2_576 := own_nx u576_15 (V553_564).lt ne556
      have ne580 : b_446 ≠ e2_576 := own_nx u576_15 (V553_565).lt ne557
      have ne581 : b454 ≠ e2_576 := own_nx u576_15 (V553_566).lt ne558
      have ne582 : b464 ≠ e2_576 := own_nx u576_15 (E553_568).lt ne559
      have ne583 : li_479 ≠ e2_576 := own_nx u576_15 (E553_569).lt ne560
      have ne584 : wa_479 ≠ e2_576 := own_nx u576_15 (u553_4).lt ne561
      have V576_585 := V553_562.keep Kq576 (ninS ne464_465 (ninS ne495 (ninS ne488 (own_nys u576_14 ne554))))
      have V576_586 := V553_563.keep Kq576 (ninS ne464_466 (ninS ne496 (ninS ne489 (own_nys u576_14 ne555))))
      have V576_587 := V553_564.keep Kq576 (ninS ne464_467 (ninS ne497 (ninS ne490 (own_nys u576_14 ne556))))
      have V576_588 := V553_565.keep Kq576 (ninS ne464_468 (ninS ne498 (ninS ne491 (own_nys u576_14 ne557))))
      have V576_589 := V553_566.keep Kq576 (ninS ne464_469 (ninS ne499 (ninS ne492 (own_nys u576_14 ne558))))
      have E576_590 := E553_567.keep Kq576
      have E576_591 := E553_568.keep Kq576
      have E576_592 := E553_569.keep Kq576
      have K576 := K553.trans Kq576 (allS (Or.inr sz464) (allS (Or.inr sz494) (allS (Or.inr sz487) (own_ays u576_14))))
      have O576 : Old Z n0 T576.heap := O553.keep Kq576 (allS gn464 (allS gn494 (allS gn487 (own_gys u576_14 Z0))))
      have sr593_0 := own_rw hsv (by have a := own_hv (0 : Int32) p2 p3 p4 p5; have b1 := own_b01 p2 (0 : Int32); have b2 := own_b01 p3 (0 : Int32); have b3 := own_b01 p4 (0 : Int32); omega) se570_0
      have se593_0 : Sat sv.toInt (f12 (0 : Int32) (4 : Int32) p2 p3 p4 p5).toInt x0_576 := by
       have a := own_hv (0 : Int32) p2 p3 p4 p5; have b1 := own_b01 p2 (0 : Int32); have b2 := own_b01 p3 (0 : Int32); have b3 := own_b01 p4 (0 : Int32)
       rw [u576_5, show (f12 (0 : Int32) (4 : Int32) p2 p3 p4 p5).toInt = (f12 (0 : Int32) (3 : Int32) p2 p3 p4 p5).toInt + (f2 p5 (0 : Int32)).toInt from by omega]
       exact own_dc hsv (own_bit _ _) (by omega) se570_0
      have sr593_1 := own_rw hsv (by have a := own_hv (1 : Int32) p2 p3 p4 p5; have b1 := own_b01 p2 (1 : Int32); have b2 := own_b01 p3 (1 : Int32); have b3 := own_b01 p4 (1 : Int32); omega) se570_1
      have se593_1 : Sat sv.toInt (f12 (1 : Int32) (4 : Int32) p2 p3 p4 p5).toInt x1_576 := by
       have a := own_hv (1 : Int32) p2 p3 p4 p5; have b1 := own_b01 p2 (1 : Int32); have b2 := own_b01 p3 (1 : Int32); have b3 := own_b01 p4 (1 : Int32)
       rw [u576_6, show (f12 (1 : Int32) (4 : Int32) p2 p3 p4 p5).toInt = (f12 (1 : Int32) (3 : Int32) p2 p3 p4 p5).toInt + (f2 p5 (1 : Int32)).toInt from by omega]
       exact own_dc hsv (own_bit _ _) (by omega) se570_1
      have sr593_2 := own_rw hsv (by have a := own_hv (2 : Int32) p2 p3 p4 p5; have b1 := own_b01 p2 (2 : Int32); have b2 := own_b01 p3 (2 : Int32); have b3 := own_b01 p4 (2 : Int32); omega) se570_2
      have se593_2 : Sat sv.toInt (f12 (2 : Int32) (4 : Int32) p2 p3 p4 p5).toInt x2_576 := by
       have a := own_hv (2 : Int32) p2 p3 p4 p5; have b1 := own_b01 p2 (2 : Int32); have b2 := own_b01 p3 (2 : Int32); have b3 := own_b01 p4 (2 : Int32)
       rw [u576_7, show (f12 (2 : Int32) (4 : Int32) p2 p3 p4 p5).toInt = (f12 (2 : Int32) (3 : Int32) p2 p3 p4 p5).toInt + (f2 p5 (2 : Int32)).toInt from by omega]
       exact own_dc hsv (own_bit _ _) (by omega) se570_2
      have su593 : xu_576.toInt = ps x0_576 + ps x1_576 + ps x2_576 := by rw [u576_8, u576_5, u576_6, u576_7]; exact own_us3 (own_bit _ _) (own_bit _ _) (own_bit _ _) sr593_0 sr593_1 sr593_2 su570
      obtain ⟨cq594, kq594, q594a, q594b, q594c⟩ := isOf hZ rfl E576_591
      obtain ⟨_, _, ⟨T594, L594, k594, n594⟩, -, X594, ⟨Lc594, hQ594, l594, y594, z594⟩, st594⟩ := X576.virtualBack hx (y := y9) (z := y9) hown (mvT hZ (ow hw 54 rfl)) (mvT hZ (ow hw 55 rfl)) (notFace_of_selects (args := #[]) (mvT hZ (ow hw 57 rfl))) (mvT hZ (ow hw 57 rfl)) (mvT hZ (ow hw 56 rfl)) (by decide) (backOf (W := 0) (rm9 l Z ar hw [] b464 xu_576 T576.heap n0 O576 u576_3) hZ (ow hw 58 rfl) (ow hw 12 rfl) (by decide) (by decide)) q594a q594c (g := (mkF m 272 #[iv p0, iv p1, iv p2, iv p3, iv p4, iv p5, iv (3 : Int32), iv sv, iv kv, rv b_434, rv b_436, rv b_440, rv b_446, rv b454, rv b464, iv (1 : Int32)] [(.ref b464)])) rfl (by rw [hml]; rfl) (Steps.refl _) (argsL := []) (rest := []) (lenOf pd_10 rfl) rfl (by show 2 * 0 + _ ≤ _; exact Nat.le_of_eq rfl) (hb hby at_272) (fun _ _ => ⟨rfl, rfl, (by decide : 12 + 0 ≤ _), (by decide : 62 + 0 ≤ _)⟩)
      dsimp only [Pt.U, Pt.locs, Pt.cells, Pt.slots] at X594 l594 y594 z594 st594 hQ594
      subst l594 y594 z594
      obtain ⟨rfl, N594q, e594⟩ := hQ594
      have N594 := Fr.app N576 N594q
      obtain ⟨_, _, ⟨T595, L595, k595, n595⟩, -, X595, ⟨Lc595, hQ595, l595, y595, z595⟩, st595⟩ := Jvm.LawKit.callS X594 hx (y := y10) hown (mvT hZ (ow hw 59 rfl)) (mvT hZ (ow hw 60 rfl)) (mvT hZ (ow hw 3 rfl)) (mvT hZ (ow hw 61 rfl)) (by decide) (backOf (W := 1) (rm10 l Z ar hw [] (3 : Int32) sv (4 : Int32) p2 p3 p4 p5 T576.heap n0 O576) hZ (ow hw 61 rfl) (ow hw 3 rfl) (by decide) (by decide)) (g := (mkF m 286 #[iv p0, iv p1, iv p2, iv p3, iv p4, iv p5, iv (3 : Int32), iv sv, iv kv, rv b_434, rv b_436, rv b_440, rv b_446, rv b454, rv b464, iv (1 : Int32)] [(.int p5), (.int p4), (.int p3), (.int p2), (.int (4 : Int32)), (.int sv), (.int (3 : Int32)), (.int (f9 xu_576))])) rfl (by rw [hml]; rfl) (argsL := [(.int (3 : Int32)), (.int sv), (.int (4 : Int32)), (.int p2), (.int p3), (.int p4), (.int p5)]) (rest := [(.int (f9 xu_576))]) (lenOf pd_11 rfl) rfl (by show 2 * 0 + _ ≤ _; exact Nat.le_of_eq rfl) (hb hby at_286) (fun _ _ => ⟨rfl, e594, (by decide : 12 + 0 ≤ _), (by decide : 62 + 0 ≤ _)⟩)
      dsimp only [Pt.U, Pt.locs, Pt.cells, Pt.slots] at X595 l595 y595 z595 st595 hQ595
      subst l595 y595 z595
      obtain ⟨rfl, N595q, e595⟩ := hQ595
      have N595 := Fr.app N594 N595q
      have sq596 : (f9 xu_576) = (f10 (3 : Int32) sv (4 : Int32) p2 p3 p4 p5) := own_fin3 hsv su593 se593_0 se593_1 se593_2
      obtain ⟨fs, hr, hrun, hended, hW, hsame⟩ := X595.leave (v := some (.int (1 : Int32))) (fun h => by rw [Bd.returns] at h; cases h)
      subst hS0
      refine ⟨_, _, pre574 _ ?_, hrun, hended, _, _, rfl, ?_, ⟨_, rfl⟩, hW, hsame.mono (by decide) (by decide)⟩
      ·
       refine XS.icmpNo X572.here hx rfl (hb hby at_253) rfl (XT.ii_lt_f hc575) ?_
       show AT p e below T572 m 256 #[iv p0, iv p1, iv p2, iv p3, iv p4, iv p5, iv (3 : Int32), iv sv, iv kv, rv b_434, rv b_436, rv b_440, rv b_446, rv b454, rv b464, iv (1 : Int32)] [] _
       refine XS.aload X572.here hx rfl (hb hby at_256) rfl rfl ?_
       refine XS.aload X572.here hx rfl (hb hby at_258) rfl rfl ?_
       refine XS.aload X572.here hx rfl (hb hby at_260) rfl rfl ?_
       refine st576.trans ?_
       refine XS.iload X576.here hx rfl (hb hby at_265) rfl ?_
       show AT p e below T576 m 267 #[iv p0, iv p1, iv p2, iv p3, iv p4, iv p5, iv (3 : Int32), iv sv, iv kv, rv b_434, rv b_436, rv b_440, rv b_446, rv b454, rv b464, iv (1 : Int32)] [(.int (1 : Int32))] _
       refine XS.ifNo X576.here hx rfl (hb hby at_267) rfl (XT.i0_eq_f ((by decide) : ¬ ((1 : Int32) = (0 : Int32)))) ?_
       refine XS.aload X576.here hx rfl (hb hby at_270) rfl rfl ?_
       refine st594.trans ?_
       refine XS.iload X594.here hx rfl (hb hby at_275) rfl ?_
       refine XS.iload X594.here hx rfl (hb hby at_277) rfl ?_
       refine XS.iconst X594.here hx rfl (hb hby at_279) ?_
       refine XS.iloadN X594.here hx rfl (hb hby at_280) rfl ?_
       refine XS.iloadN X594.here hx rfl (hb hby at_281) rfl ?_
       show AT p e below T594 m 282 #[iv p0, iv p1, iv p2, iv p3, iv p4, iv p5, iv (3 : Int32), iv sv, iv kv, rv b_434, rv b_436, rv b_440, rv b_446, rv b454, rv b464, iv (1 : Int32)] [(.int p3), (.int p2), (.int (4 : Int32)), (.int sv), (.int (3 : Int32)), (.int (f9 xu_576))] _
       refine XS.iload X594.here hx rfl (hb hby at_282) rfl ?_
       refine XS.iload X594.here hx rfl (hb hby at_284) rfl ?_
       refine st595 _ ?_
       show AT p e below T595 m 289 #[iv p0, iv p1, iv p2, iv p3, iv p4, iv p5, iv (3 : Int32), iv sv, iv kv, rv b_434, rv b_436, rv b_440, rv b_446, rv b454, rv b464, iv (1 : Int32)] [(.int (f10 (3 : Int32) sv (4 : Int32) p2 p3 p4 p5)), (.int (f9 xu_576))] _
       refine XS.icmpNo X595.here hx rfl (hb hby at_289) rfl (XT.ii_ne_f (sq596 : (f9 xu_576) = (f10 (3 : Int32) sv (4 : Int32) p2 p3 p4 p5))) ?_
       refine XS.iconst X595.here hx rfl (hb hby at_292) ?_
       refine XS.goto X595.here hx rfl (pc0 := 293) (pc' := 297) rfl (hb hby at_293) (by decide) (by decide) ?_
       refine XS.istore X595.here hx rfl (hb hby at_297) rfl (l' := #[iv p0, iv p1, iv p2, iv p3, iv p4, iv p5, iv (3 : Int32), iv sv, iv kv, rv b_434, rv b_436, rv b_440, rv b_446, rv b454, rv b464, iv (1 : Int32)]) rfl ?_
       refine XS.iload X595.here hx rfl (hb hby at_299) rfl ?_
       exact retN X595 hx (t := .boolean) Bd.returns (by simp) (hb hby at_301) hr
      ·
       show Q0 Z p0 p1 p2 p3 p4 p5 w_EE0 w_DEE1 k_EE0 k_DEE1 h0 n0 _ T595.heap _
       rw [e595]
       exact ⟨rfl, N595⟩

set_option maxRecDepth 65536 in
set_option maxHeartbeats 40000000 in
theorem comes_1 {Post : Tables → Env → Array Value → State → Outcome → State → Prop} (hpost : ∀ tb e args s v u, (limb_1_1.after args s (.returned v) u = true ∧ limb_1_2.after args s (.returned v) u = true ∧ True) → FrameEnd s (.returned v) u (Jvm.fieldLocs frame_1_writes args s ++ Jvm.arrayLocs frame_1_arrays args s ++ Jvm.staticLocs frame_1_statics s) 32 128 → Post tb e args s (.returned v) u) :
    ArmFor flags0 classFile x code maxLocals ret World_1 tables_1 room_1 Calls_1 rest_1 Pre_1 Post := by
  intro l hfl _ _ p e ha hc hk s m args below hf hA hF happ hP
  obtain ⟨hcalls, hrest, hpre⟩ := hP
  obtain ⟨-, -, -, hnamed, -, -, -, hat⟩ := (Spec.applies_iff hf).mp happ
  obtain ⟨hg, hn⟩ := and_e (Cond.before_iff.mp (show (Jvm.Cond.and given_1 narrow_1).before args s = true from hpre))
  obtain ⟨hg1, hg2⟩ := and_e hg
  obtain ⟨hg21, hg22⟩ := and_e hg2
  obtain ⟨hg221, hg222⟩ := and_e hg22
  obtain ⟨hg2221, hg2222⟩ := and_e hg222
  obtain ⟨hg22221, hg22222⟩ := and_e hg2222
  obtain ⟨hg222221, hg222222⟩ := and_e hg22222
  obtain ⟨w0, w1, w2, w3, w4, w5, rfl⟩ : ∃ w0 w1 w2 w3 w4 w5 : Value, args = #[w0, w1, w2, w3, w4, w5] := by
    have hs : args.size = 6 := by simpa [Cond.value, given_1] using hg1
    obtain ⟨L⟩ := args
    match L, hs with
    | [w0, w1, w2, w3, w4, w5], _ => exact ⟨w0, w1, w2, w3, w4, w5, rfl⟩
  have hw := fun d (hd : d ∈ tables_1) => atoms_spec (ws := Jvm.Cond.code x code maxLocals ret :: tables_1) hat d (List.mem_cons_of_mem _ hd)
  have hfit : Fit s := fun {y c} hc i hi => by
    obtain ⟨ha, rfl⟩ := Array.getElem?_eq_some_iff.mp hc
    have q := List.all_eq_true.mp ((Array.all_eq_true_iff_forall_mem.mp hF) _ (Array.getElem_mem ha)) i (List.mem_range.mpr hi)
    simpa [Array.getElem?_eq_getElem hi] using q
  obtain ⟨hsets, hown0⟩ := atoms_of _ (rest_1_c_eq ▸ (show rest_1_c.before _ s = true from hrest))
  have hr0 := Cond.before_iff.mp hown0
  obtain ⟨i0, ei0⟩ := is_v hg21
  obtain rfl : w0 = (.int i0) := Option.some.inj ei0
  obtain ⟨i1, ei1⟩ := is_v hg221
  obtain rfl : w1 = (.int i1) := Option.some.inj ei1
  obtain ⟨i2, ei2⟩ := is_v hg2221
  obtain rfl : w2 = (.int i2) := Option.some.inj ei2
  obtain ⟨i3, ei3⟩ := is_v hg22221
  obtain rfl : w3 = (.int i3) := Option.some.inj ei3
  obtain ⟨i4, ei4⟩ := is_v hg222221
  obtain rfl : w4 = (.int i4) := Option.some.inj ei4
  obtain ⟨i5, ei5⟩ := is_v hg222222
  obtain rfl : w5 = (.int i5) := Option.some.inj ei5
  have hs3 := Cond.before_iff.mp (hsets _ (List.mem_of_getElem? (i := 3) rfl))
  have hs4 := Cond.before_iff.mp (hsets _ (List.mem_of_getElem? (i := 4) rfl))
  have hs5 := Cond.before_iff.mp (hsets _ (List.mem_of_getElem? (i := 5) rfl))
  have hs6 := Cond.before_iff.mp (hsets _ (List.mem_of_getElem? (i := 6) rfl))
  have hs7 := Cond.before_iff.mp (hsets _ (List.mem_of_getElem? (i := 7) rfl))
  have hs8 := Cond.before_iff.mp (hsets _ (List.mem_of_getElem? (i := 8) rfl))
  obtain ⟨w_EE0, ev_w_EE0⟩ := arr_v hs3
  have S_EMPTY_ELEMENTDATA : Sta s s.heap "java/util/ArrayList" "EMPTY_ELEMENTDATA" "[Ljava/lang/Object;" (.ref w_EE0) := Sta.start ev_w_EE0 (Or.inl (hsets _ (List.mem_of_getElem? (i := 1) rfl)))
  have E_EE0 : Exa s s.heap w_EE0 "[Ljava/lang/Object;" := Exa.start ev_w_EE0 hs4
  obtain ⟨w_DEE1, ev_w_DEE1⟩ := arr_v hs6
  have S_DEFAULTCAPACITY_EMPTY_ELEMENTDATA : Sta s s.heap "java/util/ArrayList" "DEFAULTCAPACITY_EMPTY_ELEMENTDATA" "[Ljava/lang/Object;" (.ref w_DEE1) := Sta.start ev_w_DEE1 (Or.inr ⟨(ow hw 21 rfl), (hsets _ (List.mem_of_getElem? (i := 2) rfl))⟩)
  have E_DEE1 : Exa s s.heap w_DEE1 "[Ljava/lang/Object;" := Exa.start ev_w_DEE1 hs7
  obtain ⟨cl_w_EE0, Ar_w_EE0⟩ := Arr.start ev_w_EE0 hs3
  have lv_w_EE0 := own_eqInt hs5
  obtain ⟨lq_w_EE0, le_w_EE0⟩ := own_len ev_w_EE0 Ar_w_EE0 lv_w_EE0
  obtain ⟨k_EE0, hk_w_EE0⟩ : ∃ z, z = cl_w_EE0.cls := ⟨_, rfl⟩
  have V_EE0 : Arv s s.heap w_EE0 k_EE0 (.object "java/lang/Object") (0 : Int32) [] .null := by rw [hk_w_EE0]; exact Arv.start hfit Ar_w_EE0 lq_w_EE0 le_w_EE0 (by decide) rfl trivial
  obtain ⟨cl_w_DEE1, Ar_w_DEE1⟩ := Arr.start ev_w_DEE1 hs6
  have lv_w_DEE1 := own_eqInt hs8
  obtain ⟨lq_w_DEE1, le_w_DEE1⟩ := own_len ev_w_DEE1 Ar_w_DEE1 lv_w_DEE1
  obtain ⟨k_DEE1, hk_w_DEE1⟩ : ∃ z, z = cl_w_DEE1.cls := ⟨_, rfl⟩
  have V_DEE1 : Arv s s.heap w_DEE1 k_DEE1 (.object "java/lang/Object") (0 : Int32) [] .null := by rw [hk_w_DEE1]; exact Arv.start hfit Ar_w_DEE1 lq_w_DEE1 le_w_DEE1 (by decide) rfl trivial
  have HW : Wd s w_EE0 w_DEE1 k_EE0 k_DEE1 := ⟨S_EMPTY_ELEMENTDATA, E_EE0, S_DEFAULTCAPACITY_EMPTY_ELEMENTDATA, E_DEE1, V_EE0, V_DEE1⟩
  obtain ⟨n, o, h1, h2, h3, _, L, rfl, ⟨rfl, N⟩, hq⟩ := rm0 l s _ hw tables_1 i0 i1 i2 i3 i4 i5 w_EE0 w_DEE1 k_EE0 k_DEE1 s.heap s.heap.size (Old.start s) HW p e ha hc hk s m _ below hf ((Spec.applies_iff_loose hf).mp happ).1 ⟨rfl, State.Warmed39.refl s, rfl⟩ trivial
  refine ⟨n, _, h1, h2, h3, hpost _ _ _ _ _ _ ⟨Cond.after_iff.mpr rfl, Cond.after_iff.mpr (eq_i res_at (Term.int_eval (1)) rfl), trivial⟩ ⟨hq.1, hq.2.1, (hq.2.2.sift fun y hy => Or.inr (N y hy)).mono (by decide) (by decide)⟩⟩
theorem main_1_1 : Claimed_1_1 := comes_1 fun _ _ _ _ _ _ h hF => ⟨h.1, hF⟩
theorem main_1_2 : Claimed_1_2 := comes_1 fun _ _ _ _ _ _ h hF => ⟨h.2.1, hF⟩
end Jvm.Pilot.@@N@@
namespace Jvm.Pilot.@@N@@
open Jvm Jvm.ClassFile Sem Op Lib Jvm.Free Jvm.Stand Jvm.Pilot.@@N@@.Jvm.D
/-! MADE BY PROGRAM (witnessworld.py) out of the Statement's table words and the real class files: 22 classes; the members and pool entries that the words name. The judged class is class 1, her method 5. -/
namespace start1
open Jvm.ClassFile
def u (s : String) : CpInfo := .utf8 (stringToUtf16 s)
/-- a pool by its gaps: so many unusable entries, then the entry; so many at the end -/
def gap : Nat → List CpInfo → List CpInfo
  | 0, r => r
  | n + 1, r => .unusable :: gap n r
def poolList (es : List (Nat × CpInfo)) (last : Nat) : List CpInfo := es.foldr (fun e r => gap e.1 (e.2 :: r)) (gap last [])
def pool (es : List (Nat × CpInfo)) (last : Nat) : Array CpInfo := ⟨poolList es last⟩
def fileOf (pool : Array CpInfo) (this : Nat) (attrs : Array Attribute := #[]) (ms : Array MethodInfo := #[]) (fl : Nat := 33) (sup : Nat := 0) (ifs : Array Nat := #[]) (fds : Array FieldInfo := #[]) : ClassFile where
  minorVersion := 0
  majorVersion := 65
  constantPool := pool
  accessFlags := fl
  thisClass := this
  superClass := sup
  interfaces := ifs
  fields := fds
  methods := ms
  attributes := attrs
def plain (name : String) (sup : Option ClassId) : Class where
  name := name
  kind := .ordinary
  loader := none
  accessFlags := 33
  super := sup
  interfaces := #[]
  cf := none
  fields := #[]
  methods := #[]
  instanceTypes := #[]
  staticTypes := #[]
  resolved := #[]
  callSites := []
  init := .initialized
  statics := none
  mirror := none

def pool0 : Array CpInfo := pool [(5, u "<init>"), (0, u "()V"), (1, .class_ 10), (1, u "java/lang/Object")] 113

def k0c0 : Code := { maxStack := 0, maxLocals := 1, code := object_method_1_code, exceptionTable := #[], attributes := #[] }
def k0m0 : Method := { name := "<init>", desc := "()V", sig := { parameters := [], returnType := none }, accessFlags := 1, code := some k0c0 }
/-- java/lang/Object -/
def k0 : Class := { plain "java/lang/Object" none with
  accessFlags := 33
  interfaces := #[]
  cf := some (fileOf pool0 8 #[] #[{ accessFlags := 1, nameIndex := 5, descriptorIndex := 6, attributes := #[] }] 33 0 #[] #[])
  fields := #[]
  methods := #[k0m0]
  instanceTypes := #[]
  staticTypes := #[]
  resolved := Array.replicate 124 none
  statics := none }

def pool1 : Array CpInfo := pool [(2, .class_ 4), (1, u "java/lang/Object"), (0, u "<init>"), (0, u "()V"), (0, .methodref 8 9), (0, .class_ 10), (0, .nameAndType 11 12), (0, u "com/example/filters_under_siege/filtersundersiege/CoverIsCompletePinLaw"), (0, u "bit"), (0, u "(II)I"), (0, .methodref 8 14), (0, .nameAndType 15 16), (0, u "hits"), (0, u "(IIIIII)I"), (0, .integer 2147483647), (0, .methodref 8 19), (0, .nameAndType 20 21), (0, u "shared"), (0, u "(I)[Z"), (0, .class_ 23), (0, u "com/example/filters_under_siege/filtersundersiege/Cover"), (0, .methodref 22 25), (0, .nameAndType 5 26), (0, u "(II)V"), (0, .methodref 22 28), (0, .nameAndType 29 30), (0, u "isComplete"), (0, u "()Z"), (0, .methodref 8 32), (0, .nameAndType 33 34), (0, u "expected"), (0, u "(IIIIIII)Z"), (0, .methodref 22 36), (0, .nameAndType 37 38), (0, u "offer"), (0, u "([B[Z)V"), (5, u "law"), (0, u "(IIIIII)Z")] 4

def k1m0 : Method := { name := "<init>", desc := "()V", sig := { parameters := [], returnType := none }, accessFlags := 1, code := none }
def k1c1 : Code := { maxStack := 2, maxLocals := 2, code := method_2_code, exceptionTable := #[], attributes := #[] }
def k1m1 : Method := { name := "bit", desc := "(II)I", sig := { parameters := [.int, .int], returnType := some .int }, accessFlags := 10, code := some k1c1 }
def k1c2 : Code := { maxStack := 3, maxLocals := 7, code := method_3_code, exceptionTable := #[], attributes := #[] }
def k1m2 : Method := { name := "hits", desc := "(IIIIII)I", sig := { parameters := [.int, .int, .int, .int, .int, .int], returnType := some .int }, accessFlags := 10, code := some k1c2 }
def k1c3 : Code := { maxStack := 6, maxLocals := 8, code := method_4_code, exceptionTable := #[], attributes := #[] }
def k1m3 : Method := { name := "expected", desc := "(IIIIIII)Z", sig := { parameters := [.int, .int, .int, .int, .int, .int, .int], returnType := some .boolean }, accessFlags := 10, code := some k1c3 }
def k1c4 : Code := { maxStack := 4, maxLocals := 2, code := method_5_code, exceptionTable := #[], attributes := #[] }
def k1m4 : Method := { name := "shared", desc := "(I)[Z", sig := { parameters := [.int], returnType := some (.array .boolean) }, accessFlags := 10, code := some k1c4 }
def k1c5 : Code := { maxStack := 8, maxLocals := 16, code := code, exceptionTable := #[], attributes := #[] }
def k1m5 : Method := { name := "law", desc := "(IIIIII)Z", sig := { parameters := [.int, .int, .int, .int, .int, .int], returnType := some .boolean }, accessFlags := 9, code := some k1c5 }
/-- com/example/filters_under_siege/filtersundersiege/CoverIsCompletePinLaw -/
def k1 : Class := { plain "com/example/filters_under_siege/filtersundersiege/CoverIsCompletePinLaw" (some 0) with
  accessFlags := 49
  interfaces := #[]
  cf := some (fileOf pool1 8 #[] #[{ accessFlags := 1, nameIndex := 5, descriptorIndex := 6, attributes := #[] }, { accessFlags := 10, nameIndex := 11, descriptorIndex := 12, attributes := #[] }, { accessFlags := 10, nameIndex := 15, descriptorIndex := 16, attributes := #[] }, { accessFlags := 10, nameIndex := 33, descriptorIndex := 34, attributes := #[] }, { accessFlags := 10, nameIndex := 20, descriptorIndex := 21, attributes := #[] }, { accessFlags := 9, nameIndex := 44, descriptorIndex := 45, attributes := #[] }] 49 2 #[] #[])
  fields := #[]
  methods := #[k1m0, k1m1, k1m2, k1m3, k1m4, k1m5]
  instanceTypes := #[]
  staticTypes := #[]
  resolved := Array.replicate 50 none
  statics := none }

def pool2 : Array CpInfo := pool [(1, .methodref 2 3), (0, .class_ 4), (0, .nameAndType 5 6), (0, u "java/lang/Object"), (0, u "<init>"), (0, u "()V"), (0, .class_ 8), (0, u "java/util/ArrayList"), (0, .methodref 7 3), (0, .fieldref 11 12), (0, .class_ 13), (0, .nameAndType 14 15), (0, u "com/example/filters_under_siege/filtersundersiege/Cover"), (0, u "elements"), (0, u "Ljava/util/List;"), (0, .fieldref 11 17), (0, .nameAndType 18 19), (0, u "wanted"), (0, u "[I"), (0, .methodref 21 22), (0, .class_ 23), (0, .nameAndType 24 25), (0, u "java/util/Arrays"), (0, u "fill"), (0, u "([II)V"), (0, .fieldref 11 27), (0, .nameAndType 28 29), (0, u "uncovered"), (0, u "I"), (18, u "(II)V"), (2, u "isComplete"), (0, u "()Z"), (20, u "offer"), (0, u "([B[Z)V"), (3, .interfaceMethodref 79 80), (0, .class_ 81), (0, .nameAndType 82 83), (0, u "java/util/List"), (0, u "add"), (0, u "(Ljava/lang/Object;)Z")] 16

def k2c0 : Code := { maxStack := 3, maxLocals := 3, code := prog_13_method_1_code, exceptionTable := #[], attributes := #[] }
def k2m0 : Method := { name := "<init>", desc := "(II)V", sig := { parameters := [.int, .int], returnType := none }, accessFlags := 0, code := some k2c0 }
def k2c1 : Code := { maxStack := 4, maxLocals := 5, code := prog_13_method_3_code, exceptionTable := #[], attributes := #[] }
def k2m1 : Method := { name := "offer", desc := "([B[Z)V", sig := { parameters := [(.array .byte), (.array .boolean)], returnType := none }, accessFlags := 0, code := some k2c1 }
def k2c2 : Code := { maxStack := 1, maxLocals := 1, code := prog_13_method_4_code, exceptionTable := #[], attributes := #[] }
def k2m2 : Method := { name := "isComplete", desc := "()Z", sig := { parameters := [], returnType := some .boolean }, accessFlags := 0, code := some k2c2 }
/-- com/example/filters_under_siege/filtersundersiege/Cover -/
def k2 : Class := { plain "com/example/filters_under_siege/filtersundersiege/Cover" (some 0) with
  accessFlags := 48
  interfaces := #[]
  cf := some (fileOf pool2 11 #[] #[{ accessFlags := 0, nameIndex := 5, descriptorIndex := 48, attributes := #[] }, { accessFlags := 0, nameIndex := 73, descriptorIndex := 74, attributes := #[] }, { accessFlags := 0, nameIndex := 51, descriptorIndex := 52, attributes := #[] }] 48 2 #[] #[{ accessFlags := 18, nameIndex := 18, descriptorIndex := 19, attributes := #[] }, { accessFlags := 2, nameIndex := 28, descriptorIndex := 29, attributes := #[] }, { accessFlags := 18, nameIndex := 14, descriptorIndex := 15, attributes := #[] }])
  fields := #[{ name := "wanted", type := (.array .int), accessFlags := 18, slot := 0, constantValue := 0 }, { name := "uncovered", type := .int, accessFlags := 2, slot := 1, constantValue := 0 }, { name := "elements", type := (.object "java/util/List"), accessFlags := 18, slot := 2, constantValue := 0 }]
  methods := #[k2m0, k2m1, k2m2]
  instanceTypes := #[(.array .int), .int, (.object "java/util/List")]
  staticTypes := #[]
  resolved := Array.replicate 100 none
  statics := none }

def pool3 : Array CpInfo := pool [(8, .class_ 10), (1, u "java/lang/Iterable"), (24, .class_ 36), (0, u "java/lang/Object")] 25

/-- java/lang/Iterable -/
def k3 : Class := { plain "java/lang/Iterable" (some 0) with
  accessFlags := 1537
  interfaces := #[]
  cf := some (fileOf pool3 8 #[] #[] 1537 35 #[] #[])
  fields := #[]
  methods := #[]
  instanceTypes := #[]
  staticTypes := #[]
  resolved := Array.replicate 62 none
  statics := none }

def pool4 : Array CpInfo := pool [(10, .class_ 12), (1, u "java/util/Collection"), (47, .class_ 61), (0, u "java/lang/Object"), (0, .class_ 63), (0, u "java/lang/Iterable")] 51

/-- java/util/Collection -/
def k4 : Class := { plain "java/util/Collection" (some 0) with
  accessFlags := 1537
  interfaces := #[3]
  cf := some (fileOf pool4 10 #[] #[] 1537 60 #[62] #[])
  fields := #[]
  methods := #[]
  instanceTypes := #[]
  staticTypes := #[]
  resolved := Array.replicate 115 none
  statics := none }

def pool5 : Array CpInfo := pool [(1, .methodref 2 3), (0, .class_ 4), (0, .nameAndType 5 6), (0, u "java/lang/Object"), (0, u "<init>"), (0, u "()V"), (1, .class_ 10), (1, u "java/util/AbstractCollection"), (66, .class_ 78), (0, u "java/util/Collection")] 81

def k5c0 : Code := { maxStack := 1, maxLocals := 1, code := jdk_22_method_1_code, exceptionTable := #[], attributes := #[] }
def k5m0 : Method := { name := "<init>", desc := "()V", sig := { parameters := [], returnType := none }, accessFlags := 4, code := some k5c0 }
/-- java/util/AbstractCollection -/
def k5 : Class := { plain "java/util/AbstractCollection" (some 0) with
  accessFlags := 1057
  interfaces := #[4]
  cf := some (fileOf pool5 8 #[] #[{ accessFlags := 4, nameIndex := 5, descriptorIndex := 6, attributes := #[] }] 1057 2 #[77] #[])
  fields := #[]
  methods := #[k5m0]
  instanceTypes := #[]
  staticTypes := #[]
  resolved := Array.replicate 160 none
  statics := none }

def pool6 : Array CpInfo := pool [(8, .class_ 10), (1, u "java/util/SequencedCollection"), (15, .class_ 27), (0, u "java/lang/Object"), (0, .class_ 29), (0, u "java/util/Collection")] 27

/-- java/util/SequencedCollection -/
def k6 : Class := { plain "java/util/SequencedCollection" (some 0) with
  accessFlags := 1537
  interfaces := #[4]
  cf := some (fileOf pool6 8 #[] #[] 1537 26 #[28] #[])
  fields := #[]
  methods := #[]
  instanceTypes := #[]
  staticTypes := #[]
  resolved := Array.replicate 57 none
  statics := none }

def pool7 : Array CpInfo := pool [(8, .class_ 10), (1, u "java/util/List"), (49, u "add"), (3, u "(Ljava/lang/Object;)Z"), (38, .class_ 104), (0, u "java/lang/Object"), (15, .class_ 121), (0, u "java/util/SequencedCollection")] 129

def k7m0 : Method := { name := "add", desc := "(Ljava/lang/Object;)Z", sig := { parameters := [(.object "java/lang/Object")], returnType := some .boolean }, accessFlags := 1025, code := none }
/-- java/util/List -/
def k7 : Class := { plain "java/util/List" (some 0) with
  accessFlags := 1537
  interfaces := #[6]
  cf := some (fileOf pool7 8 #[] #[{ accessFlags := 1025, nameIndex := 60, descriptorIndex := 64, attributes := #[] }] 1537 103 #[120] #[])
  fields := #[]
  methods := #[k7m0]
  instanceTypes := #[]
  staticTypes := #[]
  resolved := Array.replicate 251 none
  statics := none }

def pool8 : Array CpInfo := pool [(1, .methodref 2 3), (0, .class_ 4), (0, .nameAndType 5 6), (0, u "java/util/AbstractCollection"), (0, u "<init>"), (0, u "()V"), (0, .fieldref 8 9), (0, .class_ 10), (0, .nameAndType 11 12), (0, u "java/util/AbstractList"), (0, u "modCount"), (0, u "I"), (64, .class_ 78), (0, u "java/util/AbstractList$Itr"), (3, .class_ 83), (0, u "java/util/AbstractList$ListItr"), (9, .class_ 94), (0, u "java/util/AbstractList$RandomAccessSubList"), (3, .class_ 99), (0, u "java/util/AbstractList$SubList"), (33, .class_ 134), (0, u "java/util/List"), (73, .class_ 209), (0, u "java/util/AbstractList$SubList$1"), (0, .class_ 211), (0, u "java/util/AbstractList$RandomAccessSpliterator")] 6

def k8c0 : Code := { maxStack := 2, maxLocals := 1, code := jdk_39_method_1_code, exceptionTable := #[], attributes := #[] }
def k8m0 : Method := { name := "<init>", desc := "()V", sig := { parameters := [], returnType := none }, accessFlags := 4, code := some k8c0 }
/-- java/util/AbstractList -/
def k8 : Class := { plain "java/util/AbstractList" (some 5) with
  accessFlags := 1057
  interfaces := #[7]
  cf := some (fileOf pool8 8 #[.nestMembers #[93, 98, 208, 210, 82, 77]] #[{ accessFlags := 4, nameIndex := 5, descriptorIndex := 6, attributes := #[] }] 1057 2 #[133] #[{ accessFlags := 132, nameIndex := 11, descriptorIndex := 12, attributes := #[] }])
  fields := #[{ name := "modCount", type := .int, accessFlags := 132, slot := 0, constantValue := 0 }]
  methods := #[k8m0]
  instanceTypes := #[.int]
  staticTypes := #[]
  resolved := Array.replicate 218 none
  statics := none }

def pool9 : Array CpInfo := pool [(1, .class_ 2), (0, u "java/util/RandomAccess"), (0, .class_ 4), (0, u "java/lang/Object")] 2

/-- java/util/RandomAccess -/
def k9 : Class := { plain "java/util/RandomAccess" (some 0) with
  accessFlags := 1537
  interfaces := #[]
  cf := some (fileOf pool9 1 #[] #[] 1537 3 #[] #[])
  fields := #[]
  methods := #[]
  instanceTypes := #[]
  staticTypes := #[]
  resolved := Array.replicate 7 none
  statics := none }

def pool10 : Array CpInfo := pool [(1, .class_ 2), (0, u "java/lang/Cloneable"), (0, .class_ 4), (0, u "java/lang/Object")] 2

/-- java/lang/Cloneable -/
def k10 : Class := { plain "java/lang/Cloneable" (some 0) with
  accessFlags := 1537
  interfaces := #[]
  cf := some (fileOf pool10 1 #[] #[] 1537 3 #[] #[])
  fields := #[]
  methods := #[]
  instanceTypes := #[]
  staticTypes := #[]
  resolved := Array.replicate 7 none
  statics := none }

def pool11 : Array CpInfo := pool [(1, .class_ 2), (0, u "java/io/Serializable"), (0, .class_ 4), (0, u "java/lang/Object")] 2

/-- java/io/Serializable -/
def k11 : Class := { plain "java/io/Serializable" (some 0) with
  accessFlags := 1537
  interfaces := #[]
  cf := some (fileOf pool11 1 #[] #[] 1537 3 #[] #[])
  fields := #[]
  methods := #[]
  instanceTypes := #[]
  staticTypes := #[]
  resolved := Array.replicate 7 none
  statics := none }

def pool12 : Array CpInfo := pool [(1, .methodref 2 3), (0, .class_ 4), (0, .nameAndType 5 6), (0, u "java/util/AbstractList"), (0, u "<init>"), (0, u "()V"), (0, .class_ 8), (0, u "java/lang/Object"), (0, .fieldref 10 11), (0, .class_ 12), (0, .nameAndType 13 14), (0, u "java/util/ArrayList"), (0, u "elementData"), (0, u "[Ljava/lang/Object;"), (2, u "EMPTY_ELEMENTDATA"), (21, .fieldref 10 40), (0, .nameAndType 41 14), (0, u "DEFAULTCAPACITY_EMPTY_ELEMENTDATA"), (5, u "()[Ljava/lang/Object;"), (0, .fieldref 10 49), (0, .nameAndType 50 51), (0, u "size"), (0, u "I"), (11, .fieldref 10 64), (0, .nameAndType 65 51), (0, u "modCount"), (3, .methodref 10 70), (0, .nameAndType 71 72), (0, u "grow"), (0, u "(I)[Ljava/lang/Object;"), (6, .methodref 80 81), (0, .class_ 82), (0, .nameAndType 83 84), (0, u "java/lang/Math"), (0, u "max"), (0, u "(II)I"), (11, u "(Ljava/lang/Object;)Z"), (32, .methodref 10 130), (0, .nameAndType 71 47), (0, .methodref 10 132), (0, .nameAndType 133 134), (0, u "add"), (0, u "(Ljava/lang/Object;[Ljava/lang/Object;I)V"), (13, .class_ 149), (0, u "java/util/List"), (112, .class_ 263), (0, u "java/util/ArrayList$ListItr"), (3, .class_ 268), (0, u "java/util/ArrayList$Itr"), (7, .class_ 277), (0, u "java/util/ArrayList$SubList"), (12, .class_ 291), (0, u "java/util/ArrayList$ArrayListSpliterator"), (37, .class_ 330), (0, u "java/util/RandomAccess"), (0, .class_ 332), (0, u "java/lang/Cloneable"), (0, .class_ 334), (0, u "java/io/Serializable"), (0, u "serialVersionUID"), (0, u "J"), (3, u "DEFAULT_CAPACITY"), (159, .class_ 501), (0, u "java/util/ArrayList$SubList$2"), (0, .class_ 503), (0, u "java/util/ArrayList$SubList$1")] 5

def k12c0 : Code := { maxStack := 2, maxLocals := 1, code := jdk_38_method_2_code, exceptionTable := #[], attributes := #[] }
def k12m0 : Method := { name := "<init>", desc := "()V", sig := { parameters := [], returnType := none }, accessFlags := 1, code := some k12c0 }
def k12c1 : Code := { maxStack := 4, maxLocals := 4, code := jdk_38_method_6_code, exceptionTable := #[], attributes := #[] }
def k12m1 : Method := { name := "grow", desc := "(I)[Ljava/lang/Object;", sig := { parameters := [.int], returnType := some (.array (.object "java/lang/Object")) }, accessFlags := 2, code := some k12c1 }
def k12c2 : Code := { maxStack := 3, maxLocals := 1, code := jdk_38_method_7_code, exceptionTable := #[], attributes := #[] }
def k12m2 : Method := { name := "grow", desc := "()[Ljava/lang/Object;", sig := { parameters := [], returnType := some (.array (.object "java/lang/Object")) }, accessFlags := 2, code := some k12c2 }
def k12c3 : Code := { maxStack := 3, maxLocals := 4, code := jdk_38_method_24_code, exceptionTable := #[], attributes := #[] }
def k12m3 : Method := { name := "add", desc := "(Ljava/lang/Object;[Ljava/lang/Object;I)V", sig := { parameters := [(.object "java/lang/Object"), (.array (.object "java/lang/Object")), .int], returnType := none }, accessFlags := 2, code := some k12c3 }
def k12c4 : Code := { maxStack := 4, maxLocals := 2, code := jdk_38_method_25_code, exceptionTable := #[], attributes := #[] }
def k12m4 : Method := { name := "add", desc := "(Ljava/lang/Object;)Z", sig := { parameters := [(.object "java/lang/Object")], returnType := some .boolean }, accessFlags := 1, code := some k12c4 }
/-- java/util/ArrayList -/
def k12 : Class := { plain "java/util/ArrayList" (some 8) with
  accessFlags := 33
  interfaces := #[7, 9, 10, 11]
  cf := some (fileOf pool12 10 #[.nestMembers #[290, 276, 500, 502, 262, 267]] #[{ accessFlags := 1, nameIndex := 5, descriptorIndex := 6, attributes := #[] }, { accessFlags := 2, nameIndex := 71, descriptorIndex := 72, attributes := #[] }, { accessFlags := 2, nameIndex := 71, descriptorIndex := 47, attributes := #[] }, { accessFlags := 2, nameIndex := 133, descriptorIndex := 134, attributes := #[] }, { accessFlags := 1, nameIndex := 133, descriptorIndex := 96, attributes := #[] }] 33 2 #[148, 329, 331, 333] #[{ accessFlags := 26, nameIndex := 335, descriptorIndex := 336, attributes := #[] }, { accessFlags := 26, nameIndex := 340, descriptorIndex := 51, attributes := #[] }, { accessFlags := 26, nameIndex := 17, descriptorIndex := 14, attributes := #[] }, { accessFlags := 26, nameIndex := 41, descriptorIndex := 14, attributes := #[] }, { accessFlags := 128, nameIndex := 13, descriptorIndex := 14, attributes := #[] }, { accessFlags := 2, nameIndex := 50, descriptorIndex := 51, attributes := #[] }])
  fields := #[{ name := "serialVersionUID", type := .long, accessFlags := 26, slot := 0, constantValue := 0 }, { name := "DEFAULT_CAPACITY", type := .int, accessFlags := 26, slot := 1, constantValue := 0 }, { name := "EMPTY_ELEMENTDATA", type := (.array (.object "java/lang/Object")), accessFlags := 26, slot := 2, constantValue := 0 }, { name := "DEFAULTCAPACITY_EMPTY_ELEMENTDATA", type := (.array (.object "java/lang/Object")), accessFlags := 26, slot := 3, constantValue := 0 }, { name := "elementData", type := (.array (.object "java/lang/Object")), accessFlags := 128, slot := 1, constantValue := 0 }, { name := "size", type := .int, accessFlags := 2, slot := 2, constantValue := 0 }]
  methods := #[k12m0, k12m1, k12m2, k12m3, k12m4]
  instanceTypes := #[.int, (.array (.object "java/lang/Object")), .int]
  staticTypes := #[.long, .int, (.array (.object "java/lang/Object")), (.array (.object "java/lang/Object"))]
  resolved := Array.replicate 509 none
  statics := some 0 }

def pool13 : Array CpInfo := pool [(2, .class_ 4), (1, u "java/lang/Object"), (0, u "<init>"), (0, u "()V"), (7, .class_ 16), (1, u "java/util/Arrays"), (57, .class_ 76), (1, u "java/util/Arrays$NaturalOrder"), (36, .class_ 115), (1, u "java/util/Arrays$LegacyMergeSort"), (1, u "Z"), (257, .class_ 376), (0, u "java/util/Arrays$ArrayList"), (68, u "$assertionsDisabled"), (269, u "MIN_ARRAY_SORT_GRAN"), (0, u "I"), (2, u "INSERTIONSORT_THRESHOLD"), (120, u "fill"), (4, u "([II)V"), (129, .class_ 976), (0, u "java/util/Arrays$ArrayItr")] 52

def k13m0 : Method := { name := "<init>", desc := "()V", sig := { parameters := [], returnType := none }, accessFlags := 2, code := none }
def k13c1 : Code := { maxStack := 3, maxLocals := 4, code := jdk_65_method_103_code, exceptionTable := #[], attributes := #[] }
def k13m1 : Method := { name := "fill", desc := "([II)V", sig := { parameters := [(.array .int), .int], returnType := none }, accessFlags := 9, code := some k13c1 }
/-- java/util/Arrays -/
def k13 : Class := { plain "java/util/Arrays" (some 0) with
  accessFlags := 49
  interfaces := #[]
  cf := some (fileOf pool13 14 #[.nestMembers #[975, 375, 113, 74]] #[{ accessFlags := 2, nameIndex := 5, descriptorIndex := 6, attributes := #[] }, { accessFlags := 9, nameIndex := 840, descriptorIndex := 845, attributes := #[] }] 49 2 #[] #[{ accessFlags := 26, nameIndex := 715, descriptorIndex := 716, attributes := #[] }, { accessFlags := 26, nameIndex := 719, descriptorIndex := 716, attributes := #[] }, { accessFlags := 4120, nameIndex := 445, descriptorIndex := 117, attributes := #[] }])
  fields := #[{ name := "MIN_ARRAY_SORT_GRAN", type := .int, accessFlags := 26, slot := 0, constantValue := 0 }, { name := "INSERTIONSORT_THRESHOLD", type := .int, accessFlags := 26, slot := 1, constantValue := 0 }, { name := "$assertionsDisabled", type := .boolean, accessFlags := 4120, slot := 2, constantValue := 0 }]
  methods := #[k13m0, k13m1]
  instanceTypes := #[]
  staticTypes := #[.int, .int, .boolean]
  resolved := Array.replicate 1029 none
  statics := none }

def pool14 : Array CpInfo := pool [(1, .class_ 2), (0, u "java/lang/Math"), (1, .class_ 6), (1, u "java/lang/Object"), (0, u "<init>"), (0, u "()V"), (89, .class_ 100), (1, u "java/lang/Math$RandomNumberGeneratorHolder"), (71, u "negativeZeroFloatBits"), (0, u "J"), (2, u "negativeZeroDoubleBits"), (21, u "max"), (46, u "$assertionsDisabled"), (0, u "Z"), (88, u "(II)I"), (2, u "twoToTheDoubleScaleDown"), (0, u "D"), (4, u "twoToTheDoubleScaleUp"), (9, u "E"), (3, u "PI"), (2, u "TAU"), (2, u "DEGREES_TO_RADIANS"), (0, u "RADIANS_TO_DEGREES")] 94

def k14m0 : Method := { name := "<init>", desc := "()V", sig := { parameters := [], returnType := none }, accessFlags := 2, code := none }
def k14c1 : Code := { maxStack := 2, maxLocals := 2, code := jdk_29_method_65_code, exceptionTable := #[], attributes := #[] }
def k14m1 : Method := { name := "max", desc := "(II)I", sig := { parameters := [.int, .int], returnType := some .int }, accessFlags := 9, code := some k14c1 }
/-- java/lang/Math -/
def k14 : Class := { plain "java/lang/Math" (some 0) with
  accessFlags := 49
  interfaces := #[]
  cf := some (fileOf pool14 1 #[.nestMembers #[98]] #[{ accessFlags := 2, nameIndex := 7, descriptorIndex := 8, attributes := #[] }, { accessFlags := 9, nameIndex := 198, descriptorIndex := 335, attributes := #[] }] 49 4 #[] #[{ accessFlags := 25, nameIndex := 354, descriptorIndex := 339, attributes := #[] }, { accessFlags := 25, nameIndex := 358, descriptorIndex := 339, attributes := #[] }, { accessFlags := 25, nameIndex := 361, descriptorIndex := 339, attributes := #[] }, { accessFlags := 26, nameIndex := 364, descriptorIndex := 339, attributes := #[] }, { accessFlags := 26, nameIndex := 365, descriptorIndex := 339, attributes := #[] }, { accessFlags := 26, nameIndex := 172, descriptorIndex := 173, attributes := #[] }, { accessFlags := 26, nameIndex := 176, descriptorIndex := 173, attributes := #[] }, { accessFlags := 8, nameIndex := 344, descriptorIndex := 339, attributes := #[] }, { accessFlags := 8, nameIndex := 338, descriptorIndex := 339, attributes := #[] }, { accessFlags := 4120, nameIndex := 245, descriptorIndex := 246, attributes := #[] }])
  fields := #[{ name := "E", type := .double, accessFlags := 25, slot := 0, constantValue := 0 }, { name := "PI", type := .double, accessFlags := 25, slot := 1, constantValue := 0 }, { name := "TAU", type := .double, accessFlags := 25, slot := 2, constantValue := 0 }, { name := "DEGREES_TO_RADIANS", type := .double, accessFlags := 26, slot := 3, constantValue := 0 }, { name := "RADIANS_TO_DEGREES", type := .double, accessFlags := 26, slot := 4, constantValue := 0 }, { name := "negativeZeroFloatBits", type := .long, accessFlags := 26, slot := 5, constantValue := 0 }, { name := "negativeZeroDoubleBits", type := .long, accessFlags := 26, slot := 6, constantValue := 0 }, { name := "twoToTheDoubleScaleUp", type := .double, accessFlags := 8, slot := 7, constantValue := 0 }, { name := "twoToTheDoubleScaleDown", type := .double, accessFlags := 8, slot := 8, constantValue := 0 }, { name := "$assertionsDisabled", type := .boolean, accessFlags := 4120, slot := 9, constantValue := 0 }]
  methods := #[k14m0, k14m1]
  instanceTypes := #[]
  staticTypes := #[.double, .double, .double, .double, .double, .long, .long, .double, .double, .boolean]
  resolved := Array.replicate 460 none
  statics := none }

/-- the primitive boolean -/
def k15 : Class := { plain "boolean" none with kind := .primitive 'Z', accessFlags := 0x411 }
/-- [Z -/
def k16 : Class := { plain "[Z" (some 0) with kind := .array 15 .boolean, interfaces := #[10, 11], accessFlags := 1041 }

/-- the primitive byte -/
def k17 : Class := { plain "byte" none with kind := .primitive 'B', accessFlags := 0x411 }
/-- [B -/
def k18 : Class := { plain "[B" (some 0) with kind := .array 17 .byte, interfaces := #[10, 11], accessFlags := 1041 }

/-- the primitive int -/
def k19 : Class := { plain "int" none with kind := .primitive 'I', accessFlags := 0x411 }
/-- [I -/
def k20 : Class := { plain "[I" (some 0) with kind := .array 19 .int, interfaces := #[10, 11], accessFlags := 1041 }

/-- [Ljava/lang/Object; -/
def k21 : Class := { plain "[Ljava/lang/Object;" (some 0) with kind := .array 0 (.object "java/lang/Object"), interfaces := #[10, 11], accessFlags := 1041 }

def heap : Heap := #[{ cls := 12, slots := #[.long 0, .int 0, .ref 1, .ref 2], vm := .statics 12 },
  { cls := 21, slots := #[], vm := .none },
  { cls := 21, slots := #[], vm := .none }]
def classes : Array Class := #[k0, k1, k2, k3, k4, k5, k6, k7, k8, k9, k10, k11, k12, k13, k14, k15, k16, k17, k18, k19, k20, k21]
def interned : List (Array UInt16 × Addr) := []
def slotsUsed : Nat := 4
def theMethod : MethodId := ⟨1, 5⟩
def args0 : Array Value := #[.int 5, .int 5, .int 5, .int 5, .int 5, .int 5]
def aboutOver (below : List Frame) : State where
  vm := { classes := classes, interned := interned.toArray }
  heap := heap
  slotsUsed := slotsUsed
  threads := #[{ frames := .invoking theMethod args0 :: below }]
def below0 : List Frame := [.native { method := ⟨0, 0⟩, args := #[] }]
def about1 : State := aboutOver below0
def p0 : Program := .bare "" "" ""
def e0 : Env := launch0.env 0 0 0
theorem w_frames : about1.frames = Frame.invoking theMethod args0 :: below0 := rfl
set_option maxRecDepth 65536 in
theorem w_args : argsFit about1.vm theMethod args0 = true := by decide +kernel
set_option maxRecDepth 65536 in
theorem w_heap : heapFits about1 = true := by decide +kernel
set_option maxRecDepth 65536 in
theorem w_runnable : about1.curStatus? = some .runnable := by decide +kernel
set_option maxRecDepth 65536 in
theorem w_alone : about1.alone = true := by decide +kernel
set_option maxRecDepth 65536 in
theorem w_named : about1.methodNamed? x = some theMethod := by decide +kernel
set_option maxRecDepth 65536 in
theorem w_hears : about1.hears theMethod below0 = true := by decide +kernel
set_option maxRecDepth 65536 in
theorem w_ripe : about1.ripe theMethod args0 below0 = true := by decide +kernel
theorem w_running : about1.status = .running := rfl
set_option maxRecDepth 65536 in
theorem w_room : about1.hasRoom e0.platform room_1 = true :=
  launch0.hasRoom_least _ room_1 (by decide +kernel) (by decide +kernel) (by decide +kernel) (by decide +kernel) (by decide +kernel) (by decide +kernel)
theorem allAtoms_all (ts : List Jvm.Cond) (a : Array Jvm.Value) (st : Jvm.State) : (allAtoms ts).before a st = ts.all (fun c => c.before a st) := by
  induction ts with
  | nil => rfl
  | cons c t ih =>
    show (Jvm.Cond.and c (allAtoms t)).before a st = _
    rw [Jvm.Cond.before_and, ih, List.all_cons]
def words1 : List Jvm.Cond := Jvm.Cond.code x code maxLocals ret :: tables_1
/-- a 'code' word, met by the world's own term for the bytes: nothing is compared byte by byte -/
theorem code_word {y : MethodName} {bytes : ByteArray} {mx : Nat} {rt : Option FieldType} {a : Array Value} {s : State} {m : MethodId} {meth : Method} {c : Code} (h1 : s.methodNamed? y = some m) (h2 : s.vm.method? m = some meth) (h3 : meth.code = some c) (h4 : c.code = bytes)
    (h5 : (c.maxLocals == mx && c.exceptionTable.isEmpty && decide (c.maxStack ≤ mostOperands) && decide (meth.sig.returnType = rt) && !meth.locks && decide (parseMethodDescriptor y.desc = some meth.sig)) = true) : (Jvm.Cond.code y bytes mx rt).before a s = true := by
  simp only [Bool.and_eq_true, beq_iff_eq, Bool.not_eq_true', decide_eq_true_eq] at h5
  obtain ⟨⟨⟨⟨⟨g1, g2⟩, g3⟩, g4⟩, g5⟩, g6⟩ := h5
  simp [Cond.before, Cond.holds, Cond.value, h1, h2, h3, h4, g1, g2, g3, g4, g5, g6]
def isCode : Jvm.Cond → Bool
  | .code _ _ _ _ => true
  | _ => false
theorem all_split {L : List Jvm.Cond} {P : Jvm.Cond → Bool} (h1 : L.all (fun c => isCode c || P c) = true) (h2 : ∀ c ∈ L.filter isCode, P c = true) : L.all P = true := by
  refine List.all_eq_true.mpr fun c hc => ?_
  have h := List.all_eq_true.mp h1 c hc
  rcases Bool.eq_false_or_eq_true (isCode c) with hi | hi
  · exact h2 c (List.mem_filter.mpr ⟨hc, hi⟩)
  · simpa [hi] using h
set_option maxRecDepth 65536 in
theorem w_c0 : (Jvm.Cond.code x code maxLocals ret).before args0 about1 = true := code_word (m := ⟨1, 5⟩) (meth := k1m5) (c := k1c5) (by decide +kernel) rfl rfl rfl (by decide +kernel)
set_option maxRecDepth 65536 in
theorem w_c1 : (Jvm.Cond.code ({ cls := "com/example/filters_under_siege/filtersundersiege/CoverIsCompletePinLaw", name := "shared", desc := "(I)[Z" } : Jvm.MethodName) method_5_code (2 : Nat) (Option.some (Jvm.ClassFile.FieldType.array Jvm.ClassFile.FieldType.boolean))).before args0 about1 = true := code_word (m := ⟨1, 4⟩) (meth := k1m4) (c := k1c4) (by decide +kernel) rfl rfl rfl (by decide +kernel)
set_option maxRecDepth 65536 in
theorem w_c2 : (Jvm.Cond.code ({ cls := "com/example/filters_under_siege/filtersundersiege/CoverIsCompletePinLaw", name := "bit", desc := "(II)I" } : Jvm.MethodName) method_2_code (2 : Nat) (Option.some Jvm.ClassFile.FieldType.int)).before args0 about1 = true := code_word (m := ⟨1, 1⟩) (meth := k1m1) (c := k1c1) (by decide +kernel) rfl rfl rfl (by decide +kernel)
set_option maxRecDepth 65536 in
theorem w_c3 : (Jvm.Cond.code ({ cls := "com/example/filters_under_siege/filtersundersiege/Cover", name := "<init>", desc := "(II)V" } : Jvm.MethodName) prog_13_method_1_code (3 : Nat) (Option.none : Option Jvm.ClassFile.FieldType)).before args0 about1 = true := code_word (m := ⟨2, 0⟩) (meth := k2m0) (c := k2c0) (by decide +kernel) rfl rfl rfl (by decide +kernel)
set_option maxRecDepth 65536 in
theorem w_c4 : (Jvm.Cond.code ({ cls := "java/lang/Object", name := "<init>", desc := "()V" } : Jvm.MethodName) object_method_1_code (1 : Nat) (Option.none : Option Jvm.ClassFile.FieldType)).before args0 about1 = true := code_word (m := ⟨0, 0⟩) (meth := k0m0) (c := k0c0) (by decide +kernel) rfl rfl rfl (by decide +kernel)
set_option maxRecDepth 65536 in
theorem w_c5 : (Jvm.Cond.code ({ cls := "java/util/ArrayList", name := "<init>", desc := "()V" } : Jvm.MethodName) jdk_38_method_2_code (1 : Nat) (Option.none : Option Jvm.ClassFile.FieldType)).before args0 about1 = true := code_word (m := ⟨12, 0⟩) (meth := k12m0) (c := k12c0) (by decide +kernel) rfl rfl rfl (by decide +kernel)
set_option maxRecDepth 65536 in
theorem w_c6 : (Jvm.Cond.code ({ cls := "java/util/AbstractList", name := "<init>", desc := "()V" } : Jvm.MethodName) jdk_39_method_1_code (1 : Nat) (Option.none : Option Jvm.ClassFile.FieldType)).before args0 about1 = true := code_word (m := ⟨8, 0⟩) (meth := k8m0) (c := k8c0) (by decide +kernel) rfl rfl rfl (by decide +kernel)
set_option maxRecDepth 65536 in
theorem w_c7 : (Jvm.Cond.code ({ cls := "java/util/AbstractCollection", name := "<init>", desc := "()V" } : Jvm.MethodName) jdk_22_method_1_code (1 : Nat) (Option.none : Option Jvm.ClassFile.FieldType)).before args0 about1 = true := code_word (m := ⟨5, 0⟩) (meth := k5m0) (c := k5c0) (by decide +kernel) rfl rfl rfl (by decide +kernel)
set_option maxRecDepth 65536 in
theorem w_c8 : (Jvm.Cond.code ({ cls := "java/util/Arrays", name := "fill", desc := "([II)V" } : Jvm.MethodName) jdk_65_method_103_code (4 : Nat) (Option.none : Option Jvm.ClassFile.FieldType)).before args0 about1 = true := code_word (m := ⟨13, 1⟩) (meth := k13m1) (c := k13c1) (by decide +kernel) rfl rfl rfl (by decide +kernel)
set_option maxRecDepth 65536 in
theorem w_c9 : (Jvm.Cond.code ({ cls := "com/example/filters_under_siege/filtersundersiege/Cover", name := "isComplete", desc := "()Z" } : Jvm.MethodName) prog_13_method_4_code (1 : Nat) (Option.some Jvm.ClassFile.FieldType.boolean)).before args0 about1 = true := code_word (m := ⟨2, 2⟩) (meth := k2m2) (c := k2c2) (by decide +kernel) rfl rfl rfl (by decide +kernel)
set_option maxRecDepth 65536 in
theorem w_c10 : (Jvm.Cond.code ({ cls := "com/example/filters_under_siege/filtersundersiege/CoverIsCompletePinLaw", name := "expected", desc := "(IIIIIII)Z" } : Jvm.MethodName) method_4_code (8 : Nat) (Option.some Jvm.ClassFile.FieldType.boolean)).before args0 about1 = true := code_word (m := ⟨1, 3⟩) (meth := k1m3) (c := k1c3) (by decide +kernel) rfl rfl rfl (by decide +kernel)
set_option maxRecDepth 65536 in
theorem w_c11 : (Jvm.Cond.code ({ cls := "com/example/filters_under_siege/filtersundersiege/Cover", name := "offer", desc := "([B[Z)V" } : Jvm.MethodName) prog_13_method_3_code (5 : Nat) (Option.none : Option Jvm.ClassFile.FieldType)).before args0 about1 = true := code_word (m := ⟨2, 1⟩) (meth := k2m1) (c := k2c1) (by decide +kernel) rfl rfl rfl (by decide +kernel)
set_option maxRecDepth 65536 in
theorem w_c12 : (Jvm.Cond.code ({ cls := "com/example/filters_under_siege/filtersundersiege/CoverIsCompletePinLaw", name := "hits", desc := "(IIIIII)I" } : Jvm.MethodName) method_3_code (7 : Nat) (Option.some Jvm.ClassFile.FieldType.int)).before args0 about1 = true := code_word (m := ⟨1, 2⟩) (meth := k1m2) (c := k1c2) (by decide +kernel) rfl rfl rfl (by decide +kernel)
set_option maxRecDepth 65536 in
theorem w_c13 : (Jvm.Cond.code ({ cls := "java/util/ArrayList", name := "add", desc := "(Ljava/lang/Object;)Z" } : Jvm.MethodName) jdk_38_method_25_code (2 : Nat) (Option.some Jvm.ClassFile.FieldType.boolean)).before args0 about1 = true := code_word (m := ⟨12, 4⟩) (meth := k12m4) (c := k12c4) (by decide +kernel) rfl rfl rfl (by decide +kernel)
set_option maxRecDepth 65536 in
theorem w_c14 : (Jvm.Cond.code ({ cls := "java/util/ArrayList", name := "add", desc := "(Ljava/lang/Object;[Ljava/lang/Object;I)V" } : Jvm.MethodName) jdk_38_method_24_code (4 : Nat) (Option.none : Option Jvm.ClassFile.FieldType)).before args0 about1 = true := code_word (m := ⟨12, 3⟩) (meth := k12m3) (c := k12c3) (by decide +kernel) rfl rfl rfl (by decide +kernel)
set_option maxRecDepth 65536 in
theorem w_c15 : (Jvm.Cond.code ({ cls := "java/util/ArrayList", name := "grow", desc := "()[Ljava/lang/Object;" } : Jvm.MethodName) jdk_38_method_7_code (1 : Nat) (Option.some (Jvm.ClassFile.FieldType.array (Jvm.ClassFile.FieldType.object "java/lang/Object")))).before args0 about1 = true := code_word (m := ⟨12, 2⟩) (meth := k12m2) (c := k12c2) (by decide +kernel) rfl rfl rfl (by decide +kernel)
set_option maxRecDepth 65536 in
theorem w_c16 : (Jvm.Cond.code ({ cls := "java/util/ArrayList", name := "grow", desc := "(I)[Ljava/lang/Object;" } : Jvm.MethodName) jdk_38_method_6_code (4 : Nat) (Option.some (Jvm.ClassFile.FieldType.array (Jvm.ClassFile.FieldType.object "java/lang/Object")))).before args0 about1 = true := code_word (m := ⟨12, 1⟩) (meth := k12m1) (c := k12c1) (by decide +kernel) rfl rfl rfl (by decide +kernel)
set_option maxRecDepth 65536 in
theorem w_c17 : (Jvm.Cond.code ({ cls := "java/lang/Math", name := "max", desc := "(II)I" } : Jvm.MethodName) jdk_29_method_65_code (2 : Nat) (Option.some Jvm.ClassFile.FieldType.int)).before args0 about1 = true := code_word (m := ⟨14, 1⟩) (meth := k14m1) (c := k14c1) (by decide +kernel) rfl rfl rfl (by decide +kernel)
def codes1 : List Jvm.Cond := [Jvm.Cond.code x code maxLocals ret, Jvm.Cond.code ({ cls := "com/example/filters_under_siege/filtersundersiege/CoverIsCompletePinLaw", name := "shared", desc := "(I)[Z" } : Jvm.MethodName) method_5_code (2 : Nat) (Option.some (Jvm.ClassFile.FieldType.array Jvm.ClassFile.FieldType.boolean)), Jvm.Cond.code ({ cls := "com/example/filters_under_siege/filtersundersiege/CoverIsCompletePinLaw", name := "bit", desc := "(II)I" } : Jvm.MethodName) method_2_code (2 : Nat) (Option.some Jvm.ClassFile.FieldType.int), Jvm.Cond.code ({ cls := "com/example/filters_under_siege/filtersundersiege/Cover", name := "<init>", desc := "(II)V" } : Jvm.MethodName) prog_13_method_1_code (3 : Nat) (Option.none : Option Jvm.ClassFile.FieldType), Jvm.Cond.code ({ cls := "java/lang/Object", name := "<init>", desc := "()V" } : Jvm.MethodName) object_method_1_code (1 : Nat) (Option.none : Option Jvm.ClassFile.FieldType), Jvm.Cond.code ({ cls := "java/util/ArrayList", name := "<init>", desc := "()V" } : Jvm.MethodName) jdk_38_method_2_code (1 : Nat) (Option.none : Option Jvm.ClassFile.FieldType), Jvm.Cond.code ({ cls := "java/util/AbstractList", name := "<init>", desc := "()V" } : Jvm.MethodName) jdk_39_method_1_code (1 : Nat) (Option.none : Option Jvm.ClassFile.FieldType), Jvm.Cond.code ({ cls := "java/util/AbstractCollection", name := "<init>", desc := "()V" } : Jvm.MethodName) jdk_22_method_1_code (1 : Nat) (Option.none : Option Jvm.ClassFile.FieldType), Jvm.Cond.code ({ cls := "java/util/Arrays", name := "fill", desc := "([II)V" } : Jvm.MethodName) jdk_65_method_103_code (4 : Nat) (Option.none : Option Jvm.ClassFile.FieldType), Jvm.Cond.code ({ cls := "com/example/filters_under_siege/filtersundersiege/Cover", name := "isComplete", desc := "()Z" } : Jvm.MethodName) prog_13_method_4_code (1 : Nat) (Option.some Jvm.ClassFile.FieldType.boolean), Jvm.Cond.code ({ cls := "com/example/filters_under_siege/filtersundersiege/CoverIsCompletePinLaw", name := "expected", desc := "(IIIIIII)Z" } : Jvm.MethodName) method_4_code (8 : Nat) (Option.some Jvm.ClassFile.FieldType.boolean), Jvm.Cond.code ({ cls := "com/example/filters_under_siege/filtersundersiege/Cover", name := "offer", desc := "([B[Z)V" } : Jvm.MethodName) prog_13_method_3_code (5 : Nat) (Option.none : Option Jvm.ClassFile.FieldType), Jvm.Cond.code ({ cls := "com/example/filters_under_siege/filtersundersiege/CoverIsCompletePinLaw", name := "hits", desc := "(IIIIII)I" } : Jvm.MethodName) method_3_code (7 : Nat) (Option.some Jvm.ClassFile.FieldType.int), Jvm.Cond.code ({ cls := "java/util/ArrayList", name := "add", desc := "(Ljava/lang/Object;)Z" } : Jvm.MethodName) jdk_38_method_25_code (2 : Nat) (Option.some Jvm.ClassFile.FieldType.boolean), Jvm.Cond.code ({ cls := "java/util/ArrayList", name := "add", desc := "(Ljava/lang/Object;[Ljava/lang/Object;I)V" } : Jvm.MethodName) jdk_38_method_24_code (4 : Nat) (Option.none : Option Jvm.ClassFile.FieldType), Jvm.Cond.code ({ cls := "java/util/ArrayList", name := "grow", desc := "()[Ljava/lang/Object;" } : Jvm.MethodName) jdk_38_method_7_code (1 : Nat) (Option.some (Jvm.ClassFile.FieldType.array (Jvm.ClassFile.FieldType.object "java/lang/Object"))), Jvm.Cond.code ({ cls := "java/util/ArrayList", name := "grow", desc := "(I)[Ljava/lang/Object;" } : Jvm.MethodName) jdk_38_method_6_code (4 : Nat) (Option.some (Jvm.ClassFile.FieldType.array (Jvm.ClassFile.FieldType.object "java/lang/Object"))), Jvm.Cond.code ({ cls := "java/lang/Math", name := "max", desc := "(II)I" } : Jvm.MethodName) jdk_29_method_65_code (2 : Nat) (Option.some Jvm.ClassFile.FieldType.int)]
set_option maxRecDepth 65536 in
theorem codes_eq : words1.filter isCode = codes1 := rfl
theorem w_codes : ∀ c ∈ words1.filter isCode, c.before args0 about1 = true := by
  rw [codes_eq]
  intro c hc
  simp only [codes1, List.mem_cons, List.not_mem_nil, or_false] at hc
  rcases hc with rfl | rfl | rfl | rfl | rfl | rfl | rfl | rfl | rfl | rfl | rfl | rfl | rfl | rfl | rfl | rfl | rfl | rfl
  · exact w_c0
  · exact w_c1
  · exact w_c2
  · exact w_c3
  · exact w_c4
  · exact w_c5
  · exact w_c6
  · exact w_c7
  · exact w_c8
  · exact w_c9
  · exact w_c10
  · exact w_c11
  · exact w_c12
  · exact w_c13
  · exact w_c14
  · exact w_c15
  · exact w_c16
  · exact w_c17
set_option maxRecDepth 65536 in
theorem w_t1 : (words1.take 24).all (fun c => isCode c || c.before args0 about1) = true := by decide +kernel
set_option maxRecDepth 65536 in
theorem w_t2 : ((words1.drop 24).take 24).all (fun c => isCode c || c.before args0 about1) = true := by decide +kernel
set_option maxRecDepth 65536 in
theorem w_t3 : (((words1.drop 24).drop 24).take 24).all (fun c => isCode c || c.before args0 about1) = true := by decide +kernel
set_option maxRecDepth 65536 in
theorem w_t4 : ((((words1.drop 24).drop 24).drop 24).take 24).all (fun c => isCode c || c.before args0 about1) = true := by decide +kernel
set_option maxRecDepth 65536 in
theorem w_t5 : ((((words1.drop 24).drop 24).drop 24).drop 24).all (fun c => isCode c || c.before args0 about1) = true := by decide +kernel
theorem w_tables : (allAtoms (Jvm.Cond.code x code maxLocals ret :: tables_1)).before args0 about1 = true := by
  rw [allAtoms_all]
  show words1.all (fun c => c.before args0 about1) = true
  refine all_split ?_ w_codes
  rw [← List.take_append_drop 24 words1, List.all_append, w_t1, ← List.take_append_drop 24 (words1.drop 24), List.all_append, w_t2, ← List.take_append_drop 24 ((words1.drop 24).drop 24), List.all_append, w_t3, ← List.take_append_drop 24 (((words1.drop 24).drop 24).drop 24), List.all_append, w_t4, w_t5]
  rfl
set_option maxRecDepth 65536 in
theorem w_rest : rest_1_c.before args0 about1 = true := by decide +kernel
set_option maxRecDepth 65536 in
theorem w_case : (Jvm.Cond.and given_1 narrow_1).before args0 about1 = true := by decide +kernel
theorem w_applies : (headSpec (Jvm.Cond.code x code maxLocals ret :: tables_1) room_1).applies x e0.platform about1 = true :=
  (Spec.applies_iff w_frames).mpr ⟨w_running, w_runnable, w_alone, w_named, w_hears, w_ripe, w_room, w_tables⟩
theorem atStart : AtStart classFile x code maxLocals ret World_1 tables_1 room_1 Calls_1 rest_1 Pre_1 launch0 p0 e0 about1 theMethod args0 below0 :=
  ⟨lists_1, trivial, launch0.admits_env _ _ _, launch0.least_env, fairChoices_fair.cas, fairChoices_fair.clock, w_frames, w_args, w_heap, w_applies, trivial, w_rest, w_case⟩
end start1
theorem witness_1 : WitnessClaimed_1 := ⟨start1.p0, start1.e0, start1.about1, start1.theMethod, start1.args0, start1.below0, start1.atStart⟩
end Jvm.Pilot.@@N@@
